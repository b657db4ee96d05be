import JvmDerived
import JvmDerived.Pilot.@@N@@Statement
import JvmDerived.Pilot.@@N@@Code
set_option linter.unusedVariables false
set_option linter.unusedSimpArgs false
namespace Jvm.RoadKit
open Sem ClassFile Op Lib Jvm.Stand Jvm.Free Jvm.LawKit
section New
variable {p : Program} {l : Launch} {e : Env} {R : Room} {s : State} {m : MethodId} {args : Array Value} {below : List Frame} {meth : Method} {c : Code} {T : State} {locs : List Loc} {cells slots : Nat}
theorem retI (X : Stand p l e R s m args below meth c T locs cells slots) (hx : p.tables.exec = Jvm.exec) {pc : Nat} {Ls : Array Slot} {z : Int32} {rest : List Value} (hret : meth.sig.returnType = some .int) (hd : decode c.code pc = .ok (.ireturn, 1)) {fs : List Frame}
    (hl : ∀ (f : JFrame) (acts : List Action), f.method = m → f.locked = none → f.entered = [] → (doReturn e (T.setTop f) acts (some (.int z))).1 = T.setFrames fs) : Steps p.tables e below (T.setTop (mkF m pc Ls (.int z :: rest))) (T.setFrames fs) := by
  have hm' : T.vm.method? m = some meth := X.method'
  have hn : narrow .int (.int z) = .int z := rfl
  show Steps p.tables e below (T.setTop { method := m, pc := pc, locals := Ls, stack := _ :: rest, locked := none }) _
  jvm_step X.here [X.here.top, hx, hd, hm', hret, hn]
  first | (intro acts; rw [hl _ acts rfl rfl rfl]) | rw [hl _ _ rfl rfl rfl]
  exact Steps.refl _
end New
end Jvm.RoadKit
namespace Jvm.Pilot.@@N@@
open Jvm Jvm.ClassFile Sem Op Lib Jvm.Free Jvm.Stand Jvm.LawKit Jvm.RoadKit Bundle Jvm.Pilot.@@N@@.Jvm.D
def own_Fin (p : Program) (e : Env) (below : List Frame) (G : Outcome → State → Prop) (st : State) : Prop :=
  ∃ s₂ o, Steps p.tables e below st s₂ ∧ s₂.status = .running ∧ Ended s₂ below o ∧ G o s₂
theorem own_lift {p : Program} {e : Env} {below : List Frame} {G : Outcome → State → Prop} {st st' : State} (k : ∀ t, Steps p.tables e below st' t → Steps p.tables e below st t) (h : own_Fin p e below G st') : own_Fin p e below G st := by
  obtain ⟨t, o, h1, h2⟩ := h
  exact ⟨t, o, k t h1, h2⟩

/-! the plain law -/
def own_sc (s j : Int32) (f : Int64) (q : Int32) : Int32 := if s = j then (if (0 : Int32) < lcmpW f 0 then (if q = -1 then 1 else 0) else 0) else 0
def own_ic (f : Int64) (q : Int32) : Int32 := if lcmpW f 0 = 0 then (if q = -1 then 1 else 0) else 0
theorem own_pos {f : Int64} (h : ¬ f < 0) : ((0 : Int32) < lcmpW f 0) ↔ ¬ (lcmpW f 0 = 0) := by
  rw [lw_gt, lw_eq]
  rw [Int64.lt_iff_toInt_lt, ← Int64.toInt_inj]
  rw [Int64.lt_iff_toInt_lt] at h
  have : (0 : Int64).toInt = 0 := rfl
  omega
theorem own_sc_ne {s j : Int32} {f : Int64} {q : Int32} (h : ¬ own_sc s j f q = 0) : s = j ∧ (0 : Int32) < lcmpW f 0 ∧ q = -1 := by
  unfold own_sc at h
  by_cases h1 : s = j
  · by_cases h2 : (0 : Int32) < lcmpW f 0
    · by_cases h3 : q = -1
      · exact ⟨h1, h2, h3⟩
      · simp [h3] at h
    · rw [if_pos h1, if_neg h2] at h; exact absurd rfl h
  · rw [if_neg h1] at h; exact absurd rfl h
theorem own_nat (x : Int32) (n : Nat) (h : x.toInt = n) : x = Int32.ofNat n := by
  apply Int32.toInt_inj.mp
  have := x.toInt_lt
  rw [h, Int32.toInt_ofNat_of_lt (by omega)]
theorem own_rem3 (x : Int32) : ∃ J : Nat, J < 3 ∧ ((x &&& (2147483647 : Int32)) % (3 : Int32)) = Int32.ofNat J := by
  have h0 : 0 ≤ (x &&& (2147483647 : Int32)).toInt := by
    have e : (x &&& (2147483647 : Int32)).toInt = (x.toBitVec &&& 2147483647#32).toInt := rfl
    rw [e, BitVec.toInt_eq_toNat_cond]
    have : (x.toBitVec &&& 2147483647#32).toNat ≤ 2147483647 := by
      rw [BitVec.toNat_and]; exact Nat.and_le_right
    split <;> omega
  have h1 : ((x &&& (2147483647 : Int32)) % (3 : Int32)).toInt = (x &&& (2147483647 : Int32)).toInt % 3 := by
    rw [Int32.toInt_mod, Int.tmod_eq_emod_of_nonneg h0]; rfl
  refine ⟨((x &&& (2147483647 : Int32)).toInt % 3).toNat, by omega, own_nat _ _ (by omega)⟩
theorem own_nn {n : Nat} (hn : n < 3) : ¬ Int32.ofNat n < 0 := by
  rw [Int32.lt_iff_toInt_lt, Int32.toInt_ofNat_of_lt (by omega), show (0 : Int32).toInt = 0 from rfl]
  omega
theorem own_n32 {n : Nat} (hn : n < 3) : (Int32.ofNat n).toNatClampNeg = n := by
  rw [Int32.toNatClampNeg, Int32.toInt_ofNat_of_lt (by omega)]; rfl
theorem own_shr1 (x : Int64) : ¬ ((x.toUInt64 >>> ((1 : Int32) &&& 0x3f).toInt64.toUInt64).toInt64) < 0 := by
  have e : ((x.toUInt64 >>> ((1 : Int32) &&& 0x3f).toInt64.toUInt64).toInt64).toBitVec = x.toBitVec >>> 1 := rfl
  rw [Int64.lt_iff_toInt_lt, show (0 : Int64).toInt = 0 from rfl]
  have e2 : ((x.toUInt64 >>> ((1 : Int32) &&& 0x3f).toInt64.toUInt64).toInt64).toInt = (x.toBitVec >>> 1).toInt := by rw [← e]; rfl
  rw [e2, BitVec.toInt_eq_toNat_cond, BitVec.toNat_ushiftRight, Nat.shiftRight_eq_div_pow]
  have := x.toBitVec.isLt
  split <;> omega
theorem own_gs (a b c v d : Value) {J : Nat} (hJ : J < 3) : ([a, b, c].set J v).getD J d = v := by
  match J, hJ with
  | 0, _ => rfl
  | 1, _ => rfl
  | 2, _ => rfl
theorem own_hin {cl : Cell} {J : Nat} (hJ : J < 3) (S : cl.slots.size = 3) : ¬ (Int32.ofNat J < 0 ∨ cl.slots.size ≤ (Int32.ofNat J).toNatClampNeg) := by
  rw [own_n32 hJ, S]
  intro q
  rcases q with q | q
  · exact own_nn hJ q
  · omega
theorem own_hat {cl : Cell} {J : Nat} (hJ : J < 3) {v : Value} (h : cl.slots[J]? = some v) : cl.slots[(Int32.ofNat J).toNatClampNeg]? = some v := by
  rw [own_n32 hJ]; exact h
theorem own_z (J : Nat) : (0 : Int32) + Int32.ofNat J = Int32.ofNat J := Int32.zero_add _

theorem d1_0 : decode prog_49_method_1_code 0 = .ok (.aload_n 0, 1) := by decide +kernel
theorem d1_1 : decode prog_49_method_1_code 1 = .ok (.invokespecial 1, 3) := by decide +kernel
theorem d1_4 : decode prog_49_method_1_code 4 = .ok (.aload_n 0, 1) := by decide +kernel
theorem d1_5 : decode prog_49_method_1_code 5 = .ok (.aload_n 1, 1) := by decide +kernel
theorem d1_6 : decode prog_49_method_1_code 6 = .ok (.putfield 7, 3) := by decide +kernel
theorem d1_9 : decode prog_49_method_1_code 9 = .ok (.aload_n 0, 1) := by decide +kernel
theorem d1_10 : decode prog_49_method_1_code 10 = .ok (.aload_n 2, 1) := by decide +kernel
theorem d1_11 : decode prog_49_method_1_code 11 = .ok (.putfield 13, 3) := by decide +kernel
theorem d1_14 : decode prog_49_method_1_code 14 = .ok (.aload_n 0, 1) := by decide +kernel
theorem d1_15 : decode prog_49_method_1_code 15 = .ok (.aload_n 3, 1) := by decide +kernel
theorem d1_16 : decode prog_49_method_1_code 16 = .ok (.putfield 17, 3) := by decide +kernel
theorem d1_19 : decode prog_49_method_1_code 19 = .ok (.aload_n 0, 1) := by decide +kernel
theorem d1_20 : decode prog_49_method_1_code 20 = .ok (.aload 4, 2) := by decide +kernel
theorem d1_22 : decode prog_49_method_1_code 22 = .ok (.putfield 20, 3) := by decide +kernel
theorem d1_25 : decode prog_49_method_1_code 25 = .ok (.aload_n 0, 1) := by decide +kernel
theorem d1_26 : decode prog_49_method_1_code 26 = .ok (.aload 5, 2) := by decide +kernel
theorem d1_28 : decode prog_49_method_1_code 28 = .ok (.putfield 23, 3) := by decide +kernel
theorem d1_31 : decode prog_49_method_1_code 31 = .ok (.return_, 1) := by decide +kernel
theorem pn_1 : plainName "com/example/riverfront/riverfront/solver/VectorMap" = true := by first | (simp [plainName, overriddenIn]; done) | decide +kernel
theorem ef_1 (m : MethodId) (x0 : Addr) (x1 : Addr) (x2 : Addr) (x3 : Addr) (x4 : Addr) (x5 : Addr) : entryFrame m #[(.ref x0), (.ref x1), (.ref x2), (.ref x3), (.ref x4), (.ref x5)] 6 = mkF m 0 #[.val (.ref x0), .val (.ref x1), .val (.ref x2), .val (.ref x3), .val (.ref x4), .val (.ref x5)] [] := by first | (simp [entryFrame, mkF, argsToLocals, Value.category]; done) | rfl
def Q1 (Z : State) (a1 : Addr) (a2 : Addr) (a3 : Addr) (a4 : Addr) (a5 : Addr) (a6 : Addr) (u_m_aSources_a1 : Value) (u_m_aFactors_a1 : Value) (u_m_aAdded_a1 : Value) (u_m_aSquared_a1 : Value) (u_m_aShifts_a1 : Value) (h0 : Heap) (n0 : Nat) (v : Option Value) (h : Heap) (L : List Loc) : Prop := v = none ∧ Fr n0 L ∧ Keep h0 h [a1] ∧ Exa Z h a1 "com/example/riverfront/riverfront/solver/VectorMap" ∧ Fld Z h a1 "com/example/riverfront/riverfront/solver/VectorMap" "m_aSources" "[I" (.ref a2) ∧ Fld Z h a1 "com/example/riverfront/riverfront/solver/VectorMap" "m_aFactors" "[J" (.ref a3) ∧ Fld Z h a1 "com/example/riverfront/riverfront/solver/VectorMap" "m_aAdded" "[J" (.ref a4) ∧ Fld Z h a1 "com/example/riverfront/riverfront/solver/VectorMap" "m_aSquared" "[I" (.ref a5) ∧ Fld Z h a1 "com/example/riverfront/riverfront/solver/VectorMap" "m_aShifts" "[J" (.ref a6)
set_option maxRecDepth 65536 in
set_option maxHeartbeats 40000000 in
theorem rm1 (l : Launch) (Z : State) (a0 : Array Value) (hw : ∀ d ∈ tables_1, d.before a0 Z = true) (ws : List Jvm.Cond) (a1 : Addr) (a2 : Addr) (a3 : Addr) (a4 : Addr) (a5 : Addr) (a6 : Addr) (u_m_aSources_a1 : Value) (u_m_aFactors_a1 : Value) (u_m_aAdded_a1 : Value) (u_m_aSquared_a1 : Value) (u_m_aShifts_a1 : Value) (h0 : Heap) (n0 : Nat) (Z0 : n0 ≤ h0.size) (E_a1 : Exa Z h0 a1 "com/example/riverfront/riverfront/solver/VectorMap") (F_m_aSources_a1 : Fld Z h0 a1 "com/example/riverfront/riverfront/solver/VectorMap" "m_aSources" "[I" u_m_aSources_a1) (g_a1 : n0 ≤ a1) (F_m_aFactors_a1 : Fld Z h0 a1 "com/example/riverfront/riverfront/solver/VectorMap" "m_aFactors" "[J" u_m_aFactors_a1) (F_m_aAdded_a1 : Fld Z h0 a1 "com/example/riverfront/riverfront/solver/VectorMap" "m_aAdded" "[J" u_m_aAdded_a1) (F_m_aSquared_a1 : Fld Z h0 a1 "com/example/riverfront/riverfront/solver/VectorMap" "m_aSquared" "[I" u_m_aSquared_a1) (F_m_aShifts_a1 : Fld Z h0 a1 "com/example/riverfront/riverfront/solver/VectorMap" "m_aShifts" "[J" u_m_aShifts_a1) :
    MetFree l (⟨"com/example/riverfront/riverfront/solver/VectorMap", "<init>", "([I[J[J[I[J)V"⟩ : MethodName) (head1 (Jvm.Cond.code (⟨"com/example/riverfront/riverfront/solver/VectorMap", "<init>", "([I[J[J[I[J)V"⟩ : MethodName) prog_49_method_1_code 6 none :: ws) ({ frames := 1, cells := 0, slots := 0, locals := 12 } : Room)) (fun a U => a = #[(.ref a1), (.ref a2), (.ref a3), (.ref a4), (.ref a5), (.ref a6)] ∧ Z.Warmed39 U.vm ∧ U.heap = h0) (fun _ _ _ _ _ => True) (fun _ U o U' => ∃ v L, o = .returned v ∧ Q1 Z a1 a2 a3 a4 a5 a6 u_m_aSources_a1 u_m_aFactors_a1 u_m_aAdded_a1 u_m_aSquared_a1 u_m_aShifts_a1 h0 n0 v U'.heap L ∧ FrameEnd U o U' L ({ frames := 1, cells := 0, slots := 0, locals := 12 } : Room).cells ({ frames := 1, cells := 0, slots := 0, locals := 12 } : Room).slots) := by
  refine MetFree.of_bodySF (plainFor_of_name pn_1) hisR ?_
  intro p e s m args below meth c s₁ Bd hml0 hP hK
  obtain ⟨rfl, hZ, hh⟩ := hP
  have hx := Bd.exec
  have hby := Bd.bytes
  have hml : c.maxLocals = 6 := hml0
  have hown : s.vm.findClass "com/example/riverfront/riverfront/solver/VectorMap" = some m.cls := findClass_of_methodNamed Bd.named
  have hnm := (name_of_methodNamed Bd.named Bd.method).1
  have X0 : Stand p l e ({ frames := 1, cells := 0, slots := 0, locals := 12 } : Room) s m #[(.ref a1), (.ref a2), (.ref a3), (.ref a4), (.ref a5), (.ref a6)] below meth c s₁ [] 0 0 := Stand.of_body Bd
  have e0 : s₁.heap = h0 := by rw [← hh, Bd.state]; rfl
  have N0 := Fr.nil n0
  have pre0 : ∀ t, Steps p.tables e below (s₁.setTop (mkF m 0 #[.val (.ref a1), .val (.ref a2), .val (.ref a3), .val (.ref a4), .val (.ref a5), .val (.ref a6)] [])) t → Steps p.tables e below (s₁.setTop (entryFrame m #[(.ref a1), (.ref a2), (.ref a3), (.ref a4), (.ref a5), (.ref a6)] 6)) t := fun t k => castTop (ef_1 m a1 a2 a3 a4 a5 a6) k
  obtain ⟨T7, X7, e7, st7⟩ := initO X0 hx hZ hown (hw _ (List.mem_of_getElem? (i := 12) rfl)) (hw _ (List.mem_of_getElem? (i := 13) rfl)) (hw _ (List.mem_of_getElem? (i := 14) rfl)) e0 (g := (mkF m 1 #[.val (.ref a1), .val (.ref a2), .val (.ref a3), .val (.ref a4), .val (.ref a5), .val (.ref a6)] [(.ref a1)])) rfl (by rw [hml]; rfl) rfl (hb hby d1_1) (by decide) (W := 0) (by show 2 * 0 + _ ≤ _; exact Nat.le_of_eq rfl) (by decide)
  obtain ⟨T8, h8, X8, e8, W8, st8⟩ := putF X7 hx hZ hown (host := "") (Or.inl (hw _ (List.mem_of_getElem? (i := 15) rfl))) Via.refl e7 F_m_aSources_a1 E_a1 (Or.inr ⟨(hw _ (List.mem_of_getElem? (i := 16) rfl)), rfl, hnm⟩) (hw _ (List.mem_of_getElem? (i := 7) rfl)) (ty := (.array .int)) (by decide) rfl rfl (g := (mkF m 6 #[.val (.ref a1), .val (.ref a2), .val (.ref a3), .val (.ref a4), .val (.ref a5), .val (.ref a6)] [(.ref a2), (.ref a1)])) rfl rfl (hb hby d1_6)
  have Fw8 := F_m_aSources_a1.same W8
  have K8 : Keep h0 h8 [a1] := (Keep.refl h0 [a1]).wr W8 (Or.inl (List.mem_of_getElem? (i := 0) rfl))
  have N8 := Fr.snoc X8 N0 g_a1
  obtain ⟨T9, h9, X9, e9, W9, st9⟩ := putF X8 hx hZ hown (host := "") (Or.inl (hw _ (List.mem_of_getElem? (i := 17) rfl))) Via.refl e8 (F_m_aFactors_a1.other W8 (Or.inr (slot_ne (Or.inr (hw _ (List.mem_of_getElem? (i := 18) rfl))) (Or.inr (hw _ (List.mem_of_getElem? (i := 16) rfl))) (by decide) (t := (.array .long)) (t' := (.array .int)) (by decide) (by decide)))) (E_a1.wr W8) (Or.inr ⟨(hw _ (List.mem_of_getElem? (i := 18) rfl)), rfl, hnm⟩) (hw _ (List.mem_of_getElem? (i := 7) rfl)) (ty := (.array .long)) (by decide) rfl rfl (g := (mkF m 11 #[.val (.ref a1), .val (.ref a2), .val (.ref a3), .val (.ref a4), .val (.ref a5), .val (.ref a6)] [(.ref a3), (.ref a1)])) rfl rfl (hb hby d1_11)
  have Fw9 := (F_m_aFactors_a1.other W8 (Or.inr (slot_ne (Or.inr (hw _ (List.mem_of_getElem? (i := 18) rfl))) (Or.inr (hw _ (List.mem_of_getElem? (i := 16) rfl))) (by decide) (t := (.array .long)) (t' := (.array .int)) (by decide) (by decide)))).same W9
  have K9 : Keep h0 h9 [a1] := K8.wr W9 (Or.inl (List.mem_of_getElem? (i := 0) rfl))
  have N9 := Fr.snoc X9 N8 g_a1
  obtain ⟨T10, h10, X10, e10, W10, st10⟩ := putF X9 hx hZ hown (host := "") (Or.inl (hw _ (List.mem_of_getElem? (i := 19) rfl))) Via.refl e9 ((F_m_aAdded_a1.other W8 (Or.inr (slot_ne (Or.inr (hw _ (List.mem_of_getElem? (i := 20) rfl))) (Or.inr (hw _ (List.mem_of_getElem? (i := 16) rfl))) (by decide) (t := (.array .long)) (t' := (.array .int)) (by decide) (by decide)))).other W9 (Or.inr (slot_ne (Or.inr (hw _ (List.mem_of_getElem? (i := 20) rfl))) (Or.inr (hw _ (List.mem_of_getElem? (i := 18) rfl))) (by decide) (t := (.array .long)) (t' := (.array .long)) (by decide) (by decide)))) ((E_a1.wr W8).wr W9) (Or.inr ⟨(hw _ (List.mem_of_getElem? (i := 20) rfl)), rfl, hnm⟩) (hw _ (List.mem_of_getElem? (i := 7) rfl)) (ty := (.array .long)) (by decide) rfl rfl (g := (mkF m 16 #[.val (.ref a1), .val (.ref a2), .val (.ref a3), .val (.ref a4), .val (.ref a5), .val (.ref a6)] [(.ref a4), (.ref a1)])) rfl rfl (hb hby d1_16)
  have Fw10 := ((F_m_aAdded_a1.other W8 (Or.inr (slot_ne (Or.inr (hw _ (List.mem_of_getElem? (i := 20) rfl))) (Or.inr (hw _ (List.mem_of_getElem? (i := 16) rfl))) (by decide) (t := (.array .long)) (t' := (.array .int)) (by decide) (by decide)))).other W9 (Or.inr (slot_ne (Or.inr (hw _ (List.mem_of_getElem? (i := 20) rfl))) (Or.inr (hw _ (List.mem_of_getElem? (i := 18) rfl))) (by decide) (t := (.array .long)) (t' := (.array .long)) (by decide) (by decide)))).same W10
  have K10 : Keep h0 h10 [a1] := K9.wr W10 (Or.inl (List.mem_of_getElem? (i := 0) rfl))
  have N10 := Fr.snoc X10 N9 g_a1
  obtain ⟨T11, h11, X11, e11, W11, st11⟩ := putF X10 hx hZ hown (host := "") (Or.inl (hw _ (List.mem_of_getElem? (i := 21) rfl))) Via.refl e10 (((F_m_aSquared_a1.other W8 (Or.inr (slot_ne (Or.inr (hw _ (List.mem_of_getElem? (i := 22) rfl))) (Or.inr (hw _ (List.mem_of_getElem? (i := 16) rfl))) (by decide) (t := (.array .int)) (t' := (.array .int)) (by decide) (by decide)))).other W9 (Or.inr (slot_ne (Or.inr (hw _ (List.mem_of_getElem? (i := 22) rfl))) (Or.inr (hw _ (List.mem_of_getElem? (i := 18) rfl))) (by decide) (t := (.array .int)) (t' := (.array .long)) (by decide) (by decide)))).other W10 (Or.inr (slot_ne (Or.inr (hw _ (List.mem_of_getElem? (i := 22) rfl))) (Or.inr (hw _ (List.mem_of_getElem? (i := 20) rfl))) (by decide) (t := (.array .int)) (t' := (.array .long)) (by decide) (by decide)))) (((E_a1.wr W8).wr W9).wr W10) (Or.inr ⟨(hw _ (List.mem_of_getElem? (i := 22) rfl)), rfl, hnm⟩) (hw _ (List.mem_of_getElem? (i := 7) rfl)) (ty := (.array .int)) (by decide) rfl rfl (g := (mkF m 22 #[.val (.ref a1), .val (.ref a2), .val (.ref a3), .val (.ref a4), .val (.ref a5), .val (.ref a6)] [(.ref a5), (.ref a1)])) rfl rfl (hb hby d1_22)
  have Fw11 := (((F_m_aSquared_a1.other W8 (Or.inr (slot_ne (Or.inr (hw _ (List.mem_of_getElem? (i := 22) rfl))) (Or.inr (hw _ (List.mem_of_getElem? (i := 16) rfl))) (by decide) (t := (.array .int)) (t' := (.array .int)) (by decide) (by decide)))).other W9 (Or.inr (slot_ne (Or.inr (hw _ (List.mem_of_getElem? (i := 22) rfl))) (Or.inr (hw _ (List.mem_of_getElem? (i := 18) rfl))) (by decide) (t := (.array .int)) (t' := (.array .long)) (by decide) (by decide)))).other W10 (Or.inr (slot_ne (Or.inr (hw _ (List.mem_of_getElem? (i := 22) rfl))) (Or.inr (hw _ (List.mem_of_getElem? (i := 20) rfl))) (by decide) (t := (.array .int)) (t' := (.array .long)) (by decide) (by decide)))).same W11
  have K11 : Keep h0 h11 [a1] := K10.wr W11 (Or.inl (List.mem_of_getElem? (i := 0) rfl))
  have N11 := Fr.snoc X11 N10 g_a1
  obtain ⟨T12, h12, X12, e12, W12, st12⟩ := putF X11 hx hZ hown (host := "") (Or.inl (hw _ (List.mem_of_getElem? (i := 23) rfl))) Via.refl e11 ((((F_m_aShifts_a1.other W8 (Or.inr (slot_ne (Or.inr (hw _ (List.mem_of_getElem? (i := 24) rfl))) (Or.inr (hw _ (List.mem_of_getElem? (i := 16) rfl))) (by decide) (t := (.array .long)) (t' := (.array .int)) (by decide) (by decide)))).other W9 (Or.inr (slot_ne (Or.inr (hw _ (List.mem_of_getElem? (i := 24) rfl))) (Or.inr (hw _ (List.mem_of_getElem? (i := 18) rfl))) (by decide) (t := (.array .long)) (t' := (.array .long)) (by decide) (by decide)))).other W10 (Or.inr (slot_ne (Or.inr (hw _ (List.mem_of_getElem? (i := 24) rfl))) (Or.inr (hw _ (List.mem_of_getElem? (i := 20) rfl))) (by decide) (t := (.array .long)) (t' := (.array .long)) (by decide) (by decide)))).other W11 (Or.inr (slot_ne (Or.inr (hw _ (List.mem_of_getElem? (i := 24) rfl))) (Or.inr (hw _ (List.mem_of_getElem? (i := 22) rfl))) (by decide) (t := (.array .long)) (t' := (.array .int)) (by decide) (by decide)))) ((((E_a1.wr W8).wr W9).wr W10).wr W11) (Or.inr ⟨(hw _ (List.mem_of_getElem? (i := 24) rfl)), rfl, hnm⟩) (hw _ (List.mem_of_getElem? (i := 7) rfl)) (ty := (.array .long)) (by decide) rfl rfl (g := (mkF m 28 #[.val (.ref a1), .val (.ref a2), .val (.ref a3), .val (.ref a4), .val (.ref a5), .val (.ref a6)] [(.ref a6), (.ref a1)])) rfl rfl (hb hby d1_28)
  have Fw12 := ((((F_m_aShifts_a1.other W8 (Or.inr (slot_ne (Or.inr (hw _ (List.mem_of_getElem? (i := 24) rfl))) (Or.inr (hw _ (List.mem_of_getElem? (i := 16) rfl))) (by decide) (t := (.array .long)) (t' := (.array .int)) (by decide) (by decide)))).other W9 (Or.inr (slot_ne (Or.inr (hw _ (List.mem_of_getElem? (i := 24) rfl))) (Or.inr (hw _ (List.mem_of_getElem? (i := 18) rfl))) (by decide) (t := (.array .long)) (t' := (.array .long)) (by decide) (by decide)))).other W10 (Or.inr (slot_ne (Or.inr (hw _ (List.mem_of_getElem? (i := 24) rfl))) (Or.inr (hw _ (List.mem_of_getElem? (i := 20) rfl))) (by decide) (t := (.array .long)) (t' := (.array .long)) (by decide) (by decide)))).other W11 (Or.inr (slot_ne (Or.inr (hw _ (List.mem_of_getElem? (i := 24) rfl))) (Or.inr (hw _ (List.mem_of_getElem? (i := 22) rfl))) (by decide) (t := (.array .long)) (t' := (.array .int)) (by decide) (by decide)))).same W12
  have K12 : Keep h0 h12 [a1] := K11.wr W12 (Or.inl (List.mem_of_getElem? (i := 0) rfl))
  have N12 := Fr.snoc X12 N11 g_a1
  obtain ⟨fs, hr, hrun, hended, hW, hsame⟩ := X12.leave (v := none) (fun _ => rfl)
  refine ⟨_, _, pre0 _ ?_, hrun, hended, _, _, rfl, ?_, ⟨_, rfl⟩, hW, hsame.mono (by decide) (by decide)⟩
  · show Steps p.tables e below (s₁.setTop (mkF m 0 #[.val (.ref a1), .val (.ref a2), .val (.ref a3), .val (.ref a4), .val (.ref a5), .val (.ref a6)] [])) _
    refine XS.aloadN X0.here hx rfl (hb hby d1_0) rfl rfl ?_
    show Steps p.tables e below (s₁.setTop (mkF m 1 #[.val (.ref a1), .val (.ref a2), .val (.ref a3), .val (.ref a4), .val (.ref a5), .val (.ref a6)] [(.ref a1)])) _
    refine st7 _ ?_
    show Steps p.tables e below (T7.setTop (mkF m 4 #[.val (.ref a1), .val (.ref a2), .val (.ref a3), .val (.ref a4), .val (.ref a5), .val (.ref a6)] [])) _
    refine XS.aloadN X7.here hx rfl (hb hby d1_4) rfl rfl ?_
    show Steps p.tables e below (T7.setTop (mkF m 5 #[.val (.ref a1), .val (.ref a2), .val (.ref a3), .val (.ref a4), .val (.ref a5), .val (.ref a6)] [(.ref a1)])) _
    refine XS.aloadN X7.here hx rfl (hb hby d1_5) rfl rfl ?_
    show Steps p.tables e below (T7.setTop (mkF m 6 #[.val (.ref a1), .val (.ref a2), .val (.ref a3), .val (.ref a4), .val (.ref a5), .val (.ref a6)] [(.ref a2), (.ref a1)])) _
    refine st8 _ ?_
    show Steps p.tables e below (T8.setTop (mkF m 9 #[.val (.ref a1), .val (.ref a2), .val (.ref a3), .val (.ref a4), .val (.ref a5), .val (.ref a6)] [])) _
    refine XS.aloadN X8.here hx rfl (hb hby d1_9) rfl rfl ?_
    show Steps p.tables e below (T8.setTop (mkF m 10 #[.val (.ref a1), .val (.ref a2), .val (.ref a3), .val (.ref a4), .val (.ref a5), .val (.ref a6)] [(.ref a1)])) _
    refine XS.aloadN X8.here hx rfl (hb hby d1_10) rfl rfl ?_
    show Steps p.tables e below (T8.setTop (mkF m 11 #[.val (.ref a1), .val (.ref a2), .val (.ref a3), .val (.ref a4), .val (.ref a5), .val (.ref a6)] [(.ref a3), (.ref a1)])) _
    refine st9 _ ?_
    show Steps p.tables e below (T9.setTop (mkF m 14 #[.val (.ref a1), .val (.ref a2), .val (.ref a3), .val (.ref a4), .val (.ref a5), .val (.ref a6)] [])) _
    refine XS.aloadN X9.here hx rfl (hb hby d1_14) rfl rfl ?_
    show Steps p.tables e below (T9.setTop (mkF m 15 #[.val (.ref a1), .val (.ref a2), .val (.ref a3), .val (.ref a4), .val (.ref a5), .val (.ref a6)] [(.ref a1)])) _
    refine XS.aloadN X9.here hx rfl (hb hby d1_15) rfl rfl ?_
    show Steps p.tables e below (T9.setTop (mkF m 16 #[.val (.ref a1), .val (.ref a2), .val (.ref a3), .val (.ref a4), .val (.ref a5), .val (.ref a6)] [(.ref a4), (.ref a1)])) _
    refine st10 _ ?_
    show Steps p.tables e below (T10.setTop (mkF m 19 #[.val (.ref a1), .val (.ref a2), .val (.ref a3), .val (.ref a4), .val (.ref a5), .val (.ref a6)] [])) _
    refine XS.aloadN X10.here hx rfl (hb hby d1_19) rfl rfl ?_
    show Steps p.tables e below (T10.setTop (mkF m 20 #[.val (.ref a1), .val (.ref a2), .val (.ref a3), .val (.ref a4), .val (.ref a5), .val (.ref a6)] [(.ref a1)])) _
    refine XS.aload X10.here hx rfl (hb hby d1_20) rfl rfl ?_
    show Steps p.tables e below (T10.setTop (mkF m 22 #[.val (.ref a1), .val (.ref a2), .val (.ref a3), .val (.ref a4), .val (.ref a5), .val (.ref a6)] [(.ref a5), (.ref a1)])) _
    refine st11 _ ?_
    show Steps p.tables e below (T11.setTop (mkF m 25 #[.val (.ref a1), .val (.ref a2), .val (.ref a3), .val (.ref a4), .val (.ref a5), .val (.ref a6)] [])) _
    refine XS.aloadN X11.here hx rfl (hb hby d1_25) rfl rfl ?_
    show Steps p.tables e below (T11.setTop (mkF m 26 #[.val (.ref a1), .val (.ref a2), .val (.ref a3), .val (.ref a4), .val (.ref a5), .val (.ref a6)] [(.ref a1)])) _
    refine XS.aload X11.here hx rfl (hb hby d1_26) rfl rfl ?_
    show Steps p.tables e below (T11.setTop (mkF m 28 #[.val (.ref a1), .val (.ref a2), .val (.ref a3), .val (.ref a4), .val (.ref a5), .val (.ref a6)] [(.ref a6), (.ref a1)])) _
    refine st12 _ ?_
    show Steps p.tables e below (T12.setTop (mkF m 31 #[.val (.ref a1), .val (.ref a2), .val (.ref a3), .val (.ref a4), .val (.ref a5), .val (.ref a6)] [])) _
    exact X12.returnOut hx Bd.returns (hb hby d1_31) hr
  · show Q1 Z a1 a2 a3 a4 a5 a6 u_m_aSources_a1 u_m_aFactors_a1 u_m_aAdded_a1 u_m_aSquared_a1 u_m_aShifts_a1 h0 n0 _ T12.heap _
    rw [e12]
    exact ⟨rfl, N12, K12, (((((E_a1.wr W8).wr W9).wr W10).wr W11).wr W12), ((((Fw8.other W9 (Or.inr (slot_ne (Or.inr (hw _ (List.mem_of_getElem? (i := 16) rfl))) (Or.inr (hw _ (List.mem_of_getElem? (i := 18) rfl))) (by decide) (t := (.array .int)) (t' := (.array .long)) (by decide) (by decide)))).other W10 (Or.inr (slot_ne (Or.inr (hw _ (List.mem_of_getElem? (i := 16) rfl))) (Or.inr (hw _ (List.mem_of_getElem? (i := 20) rfl))) (by decide) (t := (.array .int)) (t' := (.array .long)) (by decide) (by decide)))).other W11 (Or.inr (slot_ne (Or.inr (hw _ (List.mem_of_getElem? (i := 16) rfl))) (Or.inr (hw _ (List.mem_of_getElem? (i := 22) rfl))) (by decide) (t := (.array .int)) (t' := (.array .int)) (by decide) (by decide)))).other W12 (Or.inr (slot_ne (Or.inr (hw _ (List.mem_of_getElem? (i := 16) rfl))) (Or.inr (hw _ (List.mem_of_getElem? (i := 24) rfl))) (by decide) (t := (.array .int)) (t' := (.array .long)) (by decide) (by decide)))), (((Fw9.other W10 (Or.inr (slot_ne (Or.inr (hw _ (List.mem_of_getElem? (i := 18) rfl))) (Or.inr (hw _ (List.mem_of_getElem? (i := 20) rfl))) (by decide) (t := (.array .long)) (t' := (.array .long)) (by decide) (by decide)))).other W11 (Or.inr (slot_ne (Or.inr (hw _ (List.mem_of_getElem? (i := 18) rfl))) (Or.inr (hw _ (List.mem_of_getElem? (i := 22) rfl))) (by decide) (t := (.array .long)) (t' := (.array .int)) (by decide) (by decide)))).other W12 (Or.inr (slot_ne (Or.inr (hw _ (List.mem_of_getElem? (i := 18) rfl))) (Or.inr (hw _ (List.mem_of_getElem? (i := 24) rfl))) (by decide) (t := (.array .long)) (t' := (.array .long)) (by decide) (by decide)))), ((Fw10.other W11 (Or.inr (slot_ne (Or.inr (hw _ (List.mem_of_getElem? (i := 20) rfl))) (Or.inr (hw _ (List.mem_of_getElem? (i := 22) rfl))) (by decide) (t := (.array .long)) (t' := (.array .int)) (by decide) (by decide)))).other W12 (Or.inr (slot_ne (Or.inr (hw _ (List.mem_of_getElem? (i := 20) rfl))) (Or.inr (hw _ (List.mem_of_getElem? (i := 24) rfl))) (by decide) (t := (.array .long)) (t' := (.array .long)) (by decide) (by decide)))), (Fw11.other W12 (Or.inr (slot_ne (Or.inr (hw _ (List.mem_of_getElem? (i := 22) rfl))) (Or.inr (hw _ (List.mem_of_getElem? (i := 24) rfl))) (by decide) (t := (.array .int)) (t' := (.array .long)) (by decide) (by decide)))), Fw12⟩

theorem d3_0 : decode prog_49_method_6_code 0 = .ok (.aload_n 0, 1) := by decide +kernel
theorem d3_1 : decode prog_49_method_6_code 1 = .ok (.getfield 7, 3) := by decide +kernel
theorem d3_4 : decode prog_49_method_6_code 4 = .ok (.iload_n 1, 1) := by decide +kernel
theorem d3_5 : decode prog_49_method_6_code 5 = .ok (.iaload, 1) := by decide +kernel
theorem d3_6 : decode prog_49_method_6_code 6 = .ok (.iload_n 1, 1) := by decide +kernel
theorem d3_7 : decode prog_49_method_6_code 7 = .ok (.if_icmp .ne 28, 3) := by decide +kernel
theorem d3_10 : decode prog_49_method_6_code 10 = .ok (.aload_n 0, 1) := by decide +kernel
theorem d3_11 : decode prog_49_method_6_code 11 = .ok (.getfield 13, 3) := by decide +kernel
theorem d3_14 : decode prog_49_method_6_code 14 = .ok (.iload_n 1, 1) := by decide +kernel
theorem d3_15 : decode prog_49_method_6_code 15 = .ok (.laload, 1) := by decide +kernel
theorem d3_16 : decode prog_49_method_6_code 16 = .ok (.lconst 0, 1) := by decide +kernel
theorem d3_17 : decode prog_49_method_6_code 17 = .ok (.lcmp, 1) := by decide +kernel
theorem d3_18 : decode prog_49_method_6_code 18 = .ok (.ifCond .le 17, 3) := by decide +kernel
theorem d3_21 : decode prog_49_method_6_code 21 = .ok (.aload_n 0, 1) := by decide +kernel
theorem d3_22 : decode prog_49_method_6_code 22 = .ok (.getfield 20, 3) := by decide +kernel
theorem d3_25 : decode prog_49_method_6_code 25 = .ok (.iload_n 1, 1) := by decide +kernel
theorem d3_26 : decode prog_49_method_6_code 26 = .ok (.iaload, 1) := by decide +kernel
theorem d3_27 : decode prog_49_method_6_code 27 = .ok (.iconst (-1), 1) := by decide +kernel
theorem d3_28 : decode prog_49_method_6_code 28 = .ok (.if_icmp .ne 7, 3) := by decide +kernel
theorem d3_31 : decode prog_49_method_6_code 31 = .ok (.iconst 1, 1) := by decide +kernel
theorem d3_32 : decode prog_49_method_6_code 32 = .ok (.goto 4, 3) := by decide +kernel
theorem d3_35 : decode prog_49_method_6_code 35 = .ok (.iconst 0, 1) := by decide +kernel
theorem d3_36 : decode prog_49_method_6_code 36 = .ok (.ireturn, 1) := by decide +kernel
theorem pn_3 : plainName "com/example/riverfront/riverfront/solver/VectorMap" = true := by first | (simp [plainName, overriddenIn]; done) | decide +kernel
theorem ef_3 (m : MethodId) (x0 : Addr) (x1 : Int32) : entryFrame m #[(.ref x0), (.int x1)] 2 = mkF m 0 #[.val (.ref x0), .val (.int x1)] [] := by first | (simp [entryFrame, mkF, argsToLocals, Value.category]; done) | rfl
def Q3 (Z : State) (a1 t1 t2 t4 : Addr) (J : Nat) (c1 c2 c4 : Cell) (sv : Int32) (f : Int64) (qv : Int32) (h0 : Heap) (n0 : Nat) (v : Option Value) (h : Heap) (L : List Loc) : Prop := v = some (.int (own_sc sv (Int32.ofNat J) f qv)) ∧ Fr n0 L ∧ h = h0
set_option maxRecDepth 65536 in
set_option maxHeartbeats 40000000 in
theorem rm3 (l : Launch) (Z : State) (a0 : Array Value) (hw : ∀ d ∈ tables_1, d.before a0 Z = true) (ws : List Jvm.Cond) (a1 t1 t2 t4 : Addr) (J : Nat) (c1 c2 c4 : Cell) (sv : Int32) (f : Int64) (qv : Int32) (h0 : Heap) (n0 : Nat) (Z0 : n0 ≤ h0.size) (hJ : J < 3) (F1 : Fld Z h0 a1 "com/example/riverfront/riverfront/solver/VectorMap" "m_aSources" "[I" (.ref t1)) (F2 : Fld Z h0 a1 "com/example/riverfront/riverfront/solver/VectorMap" "m_aFactors" "[J" (.ref t2)) (F4 : Fld Z h0 a1 "com/example/riverfront/riverfront/solver/VectorMap" "m_aSquared" "[I" (.ref t4)) (Ar1 : Arr Z h0 t1 c1 .int) (S1 : c1.slots.size = 3) (Ar2 : Arr Z h0 t2 c2 .long) (S2 : c2.slots.size = 3) (Ar4 : Arr Z h0 t4 c4 .int) (S4 : c4.slots.size = 3) (at1 : c1.slots[J]? = some (.int sv)) (at2 : c2.slots[J]? = some (.long f)) (at4 : c4.slots[J]? = some (.int qv)) :
    MetFree l (⟨"com/example/riverfront/riverfront/solver/VectorMap", "scalesInPlace", "(I)Z"⟩ : MethodName) (head1 (Jvm.Cond.code (⟨"com/example/riverfront/riverfront/solver/VectorMap", "scalesInPlace", "(I)Z"⟩ : MethodName) prog_49_method_6_code 2 (some .boolean) :: ws) ({ frames := 0, cells := 0, slots := 0, locals := 0 } : Room)) (fun a U => a = #[(.ref a1), (.int (Int32.ofNat J))] ∧ Z.Warmed39 U.vm ∧ U.heap = h0) (fun _ _ _ _ _ => True) (fun _ U o U' => ∃ v L, o = .returned v ∧ Q3 Z a1 t1 t2 t4 J c1 c2 c4 sv f qv h0 n0 v U'.heap L ∧ FrameEnd U o U' L ({ frames := 0, cells := 0, slots := 0, locals := 0 } : Room).cells ({ frames := 0, cells := 0, slots := 0, locals := 0 } : Room).slots) := by
  refine MetFree.of_bodySF (plainFor_of_name pn_3) hisR ?_
  intro p e s m args below meth c s₁ Bd hml0 hP hK
  obtain ⟨rfl, hZ, hh⟩ := hP
  have hx := Bd.exec
  have hby := Bd.bytes
  have hml : c.maxLocals = 2 := hml0
  have hown : s.vm.findClass "com/example/riverfront/riverfront/solver/VectorMap" = some m.cls := findClass_of_methodNamed Bd.named
  have hnm := (name_of_methodNamed Bd.named Bd.method).1
  have X0 : Stand p l e ({ frames := 0, cells := 0, slots := 0, locals := 0 } : Room) s m #[(.ref a1), (.int (Int32.ofNat J))] below meth c s₁ [] 0 0 := Stand.of_body Bd
  have e0 : s₁.heap = h0 := by rw [← hh, Bd.state]; rfl
  have N0 := Fr.nil n0
  show own_Fin p e below (fun o U' => ∃ v L, o = .returned v ∧ Q3 Z a1 t1 t2 t4 J c1 c2 c4 sv f qv h0 n0 v U'.heap L ∧ FrameEnd s o U' L ({ frames := 0, cells := 0, slots := 0, locals := 0 } : Room).cells ({ frames := 0, cells := 0, slots := 0, locals := 0 } : Room).slots) (s₁.setTop (entryFrame m #[(.ref a1), (.int (Int32.ofNat J))] 2))
  refine own_lift (fun t k => castTop (ef_3 m a1 (Int32.ofNat J)) k) ?_
  show own_Fin p e below _ (s₁.setTop (mkF m 0 #[.val (.ref a1), .val (.int (Int32.ofNat J))] []))
  refine own_lift (fun t k => XS.aloadN X0.here hx rfl (hb hby d3_0) rfl rfl k) ?_
  show own_Fin p e below _ (s₁.setTop (mkF m 1 #[.val (.ref a1), .val (.int (Int32.ofNat J))] [(.ref a1)]))
  obtain ⟨Tg_1, Xg_1, eg_1, stg_1⟩ := getF X0 hx hZ hown (host := "") (Or.inl (hw _ (List.mem_of_getElem? (i := 15) rfl))) Via.refl e0 F1 (g := (mkF m 1 #[.val (.ref a1), .val (.int (Int32.ofNat J))] [(.ref a1)])) rfl rfl (hb hby d3_1)
  refine own_lift (fun t k => stg_1 _ k) ?_
  show own_Fin p e below _ (Tg_1.setTop (mkF m 4 #[.val (.ref a1), .val (.int (Int32.ofNat J))] [(.ref t1)]))
  refine own_lift (fun t k => XS.iloadN Xg_1.here hx rfl (hb hby d3_4) rfl k) ?_
  show own_Fin p e below _ (Tg_1.setTop (mkF m 5 #[.val (.ref a1), .val (.int (Int32.ofNat J))] [(.int (Int32.ofNat J)), (.ref t1)]))
  refine own_lift (fun t k => Xg_1.iaload hx (j := (Int32.ofNat J)) (v := (.int sv)) (by rw [eg_1]; exact Ar1.1) (State.isArrayOf_alike hZ.alike Ar1.2.1) Ar1.2.2 (own_hin hJ S1) (own_hat hJ at1) (g := (mkF m 5 #[.val (.ref a1), .val (.int (Int32.ofNat J))] [(.int (Int32.ofNat J)), (.ref t1)])) rfl rfl (hb hby d3_5) _ k) ?_
  show own_Fin p e below _ (Tg_1.setTop (mkF m 6 #[.val (.ref a1), .val (.int (Int32.ofNat J))] [(.int sv)]))
  refine own_lift (fun t k => XS.iloadN Xg_1.here hx rfl (hb hby d3_6) rfl k) ?_
  show own_Fin p e below _ (Tg_1.setTop (mkF m 7 #[.val (.ref a1), .val (.int (Int32.ofNat J))] [(.int (Int32.ofNat J)), (.int sv)]))
  by_cases hc7_2 : sv = (Int32.ofNat J)
  · refine own_lift (fun t k => XS.icmpNo Xg_1.here hx rfl (hb hby d3_7) rfl (teq hc7_2).2 k) ?_
    show own_Fin p e below _ (Tg_1.setTop (mkF m 10 #[.val (.ref a1), .val (.int (Int32.ofNat J))] []))
    refine own_lift (fun t k => XS.aloadN Xg_1.here hx rfl (hb hby d3_10) rfl rfl k) ?_
    show own_Fin p e below _ (Tg_1.setTop (mkF m 11 #[.val (.ref a1), .val (.int (Int32.ofNat J))] [(.ref a1)]))
    obtain ⟨Tg_3, Xg_3, eg_3, stg_3⟩ := getF Xg_1 hx hZ hown (host := "") (Or.inl (hw _ (List.mem_of_getElem? (i := 17) rfl))) Via.refl eg_1 F2 (g := (mkF m 11 #[.val (.ref a1), .val (.int (Int32.ofNat J))] [(.ref a1)])) rfl rfl (hb hby d3_11)
    refine own_lift (fun t k => stg_3 _ k) ?_
    show own_Fin p e below _ (Tg_3.setTop (mkF m 14 #[.val (.ref a1), .val (.int (Int32.ofNat J))] [(.ref t2)]))
    refine own_lift (fun t k => XS.iloadN Xg_3.here hx rfl (hb hby d3_14) rfl k) ?_
    show own_Fin p e below _ (Tg_3.setTop (mkF m 15 #[.val (.ref a1), .val (.int (Int32.ofNat J))] [(.int (Int32.ofNat J)), (.ref t2)]))
    refine own_lift (fun t k => Xg_3.laload hx (j := (Int32.ofNat J)) (v := (.long f)) (by rw [eg_3]; exact Ar2.1) (State.isArrayOf_alike hZ.alike Ar2.2.1) Ar2.2.2 (own_hin hJ S2) (own_hat hJ at2) (g := (mkF m 15 #[.val (.ref a1), .val (.int (Int32.ofNat J))] [(.int (Int32.ofNat J)), (.ref t2)])) rfl rfl (hb hby d3_15) _ k) ?_
    show own_Fin p e below _ (Tg_3.setTop (mkF m 16 #[.val (.ref a1), .val (.int (Int32.ofNat J))] [(.long f)]))
    refine own_lift (fun t k => XS.lconst Xg_3.here hx rfl (hb hby d3_16) k) ?_
    show own_Fin p e below _ (Tg_3.setTop (mkF m 17 #[.val (.ref a1), .val (.int (Int32.ofNat J))] [(.long (0 : Int64)), (.long f)]))
    refine own_lift (fun t k => XS.lcmp Xg_3.here hx rfl (hb hby d3_17) rfl k) ?_
    show own_Fin p e below _ (Tg_3.setTop (mkF m 18 #[.val (.ref a1), .val (.int (Int32.ofNat J))] [(.int (lcmpW f (0 : Int64)))]))
    by_cases hc18_4 : (0 : Int32) < (lcmpW f (0 : Int64))
    · refine own_lift (fun t k => XS.ifNo Xg_3.here hx rfl (hb hby d3_18) rfl ((if0 _ _).trans (tlt hc18_4).2.2.2) k) ?_
      show own_Fin p e below _ (Tg_3.setTop (mkF m 21 #[.val (.ref a1), .val (.int (Int32.ofNat J))] []))
      refine own_lift (fun t k => XS.aloadN Xg_3.here hx rfl (hb hby d3_21) rfl rfl k) ?_
      show own_Fin p e below _ (Tg_3.setTop (mkF m 22 #[.val (.ref a1), .val (.int (Int32.ofNat J))] [(.ref a1)]))
      obtain ⟨Tg_5, Xg_5, eg_5, stg_5⟩ := getF Xg_3 hx hZ hown (host := "") (Or.inl (hw _ (List.mem_of_getElem? (i := 21) rfl))) Via.refl eg_3 F4 (g := (mkF m 22 #[.val (.ref a1), .val (.int (Int32.ofNat J))] [(.ref a1)])) rfl rfl (hb hby d3_22)
      refine own_lift (fun t k => stg_5 _ k) ?_
      show own_Fin p e below _ (Tg_5.setTop (mkF m 25 #[.val (.ref a1), .val (.int (Int32.ofNat J))] [(.ref t4)]))
      refine own_lift (fun t k => XS.iloadN Xg_5.here hx rfl (hb hby d3_25) rfl k) ?_
      show own_Fin p e below _ (Tg_5.setTop (mkF m 26 #[.val (.ref a1), .val (.int (Int32.ofNat J))] [(.int (Int32.ofNat J)), (.ref t4)]))
      refine own_lift (fun t k => Xg_5.iaload hx (j := (Int32.ofNat J)) (v := (.int qv)) (by rw [eg_5]; exact Ar4.1) (State.isArrayOf_alike hZ.alike Ar4.2.1) Ar4.2.2 (own_hin hJ S4) (own_hat hJ at4) (g := (mkF m 26 #[.val (.ref a1), .val (.int (Int32.ofNat J))] [(.int (Int32.ofNat J)), (.ref t4)])) rfl rfl (hb hby d3_26) _ k) ?_
      show own_Fin p e below _ (Tg_5.setTop (mkF m 27 #[.val (.ref a1), .val (.int (Int32.ofNat J))] [(.int qv)]))
      refine own_lift (fun t k => XS.iconst Xg_5.here hx rfl (hb hby d3_27) k) ?_
      show own_Fin p e below _ (Tg_5.setTop (mkF m 28 #[.val (.ref a1), .val (.int (Int32.ofNat J))] [(.int (-1 : Int32)), (.int qv)]))
      by_cases hc28_6 : qv = (-1 : Int32)
      · refine own_lift (fun t k => XS.icmpNo Xg_5.here hx rfl (hb hby d3_28) rfl (teq hc28_6).2 k) ?_
        show own_Fin p e below _ (Tg_5.setTop (mkF m 31 #[.val (.ref a1), .val (.int (Int32.ofNat J))] []))
        refine own_lift (fun t k => XS.iconst Xg_5.here hx rfl (hb hby d3_31) k) ?_
        show own_Fin p e below _ (Tg_5.setTop (mkF m 32 #[.val (.ref a1), .val (.int (Int32.ofNat J))] [(.int (1 : Int32))]))
        refine own_lift (fun t k => XS.goto Xg_5.here hx rfl (pc0 := 32) (pc' := 36) rfl (hb hby d3_32) (by decide) (by decide) k) ?_
        show own_Fin p e below _ (Tg_5.setTop (mkF m 36 #[.val (.ref a1), .val (.int (Int32.ofNat J))] [(.int (1 : Int32))]))
        obtain ⟨fs, hr, hrun, hended, hW, hsame⟩ := Xg_5.leave (v := some (.int (1 : Int32))) (fun h => by rw [Bd.returns] at h; cases h)
        exact ⟨_, _, retN Xg_5 hx (t := .boolean) Bd.returns (by simp) (hb hby d3_36) hr, hrun, hended, _, _, rfl, ⟨by simp [own_sc, hc7_2, hc18_4, hc28_6], N0, eg_5⟩, ⟨_, rfl⟩, hW, hsame.mono (by decide) (by decide)⟩
      · refine own_lift (fun t k => XS.icmpYes Xg_5.here hx rfl (pc0 := 28) (pc' := 35) rfl (hb hby d3_28) rfl (feq hc28_6).2 (by decide) (by decide) k) ?_
        show own_Fin p e below _ (Tg_5.setTop (mkF m 35 #[.val (.ref a1), .val (.int (Int32.ofNat J))] []))
        refine own_lift (fun t k => XS.iconst Xg_5.here hx rfl (hb hby d3_35) k) ?_
        show own_Fin p e below _ (Tg_5.setTop (mkF m 36 #[.val (.ref a1), .val (.int (Int32.ofNat J))] [(.int (0 : Int32))]))
        obtain ⟨fs, hr, hrun, hended, hW, hsame⟩ := Xg_5.leave (v := some (.int (0 : Int32))) (fun h => by rw [Bd.returns] at h; cases h)
        exact ⟨_, _, retN Xg_5 hx (t := .boolean) Bd.returns (by simp) (hb hby d3_36) hr, hrun, hended, _, _, rfl, ⟨by simp [own_sc, hc7_2, hc18_4, hc28_6], N0, eg_5⟩, ⟨_, rfl⟩, hW, hsame.mono (by decide) (by decide)⟩
    · refine own_lift (fun t k => XS.ifYes Xg_3.here hx rfl (pc0 := 18) (pc' := 35) rfl (hb hby d3_18) rfl ((if0 _ _).trans (flt hc18_4).2.2.2) (by decide) (by decide) k) ?_
      show own_Fin p e below _ (Tg_3.setTop (mkF m 35 #[.val (.ref a1), .val (.int (Int32.ofNat J))] []))
      refine own_lift (fun t k => XS.iconst Xg_3.here hx rfl (hb hby d3_35) k) ?_
      show own_Fin p e below _ (Tg_3.setTop (mkF m 36 #[.val (.ref a1), .val (.int (Int32.ofNat J))] [(.int (0 : Int32))]))
      obtain ⟨fs, hr, hrun, hended, hW, hsame⟩ := Xg_3.leave (v := some (.int (0 : Int32))) (fun h => by rw [Bd.returns] at h; cases h)
      exact ⟨_, _, retN Xg_3 hx (t := .boolean) Bd.returns (by simp) (hb hby d3_36) hr, hrun, hended, _, _, rfl, ⟨by simp [own_sc, hc7_2, hc18_4], N0, eg_3⟩, ⟨_, rfl⟩, hW, hsame.mono (by decide) (by decide)⟩
  · refine own_lift (fun t k => XS.icmpYes Xg_1.here hx rfl (pc0 := 7) (pc' := 35) rfl (hb hby d3_7) rfl (feq hc7_2).2 (by decide) (by decide) k) ?_
    show own_Fin p e below _ (Tg_1.setTop (mkF m 35 #[.val (.ref a1), .val (.int (Int32.ofNat J))] []))
    refine own_lift (fun t k => XS.iconst Xg_1.here hx rfl (hb hby d3_35) k) ?_
    show own_Fin p e below _ (Tg_1.setTop (mkF m 36 #[.val (.ref a1), .val (.int (Int32.ofNat J))] [(.int (0 : Int32))]))
    obtain ⟨fs, hr, hrun, hended, hW, hsame⟩ := Xg_1.leave (v := some (.int (0 : Int32))) (fun h => by rw [Bd.returns] at h; cases h)
    exact ⟨_, _, retN Xg_1 hx (t := .boolean) Bd.returns (by simp) (hb hby d3_36) hr, hrun, hended, _, _, rfl, ⟨by simp [own_sc, hc7_2], N0, eg_1⟩, ⟨_, rfl⟩, hW, hsame.mono (by decide) (by decide)⟩
theorem d4_0 : decode prog_49_method_5_code 0 = .ok (.aload_n 0, 1) := by decide +kernel
theorem d4_1 : decode prog_49_method_5_code 1 = .ok (.getfield 13, 3) := by decide +kernel
theorem d4_4 : decode prog_49_method_5_code 4 = .ok (.iload_n 1, 1) := by decide +kernel
theorem d4_5 : decode prog_49_method_5_code 5 = .ok (.laload, 1) := by decide +kernel
theorem d4_6 : decode prog_49_method_5_code 6 = .ok (.lconst 0, 1) := by decide +kernel
theorem d4_7 : decode prog_49_method_5_code 7 = .ok (.lcmp, 1) := by decide +kernel
theorem d4_8 : decode prog_49_method_5_code 8 = .ok (.ifCond .ne 17, 3) := by decide +kernel
theorem d4_11 : decode prog_49_method_5_code 11 = .ok (.aload_n 0, 1) := by decide +kernel
theorem d4_12 : decode prog_49_method_5_code 12 = .ok (.getfield 20, 3) := by decide +kernel
theorem d4_15 : decode prog_49_method_5_code 15 = .ok (.iload_n 1, 1) := by decide +kernel
theorem d4_16 : decode prog_49_method_5_code 16 = .ok (.iaload, 1) := by decide +kernel
theorem d4_17 : decode prog_49_method_5_code 17 = .ok (.iconst (-1), 1) := by decide +kernel
theorem d4_18 : decode prog_49_method_5_code 18 = .ok (.if_icmp .ne 7, 3) := by decide +kernel
theorem d4_21 : decode prog_49_method_5_code 21 = .ok (.iconst 1, 1) := by decide +kernel
theorem d4_22 : decode prog_49_method_5_code 22 = .ok (.goto 4, 3) := by decide +kernel
theorem d4_25 : decode prog_49_method_5_code 25 = .ok (.iconst 0, 1) := by decide +kernel
theorem d4_26 : decode prog_49_method_5_code 26 = .ok (.ireturn, 1) := by decide +kernel
theorem pn_4 : plainName "com/example/riverfront/riverfront/solver/VectorMap" = true := by first | (simp [plainName, overriddenIn]; done) | decide +kernel
theorem ef_4 (m : MethodId) (x0 : Addr) (x1 : Int32) : entryFrame m #[(.ref x0), (.int x1)] 2 = mkF m 0 #[.val (.ref x0), .val (.int x1)] [] := by first | (simp [entryFrame, mkF, argsToLocals, Value.category]; done) | rfl
def Q4 (Z : State) (a1 t2 t4 : Addr) (J : Nat) (c2 c4 : Cell) (f : Int64) (qv : Int32) (h0 : Heap) (n0 : Nat) (v : Option Value) (h : Heap) (L : List Loc) : Prop := v = some (.int (own_ic f qv)) ∧ Fr n0 L ∧ h = h0
set_option maxRecDepth 65536 in
set_option maxHeartbeats 40000000 in
theorem rm4 (l : Launch) (Z : State) (a0 : Array Value) (hw : ∀ d ∈ tables_1, d.before a0 Z = true) (ws : List Jvm.Cond) (a1 t2 t4 : Addr) (J : Nat) (c2 c4 : Cell) (f : Int64) (qv : Int32) (h0 : Heap) (n0 : Nat) (Z0 : n0 ≤ h0.size) (hJ : J < 3) (F2 : Fld Z h0 a1 "com/example/riverfront/riverfront/solver/VectorMap" "m_aFactors" "[J" (.ref t2)) (F4 : Fld Z h0 a1 "com/example/riverfront/riverfront/solver/VectorMap" "m_aSquared" "[I" (.ref t4)) (Ar2 : Arr Z h0 t2 c2 .long) (S2 : c2.slots.size = 3) (Ar4 : Arr Z h0 t4 c4 .int) (S4 : c4.slots.size = 3) (at2 : c2.slots[J]? = some (.long f)) (at4 : c4.slots[J]? = some (.int qv)) :
    MetFree l (⟨"com/example/riverfront/riverfront/solver/VectorMap", "isConstant", "(I)Z"⟩ : MethodName) (head1 (Jvm.Cond.code (⟨"com/example/riverfront/riverfront/solver/VectorMap", "isConstant", "(I)Z"⟩ : MethodName) prog_49_method_5_code 2 (some .boolean) :: ws) ({ frames := 0, cells := 0, slots := 0, locals := 0 } : Room)) (fun a U => a = #[(.ref a1), (.int (Int32.ofNat J))] ∧ Z.Warmed39 U.vm ∧ U.heap = h0) (fun _ _ _ _ _ => True) (fun _ U o U' => ∃ v L, o = .returned v ∧ Q4 Z a1 t2 t4 J c2 c4 f qv h0 n0 v U'.heap L ∧ FrameEnd U o U' L ({ frames := 0, cells := 0, slots := 0, locals := 0 } : Room).cells ({ frames := 0, cells := 0, slots := 0, locals := 0 } : Room).slots) := by
  refine MetFree.of_bodySF (plainFor_of_name pn_4) hisR ?_
  intro p e s m args below meth c s₁ Bd hml0 hP hK
  obtain ⟨rfl, hZ, hh⟩ := hP
  have hx := Bd.exec
  have hby := Bd.bytes
  have hml : c.maxLocals = 2 := hml0
  have hown : s.vm.findClass "com/example/riverfront/riverfront/solver/VectorMap" = some m.cls := findClass_of_methodNamed Bd.named
  have hnm := (name_of_methodNamed Bd.named Bd.method).1
  have X0 : Stand p l e ({ frames := 0, cells := 0, slots := 0, locals := 0 } : Room) s m #[(.ref a1), (.int (Int32.ofNat J))] below meth c s₁ [] 0 0 := Stand.of_body Bd
  have e0 : s₁.heap = h0 := by rw [← hh, Bd.state]; rfl
  have N0 := Fr.nil n0
  show own_Fin p e below (fun o U' => ∃ v L, o = .returned v ∧ Q4 Z a1 t2 t4 J c2 c4 f qv h0 n0 v U'.heap L ∧ FrameEnd s o U' L ({ frames := 0, cells := 0, slots := 0, locals := 0 } : Room).cells ({ frames := 0, cells := 0, slots := 0, locals := 0 } : Room).slots) (s₁.setTop (entryFrame m #[(.ref a1), (.int (Int32.ofNat J))] 2))
  refine own_lift (fun t k => castTop (ef_4 m a1 (Int32.ofNat J)) k) ?_
  show own_Fin p e below _ (s₁.setTop (mkF m 0 #[.val (.ref a1), .val (.int (Int32.ofNat J))] []))
  refine own_lift (fun t k => XS.aloadN X0.here hx rfl (hb hby d4_0) rfl rfl k) ?_
  show own_Fin p e below _ (s₁.setTop (mkF m 1 #[.val (.ref a1), .val (.int (Int32.ofNat J))] [(.ref a1)]))
  obtain ⟨Tg_1, Xg_1, eg_1, stg_1⟩ := getF X0 hx hZ hown (host := "") (Or.inl (hw _ (List.mem_of_getElem? (i := 17) rfl))) Via.refl e0 F2 (g := (mkF m 1 #[.val (.ref a1), .val (.int (Int32.ofNat J))] [(.ref a1)])) rfl rfl (hb hby d4_1)
  refine own_lift (fun t k => stg_1 _ k) ?_
  show own_Fin p e below _ (Tg_1.setTop (mkF m 4 #[.val (.ref a1), .val (.int (Int32.ofNat J))] [(.ref t2)]))
  refine own_lift (fun t k => XS.iloadN Xg_1.here hx rfl (hb hby d4_4) rfl k) ?_
  show own_Fin p e below _ (Tg_1.setTop (mkF m 5 #[.val (.ref a1), .val (.int (Int32.ofNat J))] [(.int (Int32.ofNat J)), (.ref t2)]))
  refine own_lift (fun t k => Xg_1.laload hx (j := (Int32.ofNat J)) (v := (.long f)) (by rw [eg_1]; exact Ar2.1) (State.isArrayOf_alike hZ.alike Ar2.2.1) Ar2.2.2 (own_hin hJ S2) (own_hat hJ at2) (g := (mkF m 5 #[.val (.ref a1), .val (.int (Int32.ofNat J))] [(.int (Int32.ofNat J)), (.ref t2)])) rfl rfl (hb hby d4_5) _ k) ?_
  show own_Fin p e below _ (Tg_1.setTop (mkF m 6 #[.val (.ref a1), .val (.int (Int32.ofNat J))] [(.long f)]))
  refine own_lift (fun t k => XS.lconst Xg_1.here hx rfl (hb hby d4_6) k) ?_
  show own_Fin p e below _ (Tg_1.setTop (mkF m 7 #[.val (.ref a1), .val (.int (Int32.ofNat J))] [(.long (0 : Int64)), (.long f)]))
  refine own_lift (fun t k => XS.lcmp Xg_1.here hx rfl (hb hby d4_7) rfl k) ?_
  show own_Fin p e below _ (Tg_1.setTop (mkF m 8 #[.val (.ref a1), .val (.int (Int32.ofNat J))] [(.int (lcmpW f (0 : Int64)))]))
  by_cases hc8_2 : (lcmpW f (0 : Int64)) = (0 : Int32)
  · refine own_lift (fun t k => XS.ifNo Xg_1.here hx rfl (hb hby d4_8) rfl ((if0 _ _).trans (teq hc8_2).2) k) ?_
    show own_Fin p e below _ (Tg_1.setTop (mkF m 11 #[.val (.ref a1), .val (.int (Int32.ofNat J))] []))
    refine own_lift (fun t k => XS.aloadN Xg_1.here hx rfl (hb hby d4_11) rfl rfl k) ?_
    show own_Fin p e below _ (Tg_1.setTop (mkF m 12 #[.val (.ref a1), .val (.int (Int32.ofNat J))] [(.ref a1)]))
    obtain ⟨Tg_3, Xg_3, eg_3, stg_3⟩ := getF Xg_1 hx hZ hown (host := "") (Or.inl (hw _ (List.mem_of_getElem? (i := 21) rfl))) Via.refl eg_1 F4 (g := (mkF m 12 #[.val (.ref a1), .val (.int (Int32.ofNat J))] [(.ref a1)])) rfl rfl (hb hby d4_12)
    refine own_lift (fun t k => stg_3 _ k) ?_
    show own_Fin p e below _ (Tg_3.setTop (mkF m 15 #[.val (.ref a1), .val (.int (Int32.ofNat J))] [(.ref t4)]))
    refine own_lift (fun t k => XS.iloadN Xg_3.here hx rfl (hb hby d4_15) rfl k) ?_
    show own_Fin p e below _ (Tg_3.setTop (mkF m 16 #[.val (.ref a1), .val (.int (Int32.ofNat J))] [(.int (Int32.ofNat J)), (.ref t4)]))
    refine own_lift (fun t k => Xg_3.iaload hx (j := (Int32.ofNat J)) (v := (.int qv)) (by rw [eg_3]; exact Ar4.1) (State.isArrayOf_alike hZ.alike Ar4.2.1) Ar4.2.2 (own_hin hJ S4) (own_hat hJ at4) (g := (mkF m 16 #[.val (.ref a1), .val (.int (Int32.ofNat J))] [(.int (Int32.ofNat J)), (.ref t4)])) rfl rfl (hb hby d4_16) _ k) ?_
    show own_Fin p e below _ (Tg_3.setTop (mkF m 17 #[.val (.ref a1), .val (.int (Int32.ofNat J))] [(.int qv)]))
    refine own_lift (fun t k => XS.iconst Xg_3.here hx rfl (hb hby d4_17) k) ?_
    show own_Fin p e below _ (Tg_3.setTop (mkF m 18 #[.val (.ref a1), .val (.int (Int32.ofNat J))] [(.int (-1 : Int32)), (.int qv)]))
    by_cases hc18_4 : qv = (-1 : Int32)
    · refine own_lift (fun t k => XS.icmpNo Xg_3.here hx rfl (hb hby d4_18) rfl (teq hc18_4).2 k) ?_
      show own_Fin p e below _ (Tg_3.setTop (mkF m 21 #[.val (.ref a1), .val (.int (Int32.ofNat J))] []))
      refine own_lift (fun t k => XS.iconst Xg_3.here hx rfl (hb hby d4_21) k) ?_
      show own_Fin p e below _ (Tg_3.setTop (mkF m 22 #[.val (.ref a1), .val (.int (Int32.ofNat J))] [(.int (1 : Int32))]))
      refine own_lift (fun t k => XS.goto Xg_3.here hx rfl (pc0 := 22) (pc' := 26) rfl (hb hby d4_22) (by decide) (by decide) k) ?_
      show own_Fin p e below _ (Tg_3.setTop (mkF m 26 #[.val (.ref a1), .val (.int (Int32.ofNat J))] [(.int (1 : Int32))]))
      obtain ⟨fs, hr, hrun, hended, hW, hsame⟩ := Xg_3.leave (v := some (.int (1 : Int32))) (fun h => by rw [Bd.returns] at h; cases h)
      exact ⟨_, _, retN Xg_3 hx (t := .boolean) Bd.returns (by simp) (hb hby d4_26) hr, hrun, hended, _, _, rfl, ⟨by simp [own_ic, hc8_2, hc18_4], N0, eg_3⟩, ⟨_, rfl⟩, hW, hsame.mono (by decide) (by decide)⟩
    · refine own_lift (fun t k => XS.icmpYes Xg_3.here hx rfl (pc0 := 18) (pc' := 25) rfl (hb hby d4_18) rfl (feq hc18_4).2 (by decide) (by decide) k) ?_
      show own_Fin p e below _ (Tg_3.setTop (mkF m 25 #[.val (.ref a1), .val (.int (Int32.ofNat J))] []))
      refine own_lift (fun t k => XS.iconst Xg_3.here hx rfl (hb hby d4_25) k) ?_
      show own_Fin p e below _ (Tg_3.setTop (mkF m 26 #[.val (.ref a1), .val (.int (Int32.ofNat J))] [(.int (0 : Int32))]))
      obtain ⟨fs, hr, hrun, hended, hW, hsame⟩ := Xg_3.leave (v := some (.int (0 : Int32))) (fun h => by rw [Bd.returns] at h; cases h)
      exact ⟨_, _, retN Xg_3 hx (t := .boolean) Bd.returns (by simp) (hb hby d4_26) hr, hrun, hended, _, _, rfl, ⟨by simp [own_ic, hc8_2, hc18_4], N0, eg_3⟩, ⟨_, rfl⟩, hW, hsame.mono (by decide) (by decide)⟩
  · refine own_lift (fun t k => XS.ifYes Xg_1.here hx rfl (pc0 := 8) (pc' := 25) rfl (hb hby d4_8) rfl ((if0 _ _).trans (feq hc8_2).2) (by decide) (by decide) k) ?_
    show own_Fin p e below _ (Tg_1.setTop (mkF m 25 #[.val (.ref a1), .val (.int (Int32.ofNat J))] []))
    refine own_lift (fun t k => XS.iconst Xg_1.here hx rfl (hb hby d4_25) k) ?_
    show own_Fin p e below _ (Tg_1.setTop (mkF m 26 #[.val (.ref a1), .val (.int (Int32.ofNat J))] [(.int (0 : Int32))]))
    obtain ⟨fs, hr, hrun, hended, hW, hsame⟩ := Xg_1.leave (v := some (.int (0 : Int32))) (fun h => by rw [Bd.returns] at h; cases h)
    exact ⟨_, _, retN Xg_1 hx (t := .boolean) Bd.returns (by simp) (hb hby d4_26) hr, hrun, hended, _, _, rfl, ⟨by simp [own_ic, hc8_2], N0, eg_1⟩, ⟨_, rfl⟩, hW, hsame.mono (by decide) (by decide)⟩
theorem d5_0 : decode prog_49_method_3_code 0 = .ok (.aload_n 1, 1) := by decide +kernel
theorem d5_1 : decode prog_49_method_3_code 1 = .ok (.iload_n 2, 1) := by decide +kernel
theorem d5_2 : decode prog_49_method_3_code 2 = .ok (.aload_n 0, 1) := by decide +kernel
theorem d5_3 : decode prog_49_method_3_code 3 = .ok (.getfield 7, 3) := by decide +kernel
theorem d5_6 : decode prog_49_method_3_code 6 = .ok (.iload_n 3, 1) := by decide +kernel
theorem d5_7 : decode prog_49_method_3_code 7 = .ok (.iaload, 1) := by decide +kernel
theorem d5_8 : decode prog_49_method_3_code 8 = .ok (.iadd, 1) := by decide +kernel
theorem d5_9 : decode prog_49_method_3_code 9 = .ok (.laload, 1) := by decide +kernel
theorem d5_10 : decode prog_49_method_3_code 10 = .ok (.aload_n 0, 1) := by decide +kernel
theorem d5_11 : decode prog_49_method_3_code 11 = .ok (.getfield 13, 3) := by decide +kernel
theorem d5_14 : decode prog_49_method_3_code 14 = .ok (.iload_n 3, 1) := by decide +kernel
theorem d5_15 : decode prog_49_method_3_code 15 = .ok (.laload, 1) := by decide +kernel
theorem d5_16 : decode prog_49_method_3_code 16 = .ok (.lmul, 1) := by decide +kernel
theorem d5_17 : decode prog_49_method_3_code 17 = .ok (.aload_n 0, 1) := by decide +kernel
theorem d5_18 : decode prog_49_method_3_code 18 = .ok (.getfield 17, 3) := by decide +kernel
theorem d5_21 : decode prog_49_method_3_code 21 = .ok (.iload_n 3, 1) := by decide +kernel
theorem d5_22 : decode prog_49_method_3_code 22 = .ok (.laload, 1) := by decide +kernel
theorem d5_23 : decode prog_49_method_3_code 23 = .ok (.ladd, 1) := by decide +kernel
theorem d5_24 : decode prog_49_method_3_code 24 = .ok (.lstore 4, 2) := by decide +kernel
theorem d5_26 : decode prog_49_method_3_code 26 = .ok (.aload_n 0, 1) := by decide +kernel
theorem d5_27 : decode prog_49_method_3_code 27 = .ok (.getfield 20, 3) := by decide +kernel
theorem d5_30 : decode prog_49_method_3_code 30 = .ok (.iload_n 3, 1) := by decide +kernel
theorem d5_31 : decode prog_49_method_3_code 31 = .ok (.iaload, 1) := by decide +kernel
theorem d5_32 : decode prog_49_method_3_code 32 = .ok (.iconst (-1), 1) := by decide +kernel
theorem d5_33 : decode prog_49_method_3_code 33 = .ok (.if_icmp .eq 32, 3) := by decide +kernel
theorem d5_65 : decode prog_49_method_3_code 65 = .ok (.lload 4, 2) := by decide +kernel
theorem d5_67 : decode prog_49_method_3_code 67 = .ok (.lreturn, 1) := by decide +kernel
theorem pn_5 : plainName "com/example/riverfront/riverfront/solver/VectorMap" = true := by first | (simp [plainName, overriddenIn]; done) | decide +kernel
theorem ef_5 (m : MethodId) (x0 : Addr) (x1 : Addr) (x2 : Int32) (x3 : Int32) : entryFrame m #[(.ref x0), (.ref x1), (.int x2), (.int x3)] 8 = mkF m 0 #[.val (.ref x0), .val (.ref x1), .val (.int x2), .val (.int x3), .unset, .unset, .unset, .unset] [] := by first | (simp [entryFrame, mkF, argsToLocals, Value.category]; done) | rfl
def Q5 (Z : State) (a1 t1 t2 t3 t4 t6 : Addr) (J : Nat) (c1 c2 c3 c4 c6 : Cell) (f ad xv : Int64) (h0 : Heap) (n0 : Nat) (v : Option Value) (h : Heap) (L : List Loc) : Prop := v = some (.long ((xv * f) + ad)) ∧ Fr n0 L ∧ h = h0
set_option maxRecDepth 65536 in
set_option maxHeartbeats 40000000 in
theorem rm5 (l : Launch) (Z : State) (a0 : Array Value) (hw : ∀ d ∈ tables_1, d.before a0 Z = true) (ws : List Jvm.Cond) (a1 t1 t2 t3 t4 t6 : Addr) (J : Nat) (c1 c2 c3 c4 c6 : Cell) (f ad xv : Int64) (h0 : Heap) (n0 : Nat) (Z0 : n0 ≤ h0.size) (hJ : J < 3) (F1 : Fld Z h0 a1 "com/example/riverfront/riverfront/solver/VectorMap" "m_aSources" "[I" (.ref t1)) (F2 : Fld Z h0 a1 "com/example/riverfront/riverfront/solver/VectorMap" "m_aFactors" "[J" (.ref t2)) (F3 : Fld Z h0 a1 "com/example/riverfront/riverfront/solver/VectorMap" "m_aAdded" "[J" (.ref t3)) (F4 : Fld Z h0 a1 "com/example/riverfront/riverfront/solver/VectorMap" "m_aSquared" "[I" (.ref t4)) (Ar1 : Arr Z h0 t1 c1 .int) (S1 : c1.slots.size = 3) (Ar2 : Arr Z h0 t2 c2 .long) (S2 : c2.slots.size = 3) (Ar3 : Arr Z h0 t3 c3 .long) (S3 : c3.slots.size = 3) (Ar4 : Arr Z h0 t4 c4 .int) (S4 : c4.slots.size = 3) (Ar6 : Arr Z h0 t6 c6 .long) (S6 : c6.slots.size = 3) (at1 : c1.slots[J]? = some (.int (Int32.ofNat J))) (at2 : c2.slots[J]? = some (.long f)) (at3 : c3.slots[J]? = some (.long ad)) (at4 : c4.slots[J]? = some (.int (-1 : Int32))) (at6 : c6.slots[J]? = some (.long xv)) :
    MetFree l (⟨"com/example/riverfront/riverfront/solver/VectorMap", "apply", "([JII)J"⟩ : MethodName) (head1 (Jvm.Cond.code (⟨"com/example/riverfront/riverfront/solver/VectorMap", "apply", "([JII)J"⟩ : MethodName) prog_49_method_3_code 8 (some .long) :: ws) ({ frames := 0, cells := 0, slots := 0, locals := 0 } : Room)) (fun a U => a = #[(.ref a1), (.ref t6), (.int (0 : Int32)), (.int (Int32.ofNat J))] ∧ Z.Warmed39 U.vm ∧ U.heap = h0) (fun _ _ _ _ _ => True) (fun _ U o U' => ∃ v L, o = .returned v ∧ Q5 Z a1 t1 t2 t3 t4 t6 J c1 c2 c3 c4 c6 f ad xv h0 n0 v U'.heap L ∧ FrameEnd U o U' L ({ frames := 0, cells := 0, slots := 0, locals := 0 } : Room).cells ({ frames := 0, cells := 0, slots := 0, locals := 0 } : Room).slots) := by
  refine MetFree.of_bodySF (plainFor_of_name pn_5) hisR ?_
  intro p e s m args below meth c s₁ Bd hml0 hP hK
  obtain ⟨rfl, hZ, hh⟩ := hP
  have hx := Bd.exec
  have hby := Bd.bytes
  have hml : c.maxLocals = 8 := hml0
  have hown : s.vm.findClass "com/example/riverfront/riverfront/solver/VectorMap" = some m.cls := findClass_of_methodNamed Bd.named
  have hnm := (name_of_methodNamed Bd.named Bd.method).1
  have X0 : Stand p l e ({ frames := 0, cells := 0, slots := 0, locals := 0 } : Room) s m #[(.ref a1), (.ref t6), (.int (0 : Int32)), (.int (Int32.ofNat J))] below meth c s₁ [] 0 0 := Stand.of_body Bd
  have e0 : s₁.heap = h0 := by rw [← hh, Bd.state]; rfl
  have N0 := Fr.nil n0
  show own_Fin p e below (fun o U' => ∃ v L, o = .returned v ∧ Q5 Z a1 t1 t2 t3 t4 t6 J c1 c2 c3 c4 c6 f ad xv h0 n0 v U'.heap L ∧ FrameEnd s o U' L ({ frames := 0, cells := 0, slots := 0, locals := 0 } : Room).cells ({ frames := 0, cells := 0, slots := 0, locals := 0 } : Room).slots) (s₁.setTop (entryFrame m #[(.ref a1), (.ref t6), (.int (0 : Int32)), (.int (Int32.ofNat J))] 8))
  refine own_lift (fun t k => castTop (ef_5 m a1 t6 (0 : Int32) (Int32.ofNat J)) k) ?_
  show own_Fin p e below _ (s₁.setTop (mkF m 0 #[.val (.ref a1), .val (.ref t6), .val (.int (0 : Int32)), .val (.int (Int32.ofNat J)), .unset, .unset, .unset, .unset] []))
  refine own_lift (fun t k => XS.aloadN X0.here hx rfl (hb hby d5_0) rfl rfl k) ?_
  show own_Fin p e below _ (s₁.setTop (mkF m 1 #[.val (.ref a1), .val (.ref t6), .val (.int (0 : Int32)), .val (.int (Int32.ofNat J)), .unset, .unset, .unset, .unset] [(.ref t6)]))
  refine own_lift (fun t k => XS.iloadN X0.here hx rfl (hb hby d5_1) rfl k) ?_
  show own_Fin p e below _ (s₁.setTop (mkF m 2 #[.val (.ref a1), .val (.ref t6), .val (.int (0 : Int32)), .val (.int (Int32.ofNat J)), .unset, .unset, .unset, .unset] [(.int (0 : Int32)), (.ref t6)]))
  refine own_lift (fun t k => XS.aloadN X0.here hx rfl (hb hby d5_2) rfl rfl k) ?_
  show own_Fin p e below _ (s₁.setTop (mkF m 3 #[.val (.ref a1), .val (.ref t6), .val (.int (0 : Int32)), .val (.int (Int32.ofNat J)), .unset, .unset, .unset, .unset] [(.ref a1), (.int (0 : Int32)), (.ref t6)]))
  obtain ⟨Tg_1, Xg_1, eg_1, stg_1⟩ := getF X0 hx hZ hown (host := "") (Or.inl (hw _ (List.mem_of_getElem? (i := 15) rfl))) Via.refl e0 F1 (g := (mkF m 3 #[.val (.ref a1), .val (.ref t6), .val (.int (0 : Int32)), .val (.int (Int32.ofNat J)), .unset, .unset, .unset, .unset] [(.ref a1), (.int (0 : Int32)), (.ref t6)])) rfl rfl (hb hby d5_3)
  refine own_lift (fun t k => stg_1 _ k) ?_
  show own_Fin p e below _ (Tg_1.setTop (mkF m 6 #[.val (.ref a1), .val (.ref t6), .val (.int (0 : Int32)), .val (.int (Int32.ofNat J)), .unset, .unset, .unset, .unset] [(.ref t1), (.int (0 : Int32)), (.ref t6)]))
  refine own_lift (fun t k => XS.iloadN Xg_1.here hx rfl (hb hby d5_6) rfl k) ?_
  show own_Fin p e below _ (Tg_1.setTop (mkF m 7 #[.val (.ref a1), .val (.ref t6), .val (.int (0 : Int32)), .val (.int (Int32.ofNat J)), .unset, .unset, .unset, .unset] [(.int (Int32.ofNat J)), (.ref t1), (.int (0 : Int32)), (.ref t6)]))
  refine own_lift (fun t k => Xg_1.iaload hx (j := (Int32.ofNat J)) (v := (.int (Int32.ofNat J))) (by rw [eg_1]; exact Ar1.1) (State.isArrayOf_alike hZ.alike Ar1.2.1) Ar1.2.2 (own_hin hJ S1) (own_hat hJ at1) (g := (mkF m 7 #[.val (.ref a1), .val (.ref t6), .val (.int (0 : Int32)), .val (.int (Int32.ofNat J)), .unset, .unset, .unset, .unset] [(.int (Int32.ofNat J)), (.ref t1), (.int (0 : Int32)), (.ref t6)])) rfl rfl (hb hby d5_7) _ k) ?_
  show own_Fin p e below _ (Tg_1.setTop (mkF m 8 #[.val (.ref a1), .val (.ref t6), .val (.int (0 : Int32)), .val (.int (Int32.ofNat J)), .unset, .unset, .unset, .unset] [(.int (Int32.ofNat J)), (.int (0 : Int32)), (.ref t6)]))
  refine own_lift (fun t k => XS.iadd Xg_1.here hx rfl (hb hby d5_8) rfl k) ?_
  show own_Fin p e below _ (Tg_1.setTop (mkF m 9 #[.val (.ref a1), .val (.ref t6), .val (.int (0 : Int32)), .val (.int (Int32.ofNat J)), .unset, .unset, .unset, .unset] [(.int ((0 : Int32) + (Int32.ofNat J))), (.ref t6)]))
  refine own_lift (fun t k => Xg_1.laload hx (j := ((0 : Int32) + (Int32.ofNat J))) (v := (.long xv)) (by rw [eg_1]; exact Ar6.1) (State.isArrayOf_alike hZ.alike Ar6.2.1) Ar6.2.2 (by rw [own_z]; exact own_hin hJ S6) (by rw [own_z]; exact own_hat hJ at6) (g := (mkF m 9 #[.val (.ref a1), .val (.ref t6), .val (.int (0 : Int32)), .val (.int (Int32.ofNat J)), .unset, .unset, .unset, .unset] [(.int ((0 : Int32) + (Int32.ofNat J))), (.ref t6)])) rfl rfl (hb hby d5_9) _ k) ?_
  show own_Fin p e below _ (Tg_1.setTop (mkF m 10 #[.val (.ref a1), .val (.ref t6), .val (.int (0 : Int32)), .val (.int (Int32.ofNat J)), .unset, .unset, .unset, .unset] [(.long xv)]))
  refine own_lift (fun t k => XS.aloadN Xg_1.here hx rfl (hb hby d5_10) rfl rfl k) ?_
  show own_Fin p e below _ (Tg_1.setTop (mkF m 11 #[.val (.ref a1), .val (.ref t6), .val (.int (0 : Int32)), .val (.int (Int32.ofNat J)), .unset, .unset, .unset, .unset] [(.ref a1), (.long xv)]))
  obtain ⟨Tg_2, Xg_2, eg_2, stg_2⟩ := getF Xg_1 hx hZ hown (host := "") (Or.inl (hw _ (List.mem_of_getElem? (i := 17) rfl))) Via.refl eg_1 F2 (g := (mkF m 11 #[.val (.ref a1), .val (.ref t6), .val (.int (0 : Int32)), .val (.int (Int32.ofNat J)), .unset, .unset, .unset, .unset] [(.ref a1), (.long xv)])) rfl rfl (hb hby d5_11)
  refine own_lift (fun t k => stg_2 _ k) ?_
  show own_Fin p e below _ (Tg_2.setTop (mkF m 14 #[.val (.ref a1), .val (.ref t6), .val (.int (0 : Int32)), .val (.int (Int32.ofNat J)), .unset, .unset, .unset, .unset] [(.ref t2), (.long xv)]))
  refine own_lift (fun t k => XS.iloadN Xg_2.here hx rfl (hb hby d5_14) rfl k) ?_
  show own_Fin p e below _ (Tg_2.setTop (mkF m 15 #[.val (.ref a1), .val (.ref t6), .val (.int (0 : Int32)), .val (.int (Int32.ofNat J)), .unset, .unset, .unset, .unset] [(.int (Int32.ofNat J)), (.ref t2), (.long xv)]))
  refine own_lift (fun t k => Xg_2.laload hx (j := (Int32.ofNat J)) (v := (.long f)) (by rw [eg_2]; exact Ar2.1) (State.isArrayOf_alike hZ.alike Ar2.2.1) Ar2.2.2 (own_hin hJ S2) (own_hat hJ at2) (g := (mkF m 15 #[.val (.ref a1), .val (.ref t6), .val (.int (0 : Int32)), .val (.int (Int32.ofNat J)), .unset, .unset, .unset, .unset] [(.int (Int32.ofNat J)), (.ref t2), (.long xv)])) rfl rfl (hb hby d5_15) _ k) ?_
  show own_Fin p e below _ (Tg_2.setTop (mkF m 16 #[.val (.ref a1), .val (.ref t6), .val (.int (0 : Int32)), .val (.int (Int32.ofNat J)), .unset, .unset, .unset, .unset] [(.long f), (.long xv)]))
  refine own_lift (fun t k => XS.lmul Xg_2.here hx rfl (hb hby d5_16) rfl k) ?_
  show own_Fin p e below _ (Tg_2.setTop (mkF m 17 #[.val (.ref a1), .val (.ref t6), .val (.int (0 : Int32)), .val (.int (Int32.ofNat J)), .unset, .unset, .unset, .unset] [(.long (xv * f))]))
  refine own_lift (fun t k => XS.aloadN Xg_2.here hx rfl (hb hby d5_17) rfl rfl k) ?_
  show own_Fin p e below _ (Tg_2.setTop (mkF m 18 #[.val (.ref a1), .val (.ref t6), .val (.int (0 : Int32)), .val (.int (Int32.ofNat J)), .unset, .unset, .unset, .unset] [(.ref a1), (.long (xv * f))]))
  obtain ⟨Tg_3, Xg_3, eg_3, stg_3⟩ := getF Xg_2 hx hZ hown (host := "") (Or.inl (hw _ (List.mem_of_getElem? (i := 19) rfl))) Via.refl eg_2 F3 (g := (mkF m 18 #[.val (.ref a1), .val (.ref t6), .val (.int (0 : Int32)), .val (.int (Int32.ofNat J)), .unset, .unset, .unset, .unset] [(.ref a1), (.long (xv * f))])) rfl rfl (hb hby d5_18)
  refine own_lift (fun t k => stg_3 _ k) ?_
  show own_Fin p e below _ (Tg_3.setTop (mkF m 21 #[.val (.ref a1), .val (.ref t6), .val (.int (0 : Int32)), .val (.int (Int32.ofNat J)), .unset, .unset, .unset, .unset] [(.ref t3), (.long (xv * f))]))
  refine own_lift (fun t k => XS.iloadN Xg_3.here hx rfl (hb hby d5_21) rfl k) ?_
  show own_Fin p e below _ (Tg_3.setTop (mkF m 22 #[.val (.ref a1), .val (.ref t6), .val (.int (0 : Int32)), .val (.int (Int32.ofNat J)), .unset, .unset, .unset, .unset] [(.int (Int32.ofNat J)), (.ref t3), (.long (xv * f))]))
  refine own_lift (fun t k => Xg_3.laload hx (j := (Int32.ofNat J)) (v := (.long ad)) (by rw [eg_3]; exact Ar3.1) (State.isArrayOf_alike hZ.alike Ar3.2.1) Ar3.2.2 (own_hin hJ S3) (own_hat hJ at3) (g := (mkF m 22 #[.val (.ref a1), .val (.ref t6), .val (.int (0 : Int32)), .val (.int (Int32.ofNat J)), .unset, .unset, .unset, .unset] [(.int (Int32.ofNat J)), (.ref t3), (.long (xv * f))])) rfl rfl (hb hby d5_22) _ k) ?_
  show own_Fin p e below _ (Tg_3.setTop (mkF m 23 #[.val (.ref a1), .val (.ref t6), .val (.int (0 : Int32)), .val (.int (Int32.ofNat J)), .unset, .unset, .unset, .unset] [(.long ad), (.long (xv * f))]))
  refine own_lift (fun t k => XS.ladd Xg_3.here hx rfl (hb hby d5_23) rfl k) ?_
  show own_Fin p e below _ (Tg_3.setTop (mkF m 24 #[.val (.ref a1), .val (.ref t6), .val (.int (0 : Int32)), .val (.int (Int32.ofNat J)), .unset, .unset, .unset, .unset] [(.long ((xv * f) + ad))]))
  refine own_lift (fun t k => XS.lstore Xg_3.here hx rfl (hb hby d5_24) rfl (l' := #[.val (.ref a1), .val (.ref t6), .val (.int (0 : Int32)), .val (.int (Int32.ofNat J)), .val (.long ((xv * f) + ad)), .second, .unset, .unset]) rfl k) ?_
  show own_Fin p e below _ (Tg_3.setTop (mkF m 26 #[.val (.ref a1), .val (.ref t6), .val (.int (0 : Int32)), .val (.int (Int32.ofNat J)), .val (.long ((xv * f) + ad)), .second, .unset, .unset] []))
  refine own_lift (fun t k => XS.aloadN Xg_3.here hx rfl (hb hby d5_26) rfl rfl k) ?_
  show own_Fin p e below _ (Tg_3.setTop (mkF m 27 #[.val (.ref a1), .val (.ref t6), .val (.int (0 : Int32)), .val (.int (Int32.ofNat J)), .val (.long ((xv * f) + ad)), .second, .unset, .unset] [(.ref a1)]))
  obtain ⟨Tg_4, Xg_4, eg_4, stg_4⟩ := getF Xg_3 hx hZ hown (host := "") (Or.inl (hw _ (List.mem_of_getElem? (i := 21) rfl))) Via.refl eg_3 F4 (g := (mkF m 27 #[.val (.ref a1), .val (.ref t6), .val (.int (0 : Int32)), .val (.int (Int32.ofNat J)), .val (.long ((xv * f) + ad)), .second, .unset, .unset] [(.ref a1)])) rfl rfl (hb hby d5_27)
  refine own_lift (fun t k => stg_4 _ k) ?_
  show own_Fin p e below _ (Tg_4.setTop (mkF m 30 #[.val (.ref a1), .val (.ref t6), .val (.int (0 : Int32)), .val (.int (Int32.ofNat J)), .val (.long ((xv * f) + ad)), .second, .unset, .unset] [(.ref t4)]))
  refine own_lift (fun t k => XS.iloadN Xg_4.here hx rfl (hb hby d5_30) rfl k) ?_
  show own_Fin p e below _ (Tg_4.setTop (mkF m 31 #[.val (.ref a1), .val (.ref t6), .val (.int (0 : Int32)), .val (.int (Int32.ofNat J)), .val (.long ((xv * f) + ad)), .second, .unset, .unset] [(.int (Int32.ofNat J)), (.ref t4)]))
  refine own_lift (fun t k => Xg_4.iaload hx (j := (Int32.ofNat J)) (v := (.int (-1 : Int32))) (by rw [eg_4]; exact Ar4.1) (State.isArrayOf_alike hZ.alike Ar4.2.1) Ar4.2.2 (own_hin hJ S4) (own_hat hJ at4) (g := (mkF m 31 #[.val (.ref a1), .val (.ref t6), .val (.int (0 : Int32)), .val (.int (Int32.ofNat J)), .val (.long ((xv * f) + ad)), .second, .unset, .unset] [(.int (Int32.ofNat J)), (.ref t4)])) rfl rfl (hb hby d5_31) _ k) ?_
  show own_Fin p e below _ (Tg_4.setTop (mkF m 32 #[.val (.ref a1), .val (.ref t6), .val (.int (0 : Int32)), .val (.int (Int32.ofNat J)), .val (.long ((xv * f) + ad)), .second, .unset, .unset] [(.int (-1 : Int32))]))
  refine own_lift (fun t k => XS.iconst Xg_4.here hx rfl (hb hby d5_32) k) ?_
  show own_Fin p e below _ (Tg_4.setTop (mkF m 33 #[.val (.ref a1), .val (.ref t6), .val (.int (0 : Int32)), .val (.int (Int32.ofNat J)), .val (.long ((xv * f) + ad)), .second, .unset, .unset] [(.int (-1 : Int32)), (.int (-1 : Int32))]))
  refine own_lift (fun t k => XS.icmpYes Xg_4.here hx rfl (pc0 := 33) (pc' := 65) rfl (hb hby d5_33) rfl (teq (by decide : (-1 : Int32) = (-1 : Int32))).1 (by decide) (by decide) k) ?_
  show own_Fin p e below _ (Tg_4.setTop (mkF m 65 #[.val (.ref a1), .val (.ref t6), .val (.int (0 : Int32)), .val (.int (Int32.ofNat J)), .val (.long ((xv * f) + ad)), .second, .unset, .unset] []))
  refine own_lift (fun t k => XS.lload Xg_4.here hx rfl (hb hby d5_65) rfl k) ?_
  show own_Fin p e below _ (Tg_4.setTop (mkF m 67 #[.val (.ref a1), .val (.ref t6), .val (.int (0 : Int32)), .val (.int (Int32.ofNat J)), .val (.long ((xv * f) + ad)), .second, .unset, .unset] [(.long ((xv * f) + ad))]))
  obtain ⟨fs, hr, hrun, hended, hW, hsame⟩ := Xg_4.leave (v := some (.long ((xv * f) + ad))) (fun h => by rw [Bd.returns] at h; cases h)
  refine ⟨_, _, ?_, hrun, hended, _, _, rfl, ⟨rfl, N0, eg_4⟩, ⟨_, rfl⟩, hW, hsame.mono (by decide) (by decide)⟩
  jvm_step Xg_4.here [Xg_4.here.top, hx, (hb hby d5_67), Xg_4.method', Bd.returns, narrow]
  first | (intro acts; rw [hr _ acts rfl rfl rfl]) | rw [hr _ _ rfl rfl rfl]
  exact Steps.refl _
theorem pd_1 : parseMethodDescriptor "([I[J[J[I[J)V" = some ⟨[(.array .int), (.array .long), (.array .long), (.array .int), (.array .long)], none⟩ := by decide +kernel
theorem pd_3 : parseMethodDescriptor "(I)Z" = some ⟨[.int], some .boolean⟩ := by decide +kernel
theorem pd_4 : parseMethodDescriptor "(I)Z" = some ⟨[.int], some .boolean⟩ := by decide +kernel
theorem pd_5 : parseMethodDescriptor "([JII)J" = some ⟨[(.array .long), .int, .int], some .long⟩ := by decide +kernel
theorem pn_0 : plainName "com/example/riverfront/riverfront/solver/VectorMapScalesInPlacePinLaw" = true := by first | (simp [plainName, overriddenIn]; done) | decide +kernel
theorem ef_0 (m : MethodId) (x0 : Int32) (x1 : Int32) (x2 : Int64) (x3 : Int64) (x4 : Int32) (x5 : Int64) : entryFrame m #[(.int x0), (.int x1), (.long x2), (.long x3), (.int x4), (.long x5)] maxLocals = mkF m 0 #[.val (.int x0), .val (.int x1), .val (.long x2), .second, .val (.long x3), .second, .val (.int x4), .val (.long x5), .second, .unset, .unset, .unset, .unset, .unset, .unset, .unset, .unset, .unset, .unset, .unset, .unset, .unset, .unset] [] := by first | (simp [entryFrame, mkF, argsToLocals, Value.category, maxLocals]; done) | rfl
def Q0 (Z : State) (p1 p2 : Int32) (q3 q4 : Int64) (p5 : Int32) (q6 : Int64) (h0 : Heap) (n0 : Nat) (v : Option Value) (h : Heap) (L : List Loc) : Prop := v = some (.int (1 : Int32)) ∧ Fr n0 L
set_option maxRecDepth 65536 in
set_option maxHeartbeats 40000000 in
theorem rm0 (l : Launch) (Z : State) (a0 : Array Value) (hw : ∀ d ∈ tables_1, d.before a0 Z = true) (ws : List Jvm.Cond) (p1 p2 : Int32) (q3 q4 : Int64) (p5 : Int32) (q6 : Int64) (h0 : Heap) (n0 : Nat) (Z0 : n0 ≤ h0.size) :
    MetFree l x (head1 (Jvm.Cond.code x code maxLocals ret :: ws) room_1) (fun a U => a = #[(.int p1), (.int p2), (.long q3), (.long q4), (.int p5), (.long q6)] ∧ Z.Warmed39 U.vm ∧ U.heap = h0) (fun _ _ _ _ _ => True) (fun _ U o U' => ∃ v L, o = .returned v ∧ Q0 Z p1 p2 q3 q4 p5 q6 h0 n0 v U'.heap L ∧ FrameEnd U o U' L room_1.cells room_1.slots) := by
  refine MetFree.of_bodySF (plainFor_of_name pn_0) hisR ?_
  intro p e s m args below meth c s₁ Bd hml0 hP hK
  obtain ⟨rfl, hZ, hh⟩ := hP
  have hx := Bd.exec
  have hby := Bd.bytes
  have hml : c.maxLocals = 23 := hml0
  have hown : s.vm.findClass "com/example/riverfront/riverfront/solver/VectorMapScalesInPlacePinLaw" = some m.cls := findClass_of_methodNamed Bd.named
  have hnm := (name_of_methodNamed Bd.named Bd.method).1
  have X0 : Stand p l e room_1 s m #[(.int p1), (.int p2), (.long q3), (.long q4), (.int p5), (.long q6)] below meth c s₁ [] 0 0 := Stand.of_body Bd
  have e0 : s₁.heap = h0 := by rw [← hh, Bd.state]; rfl
  have N0 := Fr.nil n0
  show own_Fin p e below (fun o U' => ∃ v L, o = .returned v ∧ Q0 Z p1 p2 q3 q4 p5 q6 h0 n0 v U'.heap L ∧ FrameEnd s o U' L room_1.cells room_1.slots) (s₁.setTop (entryFrame m #[(.int p1), (.int p2), (.long q3), (.long q4), (.int p5), (.long q6)] maxLocals))
  refine own_lift (fun t k => castTop (ef_0 m p1 p2 q3 q4 p5 q6) k) ?_
  show own_Fin p e below _ (s₁.setTop (mkF m 0 #[.val (.int p1), .val (.int p2), .val (.long q3), .second, .val (.long q4), .second, .val (.int p5), .val (.long q6), .second, .unset, .unset, .unset, .unset, .unset, .unset, .unset, .unset, .unset, .unset, .unset, .unset, .unset, .unset] []))
  refine own_lift (fun t k => XS.iloadN X0.here hx rfl (hb hby at_0) rfl k) ?_
  show own_Fin p e below _ (s₁.setTop (mkF m 1 #[.val (.int p1), .val (.int p2), .val (.long q3), .second, .val (.long q4), .second, .val (.int p5), .val (.long q6), .second, .unset, .unset, .unset, .unset, .unset, .unset, .unset, .unset, .unset, .unset, .unset, .unset, .unset, .unset] [(.int p1)]))
  refine own_lift (fun t k => X0.ldcI hx hown (mvT hZ (hw _ (List.mem_of_getElem? (i := 0) rfl))) rfl (hb hby at_1) k) ?_
  show own_Fin p e below _ (s₁.setTop (mkF m 3 #[.val (.int p1), .val (.int p2), .val (.long q3), .second, .val (.long q4), .second, .val (.int p5), .val (.long q6), .second, .unset, .unset, .unset, .unset, .unset, .unset, .unset, .unset, .unset, .unset, .unset, .unset, .unset, .unset] [(.int (2147483647 : Int32)), (.int p1)]))
  refine own_lift (fun t k => XS.iand X0.here hx rfl (hb hby at_3) rfl k) ?_
  show own_Fin p e below _ (s₁.setTop (mkF m 4 #[.val (.int p1), .val (.int p2), .val (.long q3), .second, .val (.long q4), .second, .val (.int p5), .val (.long q6), .second, .unset, .unset, .unset, .unset, .unset, .unset, .unset, .unset, .unset, .unset, .unset, .unset, .unset, .unset] [(.int (p1 &&& (2147483647 : Int32)))]))
  refine own_lift (fun t k => XS.iconst X0.here hx rfl (hb hby at_4) k) ?_
  show own_Fin p e below _ (s₁.setTop (mkF m 5 #[.val (.int p1), .val (.int p2), .val (.long q3), .second, .val (.long q4), .second, .val (.int p5), .val (.long q6), .second, .unset, .unset, .unset, .unset, .unset, .unset, .unset, .unset, .unset, .unset, .unset, .unset, .unset, .unset] [(.int (3 : Int32)), (.int (p1 &&& (2147483647 : Int32)))]))
  refine own_lift (fun t k => Jvm.RoadKit.iremM X0 hx rfl (hb hby at_5) rfl (by decide) k) ?_
  show own_Fin p e below _ (s₁.setTop (mkF m 6 #[.val (.int p1), .val (.int p2), .val (.long q3), .second, .val (.long q4), .second, .val (.int p5), .val (.long q6), .second, .unset, .unset, .unset, .unset, .unset, .unset, .unset, .unset, .unset, .unset, .unset, .unset, .unset, .unset] [(.int ((p1 &&& (2147483647 : Int32)) % (3 : Int32)))]))
  refine own_lift (fun t k => XS.istore X0.here hx rfl (hb hby at_6) rfl (l' := #[.val (.int p1), .val (.int p2), .val (.long q3), .second, .val (.long q4), .second, .val (.int p5), .val (.long q6), .second, .val (.int ((p1 &&& (2147483647 : Int32)) % (3 : Int32))), .unset, .unset, .unset, .unset, .unset, .unset, .unset, .unset, .unset, .unset, .unset, .unset, .unset]) rfl k) ?_
  show own_Fin p e below _ (s₁.setTop (mkF m 8 #[.val (.int p1), .val (.int p2), .val (.long q3), .second, .val (.long q4), .second, .val (.int p5), .val (.long q6), .second, .val (.int ((p1 &&& (2147483647 : Int32)) % (3 : Int32))), .unset, .unset, .unset, .unset, .unset, .unset, .unset, .unset, .unset, .unset, .unset, .unset, .unset] []))
  refine own_lift (fun t k => XS.iloadN X0.here hx rfl (hb hby at_8) rfl k) ?_
  show own_Fin p e below _ (s₁.setTop (mkF m 9 #[.val (.int p1), .val (.int p2), .val (.long q3), .second, .val (.long q4), .second, .val (.int p5), .val (.long q6), .second, .val (.int ((p1 &&& (2147483647 : Int32)) % (3 : Int32))), .unset, .unset, .unset, .unset, .unset, .unset, .unset, .unset, .unset, .unset, .unset, .unset, .unset] [(.int p2)]))
  refine own_lift (fun t k => X0.ldcI hx hown (mvT hZ (hw _ (List.mem_of_getElem? (i := 0) rfl))) rfl (hb hby at_9) k) ?_
  show own_Fin p e below _ (s₁.setTop (mkF m 11 #[.val (.int p1), .val (.int p2), .val (.long q3), .second, .val (.long q4), .second, .val (.int p5), .val (.long q6), .second, .val (.int ((p1 &&& (2147483647 : Int32)) % (3 : Int32))), .unset, .unset, .unset, .unset, .unset, .unset, .unset, .unset, .unset, .unset, .unset, .unset, .unset] [(.int (2147483647 : Int32)), (.int p2)]))
  refine own_lift (fun t k => XS.iand X0.here hx rfl (hb hby at_11) rfl k) ?_
  show own_Fin p e below _ (s₁.setTop (mkF m 12 #[.val (.int p1), .val (.int p2), .val (.long q3), .second, .val (.long q4), .second, .val (.int p5), .val (.long q6), .second, .val (.int ((p1 &&& (2147483647 : Int32)) % (3 : Int32))), .unset, .unset, .unset, .unset, .unset, .unset, .unset, .unset, .unset, .unset, .unset, .unset, .unset] [(.int (p2 &&& (2147483647 : Int32)))]))
  refine own_lift (fun t k => XS.iconst X0.here hx rfl (hb hby at_12) k) ?_
  show own_Fin p e below _ (s₁.setTop (mkF m 13 #[.val (.int p1), .val (.int p2), .val (.long q3), .second, .val (.long q4), .second, .val (.int p5), .val (.long q6), .second, .val (.int ((p1 &&& (2147483647 : Int32)) % (3 : Int32))), .unset, .unset, .unset, .unset, .unset, .unset, .unset, .unset, .unset, .unset, .unset, .unset, .unset] [(.int (3 : Int32)), (.int (p2 &&& (2147483647 : Int32)))]))
  refine own_lift (fun t k => Jvm.RoadKit.iremM X0 hx rfl (hb hby at_13) rfl (by decide) k) ?_
  show own_Fin p e below _ (s₁.setTop (mkF m 14 #[.val (.int p1), .val (.int p2), .val (.long q3), .second, .val (.long q4), .second, .val (.int p5), .val (.long q6), .second, .val (.int ((p1 &&& (2147483647 : Int32)) % (3 : Int32))), .unset, .unset, .unset, .unset, .unset, .unset, .unset, .unset, .unset, .unset, .unset, .unset, .unset] [(.int ((p2 &&& (2147483647 : Int32)) % (3 : Int32)))]))
  refine own_lift (fun t k => XS.istore X0.here hx rfl (hb hby at_14) rfl (l' := #[.val (.int p1), .val (.int p2), .val (.long q3), .second, .val (.long q4), .second, .val (.int p5), .val (.long q6), .second, .val (.int ((p1 &&& (2147483647 : Int32)) % (3 : Int32))), .val (.int ((p2 &&& (2147483647 : Int32)) % (3 : Int32))), .unset, .unset, .unset, .unset, .unset, .unset, .unset, .unset, .unset, .unset, .unset, .unset]) rfl k) ?_
  show own_Fin p e below _ (s₁.setTop (mkF m 16 #[.val (.int p1), .val (.int p2), .val (.long q3), .second, .val (.long q4), .second, .val (.int p5), .val (.long q6), .second, .val (.int ((p1 &&& (2147483647 : Int32)) % (3 : Int32))), .val (.int ((p2 &&& (2147483647 : Int32)) % (3 : Int32))), .unset, .unset, .unset, .unset, .unset, .unset, .unset, .unset, .unset, .unset, .unset, .unset] []))
  obtain ⟨J, hJ, eJ⟩ := own_rem3 p1
  rw [eJ]
  generalize ((p2 &&& (2147483647 : Int32)) % (3 : Int32)) = sv
  show own_Fin p e below _ (s₁.setTop (mkF m 16 #[.val (.int p1), .val (.int p2), .val (.long q3), .second, .val (.long q4), .second, .val (.int p5), .val (.long q6), .second, .val (.int (Int32.ofNat J)), .val (.int sv), .unset, .unset, .unset, .unset, .unset, .unset, .unset, .unset, .unset, .unset, .unset, .unset] []))
  have j33 : ∀ (T1 : State) (locs1 : List Loc) (f : Int64), Stand p l e room_1 s m #[(.int p1), (.int p2), (.long q3), (.long q4), (.int p5), (.long q6)] below meth c T1 locs1 0 0 → T1.heap = h0 → Fr n0 locs1 → ¬ f < 0 → own_Fin p e below (fun o U' => ∃ v L, o = .returned v ∧ Q0 Z p1 p2 q3 q4 p5 q6 h0 n0 v U'.heap L ∧ FrameEnd s o U' L room_1.cells room_1.slots) (T1.setTop (mkF m 33 #[.val (.int p1), .val (.int p2), .val (.long q3), .second, .val (.long q4), .second, .val (.int p5), .val (.long q6), .second, .val (.int (Int32.ofNat J)), .val (.int sv), .unset, .unset, .unset, .unset, .unset, .unset, .unset, .unset, .unset, .unset, .unset, .unset] [(.long f)])) := by
    intro T1 locs1 f X1 e1 N1 hf
    have hpos := own_pos hf
    refine own_lift (fun t k => XS.lstore X1.here hx rfl (hb hby at_33) rfl (l' := #[.val (.int p1), .val (.int p2), .val (.long q3), .second, .val (.long q4), .second, .val (.int p5), .val (.long q6), .second, .val (.int (Int32.ofNat J)), .val (.int sv), .val (.long f), .second, .unset, .unset, .unset, .unset, .unset, .unset, .unset, .unset, .unset, .unset]) rfl k) ?_
    show own_Fin p e below _ (T1.setTop (mkF m 35 #[.val (.int p1), .val (.int p2), .val (.long q3), .second, .val (.long q4), .second, .val (.int p5), .val (.long q6), .second, .val (.int (Int32.ofNat J)), .val (.int sv), .val (.long f), .second, .unset, .unset, .unset, .unset, .unset, .unset, .unset, .unset, .unset, .unset] []))
    refine own_lift (fun t k => XS.iload X1.here hx rfl (hb hby at_35) rfl k) ?_
    show own_Fin p e below _ (T1.setTop (mkF m 37 #[.val (.int p1), .val (.int p2), .val (.long q3), .second, .val (.long q4), .second, .val (.int p5), .val (.long q6), .second, .val (.int (Int32.ofNat J)), .val (.int sv), .val (.long f), .second, .unset, .unset, .unset, .unset, .unset, .unset, .unset, .unset, .unset, .unset] [(.int p5)]))
    refine own_lift (fun t k => X1.ldcI hx hown (mvT hZ (hw _ (List.mem_of_getElem? (i := 0) rfl))) rfl (hb hby at_37) k) ?_
    show own_Fin p e below _ (T1.setTop (mkF m 39 #[.val (.int p1), .val (.int p2), .val (.long q3), .second, .val (.long q4), .second, .val (.int p5), .val (.long q6), .second, .val (.int (Int32.ofNat J)), .val (.int sv), .val (.long f), .second, .unset, .unset, .unset, .unset, .unset, .unset, .unset, .unset, .unset, .unset] [(.int (2147483647 : Int32)), (.int p5)]))
    refine own_lift (fun t k => XS.iand X1.here hx rfl (hb hby at_39) rfl k) ?_
    show own_Fin p e below _ (T1.setTop (mkF m 40 #[.val (.int p1), .val (.int p2), .val (.long q3), .second, .val (.long q4), .second, .val (.int p5), .val (.long q6), .second, .val (.int (Int32.ofNat J)), .val (.int sv), .val (.long f), .second, .unset, .unset, .unset, .unset, .unset, .unset, .unset, .unset, .unset, .unset] [(.int (p5 &&& (2147483647 : Int32)))]))
    refine own_lift (fun t k => XS.iconst X1.here hx rfl (hb hby at_40) k) ?_
    show own_Fin p e below _ (T1.setTop (mkF m 41 #[.val (.int p1), .val (.int p2), .val (.long q3), .second, .val (.long q4), .second, .val (.int p5), .val (.long q6), .second, .val (.int (Int32.ofNat J)), .val (.int sv), .val (.long f), .second, .unset, .unset, .unset, .unset, .unset, .unset, .unset, .unset, .unset, .unset] [(.int (4 : Int32)), (.int (p5 &&& (2147483647 : Int32)))]))
    refine own_lift (fun t k => Jvm.RoadKit.iremM X1 hx rfl (hb hby at_41) rfl (by decide) k) ?_
    show own_Fin p e below _ (T1.setTop (mkF m 42 #[.val (.int p1), .val (.int p2), .val (.long q3), .second, .val (.long q4), .second, .val (.int p5), .val (.long q6), .second, .val (.int (Int32.ofNat J)), .val (.int sv), .val (.long f), .second, .unset, .unset, .unset, .unset, .unset, .unset, .unset, .unset, .unset, .unset] [(.int ((p5 &&& (2147483647 : Int32)) % (4 : Int32)))]))
    refine own_lift (fun t k => XS.iconst X1.here hx rfl (hb hby at_42) k) ?_
    show own_Fin p e below _ (T1.setTop (mkF m 43 #[.val (.int p1), .val (.int p2), .val (.long q3), .second, .val (.long q4), .second, .val (.int p5), .val (.long q6), .second, .val (.int (Int32.ofNat J)), .val (.int sv), .val (.long f), .second, .unset, .unset, .unset, .unset, .unset, .unset, .unset, .unset, .unset, .unset] [(.int (1 : Int32)), (.int ((p5 &&& (2147483647 : Int32)) % (4 : Int32)))]))
    refine own_lift (fun t k => XS.isub X1.here hx rfl (hb hby at_43) rfl k) ?_
    show own_Fin p e below _ (T1.setTop (mkF m 44 #[.val (.int p1), .val (.int p2), .val (.long q3), .second, .val (.long q4), .second, .val (.int p5), .val (.long q6), .second, .val (.int (Int32.ofNat J)), .val (.int sv), .val (.long f), .second, .unset, .unset, .unset, .unset, .unset, .unset, .unset, .unset, .unset, .unset] [(.int (((p5 &&& (2147483647 : Int32)) % (4 : Int32)) - (1 : Int32)))]))
    refine own_lift (fun t k => XS.istore X1.here hx rfl (hb hby at_44) rfl (l' := #[.val (.int p1), .val (.int p2), .val (.long q3), .second, .val (.long q4), .second, .val (.int p5), .val (.long q6), .second, .val (.int (Int32.ofNat J)), .val (.int sv), .val (.long f), .second, .val (.int (((p5 &&& (2147483647 : Int32)) % (4 : Int32)) - (1 : Int32))), .unset, .unset, .unset, .unset, .unset, .unset, .unset, .unset, .unset]) rfl k) ?_
    show own_Fin p e below _ (T1.setTop (mkF m 46 #[.val (.int p1), .val (.int p2), .val (.long q3), .second, .val (.long q4), .second, .val (.int p5), .val (.long q6), .second, .val (.int (Int32.ofNat J)), .val (.int sv), .val (.long f), .second, .val (.int (((p5 &&& (2147483647 : Int32)) % (4 : Int32)) - (1 : Int32))), .unset, .unset, .unset, .unset, .unset, .unset, .unset, .unset, .unset] []))
    generalize (((p5 &&& (2147483647 : Int32)) % (4 : Int32)) - (1 : Int32)) = qv
    show own_Fin p e below _ (T1.setTop (mkF m 46 #[.val (.int p1), .val (.int p2), .val (.long q3), .second, .val (.long q4), .second, .val (.int p5), .val (.long q6), .second, .val (.int (Int32.ofNat J)), .val (.int sv), .val (.long f), .second, .val (.int qv), .unset, .unset, .unset, .unset, .unset, .unset, .unset, .unset, .unset] []))
    refine own_lift (fun t k => XS.iconst X1.here hx rfl (hb hby at_46) k) ?_
    show own_Fin p e below _ (T1.setTop (mkF m 47 #[.val (.int p1), .val (.int p2), .val (.long q3), .second, .val (.long q4), .second, .val (.int p5), .val (.long q6), .second, .val (.int (Int32.ofNat J)), .val (.int sv), .val (.long f), .second, .val (.int qv), .unset, .unset, .unset, .unset, .unset, .unset, .unset, .unset, .unset] [(.int (3 : Int32))]))
    obtain ⟨Ta_1, ha_1, ka_1, Xa_1, ea_1, Ea_1, Aa_1, sta_1⟩ := newP X1 hx hZ (hw _ (List.mem_of_getElem? (i := 2) rfl)) e1 (g := (mkF m 47 #[.val (.int p1), .val (.int p2), .val (.long q3), .second, .val (.long q4), .second, .val (.int p5), .val (.long q6), .second, .val (.int (Int32.ofNat J)), .val (.int sv), .val (.long f), .second, .val (.int qv), .unset, .unset, .unset, .unset, .unset, .unset, .unset, .unset, .unset] [(.int (3 : Int32))])) rfl (hb hby at_47) rfl (by decide) (cap := 3) (by decide) (by decide) (by decide) (by decide)
    obtain ⟨ba_1, ga_1⟩ : ∃ z, z = h0.size := ⟨_, rfl⟩
    rw [← ga_1] at Aa_1 sta_1
    have gba_1 : n0 ≤ ba_1 := Nat.le_trans Z0 (Nat.le_of_eq ga_1.symm)
    have SZa_1 : n0 ≤ ha_1.size := Nat.le_trans Z0 Ea_1.1
    have Va_1 : Arv Z ha_1 ba_1 ka_1 .int (3 : Int32) [(.int (0 : Int32)), (.int (0 : Int32)), (.int (0 : Int32))] (.int (0 : Int32)) := (Arv.new Aa_1 (by decide)).pad (pad_rep [] (.int (0 : Int32)) 3)
    refine own_lift (fun t k => sta_1 _ k) ?_
    show own_Fin p e below _ (Ta_1.setTop (mkF m 49 #[.val (.int p1), .val (.int p2), .val (.long q3), .second, .val (.long q4), .second, .val (.int p5), .val (.long q6), .second, .val (.int (Int32.ofNat J)), .val (.int sv), .val (.long f), .second, .val (.int qv), .unset, .unset, .unset, .unset, .unset, .unset, .unset, .unset, .unset] [(.ref ba_1)]))
    refine own_lift (fun t k => XS.dup Xa_1.here hx rfl (hb hby at_49) rfl rfl k) ?_
    show own_Fin p e below _ (Ta_1.setTop (mkF m 50 #[.val (.int p1), .val (.int p2), .val (.long q3), .second, .val (.long q4), .second, .val (.int p5), .val (.long q6), .second, .val (.int (Int32.ofNat J)), .val (.int sv), .val (.long f), .second, .val (.int qv), .unset, .unset, .unset, .unset, .unset, .unset, .unset, .unset, .unset] [(.ref ba_1), (.ref ba_1)]))
    refine own_lift (fun t k => XS.iconst Xa_1.here hx rfl (hb hby at_50) k) ?_
    show own_Fin p e below _ (Ta_1.setTop (mkF m 51 #[.val (.int p1), .val (.int p2), .val (.long q3), .second, .val (.long q4), .second, .val (.int p5), .val (.long q6), .second, .val (.int (Int32.ofNat J)), .val (.int sv), .val (.long f), .second, .val (.int qv), .unset, .unset, .unset, .unset, .unset, .unset, .unset, .unset, .unset] [(.int (0 : Int32)), (.ref ba_1), (.ref ba_1)]))
    refine own_lift (fun t k => XS.iconst Xa_1.here hx rfl (hb hby at_51) k) ?_
    show own_Fin p e below _ (Ta_1.setTop (mkF m 52 #[.val (.int p1), .val (.int p2), .val (.long q3), .second, .val (.long q4), .second, .val (.int p5), .val (.long q6), .second, .val (.int (Int32.ofNat J)), .val (.int sv), .val (.long f), .second, .val (.int qv), .unset, .unset, .unset, .unset, .unset, .unset, .unset, .unset, .unset] [(.int (0 : Int32)), (.int (0 : Int32)), (.ref ba_1), (.ref ba_1)]))
    have cpv_2 := Va_1
    obtain ⟨clv_2, Arv_2, qv_2, Sv_2, Mv_2, Hv_2, Gv_2⟩ := cpv_2
    obtain ⟨Tw_3, hw_3, Xw_3, ew_3, Ww_3, stw_3⟩ := stI Xa_1 hx hZ ea_1 Arv_2 (j := (0 : Int32)) (inb_of Sv_2 ⟨by decide, by decide⟩) (g := (mkF m 52 #[.val (.int p1), .val (.int p2), .val (.long q3), .second, .val (.long q4), .second, .val (.int p5), .val (.long q6), .second, .val (.int (Int32.ofNat J)), .val (.int sv), .val (.long f), .second, .val (.int qv), .unset, .unset, .unset, .unset, .unset, .unset, .unset, .unset, .unset] [(.int (0 : Int32)), (.int (0 : Int32)), (.ref ba_1), (.ref ba_1)])) rfl rfl (hb hby at_52)
    have SZw_3 : n0 ≤ hw_3.size := Nat.le_trans SZa_1 (Keep.of_wr Ww_3).1
    have Vw_3 : Arv Z hw_3 ba_1 ka_1 .int (3 : Int32) [(.int (0 : Int32)), (.int (0 : Int32)), (.int (0 : Int32))] (.int (0 : Int32)) := Arv.set Arv_2 qv_2 Sv_2 Mv_2 Hv_2 Gv_2 rfl Ww_3 0 rfl (Nat.le_of_ble_eq_true rfl)
    have Nw_3 := Fr.snoc Xw_3 N1 gba_1
    refine own_lift (fun t k => stw_3 _ k) ?_
    show own_Fin p e below _ (Tw_3.setTop (mkF m 53 #[.val (.int p1), .val (.int p2), .val (.long q3), .second, .val (.long q4), .second, .val (.int p5), .val (.long q6), .second, .val (.int (Int32.ofNat J)), .val (.int sv), .val (.long f), .second, .val (.int qv), .unset, .unset, .unset, .unset, .unset, .unset, .unset, .unset, .unset] [(.ref ba_1)]))
    refine own_lift (fun t k => XS.dup Xw_3.here hx rfl (hb hby at_53) rfl rfl k) ?_
    show own_Fin p e below _ (Tw_3.setTop (mkF m 54 #[.val (.int p1), .val (.int p2), .val (.long q3), .second, .val (.long q4), .second, .val (.int p5), .val (.long q6), .second, .val (.int (Int32.ofNat J)), .val (.int sv), .val (.long f), .second, .val (.int qv), .unset, .unset, .unset, .unset, .unset, .unset, .unset, .unset, .unset] [(.ref ba_1), (.ref ba_1)]))
    refine own_lift (fun t k => XS.iconst Xw_3.here hx rfl (hb hby at_54) k) ?_
    show own_Fin p e below _ (Tw_3.setTop (mkF m 55 #[.val (.int p1), .val (.int p2), .val (.long q3), .second, .val (.long q4), .second, .val (.int p5), .val (.long q6), .second, .val (.int (Int32.ofNat J)), .val (.int sv), .val (.long f), .second, .val (.int qv), .unset, .unset, .unset, .unset, .unset, .unset, .unset, .unset, .unset] [(.int (1 : Int32)), (.ref ba_1), (.ref ba_1)]))
    refine own_lift (fun t k => XS.iconst Xw_3.here hx rfl (hb hby at_55) k) ?_
    show own_Fin p e below _ (Tw_3.setTop (mkF m 56 #[.val (.int p1), .val (.int p2), .val (.long q3), .second, .val (.long q4), .second, .val (.int p5), .val (.long q6), .second, .val (.int (Int32.ofNat J)), .val (.int sv), .val (.long f), .second, .val (.int qv), .unset, .unset, .unset, .unset, .unset, .unset, .unset, .unset, .unset] [(.int (1 : Int32)), (.int (1 : Int32)), (.ref ba_1), (.ref ba_1)]))
    have cpv_4 := Vw_3
    obtain ⟨clv_4, Arv_4, qv_4, Sv_4, Mv_4, Hv_4, Gv_4⟩ := cpv_4
    obtain ⟨Tw_5, hw_5, Xw_5, ew_5, Ww_5, stw_5⟩ := stI Xw_3 hx hZ ew_3 Arv_4 (j := (1 : Int32)) (inb_of Sv_4 ⟨by decide, by decide⟩) (g := (mkF m 56 #[.val (.int p1), .val (.int p2), .val (.long q3), .second, .val (.long q4), .second, .val (.int p5), .val (.long q6), .second, .val (.int (Int32.ofNat J)), .val (.int sv), .val (.long f), .second, .val (.int qv), .unset, .unset, .unset, .unset, .unset, .unset, .unset, .unset, .unset] [(.int (1 : Int32)), (.int (1 : Int32)), (.ref ba_1), (.ref ba_1)])) rfl rfl (hb hby at_56)
    have SZw_5 : n0 ≤ hw_5.size := Nat.le_trans SZw_3 (Keep.of_wr Ww_5).1
    have Vw_5 : Arv Z hw_5 ba_1 ka_1 .int (3 : Int32) [(.int (0 : Int32)), (.int (1 : Int32)), (.int (0 : Int32))] (.int (0 : Int32)) := Arv.set Arv_4 qv_4 Sv_4 Mv_4 Hv_4 Gv_4 rfl Ww_5 1 rfl (Nat.le_of_ble_eq_true rfl)
    have Nw_5 := Fr.snoc Xw_5 Nw_3 gba_1
    refine own_lift (fun t k => stw_5 _ k) ?_
    show own_Fin p e below _ (Tw_5.setTop (mkF m 57 #[.val (.int p1), .val (.int p2), .val (.long q3), .second, .val (.long q4), .second, .val (.int p5), .val (.long q6), .second, .val (.int (Int32.ofNat J)), .val (.int sv), .val (.long f), .second, .val (.int qv), .unset, .unset, .unset, .unset, .unset, .unset, .unset, .unset, .unset] [(.ref ba_1)]))
    refine own_lift (fun t k => XS.dup Xw_5.here hx rfl (hb hby at_57) rfl rfl k) ?_
    show own_Fin p e below _ (Tw_5.setTop (mkF m 58 #[.val (.int p1), .val (.int p2), .val (.long q3), .second, .val (.long q4), .second, .val (.int p5), .val (.long q6), .second, .val (.int (Int32.ofNat J)), .val (.int sv), .val (.long f), .second, .val (.int qv), .unset, .unset, .unset, .unset, .unset, .unset, .unset, .unset, .unset] [(.ref ba_1), (.ref ba_1)]))
    refine own_lift (fun t k => XS.iconst Xw_5.here hx rfl (hb hby at_58) k) ?_
    show own_Fin p e below _ (Tw_5.setTop (mkF m 59 #[.val (.int p1), .val (.int p2), .val (.long q3), .second, .val (.long q4), .second, .val (.int p5), .val (.long q6), .second, .val (.int (Int32.ofNat J)), .val (.int sv), .val (.long f), .second, .val (.int qv), .unset, .unset, .unset, .unset, .unset, .unset, .unset, .unset, .unset] [(.int (2 : Int32)), (.ref ba_1), (.ref ba_1)]))
    refine own_lift (fun t k => XS.iconst Xw_5.here hx rfl (hb hby at_59) k) ?_
    show own_Fin p e below _ (Tw_5.setTop (mkF m 60 #[.val (.int p1), .val (.int p2), .val (.long q3), .second, .val (.long q4), .second, .val (.int p5), .val (.long q6), .second, .val (.int (Int32.ofNat J)), .val (.int sv), .val (.long f), .second, .val (.int qv), .unset, .unset, .unset, .unset, .unset, .unset, .unset, .unset, .unset] [(.int (2 : Int32)), (.int (2 : Int32)), (.ref ba_1), (.ref ba_1)]))
    have cpv_6 := Vw_5
    obtain ⟨clv_6, Arv_6, qv_6, Sv_6, Mv_6, Hv_6, Gv_6⟩ := cpv_6
    obtain ⟨Tw_7, hw_7, Xw_7, ew_7, Ww_7, stw_7⟩ := stI Xw_5 hx hZ ew_5 Arv_6 (j := (2 : Int32)) (inb_of Sv_6 ⟨by decide, by decide⟩) (g := (mkF m 60 #[.val (.int p1), .val (.int p2), .val (.long q3), .second, .val (.long q4), .second, .val (.int p5), .val (.long q6), .second, .val (.int (Int32.ofNat J)), .val (.int sv), .val (.long f), .second, .val (.int qv), .unset, .unset, .unset, .unset, .unset, .unset, .unset, .unset, .unset] [(.int (2 : Int32)), (.int (2 : Int32)), (.ref ba_1), (.ref ba_1)])) rfl rfl (hb hby at_60)
    have SZw_7 : n0 ≤ hw_7.size := Nat.le_trans SZw_5 (Keep.of_wr Ww_7).1
    have Vw_7 : Arv Z hw_7 ba_1 ka_1 .int (3 : Int32) [(.int (0 : Int32)), (.int (1 : Int32)), (.int (2 : Int32))] (.int (0 : Int32)) := Arv.set Arv_6 qv_6 Sv_6 Mv_6 Hv_6 Gv_6 rfl Ww_7 2 rfl (Nat.le_of_ble_eq_true rfl)
    have Nw_7 := Fr.snoc Xw_7 Nw_5 gba_1
    refine own_lift (fun t k => stw_7 _ k) ?_
    show own_Fin p e below _ (Tw_7.setTop (mkF m 61 #[.val (.int p1), .val (.int p2), .val (.long q3), .second, .val (.long q4), .second, .val (.int p5), .val (.long q6), .second, .val (.int (Int32.ofNat J)), .val (.int sv), .val (.long f), .second, .val (.int qv), .unset, .unset, .unset, .unset, .unset, .unset, .unset, .unset, .unset] [(.ref ba_1)]))
    refine own_lift (fun t k => XS.astore Xw_7.here hx rfl (hb hby at_61) rfl rfl (l' := #[.val (.int p1), .val (.int p2), .val (.long q3), .second, .val (.long q4), .second, .val (.int p5), .val (.long q6), .second, .val (.int (Int32.ofNat J)), .val (.int sv), .val (.long f), .second, .val (.int qv), .val (.ref ba_1), .unset, .unset, .unset, .unset, .unset, .unset, .unset, .unset]) rfl k) ?_
    show own_Fin p e below _ (Tw_7.setTop (mkF m 63 #[.val (.int p1), .val (.int p2), .val (.long q3), .second, .val (.long q4), .second, .val (.int p5), .val (.long q6), .second, .val (.int (Int32.ofNat J)), .val (.int sv), .val (.long f), .second, .val (.int qv), .val (.ref ba_1), .unset, .unset, .unset, .unset, .unset, .unset, .unset, .unset] []))
    refine own_lift (fun t k => XS.iconst Xw_7.here hx rfl (hb hby at_63) k) ?_
    show own_Fin p e below _ (Tw_7.setTop (mkF m 64 #[.val (.int p1), .val (.int p2), .val (.long q3), .second, .val (.long q4), .second, .val (.int p5), .val (.long q6), .second, .val (.int (Int32.ofNat J)), .val (.int sv), .val (.long f), .second, .val (.int qv), .val (.ref ba_1), .unset, .unset, .unset, .unset, .unset, .unset, .unset, .unset] [(.int (3 : Int32))]))
    obtain ⟨Ta_8, ha_8, ka_8, Xa_8, ea_8, Ea_8, Aa_8, sta_8⟩ := newP Xw_7 hx hZ (hw _ (List.mem_of_getElem? (i := 3) rfl)) ew_7 (g := (mkF m 64 #[.val (.int p1), .val (.int p2), .val (.long q3), .second, .val (.long q4), .second, .val (.int p5), .val (.long q6), .second, .val (.int (Int32.ofNat J)), .val (.int sv), .val (.long f), .second, .val (.int qv), .val (.ref ba_1), .unset, .unset, .unset, .unset, .unset, .unset, .unset, .unset] [(.int (3 : Int32))])) rfl (hb hby at_64) rfl (by decide) (cap := 3) (by decide) (by decide) (by decide) (by decide)
    obtain ⟨ba_8, ga_8⟩ : ∃ z, z = hw_7.size := ⟨_, rfl⟩
    rw [← ga_8] at Aa_8 sta_8
    have nea_8_ba_1 : ba_1 ≠ ba_8 := Nat.ne_of_lt (Nat.lt_of_lt_of_le Vw_7.lt (Nat.le_of_eq ga_8.symm))
    have gba_8 : n0 ≤ ba_8 := Nat.le_trans SZw_7 (Nat.le_of_eq ga_8.symm)
    have va_8_ba_1 := Vw_7.ext Ea_8
    have SZa_8 : n0 ≤ ha_8.size := Nat.le_trans SZw_7 Ea_8.1
    have Va_8 : Arv Z ha_8 ba_8 ka_8 .long (3 : Int32) [(.long (0 : Int64)), (.long (0 : Int64)), (.long (0 : Int64))] (.long (0 : Int64)) := (Arv.new Aa_8 (by decide)).pad (pad_rep [] (.long (0 : Int64)) 3)
    refine own_lift (fun t k => sta_8 _ k) ?_
    show own_Fin p e below _ (Ta_8.setTop (mkF m 66 #[.val (.int p1), .val (.int p2), .val (.long q3), .second, .val (.long q4), .second, .val (.int p5), .val (.long q6), .second, .val (.int (Int32.ofNat J)), .val (.int sv), .val (.long f), .second, .val (.int qv), .val (.ref ba_1), .unset, .unset, .unset, .unset, .unset, .unset, .unset, .unset] [(.ref ba_8)]))
    refine own_lift (fun t k => XS.dup Xa_8.here hx rfl (hb hby at_66) rfl rfl k) ?_
    show own_Fin p e below _ (Ta_8.setTop (mkF m 67 #[.val (.int p1), .val (.int p2), .val (.long q3), .second, .val (.long q4), .second, .val (.int p5), .val (.long q6), .second, .val (.int (Int32.ofNat J)), .val (.int sv), .val (.long f), .second, .val (.int qv), .val (.ref ba_1), .unset, .unset, .unset, .unset, .unset, .unset, .unset, .unset] [(.ref ba_8), (.ref ba_8)]))
    refine own_lift (fun t k => XS.iconst Xa_8.here hx rfl (hb hby at_67) k) ?_
    show own_Fin p e below _ (Ta_8.setTop (mkF m 68 #[.val (.int p1), .val (.int p2), .val (.long q3), .second, .val (.long q4), .second, .val (.int p5), .val (.long q6), .second, .val (.int (Int32.ofNat J)), .val (.int sv), .val (.long f), .second, .val (.int qv), .val (.ref ba_1), .unset, .unset, .unset, .unset, .unset, .unset, .unset, .unset] [(.int (0 : Int32)), (.ref ba_8), (.ref ba_8)]))
    refine own_lift (fun t k => XS.lconst Xa_8.here hx rfl (hb hby at_68) k) ?_
    show own_Fin p e below _ (Ta_8.setTop (mkF m 69 #[.val (.int p1), .val (.int p2), .val (.long q3), .second, .val (.long q4), .second, .val (.int p5), .val (.long q6), .second, .val (.int (Int32.ofNat J)), .val (.int sv), .val (.long f), .second, .val (.int qv), .val (.ref ba_1), .unset, .unset, .unset, .unset, .unset, .unset, .unset, .unset] [(.long (1 : Int64)), (.int (0 : Int32)), (.ref ba_8), (.ref ba_8)]))
    have cpv_9 := Va_8
    obtain ⟨clv_9, Arv_9, qv_9, Sv_9, Mv_9, Hv_9, Gv_9⟩ := cpv_9
    obtain ⟨Tw_10, hw_10, Xw_10, ew_10, Ww_10, stw_10⟩ := stJ Xa_8 hx hZ ea_8 Arv_9 (j := (0 : Int32)) (inb_of Sv_9 ⟨by decide, by decide⟩) (g := (mkF m 69 #[.val (.int p1), .val (.int p2), .val (.long q3), .second, .val (.long q4), .second, .val (.int p5), .val (.long q6), .second, .val (.int (Int32.ofNat J)), .val (.int sv), .val (.long f), .second, .val (.int qv), .val (.ref ba_1), .unset, .unset, .unset, .unset, .unset, .unset, .unset, .unset] [(.long (1 : Int64)), (.int (0 : Int32)), (.ref ba_8), (.ref ba_8)])) rfl rfl (hb hby at_69)
    have vw_10_ba_1 := va_8_ba_1.other Ww_10 nea_8_ba_1
    have SZw_10 : n0 ≤ hw_10.size := Nat.le_trans SZa_8 (Keep.of_wr Ww_10).1
    have Vw_10 : Arv Z hw_10 ba_8 ka_8 .long (3 : Int32) [(.long (1 : Int64)), (.long (0 : Int64)), (.long (0 : Int64))] (.long (0 : Int64)) := Arv.set Arv_9 qv_9 Sv_9 Mv_9 Hv_9 Gv_9 rfl Ww_10 0 rfl (Nat.le_of_ble_eq_true rfl)
    have Nw_10 := Fr.snoc Xw_10 Nw_7 gba_8
    refine own_lift (fun t k => stw_10 _ k) ?_
    show own_Fin p e below _ (Tw_10.setTop (mkF m 70 #[.val (.int p1), .val (.int p2), .val (.long q3), .second, .val (.long q4), .second, .val (.int p5), .val (.long q6), .second, .val (.int (Int32.ofNat J)), .val (.int sv), .val (.long f), .second, .val (.int qv), .val (.ref ba_1), .unset, .unset, .unset, .unset, .unset, .unset, .unset, .unset] [(.ref ba_8)]))
    refine own_lift (fun t k => XS.dup Xw_10.here hx rfl (hb hby at_70) rfl rfl k) ?_
    show own_Fin p e below _ (Tw_10.setTop (mkF m 71 #[.val (.int p1), .val (.int p2), .val (.long q3), .second, .val (.long q4), .second, .val (.int p5), .val (.long q6), .second, .val (.int (Int32.ofNat J)), .val (.int sv), .val (.long f), .second, .val (.int qv), .val (.ref ba_1), .unset, .unset, .unset, .unset, .unset, .unset, .unset, .unset] [(.ref ba_8), (.ref ba_8)]))
    refine own_lift (fun t k => XS.iconst Xw_10.here hx rfl (hb hby at_71) k) ?_
    show own_Fin p e below _ (Tw_10.setTop (mkF m 72 #[.val (.int p1), .val (.int p2), .val (.long q3), .second, .val (.long q4), .second, .val (.int p5), .val (.long q6), .second, .val (.int (Int32.ofNat J)), .val (.int sv), .val (.long f), .second, .val (.int qv), .val (.ref ba_1), .unset, .unset, .unset, .unset, .unset, .unset, .unset, .unset] [(.int (1 : Int32)), (.ref ba_8), (.ref ba_8)]))
    refine own_lift (fun t k => Xw_10.ldc2J hx hown (mvT hZ (hw _ (List.mem_of_getElem? (i := 4) rfl))) rfl (hb hby at_72) k) ?_
    show own_Fin p e below _ (Tw_10.setTop (mkF m 75 #[.val (.int p1), .val (.int p2), .val (.long q3), .second, .val (.long q4), .second, .val (.int p5), .val (.long q6), .second, .val (.int (Int32.ofNat J)), .val (.int sv), .val (.long f), .second, .val (.int qv), .val (.ref ba_1), .unset, .unset, .unset, .unset, .unset, .unset, .unset, .unset] [(.long (2 : Int64)), (.int (1 : Int32)), (.ref ba_8), (.ref ba_8)]))
    have cpv_11 := Vw_10
    obtain ⟨clv_11, Arv_11, qv_11, Sv_11, Mv_11, Hv_11, Gv_11⟩ := cpv_11
    obtain ⟨Tw_12, hw_12, Xw_12, ew_12, Ww_12, stw_12⟩ := stJ Xw_10 hx hZ ew_10 Arv_11 (j := (1 : Int32)) (inb_of Sv_11 ⟨by decide, by decide⟩) (g := (mkF m 75 #[.val (.int p1), .val (.int p2), .val (.long q3), .second, .val (.long q4), .second, .val (.int p5), .val (.long q6), .second, .val (.int (Int32.ofNat J)), .val (.int sv), .val (.long f), .second, .val (.int qv), .val (.ref ba_1), .unset, .unset, .unset, .unset, .unset, .unset, .unset, .unset] [(.long (2 : Int64)), (.int (1 : Int32)), (.ref ba_8), (.ref ba_8)])) rfl rfl (hb hby at_75)
    have vw_12_ba_1 := vw_10_ba_1.other Ww_12 nea_8_ba_1
    have SZw_12 : n0 ≤ hw_12.size := Nat.le_trans SZw_10 (Keep.of_wr Ww_12).1
    have Vw_12 : Arv Z hw_12 ba_8 ka_8 .long (3 : Int32) [(.long (1 : Int64)), (.long (2 : Int64)), (.long (0 : Int64))] (.long (0 : Int64)) := Arv.set Arv_11 qv_11 Sv_11 Mv_11 Hv_11 Gv_11 rfl Ww_12 1 rfl (Nat.le_of_ble_eq_true rfl)
    have Nw_12 := Fr.snoc Xw_12 Nw_10 gba_8
    refine own_lift (fun t k => stw_12 _ k) ?_
    show own_Fin p e below _ (Tw_12.setTop (mkF m 76 #[.val (.int p1), .val (.int p2), .val (.long q3), .second, .val (.long q4), .second, .val (.int p5), .val (.long q6), .second, .val (.int (Int32.ofNat J)), .val (.int sv), .val (.long f), .second, .val (.int qv), .val (.ref ba_1), .unset, .unset, .unset, .unset, .unset, .unset, .unset, .unset] [(.ref ba_8)]))
    refine own_lift (fun t k => XS.dup Xw_12.here hx rfl (hb hby at_76) rfl rfl k) ?_
    show own_Fin p e below _ (Tw_12.setTop (mkF m 77 #[.val (.int p1), .val (.int p2), .val (.long q3), .second, .val (.long q4), .second, .val (.int p5), .val (.long q6), .second, .val (.int (Int32.ofNat J)), .val (.int sv), .val (.long f), .second, .val (.int qv), .val (.ref ba_1), .unset, .unset, .unset, .unset, .unset, .unset, .unset, .unset] [(.ref ba_8), (.ref ba_8)]))
    refine own_lift (fun t k => XS.iconst Xw_12.here hx rfl (hb hby at_77) k) ?_
    show own_Fin p e below _ (Tw_12.setTop (mkF m 78 #[.val (.int p1), .val (.int p2), .val (.long q3), .second, .val (.long q4), .second, .val (.int p5), .val (.long q6), .second, .val (.int (Int32.ofNat J)), .val (.int sv), .val (.long f), .second, .val (.int qv), .val (.ref ba_1), .unset, .unset, .unset, .unset, .unset, .unset, .unset, .unset] [(.int (2 : Int32)), (.ref ba_8), (.ref ba_8)]))
    refine own_lift (fun t k => Xw_12.ldc2J hx hown (mvT hZ (hw _ (List.mem_of_getElem? (i := 1) rfl))) rfl (hb hby at_78) k) ?_
    show own_Fin p e below _ (Tw_12.setTop (mkF m 81 #[.val (.int p1), .val (.int p2), .val (.long q3), .second, .val (.long q4), .second, .val (.int p5), .val (.long q6), .second, .val (.int (Int32.ofNat J)), .val (.int sv), .val (.long f), .second, .val (.int qv), .val (.ref ba_1), .unset, .unset, .unset, .unset, .unset, .unset, .unset, .unset] [(.long (3 : Int64)), (.int (2 : Int32)), (.ref ba_8), (.ref ba_8)]))
    have cpv_13 := Vw_12
    obtain ⟨clv_13, Arv_13, qv_13, Sv_13, Mv_13, Hv_13, Gv_13⟩ := cpv_13
    obtain ⟨Tw_14, hw_14, Xw_14, ew_14, Ww_14, stw_14⟩ := stJ Xw_12 hx hZ ew_12 Arv_13 (j := (2 : Int32)) (inb_of Sv_13 ⟨by decide, by decide⟩) (g := (mkF m 81 #[.val (.int p1), .val (.int p2), .val (.long q3), .second, .val (.long q4), .second, .val (.int p5), .val (.long q6), .second, .val (.int (Int32.ofNat J)), .val (.int sv), .val (.long f), .second, .val (.int qv), .val (.ref ba_1), .unset, .unset, .unset, .unset, .unset, .unset, .unset, .unset] [(.long (3 : Int64)), (.int (2 : Int32)), (.ref ba_8), (.ref ba_8)])) rfl rfl (hb hby at_81)
    have vw_14_ba_1 := vw_12_ba_1.other Ww_14 nea_8_ba_1
    have SZw_14 : n0 ≤ hw_14.size := Nat.le_trans SZw_12 (Keep.of_wr Ww_14).1
    have Vw_14 : Arv Z hw_14 ba_8 ka_8 .long (3 : Int32) [(.long (1 : Int64)), (.long (2 : Int64)), (.long (3 : Int64))] (.long (0 : Int64)) := Arv.set Arv_13 qv_13 Sv_13 Mv_13 Hv_13 Gv_13 rfl Ww_14 2 rfl (Nat.le_of_ble_eq_true rfl)
    have Nw_14 := Fr.snoc Xw_14 Nw_12 gba_8
    refine own_lift (fun t k => stw_14 _ k) ?_
    show own_Fin p e below _ (Tw_14.setTop (mkF m 82 #[.val (.int p1), .val (.int p2), .val (.long q3), .second, .val (.long q4), .second, .val (.int p5), .val (.long q6), .second, .val (.int (Int32.ofNat J)), .val (.int sv), .val (.long f), .second, .val (.int qv), .val (.ref ba_1), .unset, .unset, .unset, .unset, .unset, .unset, .unset, .unset] [(.ref ba_8)]))
    refine own_lift (fun t k => XS.astore Xw_14.here hx rfl (hb hby at_82) rfl rfl (l' := #[.val (.int p1), .val (.int p2), .val (.long q3), .second, .val (.long q4), .second, .val (.int p5), .val (.long q6), .second, .val (.int (Int32.ofNat J)), .val (.int sv), .val (.long f), .second, .val (.int qv), .val (.ref ba_1), .val (.ref ba_8), .unset, .unset, .unset, .unset, .unset, .unset, .unset]) rfl k) ?_
    show own_Fin p e below _ (Tw_14.setTop (mkF m 84 #[.val (.int p1), .val (.int p2), .val (.long q3), .second, .val (.long q4), .second, .val (.int p5), .val (.long q6), .second, .val (.int (Int32.ofNat J)), .val (.int sv), .val (.long f), .second, .val (.int qv), .val (.ref ba_1), .val (.ref ba_8), .unset, .unset, .unset, .unset, .unset, .unset, .unset] []))
    refine own_lift (fun t k => XS.iconst Xw_14.here hx rfl (hb hby at_84) k) ?_
    show own_Fin p e below _ (Tw_14.setTop (mkF m 85 #[.val (.int p1), .val (.int p2), .val (.long q3), .second, .val (.long q4), .second, .val (.int p5), .val (.long q6), .second, .val (.int (Int32.ofNat J)), .val (.int sv), .val (.long f), .second, .val (.int qv), .val (.ref ba_1), .val (.ref ba_8), .unset, .unset, .unset, .unset, .unset, .unset, .unset] [(.int (3 : Int32))]))
    obtain ⟨Ta_15, ha_15, ka_15, Xa_15, ea_15, Ea_15, Aa_15, sta_15⟩ := newP Xw_14 hx hZ (hw _ (List.mem_of_getElem? (i := 3) rfl)) ew_14 (g := (mkF m 85 #[.val (.int p1), .val (.int p2), .val (.long q3), .second, .val (.long q4), .second, .val (.int p5), .val (.long q6), .second, .val (.int (Int32.ofNat J)), .val (.int sv), .val (.long f), .second, .val (.int qv), .val (.ref ba_1), .val (.ref ba_8), .unset, .unset, .unset, .unset, .unset, .unset, .unset] [(.int (3 : Int32))])) rfl (hb hby at_85) rfl (by decide) (cap := 3) (by decide) (by decide) (by decide) (by decide)
    obtain ⟨ba_15, ga_15⟩ : ∃ z, z = hw_14.size := ⟨_, rfl⟩
    rw [← ga_15] at Aa_15 sta_15
    have nea_15_ba_1 : ba_1 ≠ ba_15 := Nat.ne_of_lt (Nat.lt_of_lt_of_le vw_14_ba_1.lt (Nat.le_of_eq ga_15.symm))
    have nea_15_ba_8 : ba_8 ≠ ba_15 := Nat.ne_of_lt (Nat.lt_of_lt_of_le Vw_14.lt (Nat.le_of_eq ga_15.symm))
    have gba_15 : n0 ≤ ba_15 := Nat.le_trans SZw_14 (Nat.le_of_eq ga_15.symm)
    have va_15_ba_1 := vw_14_ba_1.ext Ea_15
    have va_15_ba_8 := Vw_14.ext Ea_15
    have SZa_15 : n0 ≤ ha_15.size := Nat.le_trans SZw_14 Ea_15.1
    have Va_15 : Arv Z ha_15 ba_15 ka_15 .long (3 : Int32) [(.long (0 : Int64)), (.long (0 : Int64)), (.long (0 : Int64))] (.long (0 : Int64)) := (Arv.new Aa_15 (by decide)).pad (pad_rep [] (.long (0 : Int64)) 3)
    refine own_lift (fun t k => sta_15 _ k) ?_
    show own_Fin p e below _ (Ta_15.setTop (mkF m 87 #[.val (.int p1), .val (.int p2), .val (.long q3), .second, .val (.long q4), .second, .val (.int p5), .val (.long q6), .second, .val (.int (Int32.ofNat J)), .val (.int sv), .val (.long f), .second, .val (.int qv), .val (.ref ba_1), .val (.ref ba_8), .unset, .unset, .unset, .unset, .unset, .unset, .unset] [(.ref ba_15)]))
    refine own_lift (fun t k => XS.dup Xa_15.here hx rfl (hb hby at_87) rfl rfl k) ?_
    show own_Fin p e below _ (Ta_15.setTop (mkF m 88 #[.val (.int p1), .val (.int p2), .val (.long q3), .second, .val (.long q4), .second, .val (.int p5), .val (.long q6), .second, .val (.int (Int32.ofNat J)), .val (.int sv), .val (.long f), .second, .val (.int qv), .val (.ref ba_1), .val (.ref ba_8), .unset, .unset, .unset, .unset, .unset, .unset, .unset] [(.ref ba_15), (.ref ba_15)]))
    refine own_lift (fun t k => XS.iconst Xa_15.here hx rfl (hb hby at_88) k) ?_
    show own_Fin p e below _ (Ta_15.setTop (mkF m 89 #[.val (.int p1), .val (.int p2), .val (.long q3), .second, .val (.long q4), .second, .val (.int p5), .val (.long q6), .second, .val (.int (Int32.ofNat J)), .val (.int sv), .val (.long f), .second, .val (.int qv), .val (.ref ba_1), .val (.ref ba_8), .unset, .unset, .unset, .unset, .unset, .unset, .unset] [(.int (0 : Int32)), (.ref ba_15), (.ref ba_15)]))
    refine own_lift (fun t k => XS.lconst Xa_15.here hx rfl (hb hby at_89) k) ?_
    show own_Fin p e below _ (Ta_15.setTop (mkF m 90 #[.val (.int p1), .val (.int p2), .val (.long q3), .second, .val (.long q4), .second, .val (.int p5), .val (.long q6), .second, .val (.int (Int32.ofNat J)), .val (.int sv), .val (.long f), .second, .val (.int qv), .val (.ref ba_1), .val (.ref ba_8), .unset, .unset, .unset, .unset, .unset, .unset, .unset] [(.long (0 : Int64)), (.int (0 : Int32)), (.ref ba_15), (.ref ba_15)]))
    have cpv_16 := Va_15
    obtain ⟨clv_16, Arv_16, qv_16, Sv_16, Mv_16, Hv_16, Gv_16⟩ := cpv_16
    obtain ⟨Tw_17, hw_17, Xw_17, ew_17, Ww_17, stw_17⟩ := stJ Xa_15 hx hZ ea_15 Arv_16 (j := (0 : Int32)) (inb_of Sv_16 ⟨by decide, by decide⟩) (g := (mkF m 90 #[.val (.int p1), .val (.int p2), .val (.long q3), .second, .val (.long q4), .second, .val (.int p5), .val (.long q6), .second, .val (.int (Int32.ofNat J)), .val (.int sv), .val (.long f), .second, .val (.int qv), .val (.ref ba_1), .val (.ref ba_8), .unset, .unset, .unset, .unset, .unset, .unset, .unset] [(.long (0 : Int64)), (.int (0 : Int32)), (.ref ba_15), (.ref ba_15)])) rfl rfl (hb hby at_90)
    have vw_17_ba_1 := va_15_ba_1.other Ww_17 nea_15_ba_1
    have vw_17_ba_8 := va_15_ba_8.other Ww_17 nea_15_ba_8
    have SZw_17 : n0 ≤ hw_17.size := Nat.le_trans SZa_15 (Keep.of_wr Ww_17).1
    have Vw_17 : Arv Z hw_17 ba_15 ka_15 .long (3 : Int32) [(.long (0 : Int64)), (.long (0 : Int64)), (.long (0 : Int64))] (.long (0 : Int64)) := Arv.set Arv_16 qv_16 Sv_16 Mv_16 Hv_16 Gv_16 rfl Ww_17 0 rfl (Nat.le_of_ble_eq_true rfl)
    have Nw_17 := Fr.snoc Xw_17 Nw_14 gba_15
    refine own_lift (fun t k => stw_17 _ k) ?_
    show own_Fin p e below _ (Tw_17.setTop (mkF m 91 #[.val (.int p1), .val (.int p2), .val (.long q3), .second, .val (.long q4), .second, .val (.int p5), .val (.long q6), .second, .val (.int (Int32.ofNat J)), .val (.int sv), .val (.long f), .second, .val (.int qv), .val (.ref ba_1), .val (.ref ba_8), .unset, .unset, .unset, .unset, .unset, .unset, .unset] [(.ref ba_15)]))
    refine own_lift (fun t k => XS.dup Xw_17.here hx rfl (hb hby at_91) rfl rfl k) ?_
    show own_Fin p e below _ (Tw_17.setTop (mkF m 92 #[.val (.int p1), .val (.int p2), .val (.long q3), .second, .val (.long q4), .second, .val (.int p5), .val (.long q6), .second, .val (.int (Int32.ofNat J)), .val (.int sv), .val (.long f), .second, .val (.int qv), .val (.ref ba_1), .val (.ref ba_8), .unset, .unset, .unset, .unset, .unset, .unset, .unset] [(.ref ba_15), (.ref ba_15)]))
    refine own_lift (fun t k => XS.iconst Xw_17.here hx rfl (hb hby at_92) k) ?_
    show own_Fin p e below _ (Tw_17.setTop (mkF m 93 #[.val (.int p1), .val (.int p2), .val (.long q3), .second, .val (.long q4), .second, .val (.int p5), .val (.long q6), .second, .val (.int (Int32.ofNat J)), .val (.int sv), .val (.long f), .second, .val (.int qv), .val (.ref ba_1), .val (.ref ba_8), .unset, .unset, .unset, .unset, .unset, .unset, .unset] [(.int (1 : Int32)), (.ref ba_15), (.ref ba_15)]))
    refine own_lift (fun t k => XS.lconst Xw_17.here hx rfl (hb hby at_93) k) ?_
    show own_Fin p e below _ (Tw_17.setTop (mkF m 94 #[.val (.int p1), .val (.int p2), .val (.long q3), .second, .val (.long q4), .second, .val (.int p5), .val (.long q6), .second, .val (.int (Int32.ofNat J)), .val (.int sv), .val (.long f), .second, .val (.int qv), .val (.ref ba_1), .val (.ref ba_8), .unset, .unset, .unset, .unset, .unset, .unset, .unset] [(.long (0 : Int64)), (.int (1 : Int32)), (.ref ba_15), (.ref ba_15)]))
    have cpv_18 := Vw_17
    obtain ⟨clv_18, Arv_18, qv_18, Sv_18, Mv_18, Hv_18, Gv_18⟩ := cpv_18
    obtain ⟨Tw_19, hw_19, Xw_19, ew_19, Ww_19, stw_19⟩ := stJ Xw_17 hx hZ ew_17 Arv_18 (j := (1 : Int32)) (inb_of Sv_18 ⟨by decide, by decide⟩) (g := (mkF m 94 #[.val (.int p1), .val (.int p2), .val (.long q3), .second, .val (.long q4), .second, .val (.int p5), .val (.long q6), .second, .val (.int (Int32.ofNat J)), .val (.int sv), .val (.long f), .second, .val (.int qv), .val (.ref ba_1), .val (.ref ba_8), .unset, .unset, .unset, .unset, .unset, .unset, .unset] [(.long (0 : Int64)), (.int (1 : Int32)), (.ref ba_15), (.ref ba_15)])) rfl rfl (hb hby at_94)
    have vw_19_ba_1 := vw_17_ba_1.other Ww_19 nea_15_ba_1
    have vw_19_ba_8 := vw_17_ba_8.other Ww_19 nea_15_ba_8
    have SZw_19 : n0 ≤ hw_19.size := Nat.le_trans SZw_17 (Keep.of_wr Ww_19).1
    have Vw_19 : Arv Z hw_19 ba_15 ka_15 .long (3 : Int32) [(.long (0 : Int64)), (.long (0 : Int64)), (.long (0 : Int64))] (.long (0 : Int64)) := Arv.set Arv_18 qv_18 Sv_18 Mv_18 Hv_18 Gv_18 rfl Ww_19 1 rfl (Nat.le_of_ble_eq_true rfl)
    have Nw_19 := Fr.snoc Xw_19 Nw_17 gba_15
    refine own_lift (fun t k => stw_19 _ k) ?_
    show own_Fin p e below _ (Tw_19.setTop (mkF m 95 #[.val (.int p1), .val (.int p2), .val (.long q3), .second, .val (.long q4), .second, .val (.int p5), .val (.long q6), .second, .val (.int (Int32.ofNat J)), .val (.int sv), .val (.long f), .second, .val (.int qv), .val (.ref ba_1), .val (.ref ba_8), .unset, .unset, .unset, .unset, .unset, .unset, .unset] [(.ref ba_15)]))
    refine own_lift (fun t k => XS.dup Xw_19.here hx rfl (hb hby at_95) rfl rfl k) ?_
    show own_Fin p e below _ (Tw_19.setTop (mkF m 96 #[.val (.int p1), .val (.int p2), .val (.long q3), .second, .val (.long q4), .second, .val (.int p5), .val (.long q6), .second, .val (.int (Int32.ofNat J)), .val (.int sv), .val (.long f), .second, .val (.int qv), .val (.ref ba_1), .val (.ref ba_8), .unset, .unset, .unset, .unset, .unset, .unset, .unset] [(.ref ba_15), (.ref ba_15)]))
    refine own_lift (fun t k => XS.iconst Xw_19.here hx rfl (hb hby at_96) k) ?_
    show own_Fin p e below _ (Tw_19.setTop (mkF m 97 #[.val (.int p1), .val (.int p2), .val (.long q3), .second, .val (.long q4), .second, .val (.int p5), .val (.long q6), .second, .val (.int (Int32.ofNat J)), .val (.int sv), .val (.long f), .second, .val (.int qv), .val (.ref ba_1), .val (.ref ba_8), .unset, .unset, .unset, .unset, .unset, .unset, .unset] [(.int (2 : Int32)), (.ref ba_15), (.ref ba_15)]))
    refine own_lift (fun t k => XS.lconst Xw_19.here hx rfl (hb hby at_97) k) ?_
    show own_Fin p e below _ (Tw_19.setTop (mkF m 98 #[.val (.int p1), .val (.int p2), .val (.long q3), .second, .val (.long q4), .second, .val (.int p5), .val (.long q6), .second, .val (.int (Int32.ofNat J)), .val (.int sv), .val (.long f), .second, .val (.int qv), .val (.ref ba_1), .val (.ref ba_8), .unset, .unset, .unset, .unset, .unset, .unset, .unset] [(.long (0 : Int64)), (.int (2 : Int32)), (.ref ba_15), (.ref ba_15)]))
    have cpv_20 := Vw_19
    obtain ⟨clv_20, Arv_20, qv_20, Sv_20, Mv_20, Hv_20, Gv_20⟩ := cpv_20
    obtain ⟨Tw_21, hw_21, Xw_21, ew_21, Ww_21, stw_21⟩ := stJ Xw_19 hx hZ ew_19 Arv_20 (j := (2 : Int32)) (inb_of Sv_20 ⟨by decide, by decide⟩) (g := (mkF m 98 #[.val (.int p1), .val (.int p2), .val (.long q3), .second, .val (.long q4), .second, .val (.int p5), .val (.long q6), .second, .val (.int (Int32.ofNat J)), .val (.int sv), .val (.long f), .second, .val (.int qv), .val (.ref ba_1), .val (.ref ba_8), .unset, .unset, .unset, .unset, .unset, .unset, .unset] [(.long (0 : Int64)), (.int (2 : Int32)), (.ref ba_15), (.ref ba_15)])) rfl rfl (hb hby at_98)
    have vw_21_ba_1 := vw_19_ba_1.other Ww_21 nea_15_ba_1
    have vw_21_ba_8 := vw_19_ba_8.other Ww_21 nea_15_ba_8
    have SZw_21 : n0 ≤ hw_21.size := Nat.le_trans SZw_19 (Keep.of_wr Ww_21).1
    have Vw_21 : Arv Z hw_21 ba_15 ka_15 .long (3 : Int32) [(.long (0 : Int64)), (.long (0 : Int64)), (.long (0 : Int64))] (.long (0 : Int64)) := Arv.set Arv_20 qv_20 Sv_20 Mv_20 Hv_20 Gv_20 rfl Ww_21 2 rfl (Nat.le_of_ble_eq_true rfl)
    have Nw_21 := Fr.snoc Xw_21 Nw_19 gba_15
    refine own_lift (fun t k => stw_21 _ k) ?_
    show own_Fin p e below _ (Tw_21.setTop (mkF m 99 #[.val (.int p1), .val (.int p2), .val (.long q3), .second, .val (.long q4), .second, .val (.int p5), .val (.long q6), .second, .val (.int (Int32.ofNat J)), .val (.int sv), .val (.long f), .second, .val (.int qv), .val (.ref ba_1), .val (.ref ba_8), .unset, .unset, .unset, .unset, .unset, .unset, .unset] [(.ref ba_15)]))
    refine own_lift (fun t k => XS.astore Xw_21.here hx rfl (hb hby at_99) rfl rfl (l' := #[.val (.int p1), .val (.int p2), .val (.long q3), .second, .val (.long q4), .second, .val (.int p5), .val (.long q6), .second, .val (.int (Int32.ofNat J)), .val (.int sv), .val (.long f), .second, .val (.int qv), .val (.ref ba_1), .val (.ref ba_8), .val (.ref ba_15), .unset, .unset, .unset, .unset, .unset, .unset]) rfl k) ?_
    show own_Fin p e below _ (Tw_21.setTop (mkF m 101 #[.val (.int p1), .val (.int p2), .val (.long q3), .second, .val (.long q4), .second, .val (.int p5), .val (.long q6), .second, .val (.int (Int32.ofNat J)), .val (.int sv), .val (.long f), .second, .val (.int qv), .val (.ref ba_1), .val (.ref ba_8), .val (.ref ba_15), .unset, .unset, .unset, .unset, .unset, .unset] []))
    refine own_lift (fun t k => XS.iconst Xw_21.here hx rfl (hb hby at_101) k) ?_
    show own_Fin p e below _ (Tw_21.setTop (mkF m 102 #[.val (.int p1), .val (.int p2), .val (.long q3), .second, .val (.long q4), .second, .val (.int p5), .val (.long q6), .second, .val (.int (Int32.ofNat J)), .val (.int sv), .val (.long f), .second, .val (.int qv), .val (.ref ba_1), .val (.ref ba_8), .val (.ref ba_15), .unset, .unset, .unset, .unset, .unset, .unset] [(.int (3 : Int32))]))
    obtain ⟨Ta_22, ha_22, ka_22, Xa_22, ea_22, Ea_22, Aa_22, sta_22⟩ := newP Xw_21 hx hZ (hw _ (List.mem_of_getElem? (i := 2) rfl)) ew_21 (g := (mkF m 102 #[.val (.int p1), .val (.int p2), .val (.long q3), .second, .val (.long q4), .second, .val (.int p5), .val (.long q6), .second, .val (.int (Int32.ofNat J)), .val (.int sv), .val (.long f), .second, .val (.int qv), .val (.ref ba_1), .val (.ref ba_8), .val (.ref ba_15), .unset, .unset, .unset, .unset, .unset, .unset] [(.int (3 : Int32))])) rfl (hb hby at_102) rfl (by decide) (cap := 3) (by decide) (by decide) (by decide) (by decide)
    obtain ⟨ba_22, ga_22⟩ : ∃ z, z = hw_21.size := ⟨_, rfl⟩
    rw [← ga_22] at Aa_22 sta_22
    have nea_22_ba_1 : ba_1 ≠ ba_22 := Nat.ne_of_lt (Nat.lt_of_lt_of_le vw_21_ba_1.lt (Nat.le_of_eq ga_22.symm))
    have nea_22_ba_15 : ba_15 ≠ ba_22 := Nat.ne_of_lt (Nat.lt_of_lt_of_le Vw_21.lt (Nat.le_of_eq ga_22.symm))
    have nea_22_ba_8 : ba_8 ≠ ba_22 := Nat.ne_of_lt (Nat.lt_of_lt_of_le vw_21_ba_8.lt (Nat.le_of_eq ga_22.symm))
    have gba_22 : n0 ≤ ba_22 := Nat.le_trans SZw_21 (Nat.le_of_eq ga_22.symm)
    have va_22_ba_1 := vw_21_ba_1.ext Ea_22
    have va_22_ba_8 := vw_21_ba_8.ext Ea_22
    have va_22_ba_15 := Vw_21.ext Ea_22
    have SZa_22 : n0 ≤ ha_22.size := Nat.le_trans SZw_21 Ea_22.1
    have Va_22 : Arv Z ha_22 ba_22 ka_22 .int (3 : Int32) [(.int (0 : Int32)), (.int (0 : Int32)), (.int (0 : Int32))] (.int (0 : Int32)) := (Arv.new Aa_22 (by decide)).pad (pad_rep [] (.int (0 : Int32)) 3)
    refine own_lift (fun t k => sta_22 _ k) ?_
    show own_Fin p e below _ (Ta_22.setTop (mkF m 104 #[.val (.int p1), .val (.int p2), .val (.long q3), .second, .val (.long q4), .second, .val (.int p5), .val (.long q6), .second, .val (.int (Int32.ofNat J)), .val (.int sv), .val (.long f), .second, .val (.int qv), .val (.ref ba_1), .val (.ref ba_8), .val (.ref ba_15), .unset, .unset, .unset, .unset, .unset, .unset] [(.ref ba_22)]))
    refine own_lift (fun t k => XS.dup Xa_22.here hx rfl (hb hby at_104) rfl rfl k) ?_
    show own_Fin p e below _ (Ta_22.setTop (mkF m 105 #[.val (.int p1), .val (.int p2), .val (.long q3), .second, .val (.long q4), .second, .val (.int p5), .val (.long q6), .second, .val (.int (Int32.ofNat J)), .val (.int sv), .val (.long f), .second, .val (.int qv), .val (.ref ba_1), .val (.ref ba_8), .val (.ref ba_15), .unset, .unset, .unset, .unset, .unset, .unset] [(.ref ba_22), (.ref ba_22)]))
    refine own_lift (fun t k => XS.iconst Xa_22.here hx rfl (hb hby at_105) k) ?_
    show own_Fin p e below _ (Ta_22.setTop (mkF m 106 #[.val (.int p1), .val (.int p2), .val (.long q3), .second, .val (.long q4), .second, .val (.int p5), .val (.long q6), .second, .val (.int (Int32.ofNat J)), .val (.int sv), .val (.long f), .second, .val (.int qv), .val (.ref ba_1), .val (.ref ba_8), .val (.ref ba_15), .unset, .unset, .unset, .unset, .unset, .unset] [(.int (0 : Int32)), (.ref ba_22), (.ref ba_22)]))
    refine own_lift (fun t k => XS.iconst Xa_22.here hx rfl (hb hby at_106) k) ?_
    show own_Fin p e below _ (Ta_22.setTop (mkF m 107 #[.val (.int p1), .val (.int p2), .val (.long q3), .second, .val (.long q4), .second, .val (.int p5), .val (.long q6), .second, .val (.int (Int32.ofNat J)), .val (.int sv), .val (.long f), .second, .val (.int qv), .val (.ref ba_1), .val (.ref ba_8), .val (.ref ba_15), .unset, .unset, .unset, .unset, .unset, .unset] [(.int (-1 : Int32)), (.int (0 : Int32)), (.ref ba_22), (.ref ba_22)]))
    have cpv_23 := Va_22
    obtain ⟨clv_23, Arv_23, qv_23, Sv_23, Mv_23, Hv_23, Gv_23⟩ := cpv_23
    obtain ⟨Tw_24, hw_24, Xw_24, ew_24, Ww_24, stw_24⟩ := stI Xa_22 hx hZ ea_22 Arv_23 (j := (0 : Int32)) (inb_of Sv_23 ⟨by decide, by decide⟩) (g := (mkF m 107 #[.val (.int p1), .val (.int p2), .val (.long q3), .second, .val (.long q4), .second, .val (.int p5), .val (.long q6), .second, .val (.int (Int32.ofNat J)), .val (.int sv), .val (.long f), .second, .val (.int qv), .val (.ref ba_1), .val (.ref ba_8), .val (.ref ba_15), .unset, .unset, .unset, .unset, .unset, .unset] [(.int (-1 : Int32)), (.int (0 : Int32)), (.ref ba_22), (.ref ba_22)])) rfl rfl (hb hby at_107)
    have vw_24_ba_1 := va_22_ba_1.other Ww_24 nea_22_ba_1
    have vw_24_ba_8 := va_22_ba_8.other Ww_24 nea_22_ba_8
    have vw_24_ba_15 := va_22_ba_15.other Ww_24 nea_22_ba_15
    have SZw_24 : n0 ≤ hw_24.size := Nat.le_trans SZa_22 (Keep.of_wr Ww_24).1
    have Vw_24 : Arv Z hw_24 ba_22 ka_22 .int (3 : Int32) [(.int (-1 : Int32)), (.int (0 : Int32)), (.int (0 : Int32))] (.int (0 : Int32)) := Arv.set Arv_23 qv_23 Sv_23 Mv_23 Hv_23 Gv_23 rfl Ww_24 0 rfl (Nat.le_of_ble_eq_true rfl)
    have Nw_24 := Fr.snoc Xw_24 Nw_21 gba_22
    refine own_lift (fun t k => stw_24 _ k) ?_
    show own_Fin p e below _ (Tw_24.setTop (mkF m 108 #[.val (.int p1), .val (.int p2), .val (.long q3), .second, .val (.long q4), .second, .val (.int p5), .val (.long q6), .second, .val (.int (Int32.ofNat J)), .val (.int sv), .val (.long f), .second, .val (.int qv), .val (.ref ba_1), .val (.ref ba_8), .val (.ref ba_15), .unset, .unset, .unset, .unset, .unset, .unset] [(.ref ba_22)]))
    refine own_lift (fun t k => XS.dup Xw_24.here hx rfl (hb hby at_108) rfl rfl k) ?_
    show own_Fin p e below _ (Tw_24.setTop (mkF m 109 #[.val (.int p1), .val (.int p2), .val (.long q3), .second, .val (.long q4), .second, .val (.int p5), .val (.long q6), .second, .val (.int (Int32.ofNat J)), .val (.int sv), .val (.long f), .second, .val (.int qv), .val (.ref ba_1), .val (.ref ba_8), .val (.ref ba_15), .unset, .unset, .unset, .unset, .unset, .unset] [(.ref ba_22), (.ref ba_22)]))
    refine own_lift (fun t k => XS.iconst Xw_24.here hx rfl (hb hby at_109) k) ?_
    show own_Fin p e below _ (Tw_24.setTop (mkF m 110 #[.val (.int p1), .val (.int p2), .val (.long q3), .second, .val (.long q4), .second, .val (.int p5), .val (.long q6), .second, .val (.int (Int32.ofNat J)), .val (.int sv), .val (.long f), .second, .val (.int qv), .val (.ref ba_1), .val (.ref ba_8), .val (.ref ba_15), .unset, .unset, .unset, .unset, .unset, .unset] [(.int (1 : Int32)), (.ref ba_22), (.ref ba_22)]))
    refine own_lift (fun t k => XS.iconst Xw_24.here hx rfl (hb hby at_110) k) ?_
    show own_Fin p e below _ (Tw_24.setTop (mkF m 111 #[.val (.int p1), .val (.int p2), .val (.long q3), .second, .val (.long q4), .second, .val (.int p5), .val (.long q6), .second, .val (.int (Int32.ofNat J)), .val (.int sv), .val (.long f), .second, .val (.int qv), .val (.ref ba_1), .val (.ref ba_8), .val (.ref ba_15), .unset, .unset, .unset, .unset, .unset, .unset] [(.int (-1 : Int32)), (.int (1 : Int32)), (.ref ba_22), (.ref ba_22)]))
    have cpv_25 := Vw_24
    obtain ⟨clv_25, Arv_25, qv_25, Sv_25, Mv_25, Hv_25, Gv_25⟩ := cpv_25
    obtain ⟨Tw_26, hw_26, Xw_26, ew_26, Ww_26, stw_26⟩ := stI Xw_24 hx hZ ew_24 Arv_25 (j := (1 : Int32)) (inb_of Sv_25 ⟨by decide, by decide⟩) (g := (mkF m 111 #[.val (.int p1), .val (.int p2), .val (.long q3), .second, .val (.long q4), .second, .val (.int p5), .val (.long q6), .second, .val (.int (Int32.ofNat J)), .val (.int sv), .val (.long f), .second, .val (.int qv), .val (.ref ba_1), .val (.ref ba_8), .val (.ref ba_15), .unset, .unset, .unset, .unset, .unset, .unset] [(.int (-1 : Int32)), (.int (1 : Int32)), (.ref ba_22), (.ref ba_22)])) rfl rfl (hb hby at_111)
    have vw_26_ba_1 := vw_24_ba_1.other Ww_26 nea_22_ba_1
    have vw_26_ba_8 := vw_24_ba_8.other Ww_26 nea_22_ba_8
    have vw_26_ba_15 := vw_24_ba_15.other Ww_26 nea_22_ba_15
    have SZw_26 : n0 ≤ hw_26.size := Nat.le_trans SZw_24 (Keep.of_wr Ww_26).1
    have Vw_26 : Arv Z hw_26 ba_22 ka_22 .int (3 : Int32) [(.int (-1 : Int32)), (.int (-1 : Int32)), (.int (0 : Int32))] (.int (0 : Int32)) := Arv.set Arv_25 qv_25 Sv_25 Mv_25 Hv_25 Gv_25 rfl Ww_26 1 rfl (Nat.le_of_ble_eq_true rfl)
    have Nw_26 := Fr.snoc Xw_26 Nw_24 gba_22
    refine own_lift (fun t k => stw_26 _ k) ?_
    show own_Fin p e below _ (Tw_26.setTop (mkF m 112 #[.val (.int p1), .val (.int p2), .val (.long q3), .second, .val (.long q4), .second, .val (.int p5), .val (.long q6), .second, .val (.int (Int32.ofNat J)), .val (.int sv), .val (.long f), .second, .val (.int qv), .val (.ref ba_1), .val (.ref ba_8), .val (.ref ba_15), .unset, .unset, .unset, .unset, .unset, .unset] [(.ref ba_22)]))
    refine own_lift (fun t k => XS.dup Xw_26.here hx rfl (hb hby at_112) rfl rfl k) ?_
    show own_Fin p e below _ (Tw_26.setTop (mkF m 113 #[.val (.int p1), .val (.int p2), .val (.long q3), .second, .val (.long q4), .second, .val (.int p5), .val (.long q6), .second, .val (.int (Int32.ofNat J)), .val (.int sv), .val (.long f), .second, .val (.int qv), .val (.ref ba_1), .val (.ref ba_8), .val (.ref ba_15), .unset, .unset, .unset, .unset, .unset, .unset] [(.ref ba_22), (.ref ba_22)]))
    refine own_lift (fun t k => XS.iconst Xw_26.here hx rfl (hb hby at_113) k) ?_
    show own_Fin p e below _ (Tw_26.setTop (mkF m 114 #[.val (.int p1), .val (.int p2), .val (.long q3), .second, .val (.long q4), .second, .val (.int p5), .val (.long q6), .second, .val (.int (Int32.ofNat J)), .val (.int sv), .val (.long f), .second, .val (.int qv), .val (.ref ba_1), .val (.ref ba_8), .val (.ref ba_15), .unset, .unset, .unset, .unset, .unset, .unset] [(.int (2 : Int32)), (.ref ba_22), (.ref ba_22)]))
    refine own_lift (fun t k => XS.iconst Xw_26.here hx rfl (hb hby at_114) k) ?_
    show own_Fin p e below _ (Tw_26.setTop (mkF m 115 #[.val (.int p1), .val (.int p2), .val (.long q3), .second, .val (.long q4), .second, .val (.int p5), .val (.long q6), .second, .val (.int (Int32.ofNat J)), .val (.int sv), .val (.long f), .second, .val (.int qv), .val (.ref ba_1), .val (.ref ba_8), .val (.ref ba_15), .unset, .unset, .unset, .unset, .unset, .unset] [(.int (-1 : Int32)), (.int (2 : Int32)), (.ref ba_22), (.ref ba_22)]))
    have cpv_27 := Vw_26
    obtain ⟨clv_27, Arv_27, qv_27, Sv_27, Mv_27, Hv_27, Gv_27⟩ := cpv_27
    obtain ⟨Tw_28, hw_28, Xw_28, ew_28, Ww_28, stw_28⟩ := stI Xw_26 hx hZ ew_26 Arv_27 (j := (2 : Int32)) (inb_of Sv_27 ⟨by decide, by decide⟩) (g := (mkF m 115 #[.val (.int p1), .val (.int p2), .val (.long q3), .second, .val (.long q4), .second, .val (.int p5), .val (.long q6), .second, .val (.int (Int32.ofNat J)), .val (.int sv), .val (.long f), .second, .val (.int qv), .val (.ref ba_1), .val (.ref ba_8), .val (.ref ba_15), .unset, .unset, .unset, .unset, .unset, .unset] [(.int (-1 : Int32)), (.int (2 : Int32)), (.ref ba_22), (.ref ba_22)])) rfl rfl (hb hby at_115)
    have vw_28_ba_1 := vw_26_ba_1.other Ww_28 nea_22_ba_1
    have vw_28_ba_8 := vw_26_ba_8.other Ww_28 nea_22_ba_8
    have vw_28_ba_15 := vw_26_ba_15.other Ww_28 nea_22_ba_15
    have SZw_28 : n0 ≤ hw_28.size := Nat.le_trans SZw_26 (Keep.of_wr Ww_28).1
    have Vw_28 : Arv Z hw_28 ba_22 ka_22 .int (3 : Int32) [(.int (-1 : Int32)), (.int (-1 : Int32)), (.int (-1 : Int32))] (.int (0 : Int32)) := Arv.set Arv_27 qv_27 Sv_27 Mv_27 Hv_27 Gv_27 rfl Ww_28 2 rfl (Nat.le_of_ble_eq_true rfl)
    have Nw_28 := Fr.snoc Xw_28 Nw_26 gba_22
    refine own_lift (fun t k => stw_28 _ k) ?_
    show own_Fin p e below _ (Tw_28.setTop (mkF m 116 #[.val (.int p1), .val (.int p2), .val (.long q3), .second, .val (.long q4), .second, .val (.int p5), .val (.long q6), .second, .val (.int (Int32.ofNat J)), .val (.int sv), .val (.long f), .second, .val (.int qv), .val (.ref ba_1), .val (.ref ba_8), .val (.ref ba_15), .unset, .unset, .unset, .unset, .unset, .unset] [(.ref ba_22)]))
    refine own_lift (fun t k => XS.astore Xw_28.here hx rfl (hb hby at_116) rfl rfl (l' := #[.val (.int p1), .val (.int p2), .val (.long q3), .second, .val (.long q4), .second, .val (.int p5), .val (.long q6), .second, .val (.int (Int32.ofNat J)), .val (.int sv), .val (.long f), .second, .val (.int qv), .val (.ref ba_1), .val (.ref ba_8), .val (.ref ba_15), .val (.ref ba_22), .unset, .unset, .unset, .unset, .unset]) rfl k) ?_
    show own_Fin p e below _ (Tw_28.setTop (mkF m 118 #[.val (.int p1), .val (.int p2), .val (.long q3), .second, .val (.long q4), .second, .val (.int p5), .val (.long q6), .second, .val (.int (Int32.ofNat J)), .val (.int sv), .val (.long f), .second, .val (.int qv), .val (.ref ba_1), .val (.ref ba_8), .val (.ref ba_15), .val (.ref ba_22), .unset, .unset, .unset, .unset, .unset] []))
    refine own_lift (fun t k => XS.iconst Xw_28.here hx rfl (hb hby at_118) k) ?_
    show own_Fin p e below _ (Tw_28.setTop (mkF m 119 #[.val (.int p1), .val (.int p2), .val (.long q3), .second, .val (.long q4), .second, .val (.int p5), .val (.long q6), .second, .val (.int (Int32.ofNat J)), .val (.int sv), .val (.long f), .second, .val (.int qv), .val (.ref ba_1), .val (.ref ba_8), .val (.ref ba_15), .val (.ref ba_22), .unset, .unset, .unset, .unset, .unset] [(.int (3 : Int32))]))
    obtain ⟨Ta_29, ha_29, ka_29, Xa_29, ea_29, Ea_29, Aa_29, sta_29⟩ := newP Xw_28 hx hZ (hw _ (List.mem_of_getElem? (i := 3) rfl)) ew_28 (g := (mkF m 119 #[.val (.int p1), .val (.int p2), .val (.long q3), .second, .val (.long q4), .second, .val (.int p5), .val (.long q6), .second, .val (.int (Int32.ofNat J)), .val (.int sv), .val (.long f), .second, .val (.int qv), .val (.ref ba_1), .val (.ref ba_8), .val (.ref ba_15), .val (.ref ba_22), .unset, .unset, .unset, .unset, .unset] [(.int (3 : Int32))])) rfl (hb hby at_119) rfl (by decide) (cap := 3) (by decide) (by decide) (by decide) (by decide)
    obtain ⟨ba_29, ga_29⟩ : ∃ z, z = hw_28.size := ⟨_, rfl⟩
    rw [← ga_29] at Aa_29 sta_29
    have nea_29_ba_1 : ba_1 ≠ ba_29 := Nat.ne_of_lt (Nat.lt_of_lt_of_le vw_28_ba_1.lt (Nat.le_of_eq ga_29.symm))
    have nea_29_ba_15 : ba_15 ≠ ba_29 := Nat.ne_of_lt (Nat.lt_of_lt_of_le vw_28_ba_15.lt (Nat.le_of_eq ga_29.symm))
    have nea_29_ba_22 : ba_22 ≠ ba_29 := Nat.ne_of_lt (Nat.lt_of_lt_of_le Vw_28.lt (Nat.le_of_eq ga_29.symm))
    have nea_29_ba_8 : ba_8 ≠ ba_29 := Nat.ne_of_lt (Nat.lt_of_lt_of_le vw_28_ba_8.lt (Nat.le_of_eq ga_29.symm))
    have gba_29 : n0 ≤ ba_29 := Nat.le_trans SZw_28 (Nat.le_of_eq ga_29.symm)
    have va_29_ba_1 := vw_28_ba_1.ext Ea_29
    have va_29_ba_8 := vw_28_ba_8.ext Ea_29
    have va_29_ba_15 := vw_28_ba_15.ext Ea_29
    have va_29_ba_22 := Vw_28.ext Ea_29
    have SZa_29 : n0 ≤ ha_29.size := Nat.le_trans SZw_28 Ea_29.1
    have Va_29 : Arv Z ha_29 ba_29 ka_29 .long (3 : Int32) [(.long (0 : Int64)), (.long (0 : Int64)), (.long (0 : Int64))] (.long (0 : Int64)) := (Arv.new Aa_29 (by decide)).pad (pad_rep [] (.long (0 : Int64)) 3)
    refine own_lift (fun t k => sta_29 _ k) ?_
    show own_Fin p e below _ (Ta_29.setTop (mkF m 121 #[.val (.int p1), .val (.int p2), .val (.long q3), .second, .val (.long q4), .second, .val (.int p5), .val (.long q6), .second, .val (.int (Int32.ofNat J)), .val (.int sv), .val (.long f), .second, .val (.int qv), .val (.ref ba_1), .val (.ref ba_8), .val (.ref ba_15), .val (.ref ba_22), .unset, .unset, .unset, .unset, .unset] [(.ref ba_29)]))
    refine own_lift (fun t k => XS.dup Xa_29.here hx rfl (hb hby at_121) rfl rfl k) ?_
    show own_Fin p e below _ (Ta_29.setTop (mkF m 122 #[.val (.int p1), .val (.int p2), .val (.long q3), .second, .val (.long q4), .second, .val (.int p5), .val (.long q6), .second, .val (.int (Int32.ofNat J)), .val (.int sv), .val (.long f), .second, .val (.int qv), .val (.ref ba_1), .val (.ref ba_8), .val (.ref ba_15), .val (.ref ba_22), .unset, .unset, .unset, .unset, .unset] [(.ref ba_29), (.ref ba_29)]))
    refine own_lift (fun t k => XS.iconst Xa_29.here hx rfl (hb hby at_122) k) ?_
    show own_Fin p e below _ (Ta_29.setTop (mkF m 123 #[.val (.int p1), .val (.int p2), .val (.long q3), .second, .val (.long q4), .second, .val (.int p5), .val (.long q6), .second, .val (.int (Int32.ofNat J)), .val (.int sv), .val (.long f), .second, .val (.int qv), .val (.ref ba_1), .val (.ref ba_8), .val (.ref ba_15), .val (.ref ba_22), .unset, .unset, .unset, .unset, .unset] [(.int (0 : Int32)), (.ref ba_29), (.ref ba_29)]))
    refine own_lift (fun t k => XS.lconst Xa_29.here hx rfl (hb hby at_123) k) ?_
    show own_Fin p e below _ (Ta_29.setTop (mkF m 124 #[.val (.int p1), .val (.int p2), .val (.long q3), .second, .val (.long q4), .second, .val (.int p5), .val (.long q6), .second, .val (.int (Int32.ofNat J)), .val (.int sv), .val (.long f), .second, .val (.int qv), .val (.ref ba_1), .val (.ref ba_8), .val (.ref ba_15), .val (.ref ba_22), .unset, .unset, .unset, .unset, .unset] [(.long (0 : Int64)), (.int (0 : Int32)), (.ref ba_29), (.ref ba_29)]))
    have cpv_30 := Va_29
    obtain ⟨clv_30, Arv_30, qv_30, Sv_30, Mv_30, Hv_30, Gv_30⟩ := cpv_30
    obtain ⟨Tw_31, hw_31, Xw_31, ew_31, Ww_31, stw_31⟩ := stJ Xa_29 hx hZ ea_29 Arv_30 (j := (0 : Int32)) (inb_of Sv_30 ⟨by decide, by decide⟩) (g := (mkF m 124 #[.val (.int p1), .val (.int p2), .val (.long q3), .second, .val (.long q4), .second, .val (.int p5), .val (.long q6), .second, .val (.int (Int32.ofNat J)), .val (.int sv), .val (.long f), .second, .val (.int qv), .val (.ref ba_1), .val (.ref ba_8), .val (.ref ba_15), .val (.ref ba_22), .unset, .unset, .unset, .unset, .unset] [(.long (0 : Int64)), (.int (0 : Int32)), (.ref ba_29), (.ref ba_29)])) rfl rfl (hb hby at_124)
    have vw_31_ba_1 := va_29_ba_1.other Ww_31 nea_29_ba_1
    have vw_31_ba_8 := va_29_ba_8.other Ww_31 nea_29_ba_8
    have vw_31_ba_15 := va_29_ba_15.other Ww_31 nea_29_ba_15
    have vw_31_ba_22 := va_29_ba_22.other Ww_31 nea_29_ba_22
    have SZw_31 : n0 ≤ hw_31.size := Nat.le_trans SZa_29 (Keep.of_wr Ww_31).1
    have Vw_31 : Arv Z hw_31 ba_29 ka_29 .long (3 : Int32) [(.long (0 : Int64)), (.long (0 : Int64)), (.long (0 : Int64))] (.long (0 : Int64)) := Arv.set Arv_30 qv_30 Sv_30 Mv_30 Hv_30 Gv_30 rfl Ww_31 0 rfl (Nat.le_of_ble_eq_true rfl)
    have Nw_31 := Fr.snoc Xw_31 Nw_28 gba_29
    refine own_lift (fun t k => stw_31 _ k) ?_
    show own_Fin p e below _ (Tw_31.setTop (mkF m 125 #[.val (.int p1), .val (.int p2), .val (.long q3), .second, .val (.long q4), .second, .val (.int p5), .val (.long q6), .second, .val (.int (Int32.ofNat J)), .val (.int sv), .val (.long f), .second, .val (.int qv), .val (.ref ba_1), .val (.ref ba_8), .val (.ref ba_15), .val (.ref ba_22), .unset, .unset, .unset, .unset, .unset] [(.ref ba_29)]))
    refine own_lift (fun t k => XS.dup Xw_31.here hx rfl (hb hby at_125) rfl rfl k) ?_
    show own_Fin p e below _ (Tw_31.setTop (mkF m 126 #[.val (.int p1), .val (.int p2), .val (.long q3), .second, .val (.long q4), .second, .val (.int p5), .val (.long q6), .second, .val (.int (Int32.ofNat J)), .val (.int sv), .val (.long f), .second, .val (.int qv), .val (.ref ba_1), .val (.ref ba_8), .val (.ref ba_15), .val (.ref ba_22), .unset, .unset, .unset, .unset, .unset] [(.ref ba_29), (.ref ba_29)]))
    refine own_lift (fun t k => XS.iconst Xw_31.here hx rfl (hb hby at_126) k) ?_
    show own_Fin p e below _ (Tw_31.setTop (mkF m 127 #[.val (.int p1), .val (.int p2), .val (.long q3), .second, .val (.long q4), .second, .val (.int p5), .val (.long q6), .second, .val (.int (Int32.ofNat J)), .val (.int sv), .val (.long f), .second, .val (.int qv), .val (.ref ba_1), .val (.ref ba_8), .val (.ref ba_15), .val (.ref ba_22), .unset, .unset, .unset, .unset, .unset] [(.int (1 : Int32)), (.ref ba_29), (.ref ba_29)]))
    refine own_lift (fun t k => XS.lconst Xw_31.here hx rfl (hb hby at_127) k) ?_
    show own_Fin p e below _ (Tw_31.setTop (mkF m 128 #[.val (.int p1), .val (.int p2), .val (.long q3), .second, .val (.long q4), .second, .val (.int p5), .val (.long q6), .second, .val (.int (Int32.ofNat J)), .val (.int sv), .val (.long f), .second, .val (.int qv), .val (.ref ba_1), .val (.ref ba_8), .val (.ref ba_15), .val (.ref ba_22), .unset, .unset, .unset, .unset, .unset] [(.long (0 : Int64)), (.int (1 : Int32)), (.ref ba_29), (.ref ba_29)]))
    have cpv_32 := Vw_31
    obtain ⟨clv_32, Arv_32, qv_32, Sv_32, Mv_32, Hv_32, Gv_32⟩ := cpv_32
    obtain ⟨Tw_33, hw_33, Xw_33, ew_33, Ww_33, stw_33⟩ := stJ Xw_31 hx hZ ew_31 Arv_32 (j := (1 : Int32)) (inb_of Sv_32 ⟨by decide, by decide⟩) (g := (mkF m 128 #[.val (.int p1), .val (.int p2), .val (.long q3), .second, .val (.long q4), .second, .val (.int p5), .val (.long q6), .second, .val (.int (Int32.ofNat J)), .val (.int sv), .val (.long f), .second, .val (.int qv), .val (.ref ba_1), .val (.ref ba_8), .val (.ref ba_15), .val (.ref ba_22), .unset, .unset, .unset, .unset, .unset] [(.long (0 : Int64)), (.int (1 : Int32)), (.ref ba_29), (.ref ba_29)])) rfl rfl (hb hby at_128)
    have vw_33_ba_1 := vw_31_ba_1.other Ww_33 nea_29_ba_1
    have vw_33_ba_8 := vw_31_ba_8.other Ww_33 nea_29_ba_8
    have vw_33_ba_15 := vw_31_ba_15.other Ww_33 nea_29_ba_15
    have vw_33_ba_22 := vw_31_ba_22.other Ww_33 nea_29_ba_22
    have SZw_33 : n0 ≤ hw_33.size := Nat.le_trans SZw_31 (Keep.of_wr Ww_33).1
    have Vw_33 : Arv Z hw_33 ba_29 ka_29 .long (3 : Int32) [(.long (0 : Int64)), (.long (0 : Int64)), (.long (0 : Int64))] (.long (0 : Int64)) := Arv.set Arv_32 qv_32 Sv_32 Mv_32 Hv_32 Gv_32 rfl Ww_33 1 rfl (Nat.le_of_ble_eq_true rfl)
    have Nw_33 := Fr.snoc Xw_33 Nw_31 gba_29
    refine own_lift (fun t k => stw_33 _ k) ?_
    show own_Fin p e below _ (Tw_33.setTop (mkF m 129 #[.val (.int p1), .val (.int p2), .val (.long q3), .second, .val (.long q4), .second, .val (.int p5), .val (.long q6), .second, .val (.int (Int32.ofNat J)), .val (.int sv), .val (.long f), .second, .val (.int qv), .val (.ref ba_1), .val (.ref ba_8), .val (.ref ba_15), .val (.ref ba_22), .unset, .unset, .unset, .unset, .unset] [(.ref ba_29)]))
    refine own_lift (fun t k => XS.dup Xw_33.here hx rfl (hb hby at_129) rfl rfl k) ?_
    show own_Fin p e below _ (Tw_33.setTop (mkF m 130 #[.val (.int p1), .val (.int p2), .val (.long q3), .second, .val (.long q4), .second, .val (.int p5), .val (.long q6), .second, .val (.int (Int32.ofNat J)), .val (.int sv), .val (.long f), .second, .val (.int qv), .val (.ref ba_1), .val (.ref ba_8), .val (.ref ba_15), .val (.ref ba_22), .unset, .unset, .unset, .unset, .unset] [(.ref ba_29), (.ref ba_29)]))
    refine own_lift (fun t k => XS.iconst Xw_33.here hx rfl (hb hby at_130) k) ?_
    show own_Fin p e below _ (Tw_33.setTop (mkF m 131 #[.val (.int p1), .val (.int p2), .val (.long q3), .second, .val (.long q4), .second, .val (.int p5), .val (.long q6), .second, .val (.int (Int32.ofNat J)), .val (.int sv), .val (.long f), .second, .val (.int qv), .val (.ref ba_1), .val (.ref ba_8), .val (.ref ba_15), .val (.ref ba_22), .unset, .unset, .unset, .unset, .unset] [(.int (2 : Int32)), (.ref ba_29), (.ref ba_29)]))
    refine own_lift (fun t k => XS.lconst Xw_33.here hx rfl (hb hby at_131) k) ?_
    show own_Fin p e below _ (Tw_33.setTop (mkF m 132 #[.val (.int p1), .val (.int p2), .val (.long q3), .second, .val (.long q4), .second, .val (.int p5), .val (.long q6), .second, .val (.int (Int32.ofNat J)), .val (.int sv), .val (.long f), .second, .val (.int qv), .val (.ref ba_1), .val (.ref ba_8), .val (.ref ba_15), .val (.ref ba_22), .unset, .unset, .unset, .unset, .unset] [(.long (0 : Int64)), (.int (2 : Int32)), (.ref ba_29), (.ref ba_29)]))
    have cpv_34 := Vw_33
    obtain ⟨clv_34, Arv_34, qv_34, Sv_34, Mv_34, Hv_34, Gv_34⟩ := cpv_34
    obtain ⟨Tw_35, hw_35, Xw_35, ew_35, Ww_35, stw_35⟩ := stJ Xw_33 hx hZ ew_33 Arv_34 (j := (2 : Int32)) (inb_of Sv_34 ⟨by decide, by decide⟩) (g := (mkF m 132 #[.val (.int p1), .val (.int p2), .val (.long q3), .second, .val (.long q4), .second, .val (.int p5), .val (.long q6), .second, .val (.int (Int32.ofNat J)), .val (.int sv), .val (.long f), .second, .val (.int qv), .val (.ref ba_1), .val (.ref ba_8), .val (.ref ba_15), .val (.ref ba_22), .unset, .unset, .unset, .unset, .unset] [(.long (0 : Int64)), (.int (2 : Int32)), (.ref ba_29), (.ref ba_29)])) rfl rfl (hb hby at_132)
    have vw_35_ba_1 := vw_33_ba_1.other Ww_35 nea_29_ba_1
    have vw_35_ba_8 := vw_33_ba_8.other Ww_35 nea_29_ba_8
    have vw_35_ba_15 := vw_33_ba_15.other Ww_35 nea_29_ba_15
    have vw_35_ba_22 := vw_33_ba_22.other Ww_35 nea_29_ba_22
    have SZw_35 : n0 ≤ hw_35.size := Nat.le_trans SZw_33 (Keep.of_wr Ww_35).1
    have Vw_35 : Arv Z hw_35 ba_29 ka_29 .long (3 : Int32) [(.long (0 : Int64)), (.long (0 : Int64)), (.long (0 : Int64))] (.long (0 : Int64)) := Arv.set Arv_34 qv_34 Sv_34 Mv_34 Hv_34 Gv_34 rfl Ww_35 2 rfl (Nat.le_of_ble_eq_true rfl)
    have Nw_35 := Fr.snoc Xw_35 Nw_33 gba_29
    refine own_lift (fun t k => stw_35 _ k) ?_
    show own_Fin p e below _ (Tw_35.setTop (mkF m 133 #[.val (.int p1), .val (.int p2), .val (.long q3), .second, .val (.long q4), .second, .val (.int p5), .val (.long q6), .second, .val (.int (Int32.ofNat J)), .val (.int sv), .val (.long f), .second, .val (.int qv), .val (.ref ba_1), .val (.ref ba_8), .val (.ref ba_15), .val (.ref ba_22), .unset, .unset, .unset, .unset, .unset] [(.ref ba_29)]))
    refine own_lift (fun t k => XS.astore Xw_35.here hx rfl (hb hby at_133) rfl rfl (l' := #[.val (.int p1), .val (.int p2), .val (.long q3), .second, .val (.long q4), .second, .val (.int p5), .val (.long q6), .second, .val (.int (Int32.ofNat J)), .val (.int sv), .val (.long f), .second, .val (.int qv), .val (.ref ba_1), .val (.ref ba_8), .val (.ref ba_15), .val (.ref ba_22), .val (.ref ba_29), .unset, .unset, .unset, .unset]) rfl k) ?_
    show own_Fin p e below _ (Tw_35.setTop (mkF m 135 #[.val (.int p1), .val (.int p2), .val (.long q3), .second, .val (.long q4), .second, .val (.int p5), .val (.long q6), .second, .val (.int (Int32.ofNat J)), .val (.int sv), .val (.long f), .second, .val (.int qv), .val (.ref ba_1), .val (.ref ba_8), .val (.ref ba_15), .val (.ref ba_22), .val (.ref ba_29), .unset, .unset, .unset, .unset] []))
    refine own_lift (fun t k => XS.aload Xw_35.here hx rfl (hb hby at_135) rfl rfl k) ?_
    show own_Fin p e below _ (Tw_35.setTop (mkF m 137 #[.val (.int p1), .val (.int p2), .val (.long q3), .second, .val (.long q4), .second, .val (.int p5), .val (.long q6), .second, .val (.int (Int32.ofNat J)), .val (.int sv), .val (.long f), .second, .val (.int qv), .val (.ref ba_1), .val (.ref ba_8), .val (.ref ba_15), .val (.ref ba_22), .val (.ref ba_29), .unset, .unset, .unset, .unset] [(.ref ba_1)]))
    refine own_lift (fun t k => XS.iload Xw_35.here hx rfl (hb hby at_137) rfl k) ?_
    show own_Fin p e below _ (Tw_35.setTop (mkF m 139 #[.val (.int p1), .val (.int p2), .val (.long q3), .second, .val (.long q4), .second, .val (.int p5), .val (.long q6), .second, .val (.int (Int32.ofNat J)), .val (.int sv), .val (.long f), .second, .val (.int qv), .val (.ref ba_1), .val (.ref ba_8), .val (.ref ba_15), .val (.ref ba_22), .val (.ref ba_29), .unset, .unset, .unset, .unset] [(.int (Int32.ofNat J)), (.ref ba_1)]))
    refine own_lift (fun t k => XS.iload Xw_35.here hx rfl (hb hby at_139) rfl k) ?_
    show own_Fin p e below _ (Tw_35.setTop (mkF m 141 #[.val (.int p1), .val (.int p2), .val (.long q3), .second, .val (.long q4), .second, .val (.int p5), .val (.long q6), .second, .val (.int (Int32.ofNat J)), .val (.int sv), .val (.long f), .second, .val (.int qv), .val (.ref ba_1), .val (.ref ba_8), .val (.ref ba_15), .val (.ref ba_22), .val (.ref ba_29), .unset, .unset, .unset, .unset] [(.int sv), (.int (Int32.ofNat J)), (.ref ba_1)]))
    have cpv_36 := vw_35_ba_1
    obtain ⟨clv_36, Arv_36, qv_36, Sv_36, Mv_36, Hv_36, Gv_36⟩ := cpv_36
    obtain ⟨Tw_37, hw_37, Xw_37, ew_37, Ww_37, stw_37⟩ := stI Xw_35 hx hZ ew_35 Arv_36 (j := (Int32.ofNat J)) (own_hin hJ Sv_36) (g := (mkF m 141 #[.val (.int p1), .val (.int p2), .val (.long q3), .second, .val (.long q4), .second, .val (.int p5), .val (.long q6), .second, .val (.int (Int32.ofNat J)), .val (.int sv), .val (.long f), .second, .val (.int qv), .val (.ref ba_1), .val (.ref ba_8), .val (.ref ba_15), .val (.ref ba_22), .val (.ref ba_29), .unset, .unset, .unset, .unset] [(.int sv), (.int (Int32.ofNat J)), (.ref ba_1)])) rfl rfl (hb hby at_141)
    have vw_37_ba_8 := vw_35_ba_8.other Ww_37 (Ne.symm nea_8_ba_1)
    have vw_37_ba_15 := vw_35_ba_15.other Ww_37 (Ne.symm nea_15_ba_1)
    have vw_37_ba_22 := vw_35_ba_22.other Ww_37 (Ne.symm nea_22_ba_1)
    have vw_37_ba_29 := Vw_35.other Ww_37 (Ne.symm nea_29_ba_1)
    have SZw_37 : n0 ≤ hw_37.size := Nat.le_trans SZw_35 (Keep.of_wr Ww_37).1
    have Vw_37 : Arv Z hw_37 ba_1 ka_1 .int (3 : Int32) ([(.int (0 : Int32)), (.int (1 : Int32)), (.int (2 : Int32))].set J (.int sv)) (.int (0 : Int32)) := Arv.set Arv_36 qv_36 Sv_36 Mv_36 Hv_36 Gv_36 rfl Ww_37 J (own_n32 hJ) hJ
    have Nw_37 := Fr.snoc Xw_37 Nw_35 gba_1
    refine own_lift (fun t k => stw_37 _ k) ?_
    show own_Fin p e below _ (Tw_37.setTop (mkF m 142 #[.val (.int p1), .val (.int p2), .val (.long q3), .second, .val (.long q4), .second, .val (.int p5), .val (.long q6), .second, .val (.int (Int32.ofNat J)), .val (.int sv), .val (.long f), .second, .val (.int qv), .val (.ref ba_1), .val (.ref ba_8), .val (.ref ba_15), .val (.ref ba_22), .val (.ref ba_29), .unset, .unset, .unset, .unset] []))
    refine own_lift (fun t k => XS.aload Xw_37.here hx rfl (hb hby at_142) rfl rfl k) ?_
    show own_Fin p e below _ (Tw_37.setTop (mkF m 144 #[.val (.int p1), .val (.int p2), .val (.long q3), .second, .val (.long q4), .second, .val (.int p5), .val (.long q6), .second, .val (.int (Int32.ofNat J)), .val (.int sv), .val (.long f), .second, .val (.int qv), .val (.ref ba_1), .val (.ref ba_8), .val (.ref ba_15), .val (.ref ba_22), .val (.ref ba_29), .unset, .unset, .unset, .unset] [(.ref ba_8)]))
    refine own_lift (fun t k => XS.iload Xw_37.here hx rfl (hb hby at_144) rfl k) ?_
    show own_Fin p e below _ (Tw_37.setTop (mkF m 146 #[.val (.int p1), .val (.int p2), .val (.long q3), .second, .val (.long q4), .second, .val (.int p5), .val (.long q6), .second, .val (.int (Int32.ofNat J)), .val (.int sv), .val (.long f), .second, .val (.int qv), .val (.ref ba_1), .val (.ref ba_8), .val (.ref ba_15), .val (.ref ba_22), .val (.ref ba_29), .unset, .unset, .unset, .unset] [(.int (Int32.ofNat J)), (.ref ba_8)]))
    refine own_lift (fun t k => XS.lload Xw_37.here hx rfl (hb hby at_146) rfl k) ?_
    show own_Fin p e below _ (Tw_37.setTop (mkF m 148 #[.val (.int p1), .val (.int p2), .val (.long q3), .second, .val (.long q4), .second, .val (.int p5), .val (.long q6), .second, .val (.int (Int32.ofNat J)), .val (.int sv), .val (.long f), .second, .val (.int qv), .val (.ref ba_1), .val (.ref ba_8), .val (.ref ba_15), .val (.ref ba_22), .val (.ref ba_29), .unset, .unset, .unset, .unset] [(.long f), (.int (Int32.ofNat J)), (.ref ba_8)]))
    have cpv_38 := vw_37_ba_8
    obtain ⟨clv_38, Arv_38, qv_38, Sv_38, Mv_38, Hv_38, Gv_38⟩ := cpv_38
    obtain ⟨Tw_39, hw_39, Xw_39, ew_39, Ww_39, stw_39⟩ := stJ Xw_37 hx hZ ew_37 Arv_38 (j := (Int32.ofNat J)) (own_hin hJ Sv_38) (g := (mkF m 148 #[.val (.int p1), .val (.int p2), .val (.long q3), .second, .val (.long q4), .second, .val (.int p5), .val (.long q6), .second, .val (.int (Int32.ofNat J)), .val (.int sv), .val (.long f), .second, .val (.int qv), .val (.ref ba_1), .val (.ref ba_8), .val (.ref ba_15), .val (.ref ba_22), .val (.ref ba_29), .unset, .unset, .unset, .unset] [(.long f), (.int (Int32.ofNat J)), (.ref ba_8)])) rfl rfl (hb hby at_148)
    have vw_39_ba_1 := Vw_37.other Ww_39 nea_8_ba_1
    have vw_39_ba_15 := vw_37_ba_15.other Ww_39 (Ne.symm nea_15_ba_8)
    have vw_39_ba_22 := vw_37_ba_22.other Ww_39 (Ne.symm nea_22_ba_8)
    have vw_39_ba_29 := vw_37_ba_29.other Ww_39 (Ne.symm nea_29_ba_8)
    have SZw_39 : n0 ≤ hw_39.size := Nat.le_trans SZw_37 (Keep.of_wr Ww_39).1
    have Vw_39 : Arv Z hw_39 ba_8 ka_8 .long (3 : Int32) ([(.long (1 : Int64)), (.long (2 : Int64)), (.long (3 : Int64))].set J (.long f)) (.long (0 : Int64)) := Arv.set Arv_38 qv_38 Sv_38 Mv_38 Hv_38 Gv_38 rfl Ww_39 J (own_n32 hJ) hJ
    have Nw_39 := Fr.snoc Xw_39 Nw_37 gba_8
    refine own_lift (fun t k => stw_39 _ k) ?_
    show own_Fin p e below _ (Tw_39.setTop (mkF m 149 #[.val (.int p1), .val (.int p2), .val (.long q3), .second, .val (.long q4), .second, .val (.int p5), .val (.long q6), .second, .val (.int (Int32.ofNat J)), .val (.int sv), .val (.long f), .second, .val (.int qv), .val (.ref ba_1), .val (.ref ba_8), .val (.ref ba_15), .val (.ref ba_22), .val (.ref ba_29), .unset, .unset, .unset, .unset] []))
    refine own_lift (fun t k => XS.aload Xw_39.here hx rfl (hb hby at_149) rfl rfl k) ?_
    show own_Fin p e below _ (Tw_39.setTop (mkF m 151 #[.val (.int p1), .val (.int p2), .val (.long q3), .second, .val (.long q4), .second, .val (.int p5), .val (.long q6), .second, .val (.int (Int32.ofNat J)), .val (.int sv), .val (.long f), .second, .val (.int qv), .val (.ref ba_1), .val (.ref ba_8), .val (.ref ba_15), .val (.ref ba_22), .val (.ref ba_29), .unset, .unset, .unset, .unset] [(.ref ba_15)]))
    refine own_lift (fun t k => XS.iload Xw_39.here hx rfl (hb hby at_151) rfl k) ?_
    show own_Fin p e below _ (Tw_39.setTop (mkF m 153 #[.val (.int p1), .val (.int p2), .val (.long q3), .second, .val (.long q4), .second, .val (.int p5), .val (.long q6), .second, .val (.int (Int32.ofNat J)), .val (.int sv), .val (.long f), .second, .val (.int qv), .val (.ref ba_1), .val (.ref ba_8), .val (.ref ba_15), .val (.ref ba_22), .val (.ref ba_29), .unset, .unset, .unset, .unset] [(.int (Int32.ofNat J)), (.ref ba_15)]))
    refine own_lift (fun t k => XS.lload Xw_39.here hx rfl (hb hby at_153) rfl k) ?_
    show own_Fin p e below _ (Tw_39.setTop (mkF m 155 #[.val (.int p1), .val (.int p2), .val (.long q3), .second, .val (.long q4), .second, .val (.int p5), .val (.long q6), .second, .val (.int (Int32.ofNat J)), .val (.int sv), .val (.long f), .second, .val (.int qv), .val (.ref ba_1), .val (.ref ba_8), .val (.ref ba_15), .val (.ref ba_22), .val (.ref ba_29), .unset, .unset, .unset, .unset] [(.long q4), (.int (Int32.ofNat J)), (.ref ba_15)]))
    have cpv_40 := vw_39_ba_15
    obtain ⟨clv_40, Arv_40, qv_40, Sv_40, Mv_40, Hv_40, Gv_40⟩ := cpv_40
    obtain ⟨Tw_41, hw_41, Xw_41, ew_41, Ww_41, stw_41⟩ := stJ Xw_39 hx hZ ew_39 Arv_40 (j := (Int32.ofNat J)) (own_hin hJ Sv_40) (g := (mkF m 155 #[.val (.int p1), .val (.int p2), .val (.long q3), .second, .val (.long q4), .second, .val (.int p5), .val (.long q6), .second, .val (.int (Int32.ofNat J)), .val (.int sv), .val (.long f), .second, .val (.int qv), .val (.ref ba_1), .val (.ref ba_8), .val (.ref ba_15), .val (.ref ba_22), .val (.ref ba_29), .unset, .unset, .unset, .unset] [(.long q4), (.int (Int32.ofNat J)), (.ref ba_15)])) rfl rfl (hb hby at_155)
    have vw_41_ba_1 := vw_39_ba_1.other Ww_41 nea_15_ba_1
    have vw_41_ba_8 := Vw_39.other Ww_41 nea_15_ba_8
    have vw_41_ba_22 := vw_39_ba_22.other Ww_41 (Ne.symm nea_22_ba_15)
    have vw_41_ba_29 := vw_39_ba_29.other Ww_41 (Ne.symm nea_29_ba_15)
    have SZw_41 : n0 ≤ hw_41.size := Nat.le_trans SZw_39 (Keep.of_wr Ww_41).1
    have Vw_41 : Arv Z hw_41 ba_15 ka_15 .long (3 : Int32) ([(.long (0 : Int64)), (.long (0 : Int64)), (.long (0 : Int64))].set J (.long q4)) (.long (0 : Int64)) := Arv.set Arv_40 qv_40 Sv_40 Mv_40 Hv_40 Gv_40 rfl Ww_41 J (own_n32 hJ) hJ
    have Nw_41 := Fr.snoc Xw_41 Nw_39 gba_15
    refine own_lift (fun t k => stw_41 _ k) ?_
    show own_Fin p e below _ (Tw_41.setTop (mkF m 156 #[.val (.int p1), .val (.int p2), .val (.long q3), .second, .val (.long q4), .second, .val (.int p5), .val (.long q6), .second, .val (.int (Int32.ofNat J)), .val (.int sv), .val (.long f), .second, .val (.int qv), .val (.ref ba_1), .val (.ref ba_8), .val (.ref ba_15), .val (.ref ba_22), .val (.ref ba_29), .unset, .unset, .unset, .unset] []))
    refine own_lift (fun t k => XS.aload Xw_41.here hx rfl (hb hby at_156) rfl rfl k) ?_
    show own_Fin p e below _ (Tw_41.setTop (mkF m 158 #[.val (.int p1), .val (.int p2), .val (.long q3), .second, .val (.long q4), .second, .val (.int p5), .val (.long q6), .second, .val (.int (Int32.ofNat J)), .val (.int sv), .val (.long f), .second, .val (.int qv), .val (.ref ba_1), .val (.ref ba_8), .val (.ref ba_15), .val (.ref ba_22), .val (.ref ba_29), .unset, .unset, .unset, .unset] [(.ref ba_22)]))
    refine own_lift (fun t k => XS.iload Xw_41.here hx rfl (hb hby at_158) rfl k) ?_
    show own_Fin p e below _ (Tw_41.setTop (mkF m 160 #[.val (.int p1), .val (.int p2), .val (.long q3), .second, .val (.long q4), .second, .val (.int p5), .val (.long q6), .second, .val (.int (Int32.ofNat J)), .val (.int sv), .val (.long f), .second, .val (.int qv), .val (.ref ba_1), .val (.ref ba_8), .val (.ref ba_15), .val (.ref ba_22), .val (.ref ba_29), .unset, .unset, .unset, .unset] [(.int (Int32.ofNat J)), (.ref ba_22)]))
    refine own_lift (fun t k => XS.iload Xw_41.here hx rfl (hb hby at_160) rfl k) ?_
    show own_Fin p e below _ (Tw_41.setTop (mkF m 162 #[.val (.int p1), .val (.int p2), .val (.long q3), .second, .val (.long q4), .second, .val (.int p5), .val (.long q6), .second, .val (.int (Int32.ofNat J)), .val (.int sv), .val (.long f), .second, .val (.int qv), .val (.ref ba_1), .val (.ref ba_8), .val (.ref ba_15), .val (.ref ba_22), .val (.ref ba_29), .unset, .unset, .unset, .unset] [(.int qv), (.int (Int32.ofNat J)), (.ref ba_22)]))
    have cpv_42 := vw_41_ba_22
    obtain ⟨clv_42, Arv_42, qv_42, Sv_42, Mv_42, Hv_42, Gv_42⟩ := cpv_42
    obtain ⟨Tw_43, hw_43, Xw_43, ew_43, Ww_43, stw_43⟩ := stI Xw_41 hx hZ ew_41 Arv_42 (j := (Int32.ofNat J)) (own_hin hJ Sv_42) (g := (mkF m 162 #[.val (.int p1), .val (.int p2), .val (.long q3), .second, .val (.long q4), .second, .val (.int p5), .val (.long q6), .second, .val (.int (Int32.ofNat J)), .val (.int sv), .val (.long f), .second, .val (.int qv), .val (.ref ba_1), .val (.ref ba_8), .val (.ref ba_15), .val (.ref ba_22), .val (.ref ba_29), .unset, .unset, .unset, .unset] [(.int qv), (.int (Int32.ofNat J)), (.ref ba_22)])) rfl rfl (hb hby at_162)
    have vw_43_ba_1 := vw_41_ba_1.other Ww_43 nea_22_ba_1
    have vw_43_ba_8 := vw_41_ba_8.other Ww_43 nea_22_ba_8
    have vw_43_ba_15 := Vw_41.other Ww_43 nea_22_ba_15
    have vw_43_ba_29 := vw_41_ba_29.other Ww_43 (Ne.symm nea_29_ba_22)
    have SZw_43 : n0 ≤ hw_43.size := Nat.le_trans SZw_41 (Keep.of_wr Ww_43).1
    have Vw_43 : Arv Z hw_43 ba_22 ka_22 .int (3 : Int32) ([(.int (-1 : Int32)), (.int (-1 : Int32)), (.int (-1 : Int32))].set J (.int qv)) (.int (0 : Int32)) := Arv.set Arv_42 qv_42 Sv_42 Mv_42 Hv_42 Gv_42 rfl Ww_43 J (own_n32 hJ) hJ
    have Nw_43 := Fr.snoc Xw_43 Nw_41 gba_22
    refine own_lift (fun t k => stw_43 _ k) ?_
    show own_Fin p e below _ (Tw_43.setTop (mkF m 163 #[.val (.int p1), .val (.int p2), .val (.long q3), .second, .val (.long q4), .second, .val (.int p5), .val (.long q6), .second, .val (.int (Int32.ofNat J)), .val (.int sv), .val (.long f), .second, .val (.int qv), .val (.ref ba_1), .val (.ref ba_8), .val (.ref ba_15), .val (.ref ba_22), .val (.ref ba_29), .unset, .unset, .unset, .unset] []))
    refine own_lift (fun t k => XS.aload Xw_43.here hx rfl (hb hby at_163) rfl rfl k) ?_
    show own_Fin p e below _ (Tw_43.setTop (mkF m 165 #[.val (.int p1), .val (.int p2), .val (.long q3), .second, .val (.long q4), .second, .val (.int p5), .val (.long q6), .second, .val (.int (Int32.ofNat J)), .val (.int sv), .val (.long f), .second, .val (.int qv), .val (.ref ba_1), .val (.ref ba_8), .val (.ref ba_15), .val (.ref ba_22), .val (.ref ba_29), .unset, .unset, .unset, .unset] [(.ref ba_29)]))
    refine own_lift (fun t k => XS.iload Xw_43.here hx rfl (hb hby at_165) rfl k) ?_
    show own_Fin p e below _ (Tw_43.setTop (mkF m 167 #[.val (.int p1), .val (.int p2), .val (.long q3), .second, .val (.long q4), .second, .val (.int p5), .val (.long q6), .second, .val (.int (Int32.ofNat J)), .val (.int sv), .val (.long f), .second, .val (.int qv), .val (.ref ba_1), .val (.ref ba_8), .val (.ref ba_15), .val (.ref ba_22), .val (.ref ba_29), .unset, .unset, .unset, .unset] [(.int (Int32.ofNat J)), (.ref ba_29)]))
    refine own_lift (fun t k => XS.lload Xw_43.here hx rfl (hb hby at_167) rfl k) ?_
    show own_Fin p e below _ (Tw_43.setTop (mkF m 169 #[.val (.int p1), .val (.int p2), .val (.long q3), .second, .val (.long q4), .second, .val (.int p5), .val (.long q6), .second, .val (.int (Int32.ofNat J)), .val (.int sv), .val (.long f), .second, .val (.int qv), .val (.ref ba_1), .val (.ref ba_8), .val (.ref ba_15), .val (.ref ba_22), .val (.ref ba_29), .unset, .unset, .unset, .unset] [(.long q4), (.int (Int32.ofNat J)), (.ref ba_29)]))
    refine own_lift (fun t k => Xw_43.ldc2J hx hown (mvT hZ (hw _ (List.mem_of_getElem? (i := 5) rfl))) rfl (hb hby at_169) k) ?_
    show own_Fin p e below _ (Tw_43.setTop (mkF m 172 #[.val (.int p1), .val (.int p2), .val (.long q3), .second, .val (.long q4), .second, .val (.int p5), .val (.long q6), .second, .val (.int (Int32.ofNat J)), .val (.int sv), .val (.long f), .second, .val (.int qv), .val (.ref ba_1), .val (.ref ba_8), .val (.ref ba_15), .val (.ref ba_22), .val (.ref ba_29), .unset, .unset, .unset, .unset] [(.long (9223372036854775807 : Int64)), (.long q4), (.int (Int32.ofNat J)), (.ref ba_29)]))
    refine own_lift (fun t k => XS.land Xw_43.here hx rfl (hb hby at_172) rfl k) ?_
    show own_Fin p e below _ (Tw_43.setTop (mkF m 173 #[.val (.int p1), .val (.int p2), .val (.long q3), .second, .val (.long q4), .second, .val (.int p5), .val (.long q6), .second, .val (.int (Int32.ofNat J)), .val (.int sv), .val (.long f), .second, .val (.int qv), .val (.ref ba_1), .val (.ref ba_8), .val (.ref ba_15), .val (.ref ba_22), .val (.ref ba_29), .unset, .unset, .unset, .unset] [(.long (q4 &&& (9223372036854775807 : Int64))), (.int (Int32.ofNat J)), (.ref ba_29)]))
    have cpv_44 := vw_43_ba_29
    obtain ⟨clv_44, Arv_44, qv_44, Sv_44, Mv_44, Hv_44, Gv_44⟩ := cpv_44
    obtain ⟨Tw_45, hw_45, Xw_45, ew_45, Ww_45, stw_45⟩ := stJ Xw_43 hx hZ ew_43 Arv_44 (j := (Int32.ofNat J)) (own_hin hJ Sv_44) (g := (mkF m 173 #[.val (.int p1), .val (.int p2), .val (.long q3), .second, .val (.long q4), .second, .val (.int p5), .val (.long q6), .second, .val (.int (Int32.ofNat J)), .val (.int sv), .val (.long f), .second, .val (.int qv), .val (.ref ba_1), .val (.ref ba_8), .val (.ref ba_15), .val (.ref ba_22), .val (.ref ba_29), .unset, .unset, .unset, .unset] [(.long (q4 &&& (9223372036854775807 : Int64))), (.int (Int32.ofNat J)), (.ref ba_29)])) rfl rfl (hb hby at_173)
    have vw_45_ba_1 := vw_43_ba_1.other Ww_45 nea_29_ba_1
    have vw_45_ba_8 := vw_43_ba_8.other Ww_45 nea_29_ba_8
    have vw_45_ba_15 := vw_43_ba_15.other Ww_45 nea_29_ba_15
    have vw_45_ba_22 := Vw_43.other Ww_45 nea_29_ba_22
    have SZw_45 : n0 ≤ hw_45.size := Nat.le_trans SZw_43 (Keep.of_wr Ww_45).1
    have Vw_45 : Arv Z hw_45 ba_29 ka_29 .long (3 : Int32) ([(.long (0 : Int64)), (.long (0 : Int64)), (.long (0 : Int64))].set J (.long (q4 &&& (9223372036854775807 : Int64)))) (.long (0 : Int64)) := Arv.set Arv_44 qv_44 Sv_44 Mv_44 Hv_44 Gv_44 rfl Ww_45 J (own_n32 hJ) hJ
    have Nw_45 := Fr.snoc Xw_45 Nw_43 gba_29
    refine own_lift (fun t k => stw_45 _ k) ?_
    show own_Fin p e below _ (Tw_45.setTop (mkF m 174 #[.val (.int p1), .val (.int p2), .val (.long q3), .second, .val (.long q4), .second, .val (.int p5), .val (.long q6), .second, .val (.int (Int32.ofNat J)), .val (.int sv), .val (.long f), .second, .val (.int qv), .val (.ref ba_1), .val (.ref ba_8), .val (.ref ba_15), .val (.ref ba_22), .val (.ref ba_29), .unset, .unset, .unset, .unset] []))
    obtain ⟨To_46, ho_46, Xo_46, eo_46, Eo_46, Ao_46, Do_46, -, sto_46⟩ := newO Xw_45 hx hZ hown (hw _ (List.mem_of_getElem? (i := 6) rfl)) (hw _ (List.mem_of_getElem? (i := 7) rfl)) (hw _ (List.mem_of_getElem? (i := 8) rfl)) ew_45 (g := (mkF m 174 #[.val (.int p1), .val (.int p2), .val (.long q3), .second, .val (.long q4), .second, .val (.int p5), .val (.long q6), .second, .val (.int (Int32.ofNat J)), .val (.int sv), .val (.long f), .second, .val (.int qv), .val (.ref ba_1), .val (.ref ba_8), .val (.ref ba_15), .val (.ref ba_22), .val (.ref ba_29), .unset, .unset, .unset, .unset] [])) rfl (hb hby at_174) (by decide) (by decide)
    obtain ⟨bo_46, go_46⟩ : ∃ z, z = hw_45.size := ⟨_, rfl⟩
    rw [← go_46] at Ao_46 Do_46 sto_46
    have neo_46_ba_1 : ba_1 ≠ bo_46 := Nat.ne_of_lt (Nat.lt_of_lt_of_le vw_45_ba_1.lt (Nat.le_of_eq go_46.symm))
    have neo_46_ba_15 : ba_15 ≠ bo_46 := Nat.ne_of_lt (Nat.lt_of_lt_of_le vw_45_ba_15.lt (Nat.le_of_eq go_46.symm))
    have neo_46_ba_22 : ba_22 ≠ bo_46 := Nat.ne_of_lt (Nat.lt_of_lt_of_le vw_45_ba_22.lt (Nat.le_of_eq go_46.symm))
    have neo_46_ba_29 : ba_29 ≠ bo_46 := Nat.ne_of_lt (Nat.lt_of_lt_of_le Vw_45.lt (Nat.le_of_eq go_46.symm))
    have neo_46_ba_8 : ba_8 ≠ bo_46 := Nat.ne_of_lt (Nat.lt_of_lt_of_le vw_45_ba_8.lt (Nat.le_of_eq go_46.symm))
    have gbo_46 : n0 ≤ bo_46 := Nat.le_trans SZw_45 (Nat.le_of_eq go_46.symm)
    have vo_46_ba_1 := vw_45_ba_1.ext Eo_46
    have vo_46_ba_8 := vw_45_ba_8.ext Eo_46
    have vo_46_ba_15 := vw_45_ba_15.ext Eo_46
    have vo_46_ba_22 := vw_45_ba_22.ext Eo_46
    have vo_46_ba_29 := Vw_45.ext Eo_46
    have SZo_46 : n0 ≤ ho_46.size := Nat.le_trans SZw_45 Eo_46.1
    have Fo_46_m_aSources : Fld Z ho_46 bo_46 "com/example/riverfront/riverfront/solver/VectorMap" "m_aSources" "[I" .null := Do_46 (Or.inr (hw _ (List.mem_of_getElem? (i := 16) rfl))) (ty := (.array .int)) (by decide)
    have Fo_46_m_aFactors : Fld Z ho_46 bo_46 "com/example/riverfront/riverfront/solver/VectorMap" "m_aFactors" "[J" .null := Do_46 (Or.inr (hw _ (List.mem_of_getElem? (i := 18) rfl))) (ty := (.array .long)) (by decide)
    have Fo_46_m_aAdded : Fld Z ho_46 bo_46 "com/example/riverfront/riverfront/solver/VectorMap" "m_aAdded" "[J" .null := Do_46 (Or.inr (hw _ (List.mem_of_getElem? (i := 20) rfl))) (ty := (.array .long)) (by decide)
    have Fo_46_m_aSquared : Fld Z ho_46 bo_46 "com/example/riverfront/riverfront/solver/VectorMap" "m_aSquared" "[I" .null := Do_46 (Or.inr (hw _ (List.mem_of_getElem? (i := 22) rfl))) (ty := (.array .int)) (by decide)
    have Fo_46_m_aShifts : Fld Z ho_46 bo_46 "com/example/riverfront/riverfront/solver/VectorMap" "m_aShifts" "[J" .null := Do_46 (Or.inr (hw _ (List.mem_of_getElem? (i := 24) rfl))) (ty := (.array .long)) (by decide)
    refine own_lift (fun t k => sto_46 _ k) ?_
    show own_Fin p e below _ (To_46.setTop (mkF m 177 #[.val (.int p1), .val (.int p2), .val (.long q3), .second, .val (.long q4), .second, .val (.int p5), .val (.long q6), .second, .val (.int (Int32.ofNat J)), .val (.int sv), .val (.long f), .second, .val (.int qv), .val (.ref ba_1), .val (.ref ba_8), .val (.ref ba_15), .val (.ref ba_22), .val (.ref ba_29), .unset, .unset, .unset, .unset] [(.ref bo_46)]))
    refine own_lift (fun t k => XS.dup Xo_46.here hx rfl (hb hby at_177) rfl rfl k) ?_
    show own_Fin p e below _ (To_46.setTop (mkF m 178 #[.val (.int p1), .val (.int p2), .val (.long q3), .second, .val (.long q4), .second, .val (.int p5), .val (.long q6), .second, .val (.int (Int32.ofNat J)), .val (.int sv), .val (.long f), .second, .val (.int qv), .val (.ref ba_1), .val (.ref ba_8), .val (.ref ba_15), .val (.ref ba_22), .val (.ref ba_29), .unset, .unset, .unset, .unset] [(.ref bo_46), (.ref bo_46)]))
    refine own_lift (fun t k => XS.aload Xo_46.here hx rfl (hb hby at_178) rfl rfl k) ?_
    show own_Fin p e below _ (To_46.setTop (mkF m 180 #[.val (.int p1), .val (.int p2), .val (.long q3), .second, .val (.long q4), .second, .val (.int p5), .val (.long q6), .second, .val (.int (Int32.ofNat J)), .val (.int sv), .val (.long f), .second, .val (.int qv), .val (.ref ba_1), .val (.ref ba_8), .val (.ref ba_15), .val (.ref ba_22), .val (.ref ba_29), .unset, .unset, .unset, .unset] [(.ref ba_1), (.ref bo_46), (.ref bo_46)]))
    refine own_lift (fun t k => XS.aload Xo_46.here hx rfl (hb hby at_180) rfl rfl k) ?_
    show own_Fin p e below _ (To_46.setTop (mkF m 182 #[.val (.int p1), .val (.int p2), .val (.long q3), .second, .val (.long q4), .second, .val (.int p5), .val (.long q6), .second, .val (.int (Int32.ofNat J)), .val (.int sv), .val (.long f), .second, .val (.int qv), .val (.ref ba_1), .val (.ref ba_8), .val (.ref ba_15), .val (.ref ba_22), .val (.ref ba_29), .unset, .unset, .unset, .unset] [(.ref ba_8), (.ref ba_1), (.ref bo_46), (.ref bo_46)]))
    refine own_lift (fun t k => XS.aload Xo_46.here hx rfl (hb hby at_182) rfl rfl k) ?_
    show own_Fin p e below _ (To_46.setTop (mkF m 184 #[.val (.int p1), .val (.int p2), .val (.long q3), .second, .val (.long q4), .second, .val (.int p5), .val (.long q6), .second, .val (.int (Int32.ofNat J)), .val (.int sv), .val (.long f), .second, .val (.int qv), .val (.ref ba_1), .val (.ref ba_8), .val (.ref ba_15), .val (.ref ba_22), .val (.ref ba_29), .unset, .unset, .unset, .unset] [(.ref ba_15), (.ref ba_8), (.ref ba_1), (.ref bo_46), (.ref bo_46)]))
    refine own_lift (fun t k => XS.aload Xo_46.here hx rfl (hb hby at_184) rfl rfl k) ?_
    show own_Fin p e below _ (To_46.setTop (mkF m 186 #[.val (.int p1), .val (.int p2), .val (.long q3), .second, .val (.long q4), .second, .val (.int p5), .val (.long q6), .second, .val (.int (Int32.ofNat J)), .val (.int sv), .val (.long f), .second, .val (.int qv), .val (.ref ba_1), .val (.ref ba_8), .val (.ref ba_15), .val (.ref ba_22), .val (.ref ba_29), .unset, .unset, .unset, .unset] [(.ref ba_22), (.ref ba_15), (.ref ba_8), (.ref ba_1), (.ref bo_46), (.ref bo_46)]))
    refine own_lift (fun t k => XS.aload Xo_46.here hx rfl (hb hby at_186) rfl rfl k) ?_
    show own_Fin p e below _ (To_46.setTop (mkF m 188 #[.val (.int p1), .val (.int p2), .val (.long q3), .second, .val (.long q4), .second, .val (.int p5), .val (.long q6), .second, .val (.int (Int32.ofNat J)), .val (.int sv), .val (.long f), .second, .val (.int qv), .val (.ref ba_1), .val (.ref ba_8), .val (.ref ba_15), .val (.ref ba_22), .val (.ref ba_29), .unset, .unset, .unset, .unset] [(.ref ba_29), (.ref ba_22), (.ref ba_15), (.ref ba_8), (.ref ba_1), (.ref bo_46), (.ref bo_46)]))
    obtain ⟨_, _, ⟨Tk_47, Lk_47, kk_47, nk_47⟩, -, Xk_47, ⟨Lck_47, hQk_47, lk_47, yk_47, zk_47⟩, stk_47⟩ := Xo_46.specialBack hx (y := (⟨"com/example/riverfront/riverfront/solver/VectorMap", "<init>", "([I[J[J[I[J)V"⟩ : MethodName)) rfl hown (mvT hZ (hw _ (List.mem_of_getElem? (i := 9) rfl))) (mvT hZ (hw _ (List.mem_of_getElem? (i := 10) rfl))) (mvT hZ (hw _ (List.mem_of_getElem? (i := 11) rfl))) (by decide) (backOf (W := 1) (rm1 l Z a0 hw [] bo_46 ba_1 ba_8 ba_15 ba_22 ba_29 _ _ _ _ _ ho_46 n0 SZo_46 Ao_46 Fo_46_m_aSources gbo_46 Fo_46_m_aFactors Fo_46_m_aAdded Fo_46_m_aSquared Fo_46_m_aShifts) hZ (hw _ (List.mem_of_getElem? (i := 11) rfl)) (hw _ (List.mem_of_getElem? (i := 8) rfl)) (by decide) (by decide)) (g := (mkF m 188 #[.val (.int p1), .val (.int p2), .val (.long q3), .second, .val (.long q4), .second, .val (.int p5), .val (.long q6), .second, .val (.int (Int32.ofNat J)), .val (.int sv), .val (.long f), .second, .val (.int qv), .val (.ref ba_1), .val (.ref ba_8), .val (.ref ba_15), .val (.ref ba_22), .val (.ref ba_29), .unset, .unset, .unset, .unset] [(.ref ba_29), (.ref ba_22), (.ref ba_15), (.ref ba_8), (.ref ba_1), (.ref bo_46), (.ref bo_46)])) rfl (by rw [hml]; rfl) (Steps.refl _) (a := bo_46) (argsL := [(.ref ba_1), (.ref ba_8), (.ref ba_15), (.ref ba_22), (.ref ba_29)]) (rest := [(.ref bo_46)]) (lenOf pd_1 rfl) rfl (by show 2 * 0 + _ ≤ _; exact Nat.le_of_eq rfl) (hb hby at_188) (fun _ _ => ⟨rfl, eo_46, (by decide : 6 + 0 ≤ _), (by decide : 20 + 0 ≤ _)⟩)
    dsimp only [Pt.U, Pt.locs, Pt.cells, Pt.slots] at Xk_47 lk_47 yk_47 zk_47 stk_47 hQk_47
    subst lk_47 yk_47 zk_47
    obtain ⟨rfl, Nk_47q, Kk_47, Ek_47, Fk_47_0, Fk_47_1, Fk_47_2, Fk_47_3, Fk_47_4⟩ := hQk_47
    have Nk_47 := Fr.app Nw_45 Nk_47q
    refine own_lift (fun t k => stk_47.trans k) ?_
    have vk_47_ba_1 := vo_46_ba_1.keep Kk_47 (by simp only [List.mem_cons, List.not_mem_nil, or_false, neo_46_ba_1, not_false_eq_true])
    have vk_47_ba_8 := vo_46_ba_8.keep Kk_47 (by simp only [List.mem_cons, List.not_mem_nil, or_false, neo_46_ba_8, not_false_eq_true])
    have vk_47_ba_15 := vo_46_ba_15.keep Kk_47 (by simp only [List.mem_cons, List.not_mem_nil, or_false, neo_46_ba_15, not_false_eq_true])
    have vk_47_ba_22 := vo_46_ba_22.keep Kk_47 (by simp only [List.mem_cons, List.not_mem_nil, or_false, neo_46_ba_22, not_false_eq_true])
    have vk_47_ba_29 := vo_46_ba_29.keep Kk_47 (by simp only [List.mem_cons, List.not_mem_nil, or_false, neo_46_ba_29, not_false_eq_true])
    have SZk_47 : n0 ≤ Tk_47.heap.size := Nat.le_trans SZo_46 Kk_47.1
    show own_Fin p e below _ (Tk_47.setTop (mkF m 191 #[.val (.int p1), .val (.int p2), .val (.long q3), .second, .val (.long q4), .second, .val (.int p5), .val (.long q6), .second, .val (.int (Int32.ofNat J)), .val (.int sv), .val (.long f), .second, .val (.int qv), .val (.ref ba_1), .val (.ref ba_8), .val (.ref ba_15), .val (.ref ba_22), .val (.ref ba_29), .unset, .unset, .unset, .unset] [(.ref bo_46)]))
    refine own_lift (fun t k => XS.astore Xk_47.here hx rfl (hb hby at_191) rfl rfl (l' := #[.val (.int p1), .val (.int p2), .val (.long q3), .second, .val (.long q4), .second, .val (.int p5), .val (.long q6), .second, .val (.int (Int32.ofNat J)), .val (.int sv), .val (.long f), .second, .val (.int qv), .val (.ref ba_1), .val (.ref ba_8), .val (.ref ba_15), .val (.ref ba_22), .val (.ref ba_29), .val (.ref bo_46), .unset, .unset, .unset]) rfl k) ?_
    show own_Fin p e below _ (Tk_47.setTop (mkF m 193 #[.val (.int p1), .val (.int p2), .val (.long q3), .second, .val (.long q4), .second, .val (.int p5), .val (.long q6), .second, .val (.int (Int32.ofNat J)), .val (.int sv), .val (.long f), .second, .val (.int qv), .val (.ref ba_1), .val (.ref ba_8), .val (.ref ba_15), .val (.ref ba_22), .val (.ref ba_29), .val (.ref bo_46), .unset, .unset, .unset] []))
    refine own_lift (fun t k => XS.iconst Xk_47.here hx rfl (hb hby at_193) k) ?_
    show own_Fin p e below _ (Tk_47.setTop (mkF m 194 #[.val (.int p1), .val (.int p2), .val (.long q3), .second, .val (.long q4), .second, .val (.int p5), .val (.long q6), .second, .val (.int (Int32.ofNat J)), .val (.int sv), .val (.long f), .second, .val (.int qv), .val (.ref ba_1), .val (.ref ba_8), .val (.ref ba_15), .val (.ref ba_22), .val (.ref ba_29), .val (.ref bo_46), .unset, .unset, .unset] [(.int (0 : Int32))]))
    refine own_lift (fun t k => XS.istore Xk_47.here hx rfl (hb hby at_194) rfl (l' := #[.val (.int p1), .val (.int p2), .val (.long q3), .second, .val (.long q4), .second, .val (.int p5), .val (.long q6), .second, .val (.int (Int32.ofNat J)), .val (.int sv), .val (.long f), .second, .val (.int qv), .val (.ref ba_1), .val (.ref ba_8), .val (.ref ba_15), .val (.ref ba_22), .val (.ref ba_29), .val (.ref bo_46), .val (.int (0 : Int32)), .unset, .unset]) rfl k) ?_
    show own_Fin p e below _ (Tk_47.setTop (mkF m 196 #[.val (.int p1), .val (.int p2), .val (.long q3), .second, .val (.long q4), .second, .val (.int p5), .val (.long q6), .second, .val (.int (Int32.ofNat J)), .val (.int sv), .val (.long f), .second, .val (.int qv), .val (.ref ba_1), .val (.ref ba_8), .val (.ref ba_15), .val (.ref ba_22), .val (.ref ba_29), .val (.ref bo_46), .val (.int (0 : Int32)), .unset, .unset] []))
    have j219 : ∀ (T4 : State) (locs4 : List Loc) (ex : Int32), Stand p l e room_1 s m #[(.int p1), (.int p2), (.long q3), (.long q4), (.int p5), (.long q6)] below meth c T4 locs4 6 20 → T4.heap = Tk_47.heap → Fr n0 locs4 → own_sc sv (Int32.ofNat J) f qv = ex → own_Fin p e below (fun o U' => ∃ v L, o = .returned v ∧ Q0 Z p1 p2 q3 q4 p5 q6 h0 n0 v U'.heap L ∧ FrameEnd s o U' L room_1.cells room_1.slots) (T4.setTop (mkF m 219 #[.val (.int p1), .val (.int p2), .val (.long q3), .second, .val (.long q4), .second, .val (.int p5), .val (.long q6), .second, .val (.int (Int32.ofNat J)), .val (.int sv), .val (.long f), .second, .val (.int qv), .val (.ref ba_1), .val (.ref ba_8), .val (.ref ba_15), .val (.ref ba_22), .val (.ref ba_29), .val (.ref bo_46), .val (.int ex), .unset, .unset] [])) := by
      intro T4 locs4 ex X4 e4 N4 hEX
      refine own_lift (fun t k => XS.aload X4.here hx rfl (hb hby at_219) rfl rfl k) ?_
      show own_Fin p e below _ (T4.setTop (mkF m 221 #[.val (.int p1), .val (.int p2), .val (.long q3), .second, .val (.long q4), .second, .val (.int p5), .val (.long q6), .second, .val (.int (Int32.ofNat J)), .val (.int sv), .val (.long f), .second, .val (.int qv), .val (.ref ba_1), .val (.ref ba_8), .val (.ref ba_15), .val (.ref ba_22), .val (.ref ba_29), .val (.ref bo_46), .val (.int ex), .unset, .unset] [(.ref bo_46)]))
      refine own_lift (fun t k => XS.iload X4.here hx rfl (hb hby at_221) rfl k) ?_
      show own_Fin p e below _ (T4.setTop (mkF m 223 #[.val (.int p1), .val (.int p2), .val (.long q3), .second, .val (.long q4), .second, .val (.int p5), .val (.long q6), .second, .val (.int (Int32.ofNat J)), .val (.int sv), .val (.long f), .second, .val (.int qv), .val (.ref ba_1), .val (.ref ba_8), .val (.ref ba_15), .val (.ref ba_22), .val (.ref ba_29), .val (.ref bo_46), .val (.int ex), .unset, .unset] [(.int (Int32.ofNat J)), (.ref bo_46)]))
      have cpz_49 := vk_47_ba_1
      obtain ⟨clz_49, Arz_49, -, Szz_49, -, Hz_49, -⟩ := cpz_49
      have Sz_49 : clz_49.slots.size = 3 := Szz_49
      have atz_49 : clz_49.slots[J]? = some (.int sv) := by rw [Hz_49 J (by rw [Sz_49]; exact hJ)]; exact congrArg some (own_gs _ _ _ _ _ hJ)
      have cpz_50 := vk_47_ba_8
      obtain ⟨clz_50, Arz_50, -, Szz_50, -, Hz_50, -⟩ := cpz_50
      have Sz_50 : clz_50.slots.size = 3 := Szz_50
      have atz_50 : clz_50.slots[J]? = some (.long f) := by rw [Hz_50 J (by rw [Sz_50]; exact hJ)]; exact congrArg some (own_gs _ _ _ _ _ hJ)
      have cpz_51 := vk_47_ba_22
      obtain ⟨clz_51, Arz_51, -, Szz_51, -, Hz_51, -⟩ := cpz_51
      have Sz_51 : clz_51.slots.size = 3 := Szz_51
      have atz_51 : clz_51.slots[J]? = some (.int qv) := by rw [Hz_51 J (by rw [Sz_51]; exact hJ)]; exact congrArg some (own_gs _ _ _ _ _ hJ)
      obtain ⟨cqk_48, kqk_48, qk_48a, qk_48b, qk_48c⟩ := isOf hZ e4 Ek_47
      obtain ⟨_, _, ⟨Tk_48, Lk_48, kk_48, nk_48⟩, -, Xk_48, ⟨Lck_48, hQk_48, lk_48, yk_48, zk_48⟩, stk_48⟩ := X4.virtualBack hx (y := (⟨"com/example/riverfront/riverfront/solver/VectorMap", "scalesInPlace", "(I)Z"⟩ : MethodName)) (z := (⟨"com/example/riverfront/riverfront/solver/VectorMap", "scalesInPlace", "(I)Z"⟩ : MethodName)) hown (mvT hZ (hw _ (List.mem_of_getElem? (i := 25) rfl))) (mvT hZ (hw _ (List.mem_of_getElem? (i := 26) rfl))) (notFace_of_selects (args := #[]) (mvT hZ (hw _ (List.mem_of_getElem? (i := 28) rfl)))) (mvT hZ (hw _ (List.mem_of_getElem? (i := 28) rfl))) (mvT hZ (hw _ (List.mem_of_getElem? (i := 27) rfl))) (by decide) (backOf (W := 0) (rm3 l Z a0 hw [] bo_46 ba_1 ba_8 ba_22 J clz_49 clz_50 clz_51 sv f qv Tk_47.heap n0 SZk_47 hJ Fk_47_0 Fk_47_1 Fk_47_3 Arz_49 Sz_49 Arz_50 Sz_50 Arz_51 Sz_51 atz_49 atz_50 atz_51) hZ (hw _ (List.mem_of_getElem? (i := 29) rfl)) (hw _ (List.mem_of_getElem? (i := 8) rfl)) (by decide) (by decide)) qk_48a qk_48c (g := (mkF m 223 #[.val (.int p1), .val (.int p2), .val (.long q3), .second, .val (.long q4), .second, .val (.int p5), .val (.long q6), .second, .val (.int (Int32.ofNat J)), .val (.int sv), .val (.long f), .second, .val (.int qv), .val (.ref ba_1), .val (.ref ba_8), .val (.ref ba_15), .val (.ref ba_22), .val (.ref ba_29), .val (.ref bo_46), .val (.int ex), .unset, .unset] [(.int (Int32.ofNat J)), (.ref bo_46)])) rfl (by rw [hml]; rfl) (Steps.refl _) (argsL := [(.int (Int32.ofNat J))]) (rest := []) (lenOf pd_3 rfl) rfl (by show 2 * 0 + _ ≤ _; exact Nat.le_of_eq rfl) (hb hby at_223) (fun _ _ => ⟨rfl, e4, (by decide : 6 + 0 ≤ _), (by decide : 20 + 0 ≤ _)⟩)
      dsimp only [Pt.U, Pt.locs, Pt.cells, Pt.slots] at Xk_48 lk_48 yk_48 zk_48 stk_48 hQk_48
      subst lk_48 yk_48 zk_48
      obtain ⟨rfl, Nk_48q, ek_48⟩ := hQk_48
      have Nk_48 := Fr.app N4 Nk_48q
      refine own_lift (fun t k => stk_48.trans k) ?_
      show own_Fin p e below _ (Tk_48.setTop (mkF m 226 #[.val (.int p1), .val (.int p2), .val (.long q3), .second, .val (.long q4), .second, .val (.int p5), .val (.long q6), .second, .val (.int (Int32.ofNat J)), .val (.int sv), .val (.long f), .second, .val (.int qv), .val (.ref ba_1), .val (.ref ba_8), .val (.ref ba_15), .val (.ref ba_22), .val (.ref ba_29), .val (.ref bo_46), .val (.int ex), .unset, .unset] [(.int (own_sc sv (Int32.ofNat J) f qv))]))
      refine own_lift (fun t k => XS.istore Xk_48.here hx rfl (hb hby at_226) rfl (l' := #[.val (.int p1), .val (.int p2), .val (.long q3), .second, .val (.long q4), .second, .val (.int p5), .val (.long q6), .second, .val (.int (Int32.ofNat J)), .val (.int sv), .val (.long f), .second, .val (.int qv), .val (.ref ba_1), .val (.ref ba_8), .val (.ref ba_15), .val (.ref ba_22), .val (.ref ba_29), .val (.ref bo_46), .val (.int ex), .val (.int (own_sc sv (Int32.ofNat J) f qv)), .unset]) rfl k) ?_
      show own_Fin p e below _ (Tk_48.setTop (mkF m 228 #[.val (.int p1), .val (.int p2), .val (.long q3), .second, .val (.long q4), .second, .val (.int p5), .val (.long q6), .second, .val (.int (Int32.ofNat J)), .val (.int sv), .val (.long f), .second, .val (.int qv), .val (.ref ba_1), .val (.ref ba_8), .val (.ref ba_15), .val (.ref ba_22), .val (.ref ba_29), .val (.ref bo_46), .val (.int ex), .val (.int (own_sc sv (Int32.ofNat J) f qv)), .unset] []))
      refine own_lift (fun t k => XS.iload Xk_48.here hx rfl (hb hby at_228) rfl k) ?_
      show own_Fin p e below _ (Tk_48.setTop (mkF m 230 #[.val (.int p1), .val (.int p2), .val (.long q3), .second, .val (.long q4), .second, .val (.int p5), .val (.long q6), .second, .val (.int (Int32.ofNat J)), .val (.int sv), .val (.long f), .second, .val (.int qv), .val (.ref ba_1), .val (.ref ba_8), .val (.ref ba_15), .val (.ref ba_22), .val (.ref ba_29), .val (.ref bo_46), .val (.int ex), .val (.int (own_sc sv (Int32.ofNat J) f qv)), .unset] [(.int (own_sc sv (Int32.ofNat J) f qv))]))
      refine own_lift (fun t k => XS.iload Xk_48.here hx rfl (hb hby at_230) rfl k) ?_
      show own_Fin p e below _ (Tk_48.setTop (mkF m 232 #[.val (.int p1), .val (.int p2), .val (.long q3), .second, .val (.long q4), .second, .val (.int p5), .val (.long q6), .second, .val (.int (Int32.ofNat J)), .val (.int sv), .val (.long f), .second, .val (.int qv), .val (.ref ba_1), .val (.ref ba_8), .val (.ref ba_15), .val (.ref ba_22), .val (.ref ba_29), .val (.ref bo_46), .val (.int ex), .val (.int (own_sc sv (Int32.ofNat J) f qv)), .unset] [(.int ex), (.int (own_sc sv (Int32.ofNat J) f qv))]))
      refine own_lift (fun t k => XS.icmpYes Xk_48.here hx rfl (pc0 := 232) (pc' := 237) rfl (hb hby at_232) rfl (teq hEX).1 (by decide) (by decide) k) ?_
      show own_Fin p e below _ (Tk_48.setTop (mkF m 237 #[.val (.int p1), .val (.int p2), .val (.long q3), .second, .val (.long q4), .second, .val (.int p5), .val (.long q6), .second, .val (.int (Int32.ofNat J)), .val (.int sv), .val (.long f), .second, .val (.int qv), .val (.ref ba_1), .val (.ref ba_8), .val (.ref ba_15), .val (.ref ba_22), .val (.ref ba_29), .val (.ref bo_46), .val (.int ex), .val (.int (own_sc sv (Int32.ofNat J) f qv)), .unset] []))
      refine own_lift (fun t k => XS.iload Xk_48.here hx rfl (hb hby at_237) rfl k) ?_
      show own_Fin p e below _ (Tk_48.setTop (mkF m 239 #[.val (.int p1), .val (.int p2), .val (.long q3), .second, .val (.long q4), .second, .val (.int p5), .val (.long q6), .second, .val (.int (Int32.ofNat J)), .val (.int sv), .val (.long f), .second, .val (.int qv), .val (.ref ba_1), .val (.ref ba_8), .val (.ref ba_15), .val (.ref ba_22), .val (.ref ba_29), .val (.ref bo_46), .val (.int ex), .val (.int (own_sc sv (Int32.ofNat J) f qv)), .unset] [(.int (own_sc sv (Int32.ofNat J) f qv))]))
      by_cases hc239_53 : (own_sc sv (Int32.ofNat J) f qv) = (0 : Int32)
      · refine own_lift (fun t k => XS.ifNo Xk_48.here hx rfl (hb hby at_239) rfl ((if0 _ _).trans (teq hc239_53).2) k) ?_
        show own_Fin p e below _ (Tk_48.setTop (mkF m 242 #[.val (.int p1), .val (.int p2), .val (.long q3), .second, .val (.long q4), .second, .val (.int p5), .val (.long q6), .second, .val (.int (Int32.ofNat J)), .val (.int sv), .val (.long f), .second, .val (.int qv), .val (.ref ba_1), .val (.ref ba_8), .val (.ref ba_15), .val (.ref ba_22), .val (.ref ba_29), .val (.ref bo_46), .val (.int ex), .val (.int (own_sc sv (Int32.ofNat J) f qv)), .unset] []))
        refine own_lift (fun t k => XS.iconst Xk_48.here hx rfl (hb hby at_242) k) ?_
        show own_Fin p e below _ (Tk_48.setTop (mkF m 243 #[.val (.int p1), .val (.int p2), .val (.long q3), .second, .val (.long q4), .second, .val (.int p5), .val (.long q6), .second, .val (.int (Int32.ofNat J)), .val (.int sv), .val (.long f), .second, .val (.int qv), .val (.ref ba_1), .val (.ref ba_8), .val (.ref ba_15), .val (.ref ba_22), .val (.ref ba_29), .val (.ref bo_46), .val (.int ex), .val (.int (own_sc sv (Int32.ofNat J) f qv)), .unset] [(.int (1 : Int32))]))
        obtain ⟨fs, hr, hrun, hended, hW, hsame⟩ := Xk_48.leave (v := some (.int (1 : Int32))) (fun h => by rw [Bd.returns] at h; cases h)
        exact ⟨_, _, retN Xk_48 hx (t := .boolean) Bd.returns (by simp) (hb hby at_243) hr, hrun, hended, _, _, rfl, ⟨rfl, Nk_48⟩, ⟨_, rfl⟩, hW, hsame.mono (by decide) (by decide)⟩
      · refine own_lift (fun t k => XS.ifYes Xk_48.here hx rfl (pc0 := 239) (pc' := 244) rfl (hb hby at_239) rfl ((if0 _ _).trans (feq hc239_53).2) (by decide) (by decide) k) ?_
        show own_Fin p e below _ (Tk_48.setTop (mkF m 244 #[.val (.int p1), .val (.int p2), .val (.long q3), .second, .val (.long q4), .second, .val (.int p5), .val (.long q6), .second, .val (.int (Int32.ofNat J)), .val (.int sv), .val (.long f), .second, .val (.int qv), .val (.ref ba_1), .val (.ref ba_8), .val (.ref ba_15), .val (.ref ba_22), .val (.ref ba_29), .val (.ref bo_46), .val (.int ex), .val (.int (own_sc sv (Int32.ofNat J) f qv)), .unset] []))
        obtain ⟨hsv, hfp, hqv⟩ := own_sc_ne hc239_53
        have hic : (own_ic f qv) = (0 : Int32) := by simp [own_ic, hpos.mp hfp]
        have hlc : (lcmpW ((q6 * f) + q4) ((f * q6) + q4)) = (0 : Int32) := (lw_eq _ _).mpr (by rw [Int64.mul_comm])
        refine own_lift (fun t k => XS.aload Xk_48.here hx rfl (hb hby at_244) rfl rfl k) ?_
        show own_Fin p e below _ (Tk_48.setTop (mkF m 246 #[.val (.int p1), .val (.int p2), .val (.long q3), .second, .val (.long q4), .second, .val (.int p5), .val (.long q6), .second, .val (.int (Int32.ofNat J)), .val (.int sv), .val (.long f), .second, .val (.int qv), .val (.ref ba_1), .val (.ref ba_8), .val (.ref ba_15), .val (.ref ba_22), .val (.ref ba_29), .val (.ref bo_46), .val (.int ex), .val (.int (own_sc sv (Int32.ofNat J) f qv)), .unset] [(.ref bo_46)]))
        refine own_lift (fun t k => XS.iload Xk_48.here hx rfl (hb hby at_246) rfl k) ?_
        show own_Fin p e below _ (Tk_48.setTop (mkF m 248 #[.val (.int p1), .val (.int p2), .val (.long q3), .second, .val (.long q4), .second, .val (.int p5), .val (.long q6), .second, .val (.int (Int32.ofNat J)), .val (.int sv), .val (.long f), .second, .val (.int qv), .val (.ref ba_1), .val (.ref ba_8), .val (.ref ba_15), .val (.ref ba_22), .val (.ref ba_29), .val (.ref bo_46), .val (.int ex), .val (.int (own_sc sv (Int32.ofNat J) f qv)), .unset] [(.int (Int32.ofNat J)), (.ref bo_46)]))
        have cpz_55 := vk_47_ba_8
        obtain ⟨clz_55, Arz_55, -, Szz_55, -, Hz_55, -⟩ := cpz_55
        have Sz_55 : clz_55.slots.size = 3 := Szz_55
        have atz_55 : clz_55.slots[J]? = some (.long f) := by rw [Hz_55 J (by rw [Sz_55]; exact hJ)]; exact congrArg some (own_gs _ _ _ _ _ hJ)
        have cpz_56 := vk_47_ba_22
        obtain ⟨clz_56, Arz_56, -, Szz_56, -, Hz_56, -⟩ := cpz_56
        have Sz_56 : clz_56.slots.size = 3 := Szz_56
        have atz_56 : clz_56.slots[J]? = some (.int qv) := by rw [Hz_56 J (by rw [Sz_56]; exact hJ)]; exact congrArg some (own_gs _ _ _ _ _ hJ)
        obtain ⟨cqk_54, kqk_54, qk_54a, qk_54b, qk_54c⟩ := isOf hZ ek_48 Ek_47
        obtain ⟨_, _, ⟨Tk_54, Lk_54, kk_54, nk_54⟩, -, Xk_54, ⟨Lck_54, hQk_54, lk_54, yk_54, zk_54⟩, stk_54⟩ := Xk_48.virtualBack hx (y := (⟨"com/example/riverfront/riverfront/solver/VectorMap", "isConstant", "(I)Z"⟩ : MethodName)) (z := (⟨"com/example/riverfront/riverfront/solver/VectorMap", "isConstant", "(I)Z"⟩ : MethodName)) hown (mvT hZ (hw _ (List.mem_of_getElem? (i := 30) rfl))) (mvT hZ (hw _ (List.mem_of_getElem? (i := 31) rfl))) (notFace_of_selects (args := #[]) (mvT hZ (hw _ (List.mem_of_getElem? (i := 33) rfl)))) (mvT hZ (hw _ (List.mem_of_getElem? (i := 33) rfl))) (mvT hZ (hw _ (List.mem_of_getElem? (i := 32) rfl))) (by decide) (backOf (W := 0) (rm4 l Z a0 hw [] bo_46 ba_8 ba_22 J clz_55 clz_56 f qv Tk_47.heap n0 SZk_47 hJ Fk_47_1 Fk_47_3 Arz_55 Sz_55 Arz_56 Sz_56 atz_55 atz_56) hZ (hw _ (List.mem_of_getElem? (i := 34) rfl)) (hw _ (List.mem_of_getElem? (i := 8) rfl)) (by decide) (by decide)) qk_54a qk_54c (g := (mkF m 248 #[.val (.int p1), .val (.int p2), .val (.long q3), .second, .val (.long q4), .second, .val (.int p5), .val (.long q6), .second, .val (.int (Int32.ofNat J)), .val (.int sv), .val (.long f), .second, .val (.int qv), .val (.ref ba_1), .val (.ref ba_8), .val (.ref ba_15), .val (.ref ba_22), .val (.ref ba_29), .val (.ref bo_46), .val (.int ex), .val (.int (own_sc sv (Int32.ofNat J) f qv)), .unset] [(.int (Int32.ofNat J)), (.ref bo_46)])) rfl (by rw [hml]; rfl) (Steps.refl _) (argsL := [(.int (Int32.ofNat J))]) (rest := []) (lenOf pd_4 rfl) rfl (by show 2 * 0 + _ ≤ _; exact Nat.le_of_eq rfl) (hb hby at_248) (fun _ _ => ⟨rfl, ek_48, (by decide : 6 + 0 ≤ _), (by decide : 20 + 0 ≤ _)⟩)
        dsimp only [Pt.U, Pt.locs, Pt.cells, Pt.slots] at Xk_54 lk_54 yk_54 zk_54 stk_54 hQk_54
        subst lk_54 yk_54 zk_54
        obtain ⟨rfl, Nk_54q, ek_54⟩ := hQk_54
        have Nk_54 := Fr.app Nk_48 Nk_54q
        refine own_lift (fun t k => stk_54.trans k) ?_
        show own_Fin p e below _ (Tk_54.setTop (mkF m 251 #[.val (.int p1), .val (.int p2), .val (.long q3), .second, .val (.long q4), .second, .val (.int p5), .val (.long q6), .second, .val (.int (Int32.ofNat J)), .val (.int sv), .val (.long f), .second, .val (.int qv), .val (.ref ba_1), .val (.ref ba_8), .val (.ref ba_15), .val (.ref ba_22), .val (.ref ba_29), .val (.ref bo_46), .val (.int ex), .val (.int (own_sc sv (Int32.ofNat J) f qv)), .unset] [(.int (own_ic f qv))]))
        refine own_lift (fun t k => XS.ifYes Xk_54.here hx rfl (pc0 := 251) (pc' := 256) rfl (hb hby at_251) rfl ((if0 _ _).trans (teq hic).1) (by decide) (by decide) k) ?_
        show own_Fin p e below _ (Tk_54.setTop (mkF m 256 #[.val (.int p1), .val (.int p2), .val (.long q3), .second, .val (.long q4), .second, .val (.int p5), .val (.long q6), .second, .val (.int (Int32.ofNat J)), .val (.int sv), .val (.long f), .second, .val (.int qv), .val (.ref ba_1), .val (.ref ba_8), .val (.ref ba_15), .val (.ref ba_22), .val (.ref ba_29), .val (.ref bo_46), .val (.int ex), .val (.int (own_sc sv (Int32.ofNat J) f qv)), .unset] []))
        refine own_lift (fun t k => XS.iconst Xk_54.here hx rfl (hb hby at_256) k) ?_
        show own_Fin p e below _ (Tk_54.setTop (mkF m 257 #[.val (.int p1), .val (.int p2), .val (.long q3), .second, .val (.long q4), .second, .val (.int p5), .val (.long q6), .second, .val (.int (Int32.ofNat J)), .val (.int sv), .val (.long f), .second, .val (.int qv), .val (.ref ba_1), .val (.ref ba_8), .val (.ref ba_15), .val (.ref ba_22), .val (.ref ba_29), .val (.ref bo_46), .val (.int ex), .val (.int (own_sc sv (Int32.ofNat J) f qv)), .unset] [(.int (3 : Int32))]))
        obtain ⟨Ta_58, ha_58, ka_58, Xa_58, ea_58, Ea_58, Aa_58, sta_58⟩ := newP Xk_54 hx hZ (hw _ (List.mem_of_getElem? (i := 3) rfl)) ek_54 (g := (mkF m 257 #[.val (.int p1), .val (.int p2), .val (.long q3), .second, .val (.long q4), .second, .val (.int p5), .val (.long q6), .second, .val (.int (Int32.ofNat J)), .val (.int sv), .val (.long f), .second, .val (.int qv), .val (.ref ba_1), .val (.ref ba_8), .val (.ref ba_15), .val (.ref ba_22), .val (.ref ba_29), .val (.ref bo_46), .val (.int ex), .val (.int (own_sc sv (Int32.ofNat J) f qv)), .unset] [(.int (3 : Int32))])) rfl (hb hby at_257) rfl (by decide) (cap := 3) (by decide) (by decide) (by decide) (by decide)
        obtain ⟨ba_58, ga_58⟩ : ∃ z, z = Tk_47.heap.size := ⟨_, rfl⟩
        rw [← ga_58] at Aa_58 sta_58
        have nea_58_ba_1 : ba_1 ≠ ba_58 := Nat.ne_of_lt (Nat.lt_of_lt_of_le vk_47_ba_1.lt (Nat.le_of_eq ga_58.symm))
        have nea_58_ba_15 : ba_15 ≠ ba_58 := Nat.ne_of_lt (Nat.lt_of_lt_of_le vk_47_ba_15.lt (Nat.le_of_eq ga_58.symm))
        have nea_58_ba_22 : ba_22 ≠ ba_58 := Nat.ne_of_lt (Nat.lt_of_lt_of_le vk_47_ba_22.lt (Nat.le_of_eq ga_58.symm))
        have nea_58_ba_29 : ba_29 ≠ ba_58 := Nat.ne_of_lt (Nat.lt_of_lt_of_le vk_47_ba_29.lt (Nat.le_of_eq ga_58.symm))
        have nea_58_ba_8 : ba_8 ≠ ba_58 := Nat.ne_of_lt (Nat.lt_of_lt_of_le vk_47_ba_8.lt (Nat.le_of_eq ga_58.symm))
        have nea_58_bo_46 : bo_46 ≠ ba_58 := Nat.ne_of_lt (Nat.lt_of_lt_of_le Ek_47.lt (Nat.le_of_eq ga_58.symm))
        have gba_58 : n0 ≤ ba_58 := Nat.le_trans SZk_47 (Nat.le_of_eq ga_58.symm)
        have va_58_ba_1 := vk_47_ba_1.ext Ea_58
        have va_58_ba_8 := vk_47_ba_8.ext Ea_58
        have va_58_ba_15 := vk_47_ba_15.ext Ea_58
        have va_58_ba_22 := vk_47_ba_22.ext Ea_58
        have va_58_ba_29 := vk_47_ba_29.ext Ea_58
        have fa_58_bo_46_Exa := Ek_47.ext Ea_58
        have fa_58_bo_46_m_aSources := Fk_47_0.ext Ea_58
        have fa_58_bo_46_m_aFactors := Fk_47_1.ext Ea_58
        have fa_58_bo_46_m_aAdded := Fk_47_2.ext Ea_58
        have fa_58_bo_46_m_aSquared := Fk_47_3.ext Ea_58
        have fa_58_bo_46_m_aShifts := Fk_47_4.ext Ea_58
        have SZa_58 : n0 ≤ ha_58.size := Nat.le_trans SZk_47 Ea_58.1
        have Va_58 : Arv Z ha_58 ba_58 ka_58 .long (3 : Int32) [(.long (0 : Int64)), (.long (0 : Int64)), (.long (0 : Int64))] (.long (0 : Int64)) := (Arv.new Aa_58 (by decide)).pad (pad_rep [] (.long (0 : Int64)) 3)
        refine own_lift (fun t k => sta_58 _ k) ?_
        show own_Fin p e below _ (Ta_58.setTop (mkF m 259 #[.val (.int p1), .val (.int p2), .val (.long q3), .second, .val (.long q4), .second, .val (.int p5), .val (.long q6), .second, .val (.int (Int32.ofNat J)), .val (.int sv), .val (.long f), .second, .val (.int qv), .val (.ref ba_1), .val (.ref ba_8), .val (.ref ba_15), .val (.ref ba_22), .val (.ref ba_29), .val (.ref bo_46), .val (.int ex), .val (.int (own_sc sv (Int32.ofNat J) f qv)), .unset] [(.ref ba_58)]))
        refine own_lift (fun t k => XS.dup Xa_58.here hx rfl (hb hby at_259) rfl rfl k) ?_
        show own_Fin p e below _ (Ta_58.setTop (mkF m 260 #[.val (.int p1), .val (.int p2), .val (.long q3), .second, .val (.long q4), .second, .val (.int p5), .val (.long q6), .second, .val (.int (Int32.ofNat J)), .val (.int sv), .val (.long f), .second, .val (.int qv), .val (.ref ba_1), .val (.ref ba_8), .val (.ref ba_15), .val (.ref ba_22), .val (.ref ba_29), .val (.ref bo_46), .val (.int ex), .val (.int (own_sc sv (Int32.ofNat J) f qv)), .unset] [(.ref ba_58), (.ref ba_58)]))
        refine own_lift (fun t k => XS.iconst Xa_58.here hx rfl (hb hby at_260) k) ?_
        show own_Fin p e below _ (Ta_58.setTop (mkF m 261 #[.val (.int p1), .val (.int p2), .val (.long q3), .second, .val (.long q4), .second, .val (.int p5), .val (.long q6), .second, .val (.int (Int32.ofNat J)), .val (.int sv), .val (.long f), .second, .val (.int qv), .val (.ref ba_1), .val (.ref ba_8), .val (.ref ba_15), .val (.ref ba_22), .val (.ref ba_29), .val (.ref bo_46), .val (.int ex), .val (.int (own_sc sv (Int32.ofNat J) f qv)), .unset] [(.int (0 : Int32)), (.ref ba_58), (.ref ba_58)]))
        refine own_lift (fun t k => XS.lload Xa_58.here hx rfl (hb hby at_261) rfl k) ?_
        show own_Fin p e below _ (Ta_58.setTop (mkF m 263 #[.val (.int p1), .val (.int p2), .val (.long q3), .second, .val (.long q4), .second, .val (.int p5), .val (.long q6), .second, .val (.int (Int32.ofNat J)), .val (.int sv), .val (.long f), .second, .val (.int qv), .val (.ref ba_1), .val (.ref ba_8), .val (.ref ba_15), .val (.ref ba_22), .val (.ref ba_29), .val (.ref bo_46), .val (.int ex), .val (.int (own_sc sv (Int32.ofNat J) f qv)), .unset] [(.long q6), (.int (0 : Int32)), (.ref ba_58), (.ref ba_58)]))
        refine own_lift (fun t k => Xa_58.ldc2J hx hown (mvT hZ (hw _ (List.mem_of_getElem? (i := 35) rfl))) rfl (hb hby at_263) k) ?_
        show own_Fin p e below _ (Ta_58.setTop (mkF m 266 #[.val (.int p1), .val (.int p2), .val (.long q3), .second, .val (.long q4), .second, .val (.int p5), .val (.long q6), .second, .val (.int (Int32.ofNat J)), .val (.int sv), .val (.long f), .second, .val (.int qv), .val (.ref ba_1), .val (.ref ba_8), .val (.ref ba_15), .val (.ref ba_22), .val (.ref ba_29), .val (.ref bo_46), .val (.int ex), .val (.int (own_sc sv (Int32.ofNat J) f qv)), .unset] [(.long (-1 : Int64)), (.long q6), (.int (0 : Int32)), (.ref ba_58), (.ref ba_58)]))
        refine own_lift (fun t k => XS.lxor Xa_58.here hx rfl (hb hby at_266) rfl k) ?_
        show own_Fin p e below _ (Ta_58.setTop (mkF m 267 #[.val (.int p1), .val (.int p2), .val (.long q3), .second, .val (.long q4), .second, .val (.int p5), .val (.long q6), .second, .val (.int (Int32.ofNat J)), .val (.int sv), .val (.long f), .second, .val (.int qv), .val (.ref ba_1), .val (.ref ba_8), .val (.ref ba_15), .val (.ref ba_22), .val (.ref ba_29), .val (.ref bo_46), .val (.int ex), .val (.int (own_sc sv (Int32.ofNat J) f qv)), .unset] [(.long (q6 ^^^ (-1 : Int64))), (.int (0 : Int32)), (.ref ba_58), (.ref ba_58)]))
        have cpv_59 := Va_58
        obtain ⟨clv_59, Arv_59, qv_59, Sv_59, Mv_59, Hv_59, Gv_59⟩ := cpv_59
        obtain ⟨Tw_60, hw_60, Xw_60, ew_60, Ww_60, stw_60⟩ := stJ Xa_58 hx hZ ea_58 Arv_59 (j := (0 : Int32)) (inb_of Sv_59 ⟨by decide, by decide⟩) (g := (mkF m 267 #[.val (.int p1), .val (.int p2), .val (.long q3), .second, .val (.long q4), .second, .val (.int p5), .val (.long q6), .second, .val (.int (Int32.ofNat J)), .val (.int sv), .val (.long f), .second, .val (.int qv), .val (.ref ba_1), .val (.ref ba_8), .val (.ref ba_15), .val (.ref ba_22), .val (.ref ba_29), .val (.ref bo_46), .val (.int ex), .val (.int (own_sc sv (Int32.ofNat J) f qv)), .unset] [(.long (q6 ^^^ (-1 : Int64))), (.int (0 : Int32)), (.ref ba_58), (.ref ba_58)])) rfl rfl (hb hby at_267)
        have vw_60_ba_1 := va_58_ba_1.other Ww_60 nea_58_ba_1
        have vw_60_ba_8 := va_58_ba_8.other Ww_60 nea_58_ba_8
        have vw_60_ba_15 := va_58_ba_15.other Ww_60 nea_58_ba_15
        have vw_60_ba_22 := va_58_ba_22.other Ww_60 nea_58_ba_22
        have vw_60_ba_29 := va_58_ba_29.other Ww_60 nea_58_ba_29
        have fw_60_bo_46_Exa := fa_58_bo_46_Exa.wr Ww_60
        have fw_60_bo_46_m_aSources := fa_58_bo_46_m_aSources.other Ww_60 (Or.inl nea_58_bo_46)
        have fw_60_bo_46_m_aFactors := fa_58_bo_46_m_aFactors.other Ww_60 (Or.inl nea_58_bo_46)
        have fw_60_bo_46_m_aAdded := fa_58_bo_46_m_aAdded.other Ww_60 (Or.inl nea_58_bo_46)
        have fw_60_bo_46_m_aSquared := fa_58_bo_46_m_aSquared.other Ww_60 (Or.inl nea_58_bo_46)
        have fw_60_bo_46_m_aShifts := fa_58_bo_46_m_aShifts.other Ww_60 (Or.inl nea_58_bo_46)
        have SZw_60 : n0 ≤ hw_60.size := Nat.le_trans SZa_58 (Keep.of_wr Ww_60).1
        have Vw_60 : Arv Z hw_60 ba_58 ka_58 .long (3 : Int32) [(.long (q6 ^^^ (-1 : Int64))), (.long (0 : Int64)), (.long (0 : Int64))] (.long (0 : Int64)) := Arv.set Arv_59 qv_59 Sv_59 Mv_59 Hv_59 Gv_59 rfl Ww_60 0 rfl (Nat.le_of_ble_eq_true rfl)
        have Nw_60 := Fr.snoc Xw_60 Nk_54 gba_58
        refine own_lift (fun t k => stw_60 _ k) ?_
        show own_Fin p e below _ (Tw_60.setTop (mkF m 268 #[.val (.int p1), .val (.int p2), .val (.long q3), .second, .val (.long q4), .second, .val (.int p5), .val (.long q6), .second, .val (.int (Int32.ofNat J)), .val (.int sv), .val (.long f), .second, .val (.int qv), .val (.ref ba_1), .val (.ref ba_8), .val (.ref ba_15), .val (.ref ba_22), .val (.ref ba_29), .val (.ref bo_46), .val (.int ex), .val (.int (own_sc sv (Int32.ofNat J) f qv)), .unset] [(.ref ba_58)]))
        refine own_lift (fun t k => XS.dup Xw_60.here hx rfl (hb hby at_268) rfl rfl k) ?_
        show own_Fin p e below _ (Tw_60.setTop (mkF m 269 #[.val (.int p1), .val (.int p2), .val (.long q3), .second, .val (.long q4), .second, .val (.int p5), .val (.long q6), .second, .val (.int (Int32.ofNat J)), .val (.int sv), .val (.long f), .second, .val (.int qv), .val (.ref ba_1), .val (.ref ba_8), .val (.ref ba_15), .val (.ref ba_22), .val (.ref ba_29), .val (.ref bo_46), .val (.int ex), .val (.int (own_sc sv (Int32.ofNat J) f qv)), .unset] [(.ref ba_58), (.ref ba_58)]))
        refine own_lift (fun t k => XS.iconst Xw_60.here hx rfl (hb hby at_269) k) ?_
        show own_Fin p e below _ (Tw_60.setTop (mkF m 270 #[.val (.int p1), .val (.int p2), .val (.long q3), .second, .val (.long q4), .second, .val (.int p5), .val (.long q6), .second, .val (.int (Int32.ofNat J)), .val (.int sv), .val (.long f), .second, .val (.int qv), .val (.ref ba_1), .val (.ref ba_8), .val (.ref ba_15), .val (.ref ba_22), .val (.ref ba_29), .val (.ref bo_46), .val (.int ex), .val (.int (own_sc sv (Int32.ofNat J) f qv)), .unset] [(.int (1 : Int32)), (.ref ba_58), (.ref ba_58)]))
        refine own_lift (fun t k => XS.lload Xw_60.here hx rfl (hb hby at_270) rfl k) ?_
        show own_Fin p e below _ (Tw_60.setTop (mkF m 272 #[.val (.int p1), .val (.int p2), .val (.long q3), .second, .val (.long q4), .second, .val (.int p5), .val (.long q6), .second, .val (.int (Int32.ofNat J)), .val (.int sv), .val (.long f), .second, .val (.int qv), .val (.ref ba_1), .val (.ref ba_8), .val (.ref ba_15), .val (.ref ba_22), .val (.ref ba_29), .val (.ref bo_46), .val (.int ex), .val (.int (own_sc sv (Int32.ofNat J) f qv)), .unset] [(.long q6), (.int (1 : Int32)), (.ref ba_58), (.ref ba_58)]))
        refine own_lift (fun t k => XS.lload Xw_60.here hx rfl (hb hby at_272) rfl k) ?_
        show own_Fin p e below _ (Tw_60.setTop (mkF m 274 #[.val (.int p1), .val (.int p2), .val (.long q3), .second, .val (.long q4), .second, .val (.int p5), .val (.long q6), .second, .val (.int (Int32.ofNat J)), .val (.int sv), .val (.long f), .second, .val (.int qv), .val (.ref ba_1), .val (.ref ba_8), .val (.ref ba_15), .val (.ref ba_22), .val (.ref ba_29), .val (.ref bo_46), .val (.int ex), .val (.int (own_sc sv (Int32.ofNat J) f qv)), .unset] [(.long q4), (.long q6), (.int (1 : Int32)), (.ref ba_58), (.ref ba_58)]))
        refine own_lift (fun t k => XS.lxor Xw_60.here hx rfl (hb hby at_274) rfl k) ?_
        show own_Fin p e below _ (Tw_60.setTop (mkF m 275 #[.val (.int p1), .val (.int p2), .val (.long q3), .second, .val (.long q4), .second, .val (.int p5), .val (.long q6), .second, .val (.int (Int32.ofNat J)), .val (.int sv), .val (.long f), .second, .val (.int qv), .val (.ref ba_1), .val (.ref ba_8), .val (.ref ba_15), .val (.ref ba_22), .val (.ref ba_29), .val (.ref bo_46), .val (.int ex), .val (.int (own_sc sv (Int32.ofNat J) f qv)), .unset] [(.long (q6 ^^^ q4)), (.int (1 : Int32)), (.ref ba_58), (.ref ba_58)]))
        have cpv_61 := Vw_60
        obtain ⟨clv_61, Arv_61, qv_61, Sv_61, Mv_61, Hv_61, Gv_61⟩ := cpv_61
        obtain ⟨Tw_62, hw_62, Xw_62, ew_62, Ww_62, stw_62⟩ := stJ Xw_60 hx hZ ew_60 Arv_61 (j := (1 : Int32)) (inb_of Sv_61 ⟨by decide, by decide⟩) (g := (mkF m 275 #[.val (.int p1), .val (.int p2), .val (.long q3), .second, .val (.long q4), .second, .val (.int p5), .val (.long q6), .second, .val (.int (Int32.ofNat J)), .val (.int sv), .val (.long f), .second, .val (.int qv), .val (.ref ba_1), .val (.ref ba_8), .val (.ref ba_15), .val (.ref ba_22), .val (.ref ba_29), .val (.ref bo_46), .val (.int ex), .val (.int (own_sc sv (Int32.ofNat J) f qv)), .unset] [(.long (q6 ^^^ q4)), (.int (1 : Int32)), (.ref ba_58), (.ref ba_58)])) rfl rfl (hb hby at_275)
        have vw_62_ba_1 := vw_60_ba_1.other Ww_62 nea_58_ba_1
        have vw_62_ba_8 := vw_60_ba_8.other Ww_62 nea_58_ba_8
        have vw_62_ba_15 := vw_60_ba_15.other Ww_62 nea_58_ba_15
        have vw_62_ba_22 := vw_60_ba_22.other Ww_62 nea_58_ba_22
        have vw_62_ba_29 := vw_60_ba_29.other Ww_62 nea_58_ba_29
        have fw_62_bo_46_Exa := fw_60_bo_46_Exa.wr Ww_62
        have fw_62_bo_46_m_aSources := fw_60_bo_46_m_aSources.other Ww_62 (Or.inl nea_58_bo_46)
        have fw_62_bo_46_m_aFactors := fw_60_bo_46_m_aFactors.other Ww_62 (Or.inl nea_58_bo_46)
        have fw_62_bo_46_m_aAdded := fw_60_bo_46_m_aAdded.other Ww_62 (Or.inl nea_58_bo_46)
        have fw_62_bo_46_m_aSquared := fw_60_bo_46_m_aSquared.other Ww_62 (Or.inl nea_58_bo_46)
        have fw_62_bo_46_m_aShifts := fw_60_bo_46_m_aShifts.other Ww_62 (Or.inl nea_58_bo_46)
        have SZw_62 : n0 ≤ hw_62.size := Nat.le_trans SZw_60 (Keep.of_wr Ww_62).1
        have Vw_62 : Arv Z hw_62 ba_58 ka_58 .long (3 : Int32) [(.long (q6 ^^^ (-1 : Int64))), (.long (q6 ^^^ q4)), (.long (0 : Int64))] (.long (0 : Int64)) := Arv.set Arv_61 qv_61 Sv_61 Mv_61 Hv_61 Gv_61 rfl Ww_62 1 rfl (Nat.le_of_ble_eq_true rfl)
        have Nw_62 := Fr.snoc Xw_62 Nw_60 gba_58
        refine own_lift (fun t k => stw_62 _ k) ?_
        show own_Fin p e below _ (Tw_62.setTop (mkF m 276 #[.val (.int p1), .val (.int p2), .val (.long q3), .second, .val (.long q4), .second, .val (.int p5), .val (.long q6), .second, .val (.int (Int32.ofNat J)), .val (.int sv), .val (.long f), .second, .val (.int qv), .val (.ref ba_1), .val (.ref ba_8), .val (.ref ba_15), .val (.ref ba_22), .val (.ref ba_29), .val (.ref bo_46), .val (.int ex), .val (.int (own_sc sv (Int32.ofNat J) f qv)), .unset] [(.ref ba_58)]))
        refine own_lift (fun t k => XS.dup Xw_62.here hx rfl (hb hby at_276) rfl rfl k) ?_
        show own_Fin p e below _ (Tw_62.setTop (mkF m 277 #[.val (.int p1), .val (.int p2), .val (.long q3), .second, .val (.long q4), .second, .val (.int p5), .val (.long q6), .second, .val (.int (Int32.ofNat J)), .val (.int sv), .val (.long f), .second, .val (.int qv), .val (.ref ba_1), .val (.ref ba_8), .val (.ref ba_15), .val (.ref ba_22), .val (.ref ba_29), .val (.ref bo_46), .val (.int ex), .val (.int (own_sc sv (Int32.ofNat J) f qv)), .unset] [(.ref ba_58), (.ref ba_58)]))
        refine own_lift (fun t k => XS.iconst Xw_62.here hx rfl (hb hby at_277) k) ?_
        show own_Fin p e below _ (Tw_62.setTop (mkF m 278 #[.val (.int p1), .val (.int p2), .val (.long q3), .second, .val (.long q4), .second, .val (.int p5), .val (.long q6), .second, .val (.int (Int32.ofNat J)), .val (.int sv), .val (.long f), .second, .val (.int qv), .val (.ref ba_1), .val (.ref ba_8), .val (.ref ba_15), .val (.ref ba_22), .val (.ref ba_29), .val (.ref bo_46), .val (.int ex), .val (.int (own_sc sv (Int32.ofNat J) f qv)), .unset] [(.int (2 : Int32)), (.ref ba_58), (.ref ba_58)]))
        refine own_lift (fun t k => XS.lload Xw_62.here hx rfl (hb hby at_278) rfl k) ?_
        show own_Fin p e below _ (Tw_62.setTop (mkF m 280 #[.val (.int p1), .val (.int p2), .val (.long q3), .second, .val (.long q4), .second, .val (.int p5), .val (.long q6), .second, .val (.int (Int32.ofNat J)), .val (.int sv), .val (.long f), .second, .val (.int qv), .val (.ref ba_1), .val (.ref ba_8), .val (.ref ba_15), .val (.ref ba_22), .val (.ref ba_29), .val (.ref bo_46), .val (.int ex), .val (.int (own_sc sv (Int32.ofNat J) f qv)), .unset] [(.long q4), (.int (2 : Int32)), (.ref ba_58), (.ref ba_58)]))
        refine own_lift (fun t k => XS.lload Xw_62.here hx rfl (hb hby at_280) rfl k) ?_
        show own_Fin p e below _ (Tw_62.setTop (mkF m 282 #[.val (.int p1), .val (.int p2), .val (.long q3), .second, .val (.long q4), .second, .val (.int p5), .val (.long q6), .second, .val (.int (Int32.ofNat J)), .val (.int sv), .val (.long f), .second, .val (.int qv), .val (.ref ba_1), .val (.ref ba_8), .val (.ref ba_15), .val (.ref ba_22), .val (.ref ba_29), .val (.ref bo_46), .val (.int ex), .val (.int (own_sc sv (Int32.ofNat J) f qv)), .unset] [(.long q6), (.long q4), (.int (2 : Int32)), (.ref ba_58), (.ref ba_58)]))
        refine own_lift (fun t k => XS.lsub Xw_62.here hx rfl (hb hby at_282) rfl k) ?_
        show own_Fin p e below _ (Tw_62.setTop (mkF m 283 #[.val (.int p1), .val (.int p2), .val (.long q3), .second, .val (.long q4), .second, .val (.int p5), .val (.long q6), .second, .val (.int (Int32.ofNat J)), .val (.int sv), .val (.long f), .second, .val (.int qv), .val (.ref ba_1), .val (.ref ba_8), .val (.ref ba_15), .val (.ref ba_22), .val (.ref ba_29), .val (.ref bo_46), .val (.int ex), .val (.int (own_sc sv (Int32.ofNat J) f qv)), .unset] [(.long (q4 - q6)), (.int (2 : Int32)), (.ref ba_58), (.ref ba_58)]))
        have cpv_63 := Vw_62
        obtain ⟨clv_63, Arv_63, qv_63, Sv_63, Mv_63, Hv_63, Gv_63⟩ := cpv_63
        obtain ⟨Tw_64, hw_64, Xw_64, ew_64, Ww_64, stw_64⟩ := stJ Xw_62 hx hZ ew_62 Arv_63 (j := (2 : Int32)) (inb_of Sv_63 ⟨by decide, by decide⟩) (g := (mkF m 283 #[.val (.int p1), .val (.int p2), .val (.long q3), .second, .val (.long q4), .second, .val (.int p5), .val (.long q6), .second, .val (.int (Int32.ofNat J)), .val (.int sv), .val (.long f), .second, .val (.int qv), .val (.ref ba_1), .val (.ref ba_8), .val (.ref ba_15), .val (.ref ba_22), .val (.ref ba_29), .val (.ref bo_46), .val (.int ex), .val (.int (own_sc sv (Int32.ofNat J) f qv)), .unset] [(.long (q4 - q6)), (.int (2 : Int32)), (.ref ba_58), (.ref ba_58)])) rfl rfl (hb hby at_283)
        have vw_64_ba_1 := vw_62_ba_1.other Ww_64 nea_58_ba_1
        have vw_64_ba_8 := vw_62_ba_8.other Ww_64 nea_58_ba_8
        have vw_64_ba_15 := vw_62_ba_15.other Ww_64 nea_58_ba_15
        have vw_64_ba_22 := vw_62_ba_22.other Ww_64 nea_58_ba_22
        have vw_64_ba_29 := vw_62_ba_29.other Ww_64 nea_58_ba_29
        have fw_64_bo_46_Exa := fw_62_bo_46_Exa.wr Ww_64
        have fw_64_bo_46_m_aSources := fw_62_bo_46_m_aSources.other Ww_64 (Or.inl nea_58_bo_46)
        have fw_64_bo_46_m_aFactors := fw_62_bo_46_m_aFactors.other Ww_64 (Or.inl nea_58_bo_46)
        have fw_64_bo_46_m_aAdded := fw_62_bo_46_m_aAdded.other Ww_64 (Or.inl nea_58_bo_46)
        have fw_64_bo_46_m_aSquared := fw_62_bo_46_m_aSquared.other Ww_64 (Or.inl nea_58_bo_46)
        have fw_64_bo_46_m_aShifts := fw_62_bo_46_m_aShifts.other Ww_64 (Or.inl nea_58_bo_46)
        have SZw_64 : n0 ≤ hw_64.size := Nat.le_trans SZw_62 (Keep.of_wr Ww_64).1
        have Vw_64 : Arv Z hw_64 ba_58 ka_58 .long (3 : Int32) [(.long (q6 ^^^ (-1 : Int64))), (.long (q6 ^^^ q4)), (.long (q4 - q6))] (.long (0 : Int64)) := Arv.set Arv_63 qv_63 Sv_63 Mv_63 Hv_63 Gv_63 rfl Ww_64 2 rfl (Nat.le_of_ble_eq_true rfl)
        have Nw_64 := Fr.snoc Xw_64 Nw_62 gba_58
        refine own_lift (fun t k => stw_64 _ k) ?_
        show own_Fin p e below _ (Tw_64.setTop (mkF m 284 #[.val (.int p1), .val (.int p2), .val (.long q3), .second, .val (.long q4), .second, .val (.int p5), .val (.long q6), .second, .val (.int (Int32.ofNat J)), .val (.int sv), .val (.long f), .second, .val (.int qv), .val (.ref ba_1), .val (.ref ba_8), .val (.ref ba_15), .val (.ref ba_22), .val (.ref ba_29), .val (.ref bo_46), .val (.int ex), .val (.int (own_sc sv (Int32.ofNat J) f qv)), .unset] [(.ref ba_58)]))
        refine own_lift (fun t k => XS.astore Xw_64.here hx rfl (hb hby at_284) rfl rfl (l' := #[.val (.int p1), .val (.int p2), .val (.long q3), .second, .val (.long q4), .second, .val (.int p5), .val (.long q6), .second, .val (.int (Int32.ofNat J)), .val (.int sv), .val (.long f), .second, .val (.int qv), .val (.ref ba_1), .val (.ref ba_8), .val (.ref ba_15), .val (.ref ba_22), .val (.ref ba_29), .val (.ref bo_46), .val (.int ex), .val (.int (own_sc sv (Int32.ofNat J) f qv)), .val (.ref ba_58)]) rfl k) ?_
        show own_Fin p e below _ (Tw_64.setTop (mkF m 286 #[.val (.int p1), .val (.int p2), .val (.long q3), .second, .val (.long q4), .second, .val (.int p5), .val (.long q6), .second, .val (.int (Int32.ofNat J)), .val (.int sv), .val (.long f), .second, .val (.int qv), .val (.ref ba_1), .val (.ref ba_8), .val (.ref ba_15), .val (.ref ba_22), .val (.ref ba_29), .val (.ref bo_46), .val (.int ex), .val (.int (own_sc sv (Int32.ofNat J) f qv)), .val (.ref ba_58)] []))
        refine own_lift (fun t k => XS.aload Xw_64.here hx rfl (hb hby at_286) rfl rfl k) ?_
        show own_Fin p e below _ (Tw_64.setTop (mkF m 288 #[.val (.int p1), .val (.int p2), .val (.long q3), .second, .val (.long q4), .second, .val (.int p5), .val (.long q6), .second, .val (.int (Int32.ofNat J)), .val (.int sv), .val (.long f), .second, .val (.int qv), .val (.ref ba_1), .val (.ref ba_8), .val (.ref ba_15), .val (.ref ba_22), .val (.ref ba_29), .val (.ref bo_46), .val (.int ex), .val (.int (own_sc sv (Int32.ofNat J) f qv)), .val (.ref ba_58)] [(.ref ba_58)]))
        refine own_lift (fun t k => XS.iload Xw_64.here hx rfl (hb hby at_288) rfl k) ?_
        show own_Fin p e below _ (Tw_64.setTop (mkF m 290 #[.val (.int p1), .val (.int p2), .val (.long q3), .second, .val (.long q4), .second, .val (.int p5), .val (.long q6), .second, .val (.int (Int32.ofNat J)), .val (.int sv), .val (.long f), .second, .val (.int qv), .val (.ref ba_1), .val (.ref ba_8), .val (.ref ba_15), .val (.ref ba_22), .val (.ref ba_29), .val (.ref bo_46), .val (.int ex), .val (.int (own_sc sv (Int32.ofNat J) f qv)), .val (.ref ba_58)] [(.int (Int32.ofNat J)), (.ref ba_58)]))
        refine own_lift (fun t k => XS.lload Xw_64.here hx rfl (hb hby at_290) rfl k) ?_
        show own_Fin p e below _ (Tw_64.setTop (mkF m 292 #[.val (.int p1), .val (.int p2), .val (.long q3), .second, .val (.long q4), .second, .val (.int p5), .val (.long q6), .second, .val (.int (Int32.ofNat J)), .val (.int sv), .val (.long f), .second, .val (.int qv), .val (.ref ba_1), .val (.ref ba_8), .val (.ref ba_15), .val (.ref ba_22), .val (.ref ba_29), .val (.ref bo_46), .val (.int ex), .val (.int (own_sc sv (Int32.ofNat J) f qv)), .val (.ref ba_58)] [(.long q6), (.int (Int32.ofNat J)), (.ref ba_58)]))
        have cpv_65 := Vw_64
        obtain ⟨clv_65, Arv_65, qv_65, Sv_65, Mv_65, Hv_65, Gv_65⟩ := cpv_65
        obtain ⟨Tw_66, hw_66, Xw_66, ew_66, Ww_66, stw_66⟩ := stJ Xw_64 hx hZ ew_64 Arv_65 (j := (Int32.ofNat J)) (own_hin hJ Sv_65) (g := (mkF m 292 #[.val (.int p1), .val (.int p2), .val (.long q3), .second, .val (.long q4), .second, .val (.int p5), .val (.long q6), .second, .val (.int (Int32.ofNat J)), .val (.int sv), .val (.long f), .second, .val (.int qv), .val (.ref ba_1), .val (.ref ba_8), .val (.ref ba_15), .val (.ref ba_22), .val (.ref ba_29), .val (.ref bo_46), .val (.int ex), .val (.int (own_sc sv (Int32.ofNat J) f qv)), .val (.ref ba_58)] [(.long q6), (.int (Int32.ofNat J)), (.ref ba_58)])) rfl rfl (hb hby at_292)
        have vw_66_ba_1 := vw_64_ba_1.other Ww_66 nea_58_ba_1
        have vw_66_ba_8 := vw_64_ba_8.other Ww_66 nea_58_ba_8
        have vw_66_ba_15 := vw_64_ba_15.other Ww_66 nea_58_ba_15
        have vw_66_ba_22 := vw_64_ba_22.other Ww_66 nea_58_ba_22
        have vw_66_ba_29 := vw_64_ba_29.other Ww_66 nea_58_ba_29
        have fw_66_bo_46_Exa := fw_64_bo_46_Exa.wr Ww_66
        have fw_66_bo_46_m_aSources := fw_64_bo_46_m_aSources.other Ww_66 (Or.inl nea_58_bo_46)
        have fw_66_bo_46_m_aFactors := fw_64_bo_46_m_aFactors.other Ww_66 (Or.inl nea_58_bo_46)
        have fw_66_bo_46_m_aAdded := fw_64_bo_46_m_aAdded.other Ww_66 (Or.inl nea_58_bo_46)
        have fw_66_bo_46_m_aSquared := fw_64_bo_46_m_aSquared.other Ww_66 (Or.inl nea_58_bo_46)
        have fw_66_bo_46_m_aShifts := fw_64_bo_46_m_aShifts.other Ww_66 (Or.inl nea_58_bo_46)
        have SZw_66 : n0 ≤ hw_66.size := Nat.le_trans SZw_64 (Keep.of_wr Ww_66).1
        have Vw_66 : Arv Z hw_66 ba_58 ka_58 .long (3 : Int32) ([(.long (q6 ^^^ (-1 : Int64))), (.long (q6 ^^^ q4)), (.long (q4 - q6))].set J (.long q6)) (.long (0 : Int64)) := Arv.set Arv_65 qv_65 Sv_65 Mv_65 Hv_65 Gv_65 rfl Ww_66 J (own_n32 hJ) hJ
        have Nw_66 := Fr.snoc Xw_66 Nw_64 gba_58
        refine own_lift (fun t k => stw_66 _ k) ?_
        show own_Fin p e below _ (Tw_66.setTop (mkF m 293 #[.val (.int p1), .val (.int p2), .val (.long q3), .second, .val (.long q4), .second, .val (.int p5), .val (.long q6), .second, .val (.int (Int32.ofNat J)), .val (.int sv), .val (.long f), .second, .val (.int qv), .val (.ref ba_1), .val (.ref ba_8), .val (.ref ba_15), .val (.ref ba_22), .val (.ref ba_29), .val (.ref bo_46), .val (.int ex), .val (.int (own_sc sv (Int32.ofNat J) f qv)), .val (.ref ba_58)] []))
        refine own_lift (fun t k => XS.aload Xw_66.here hx rfl (hb hby at_293) rfl rfl k) ?_
        show own_Fin p e below _ (Tw_66.setTop (mkF m 295 #[.val (.int p1), .val (.int p2), .val (.long q3), .second, .val (.long q4), .second, .val (.int p5), .val (.long q6), .second, .val (.int (Int32.ofNat J)), .val (.int sv), .val (.long f), .second, .val (.int qv), .val (.ref ba_1), .val (.ref ba_8), .val (.ref ba_15), .val (.ref ba_22), .val (.ref ba_29), .val (.ref bo_46), .val (.int ex), .val (.int (own_sc sv (Int32.ofNat J) f qv)), .val (.ref ba_58)] [(.ref bo_46)]))
        refine own_lift (fun t k => XS.aload Xw_66.here hx rfl (hb hby at_295) rfl rfl k) ?_
        show own_Fin p e below _ (Tw_66.setTop (mkF m 297 #[.val (.int p1), .val (.int p2), .val (.long q3), .second, .val (.long q4), .second, .val (.int p5), .val (.long q6), .second, .val (.int (Int32.ofNat J)), .val (.int sv), .val (.long f), .second, .val (.int qv), .val (.ref ba_1), .val (.ref ba_8), .val (.ref ba_15), .val (.ref ba_22), .val (.ref ba_29), .val (.ref bo_46), .val (.int ex), .val (.int (own_sc sv (Int32.ofNat J) f qv)), .val (.ref ba_58)] [(.ref ba_58), (.ref bo_46)]))
        refine own_lift (fun t k => XS.iconst Xw_66.here hx rfl (hb hby at_297) k) ?_
        show own_Fin p e below _ (Tw_66.setTop (mkF m 298 #[.val (.int p1), .val (.int p2), .val (.long q3), .second, .val (.long q4), .second, .val (.int p5), .val (.long q6), .second, .val (.int (Int32.ofNat J)), .val (.int sv), .val (.long f), .second, .val (.int qv), .val (.ref ba_1), .val (.ref ba_8), .val (.ref ba_15), .val (.ref ba_22), .val (.ref ba_29), .val (.ref bo_46), .val (.int ex), .val (.int (own_sc sv (Int32.ofNat J) f qv)), .val (.ref ba_58)] [(.int (0 : Int32)), (.ref ba_58), (.ref bo_46)]))
        refine own_lift (fun t k => XS.iload Xw_66.here hx rfl (hb hby at_298) rfl k) ?_
        show own_Fin p e below _ (Tw_66.setTop (mkF m 300 #[.val (.int p1), .val (.int p2), .val (.long q3), .second, .val (.long q4), .second, .val (.int p5), .val (.long q6), .second, .val (.int (Int32.ofNat J)), .val (.int sv), .val (.long f), .second, .val (.int qv), .val (.ref ba_1), .val (.ref ba_8), .val (.ref ba_15), .val (.ref ba_22), .val (.ref ba_29), .val (.ref bo_46), .val (.int ex), .val (.int (own_sc sv (Int32.ofNat J) f qv)), .val (.ref ba_58)] [(.int (Int32.ofNat J)), (.int (0 : Int32)), (.ref ba_58), (.ref bo_46)]))
        have cpz_68 := vw_66_ba_1
        obtain ⟨clz_68, Arz_68, -, Szz_68, -, Hz_68, -⟩ := cpz_68
        have Sz_68 : clz_68.slots.size = 3 := Szz_68
        have atz_68 : clz_68.slots[J]? = some (.int sv) := by rw [Hz_68 J (by rw [Sz_68]; exact hJ)]; exact congrArg some (own_gs _ _ _ _ _ hJ)
        have cpz_69 := vw_66_ba_8
        obtain ⟨clz_69, Arz_69, -, Szz_69, -, Hz_69, -⟩ := cpz_69
        have Sz_69 : clz_69.slots.size = 3 := Szz_69
        have atz_69 : clz_69.slots[J]? = some (.long f) := by rw [Hz_69 J (by rw [Sz_69]; exact hJ)]; exact congrArg some (own_gs _ _ _ _ _ hJ)
        have cpz_70 := vw_66_ba_15
        obtain ⟨clz_70, Arz_70, -, Szz_70, -, Hz_70, -⟩ := cpz_70
        have Sz_70 : clz_70.slots.size = 3 := Szz_70
        have atz_70 : clz_70.slots[J]? = some (.long q4) := by rw [Hz_70 J (by rw [Sz_70]; exact hJ)]; exact congrArg some (own_gs _ _ _ _ _ hJ)
        have cpz_71 := vw_66_ba_22
        obtain ⟨clz_71, Arz_71, -, Szz_71, -, Hz_71, -⟩ := cpz_71
        have Sz_71 : clz_71.slots.size = 3 := Szz_71
        have atz_71 : clz_71.slots[J]? = some (.int qv) := by rw [Hz_71 J (by rw [Sz_71]; exact hJ)]; exact congrArg some (own_gs _ _ _ _ _ hJ)
        have cpz_72 := Vw_66
        obtain ⟨clz_72, Arz_72, -, Szz_72, -, Hz_72, -⟩ := cpz_72
        have Sz_72 : clz_72.slots.size = 3 := Szz_72
        have atz_72 : clz_72.slots[J]? = some (.long q6) := by rw [Hz_72 J (by rw [Sz_72]; exact hJ)]; exact congrArg some (own_gs _ _ _ _ _ hJ)
        rw [hsv] at atz_68
        rw [hqv] at atz_71
        obtain ⟨cqk_67, kqk_67, qk_67a, qk_67b, qk_67c⟩ := isOf hZ ew_66 fw_66_bo_46_Exa
        obtain ⟨_, _, ⟨Tk_67, Lk_67, kk_67, nk_67⟩, -, Xk_67, ⟨Lck_67, hQk_67, lk_67, yk_67, zk_67⟩, stk_67⟩ := Xw_66.virtualBack hx (y := (⟨"com/example/riverfront/riverfront/solver/VectorMap", "apply", "([JII)J"⟩ : MethodName)) (z := (⟨"com/example/riverfront/riverfront/solver/VectorMap", "apply", "([JII)J"⟩ : MethodName)) hown (mvT hZ (hw _ (List.mem_of_getElem? (i := 36) rfl))) (mvT hZ (hw _ (List.mem_of_getElem? (i := 37) rfl))) (notFace_of_selects (args := #[]) (mvT hZ (hw _ (List.mem_of_getElem? (i := 39) rfl)))) (mvT hZ (hw _ (List.mem_of_getElem? (i := 39) rfl))) (mvT hZ (hw _ (List.mem_of_getElem? (i := 38) rfl))) (by decide) (backOf (W := 0) (rm5 l Z a0 hw [] bo_46 ba_1 ba_8 ba_15 ba_22 ba_58 J clz_68 clz_69 clz_70 clz_71 clz_72 f q4 q6 hw_66 n0 SZw_66 hJ fw_66_bo_46_m_aSources fw_66_bo_46_m_aFactors fw_66_bo_46_m_aAdded fw_66_bo_46_m_aSquared Arz_68 Sz_68 Arz_69 Sz_69 Arz_70 Sz_70 Arz_71 Sz_71 Arz_72 Sz_72 atz_68 atz_69 atz_70 atz_71 atz_72) hZ (hw _ (List.mem_of_getElem? (i := 40) rfl)) (hw _ (List.mem_of_getElem? (i := 8) rfl)) (by decide) (by decide)) qk_67a qk_67c (g := (mkF m 300 #[.val (.int p1), .val (.int p2), .val (.long q3), .second, .val (.long q4), .second, .val (.int p5), .val (.long q6), .second, .val (.int (Int32.ofNat J)), .val (.int sv), .val (.long f), .second, .val (.int qv), .val (.ref ba_1), .val (.ref ba_8), .val (.ref ba_15), .val (.ref ba_22), .val (.ref ba_29), .val (.ref bo_46), .val (.int ex), .val (.int (own_sc sv (Int32.ofNat J) f qv)), .val (.ref ba_58)] [(.int (Int32.ofNat J)), (.int (0 : Int32)), (.ref ba_58), (.ref bo_46)])) rfl (by rw [hml]; rfl) (Steps.refl _) (argsL := [(.ref ba_58), (.int (0 : Int32)), (.int (Int32.ofNat J))]) (rest := []) (lenOf pd_5 rfl) rfl (by show 2 * 0 + _ ≤ _; exact Nat.le_of_eq rfl) (hb hby at_300) (fun _ _ => ⟨rfl, ew_66, (by decide : 7 + 0 ≤ _), (by decide : 23 + 0 ≤ _)⟩)
        dsimp only [Pt.U, Pt.locs, Pt.cells, Pt.slots] at Xk_67 lk_67 yk_67 zk_67 stk_67 hQk_67
        subst lk_67 yk_67 zk_67
        obtain ⟨rfl, Nk_67q, ek_67⟩ := hQk_67
        have Nk_67 := Fr.app Nw_66 Nk_67q
        refine own_lift (fun t k => stk_67.trans k) ?_
        show own_Fin p e below _ (Tk_67.setTop (mkF m 303 #[.val (.int p1), .val (.int p2), .val (.long q3), .second, .val (.long q4), .second, .val (.int p5), .val (.long q6), .second, .val (.int (Int32.ofNat J)), .val (.int sv), .val (.long f), .second, .val (.int qv), .val (.ref ba_1), .val (.ref ba_8), .val (.ref ba_15), .val (.ref ba_22), .val (.ref ba_29), .val (.ref bo_46), .val (.int ex), .val (.int (own_sc sv (Int32.ofNat J) f qv)), .val (.ref ba_58)] [(.long ((q6 * f) + q4))]))
        refine own_lift (fun t k => XS.lload Xk_67.here hx rfl (hb hby at_303) rfl k) ?_
        show own_Fin p e below _ (Tk_67.setTop (mkF m 305 #[.val (.int p1), .val (.int p2), .val (.long q3), .second, .val (.long q4), .second, .val (.int p5), .val (.long q6), .second, .val (.int (Int32.ofNat J)), .val (.int sv), .val (.long f), .second, .val (.int qv), .val (.ref ba_1), .val (.ref ba_8), .val (.ref ba_15), .val (.ref ba_22), .val (.ref ba_29), .val (.ref bo_46), .val (.int ex), .val (.int (own_sc sv (Int32.ofNat J) f qv)), .val (.ref ba_58)] [(.long f), (.long ((q6 * f) + q4))]))
        refine own_lift (fun t k => XS.lload Xk_67.here hx rfl (hb hby at_305) rfl k) ?_
        show own_Fin p e below _ (Tk_67.setTop (mkF m 307 #[.val (.int p1), .val (.int p2), .val (.long q3), .second, .val (.long q4), .second, .val (.int p5), .val (.long q6), .second, .val (.int (Int32.ofNat J)), .val (.int sv), .val (.long f), .second, .val (.int qv), .val (.ref ba_1), .val (.ref ba_8), .val (.ref ba_15), .val (.ref ba_22), .val (.ref ba_29), .val (.ref bo_46), .val (.int ex), .val (.int (own_sc sv (Int32.ofNat J) f qv)), .val (.ref ba_58)] [(.long q6), (.long f), (.long ((q6 * f) + q4))]))
        refine own_lift (fun t k => XS.lmul Xk_67.here hx rfl (hb hby at_307) rfl k) ?_
        show own_Fin p e below _ (Tk_67.setTop (mkF m 308 #[.val (.int p1), .val (.int p2), .val (.long q3), .second, .val (.long q4), .second, .val (.int p5), .val (.long q6), .second, .val (.int (Int32.ofNat J)), .val (.int sv), .val (.long f), .second, .val (.int qv), .val (.ref ba_1), .val (.ref ba_8), .val (.ref ba_15), .val (.ref ba_22), .val (.ref ba_29), .val (.ref bo_46), .val (.int ex), .val (.int (own_sc sv (Int32.ofNat J) f qv)), .val (.ref ba_58)] [(.long (f * q6)), (.long ((q6 * f) + q4))]))
        refine own_lift (fun t k => XS.lload Xk_67.here hx rfl (hb hby at_308) rfl k) ?_
        show own_Fin p e below _ (Tk_67.setTop (mkF m 310 #[.val (.int p1), .val (.int p2), .val (.long q3), .second, .val (.long q4), .second, .val (.int p5), .val (.long q6), .second, .val (.int (Int32.ofNat J)), .val (.int sv), .val (.long f), .second, .val (.int qv), .val (.ref ba_1), .val (.ref ba_8), .val (.ref ba_15), .val (.ref ba_22), .val (.ref ba_29), .val (.ref bo_46), .val (.int ex), .val (.int (own_sc sv (Int32.ofNat J) f qv)), .val (.ref ba_58)] [(.long q4), (.long (f * q6)), (.long ((q6 * f) + q4))]))
        refine own_lift (fun t k => XS.ladd Xk_67.here hx rfl (hb hby at_310) rfl k) ?_
        show own_Fin p e below _ (Tk_67.setTop (mkF m 311 #[.val (.int p1), .val (.int p2), .val (.long q3), .second, .val (.long q4), .second, .val (.int p5), .val (.long q6), .second, .val (.int (Int32.ofNat J)), .val (.int sv), .val (.long f), .second, .val (.int qv), .val (.ref ba_1), .val (.ref ba_8), .val (.ref ba_15), .val (.ref ba_22), .val (.ref ba_29), .val (.ref bo_46), .val (.int ex), .val (.int (own_sc sv (Int32.ofNat J) f qv)), .val (.ref ba_58)] [(.long ((f * q6) + q4)), (.long ((q6 * f) + q4))]))
        refine own_lift (fun t k => XS.lcmp Xk_67.here hx rfl (hb hby at_311) rfl k) ?_
        show own_Fin p e below _ (Tk_67.setTop (mkF m 312 #[.val (.int p1), .val (.int p2), .val (.long q3), .second, .val (.long q4), .second, .val (.int p5), .val (.long q6), .second, .val (.int (Int32.ofNat J)), .val (.int sv), .val (.long f), .second, .val (.int qv), .val (.ref ba_1), .val (.ref ba_8), .val (.ref ba_15), .val (.ref ba_22), .val (.ref ba_29), .val (.ref bo_46), .val (.int ex), .val (.int (own_sc sv (Int32.ofNat J) f qv)), .val (.ref ba_58)] [(.int (lcmpW ((q6 * f) + q4) ((f * q6) + q4)))]))
        refine own_lift (fun t k => XS.ifNo Xk_67.here hx rfl (hb hby at_312) rfl ((if0 _ _).trans (teq hlc).2) k) ?_
        show own_Fin p e below _ (Tk_67.setTop (mkF m 315 #[.val (.int p1), .val (.int p2), .val (.long q3), .second, .val (.long q4), .second, .val (.int p5), .val (.long q6), .second, .val (.int (Int32.ofNat J)), .val (.int sv), .val (.long f), .second, .val (.int qv), .val (.ref ba_1), .val (.ref ba_8), .val (.ref ba_15), .val (.ref ba_22), .val (.ref ba_29), .val (.ref bo_46), .val (.int ex), .val (.int (own_sc sv (Int32.ofNat J) f qv)), .val (.ref ba_58)] []))
        refine own_lift (fun t k => XS.iconst Xk_67.here hx rfl (hb hby at_315) k) ?_
        show own_Fin p e below _ (Tk_67.setTop (mkF m 316 #[.val (.int p1), .val (.int p2), .val (.long q3), .second, .val (.long q4), .second, .val (.int p5), .val (.long q6), .second, .val (.int (Int32.ofNat J)), .val (.int sv), .val (.long f), .second, .val (.int qv), .val (.ref ba_1), .val (.ref ba_8), .val (.ref ba_15), .val (.ref ba_22), .val (.ref ba_29), .val (.ref bo_46), .val (.int ex), .val (.int (own_sc sv (Int32.ofNat J) f qv)), .val (.ref ba_58)] [(.int (1 : Int32))]))
        refine own_lift (fun t k => XS.goto Xk_67.here hx rfl (pc0 := 316) (pc' := 320) rfl (hb hby at_316) (by decide) (by decide) k) ?_
        show own_Fin p e below _ (Tk_67.setTop (mkF m 320 #[.val (.int p1), .val (.int p2), .val (.long q3), .second, .val (.long q4), .second, .val (.int p5), .val (.long q6), .second, .val (.int (Int32.ofNat J)), .val (.int sv), .val (.long f), .second, .val (.int qv), .val (.ref ba_1), .val (.ref ba_8), .val (.ref ba_15), .val (.ref ba_22), .val (.ref ba_29), .val (.ref bo_46), .val (.int ex), .val (.int (own_sc sv (Int32.ofNat J) f qv)), .val (.ref ba_58)] [(.int (1 : Int32))]))
        obtain ⟨fs, hr, hrun, hended, hW, hsame⟩ := Xk_67.leave (v := some (.int (1 : Int32))) (fun h => by rw [Bd.returns] at h; cases h)
        exact ⟨_, _, retN Xk_67 hx (t := .boolean) Bd.returns (by simp) (hb hby at_320) hr, hrun, hended, _, _, rfl, ⟨rfl, Nk_67⟩, ⟨_, rfl⟩, hW, hsame.mono (by decide) (by decide)⟩
    refine own_lift (fun t k => XS.iload Xk_47.here hx rfl (hb hby at_196) rfl k) ?_
    show own_Fin p e below _ (Tk_47.setTop (mkF m 198 #[.val (.int p1), .val (.int p2), .val (.long q3), .second, .val (.long q4), .second, .val (.int p5), .val (.long q6), .second, .val (.int (Int32.ofNat J)), .val (.int sv), .val (.long f), .second, .val (.int qv), .val (.ref ba_1), .val (.ref ba_8), .val (.ref ba_15), .val (.ref ba_22), .val (.ref ba_29), .val (.ref bo_46), .val (.int (0 : Int32)), .unset, .unset] [(.int sv)]))
    refine own_lift (fun t k => XS.iload Xk_47.here hx rfl (hb hby at_198) rfl k) ?_
    show own_Fin p e below _ (Tk_47.setTop (mkF m 200 #[.val (.int p1), .val (.int p2), .val (.long q3), .second, .val (.long q4), .second, .val (.int p5), .val (.long q6), .second, .val (.int (Int32.ofNat J)), .val (.int sv), .val (.long f), .second, .val (.int qv), .val (.ref ba_1), .val (.ref ba_8), .val (.ref ba_15), .val (.ref ba_22), .val (.ref ba_29), .val (.ref bo_46), .val (.int (0 : Int32)), .unset, .unset] [(.int (Int32.ofNat J)), (.int sv)]))
    by_cases hc200_74 : sv = (Int32.ofNat J)
    · refine own_lift (fun t k => XS.icmpNo Xk_47.here hx rfl (hb hby at_200) rfl (teq hc200_74).2 k) ?_
      show own_Fin p e below _ (Tk_47.setTop (mkF m 203 #[.val (.int p1), .val (.int p2), .val (.long q3), .second, .val (.long q4), .second, .val (.int p5), .val (.long q6), .second, .val (.int (Int32.ofNat J)), .val (.int sv), .val (.long f), .second, .val (.int qv), .val (.ref ba_1), .val (.ref ba_8), .val (.ref ba_15), .val (.ref ba_22), .val (.ref ba_29), .val (.ref bo_46), .val (.int (0 : Int32)), .unset, .unset] []))
      refine own_lift (fun t k => XS.lload Xk_47.here hx rfl (hb hby at_203) rfl k) ?_
      show own_Fin p e below _ (Tk_47.setTop (mkF m 205 #[.val (.int p1), .val (.int p2), .val (.long q3), .second, .val (.long q4), .second, .val (.int p5), .val (.long q6), .second, .val (.int (Int32.ofNat J)), .val (.int sv), .val (.long f), .second, .val (.int qv), .val (.ref ba_1), .val (.ref ba_8), .val (.ref ba_15), .val (.ref ba_22), .val (.ref ba_29), .val (.ref bo_46), .val (.int (0 : Int32)), .unset, .unset] [(.long f)]))
      refine own_lift (fun t k => XS.lconst Xk_47.here hx rfl (hb hby at_205) k) ?_
      show own_Fin p e below _ (Tk_47.setTop (mkF m 206 #[.val (.int p1), .val (.int p2), .val (.long q3), .second, .val (.long q4), .second, .val (.int p5), .val (.long q6), .second, .val (.int (Int32.ofNat J)), .val (.int sv), .val (.long f), .second, .val (.int qv), .val (.ref ba_1), .val (.ref ba_8), .val (.ref ba_15), .val (.ref ba_22), .val (.ref ba_29), .val (.ref bo_46), .val (.int (0 : Int32)), .unset, .unset] [(.long (0 : Int64)), (.long f)]))
      refine own_lift (fun t k => XS.lcmp Xk_47.here hx rfl (hb hby at_206) rfl k) ?_
      show own_Fin p e below _ (Tk_47.setTop (mkF m 207 #[.val (.int p1), .val (.int p2), .val (.long q3), .second, .val (.long q4), .second, .val (.int p5), .val (.long q6), .second, .val (.int (Int32.ofNat J)), .val (.int sv), .val (.long f), .second, .val (.int qv), .val (.ref ba_1), .val (.ref ba_8), .val (.ref ba_15), .val (.ref ba_22), .val (.ref ba_29), .val (.ref bo_46), .val (.int (0 : Int32)), .unset, .unset] [(.int (lcmpW f (0 : Int64)))]))
      by_cases hc207_75 : (lcmpW f (0 : Int64)) = (0 : Int32)
      · refine own_lift (fun t k => XS.ifYes Xk_47.here hx rfl (pc0 := 207) (pc' := 219) rfl (hb hby at_207) rfl ((if0 _ _).trans (teq hc207_75).1) (by decide) (by decide) k) ?_
        show own_Fin p e below _ (Tk_47.setTop (mkF m 219 #[.val (.int p1), .val (.int p2), .val (.long q3), .second, .val (.long q4), .second, .val (.int p5), .val (.long q6), .second, .val (.int (Int32.ofNat J)), .val (.int sv), .val (.long f), .second, .val (.int qv), .val (.ref ba_1), .val (.ref ba_8), .val (.ref ba_15), .val (.ref ba_22), .val (.ref ba_29), .val (.ref bo_46), .val (.int (0 : Int32)), .unset, .unset] []))
        exact j219 _ _ _ Xk_47 rfl Nk_47 (by simp [own_sc, hpos, hc200_74, hc207_75])
      · refine own_lift (fun t k => XS.ifNo Xk_47.here hx rfl (hb hby at_207) rfl ((if0 _ _).trans (feq hc207_75).1) k) ?_
        show own_Fin p e below _ (Tk_47.setTop (mkF m 210 #[.val (.int p1), .val (.int p2), .val (.long q3), .second, .val (.long q4), .second, .val (.int p5), .val (.long q6), .second, .val (.int (Int32.ofNat J)), .val (.int sv), .val (.long f), .second, .val (.int qv), .val (.ref ba_1), .val (.ref ba_8), .val (.ref ba_15), .val (.ref ba_22), .val (.ref ba_29), .val (.ref bo_46), .val (.int (0 : Int32)), .unset, .unset] []))
        refine own_lift (fun t k => XS.iload Xk_47.here hx rfl (hb hby at_210) rfl k) ?_
        show own_Fin p e below _ (Tk_47.setTop (mkF m 212 #[.val (.int p1), .val (.int p2), .val (.long q3), .second, .val (.long q4), .second, .val (.int p5), .val (.long q6), .second, .val (.int (Int32.ofNat J)), .val (.int sv), .val (.long f), .second, .val (.int qv), .val (.ref ba_1), .val (.ref ba_8), .val (.ref ba_15), .val (.ref ba_22), .val (.ref ba_29), .val (.ref bo_46), .val (.int (0 : Int32)), .unset, .unset] [(.int qv)]))
        refine own_lift (fun t k => XS.iconst Xk_47.here hx rfl (hb hby at_212) k) ?_
        show own_Fin p e below _ (Tk_47.setTop (mkF m 213 #[.val (.int p1), .val (.int p2), .val (.long q3), .second, .val (.long q4), .second, .val (.int p5), .val (.long q6), .second, .val (.int (Int32.ofNat J)), .val (.int sv), .val (.long f), .second, .val (.int qv), .val (.ref ba_1), .val (.ref ba_8), .val (.ref ba_15), .val (.ref ba_22), .val (.ref ba_29), .val (.ref bo_46), .val (.int (0 : Int32)), .unset, .unset] [(.int (-1 : Int32)), (.int qv)]))
        by_cases hc213_76 : qv = (-1 : Int32)
        · refine own_lift (fun t k => XS.icmpNo Xk_47.here hx rfl (hb hby at_213) rfl (teq hc213_76).2 k) ?_
          show own_Fin p e below _ (Tk_47.setTop (mkF m 216 #[.val (.int p1), .val (.int p2), .val (.long q3), .second, .val (.long q4), .second, .val (.int p5), .val (.long q6), .second, .val (.int (Int32.ofNat J)), .val (.int sv), .val (.long f), .second, .val (.int qv), .val (.ref ba_1), .val (.ref ba_8), .val (.ref ba_15), .val (.ref ba_22), .val (.ref ba_29), .val (.ref bo_46), .val (.int (0 : Int32)), .unset, .unset] []))
          refine own_lift (fun t k => XS.iconst Xk_47.here hx rfl (hb hby at_216) k) ?_
          show own_Fin p e below _ (Tk_47.setTop (mkF m 217 #[.val (.int p1), .val (.int p2), .val (.long q3), .second, .val (.long q4), .second, .val (.int p5), .val (.long q6), .second, .val (.int (Int32.ofNat J)), .val (.int sv), .val (.long f), .second, .val (.int qv), .val (.ref ba_1), .val (.ref ba_8), .val (.ref ba_15), .val (.ref ba_22), .val (.ref ba_29), .val (.ref bo_46), .val (.int (0 : Int32)), .unset, .unset] [(.int (1 : Int32))]))
          refine own_lift (fun t k => XS.istore Xk_47.here hx rfl (hb hby at_217) rfl (l' := #[.val (.int p1), .val (.int p2), .val (.long q3), .second, .val (.long q4), .second, .val (.int p5), .val (.long q6), .second, .val (.int (Int32.ofNat J)), .val (.int sv), .val (.long f), .second, .val (.int qv), .val (.ref ba_1), .val (.ref ba_8), .val (.ref ba_15), .val (.ref ba_22), .val (.ref ba_29), .val (.ref bo_46), .val (.int (1 : Int32)), .unset, .unset]) rfl k) ?_
          show own_Fin p e below _ (Tk_47.setTop (mkF m 219 #[.val (.int p1), .val (.int p2), .val (.long q3), .second, .val (.long q4), .second, .val (.int p5), .val (.long q6), .second, .val (.int (Int32.ofNat J)), .val (.int sv), .val (.long f), .second, .val (.int qv), .val (.ref ba_1), .val (.ref ba_8), .val (.ref ba_15), .val (.ref ba_22), .val (.ref ba_29), .val (.ref bo_46), .val (.int (1 : Int32)), .unset, .unset] []))
          exact j219 _ _ _ Xk_47 rfl Nk_47 (by simp [own_sc, hpos, hc200_74, hc207_75, hc213_76])
        · refine own_lift (fun t k => XS.icmpYes Xk_47.here hx rfl (pc0 := 213) (pc' := 219) rfl (hb hby at_213) rfl (feq hc213_76).2 (by decide) (by decide) k) ?_
          show own_Fin p e below _ (Tk_47.setTop (mkF m 219 #[.val (.int p1), .val (.int p2), .val (.long q3), .second, .val (.long q4), .second, .val (.int p5), .val (.long q6), .second, .val (.int (Int32.ofNat J)), .val (.int sv), .val (.long f), .second, .val (.int qv), .val (.ref ba_1), .val (.ref ba_8), .val (.ref ba_15), .val (.ref ba_22), .val (.ref ba_29), .val (.ref bo_46), .val (.int (0 : Int32)), .unset, .unset] []))
          exact j219 _ _ _ Xk_47 rfl Nk_47 (by simp [own_sc, hpos, hc200_74, hc207_75, hc213_76])
    · refine own_lift (fun t k => XS.icmpYes Xk_47.here hx rfl (pc0 := 200) (pc' := 219) rfl (hb hby at_200) rfl (feq hc200_74).2 (by decide) (by decide) k) ?_
      show own_Fin p e below _ (Tk_47.setTop (mkF m 219 #[.val (.int p1), .val (.int p2), .val (.long q3), .second, .val (.long q4), .second, .val (.int p5), .val (.long q6), .second, .val (.int (Int32.ofNat J)), .val (.int sv), .val (.long f), .second, .val (.int qv), .val (.ref ba_1), .val (.ref ba_8), .val (.ref ba_15), .val (.ref ba_22), .val (.ref ba_29), .val (.ref bo_46), .val (.int (0 : Int32)), .unset, .unset] []))
      exact j219 _ _ _ Xk_47 rfl Nk_47 (by simp [own_sc, hpos, hc200_74])
  refine own_lift (fun t k => XS.lloadN X0.here hx rfl (hb hby at_16) rfl k) ?_
  show own_Fin p e below _ (s₁.setTop (mkF m 17 #[.val (.int p1), .val (.int p2), .val (.long q3), .second, .val (.long q4), .second, .val (.int p5), .val (.long q6), .second, .val (.int (Int32.ofNat J)), .val (.int sv), .unset, .unset, .unset, .unset, .unset, .unset, .unset, .unset, .unset, .unset, .unset, .unset] [(.long q3)]))
  refine own_lift (fun t k => X0.ldc2J hx hown (mvT hZ (hw _ (List.mem_of_getElem? (i := 1) rfl))) rfl (hb hby at_17) k) ?_
  show own_Fin p e below _ (s₁.setTop (mkF m 20 #[.val (.int p1), .val (.int p2), .val (.long q3), .second, .val (.long q4), .second, .val (.int p5), .val (.long q6), .second, .val (.int (Int32.ofNat J)), .val (.int sv), .unset, .unset, .unset, .unset, .unset, .unset, .unset, .unset, .unset, .unset, .unset, .unset] [(.long (3 : Int64)), (.long q3)]))
  refine own_lift (fun t k => XS.land X0.here hx rfl (hb hby at_20) rfl k) ?_
  show own_Fin p e below _ (s₁.setTop (mkF m 21 #[.val (.int p1), .val (.int p2), .val (.long q3), .second, .val (.long q4), .second, .val (.int p5), .val (.long q6), .second, .val (.int (Int32.ofNat J)), .val (.int sv), .unset, .unset, .unset, .unset, .unset, .unset, .unset, .unset, .unset, .unset, .unset, .unset] [(.long (q3 &&& (3 : Int64)))]))
  refine own_lift (fun t k => XS.lconst X0.here hx rfl (hb hby at_21) k) ?_
  show own_Fin p e below _ (s₁.setTop (mkF m 22 #[.val (.int p1), .val (.int p2), .val (.long q3), .second, .val (.long q4), .second, .val (.int p5), .val (.long q6), .second, .val (.int (Int32.ofNat J)), .val (.int sv), .unset, .unset, .unset, .unset, .unset, .unset, .unset, .unset, .unset, .unset, .unset, .unset] [(.long (0 : Int64)), (.long (q3 &&& (3 : Int64)))]))
  refine own_lift (fun t k => XS.lcmp X0.here hx rfl (hb hby at_22) rfl k) ?_
  show own_Fin p e below _ (s₁.setTop (mkF m 23 #[.val (.int p1), .val (.int p2), .val (.long q3), .second, .val (.long q4), .second, .val (.int p5), .val (.long q6), .second, .val (.int (Int32.ofNat J)), .val (.int sv), .unset, .unset, .unset, .unset, .unset, .unset, .unset, .unset, .unset, .unset, .unset, .unset] [(.int (lcmpW (q3 &&& (3 : Int64)) (0 : Int64)))]))
  by_cases hc23_77 : (lcmpW (q3 &&& (3 : Int64)) (0 : Int64)) = (0 : Int32)
  · refine own_lift (fun t k => XS.ifNo X0.here hx rfl (hb hby at_23) rfl ((if0 _ _).trans (teq hc23_77).2) k) ?_
    show own_Fin p e below _ (s₁.setTop (mkF m 26 #[.val (.int p1), .val (.int p2), .val (.long q3), .second, .val (.long q4), .second, .val (.int p5), .val (.long q6), .second, .val (.int (Int32.ofNat J)), .val (.int sv), .unset, .unset, .unset, .unset, .unset, .unset, .unset, .unset, .unset, .unset, .unset, .unset] []))
    refine own_lift (fun t k => XS.lconst X0.here hx rfl (hb hby at_26) k) ?_
    show own_Fin p e below _ (s₁.setTop (mkF m 27 #[.val (.int p1), .val (.int p2), .val (.long q3), .second, .val (.long q4), .second, .val (.int p5), .val (.long q6), .second, .val (.int (Int32.ofNat J)), .val (.int sv), .unset, .unset, .unset, .unset, .unset, .unset, .unset, .unset, .unset, .unset, .unset, .unset] [(.long (0 : Int64))]))
    refine own_lift (fun t k => XS.goto X0.here hx rfl (pc0 := 27) (pc' := 33) rfl (hb hby at_27) (by decide) (by decide) k) ?_
    show own_Fin p e below _ (s₁.setTop (mkF m 33 #[.val (.int p1), .val (.int p2), .val (.long q3), .second, .val (.long q4), .second, .val (.int p5), .val (.long q6), .second, .val (.int (Int32.ofNat J)), .val (.int sv), .unset, .unset, .unset, .unset, .unset, .unset, .unset, .unset, .unset, .unset, .unset, .unset] [(.long (0 : Int64))]))
    exact j33 _ _ _ X0 e0 N0 (by decide)
  · refine own_lift (fun t k => XS.ifYes X0.here hx rfl (pc0 := 23) (pc' := 30) rfl (hb hby at_23) rfl ((if0 _ _).trans (feq hc23_77).2) (by decide) (by decide) k) ?_
    show own_Fin p e below _ (s₁.setTop (mkF m 30 #[.val (.int p1), .val (.int p2), .val (.long q3), .second, .val (.long q4), .second, .val (.int p5), .val (.long q6), .second, .val (.int (Int32.ofNat J)), .val (.int sv), .unset, .unset, .unset, .unset, .unset, .unset, .unset, .unset, .unset, .unset, .unset, .unset] []))
    refine own_lift (fun t k => XS.lloadN X0.here hx rfl (hb hby at_30) rfl k) ?_
    show own_Fin p e below _ (s₁.setTop (mkF m 31 #[.val (.int p1), .val (.int p2), .val (.long q3), .second, .val (.long q4), .second, .val (.int p5), .val (.long q6), .second, .val (.int (Int32.ofNat J)), .val (.int sv), .unset, .unset, .unset, .unset, .unset, .unset, .unset, .unset, .unset, .unset, .unset, .unset] [(.long q3)]))
    refine own_lift (fun t k => XS.iconst X0.here hx rfl (hb hby at_31) k) ?_
    show own_Fin p e below _ (s₁.setTop (mkF m 32 #[.val (.int p1), .val (.int p2), .val (.long q3), .second, .val (.long q4), .second, .val (.int p5), .val (.long q6), .second, .val (.int (Int32.ofNat J)), .val (.int sv), .unset, .unset, .unset, .unset, .unset, .unset, .unset, .unset, .unset, .unset, .unset, .unset] [(.int (1 : Int32)), (.long q3)]))
    refine own_lift (fun t k => XS.lushr X0.here hx rfl (hb hby at_32) rfl k) ?_
    show own_Fin p e below _ (s₁.setTop (mkF m 33 #[.val (.int p1), .val (.int p2), .val (.long q3), .second, .val (.long q4), .second, .val (.int p5), .val (.long q6), .second, .val (.int (Int32.ofNat J)), .val (.int sv), .unset, .unset, .unset, .unset, .unset, .unset, .unset, .unset, .unset, .unset, .unset, .unset] [(.long ((q3.toUInt64 >>> ((1 : Int32) &&& 0x3f).toInt64.toUInt64).toInt64))]))
    exact j33 _ _ _ X0 e0 N0 (own_shr1 q3)
set_option maxRecDepth 65536 in
set_option maxHeartbeats 40000000 in
theorem comes_1 {Post : Tables → Env → Array Value → State → Outcome → State → Prop} (hpost : ∀ tb e args s v u, (limb_1_1.after args s (.returned v) u = true ∧ limb_1_2.after args s (.returned v) u = true ∧ True) → FrameEnd s (.returned v) u (Jvm.fieldLocs frame_1_writes args s ++ Jvm.arrayLocs frame_1_arrays args s ++ Jvm.staticLocs frame_1_statics s) 24 128 → Post tb e args s (.returned v) u) :
    ArmFor flags0 classFile x code maxLocals ret World_1 tables_1 room_1 Calls_1 rest_1 Pre_1 Post := by
  intro l hfl _ _ p e ha hc hk s m args below hf hA hF happ hP
  obtain ⟨hcalls, hrest, hpre⟩ := hP
  obtain ⟨-, -, -, hnamed, -, -, -, hat⟩ := (Spec.applies_iff hf).mp happ
  obtain ⟨hg, hn⟩ := and_e (Cond.before_iff.mp (show (Jvm.Cond.and given_1 narrow_1).before args s = true from hpre))
  obtain ⟨gc, g0⟩ := and_e hg
  obtain ⟨c0, g1⟩ := and_e g0
  obtain ⟨c1, g2⟩ := and_e g1
  obtain ⟨c2, g3⟩ := and_e g2
  obtain ⟨c3, g4⟩ := and_e g3
  obtain ⟨c4, g5⟩ := and_e g4
  obtain ⟨w0, w1, w2, w3, w4, w5, rfl⟩ : ∃ w0 w1 w2 w3 w4 w5 : Value, args = #[w0, w1, w2, w3, w4, w5] := by
    have hs : args.size = 6 := by simpa [Cond.value, given_1] using gc
    obtain ⟨L⟩ := args
    match L, hs with
    | [w0, w1, w2, w3, w4, w5], _ => exact ⟨w0, w1, w2, w3, w4, w5, rfl⟩
  have hw := fun d (hd : d ∈ tables_1) => atoms_spec (ws := Jvm.Cond.code x code maxLocals ret :: tables_1) hat d (List.mem_cons_of_mem _ hd)
  obtain ⟨i0, ei0⟩ := is_v c0
  obtain rfl : w0 = (.int i0) := Option.some.inj ei0
  obtain ⟨i1, ei1⟩ := is_v c1
  obtain rfl : w1 = (.int i1) := Option.some.inj ei1
  obtain ⟨i2, ei2⟩ := isL_v c2
  obtain rfl : w2 = (.long i2) := Option.some.inj ei2
  obtain ⟨i3, ei3⟩ := isL_v c3
  obtain rfl : w3 = (.long i3) := Option.some.inj ei3
  obtain ⟨i4, ei4⟩ := is_v c4
  obtain rfl : w4 = (.int i4) := Option.some.inj ei4
  obtain ⟨i5, ei5⟩ := isL_v g5
  obtain rfl : w5 = (.long i5) := Option.some.inj ei5
  obtain ⟨n, o, h1, h2, h3, _, L, rfl, ⟨rfl, N⟩, hq⟩ := rm0 l s _ hw tables_1 i0 i1 i2 i3 i4 i5 s.heap s.heap.size (Nat.le_refl _) p e ha hc hk s m _ below hf ((Spec.applies_iff_loose hf).mp happ).1 ⟨rfl, State.Warmed39.refl s, rfl⟩ trivial
  refine ⟨n, _, h1, h2, h3, hpost _ _ _ _ _ _ ⟨Cond.after_iff.mpr rfl, Cond.after_iff.mpr (eq_i res_at (Term.int_eval (1)) rfl), trivial⟩ ⟨hq.1, hq.2.1, (hq.2.2.sift fun y hy => Or.inr (N y hy)).mono (by decide) (by decide)⟩⟩
theorem main_1_1 : Claimed_1_1 := comes_1 fun _ _ _ _ _ _ h hF => ⟨h.1, hF⟩
theorem main_1_2 : Claimed_1_2 := comes_1 fun _ _ _ _ _ _ h hF => ⟨h.2.1, hF⟩
end Jvm.Pilot.@@N@@
namespace Jvm.Pilot.@@N@@
open Jvm Jvm.ClassFile Sem Op Lib Jvm.Free Jvm.Stand Jvm.Pilot.@@N@@.Jvm.D
/-! MADE BY PROGRAM (witnessworld.py) out of the Statement's table words and the real class files: 11 classes; the members and pool entries that the words name. The judged class is class 1, her method 1. -/
namespace start1
open Jvm.ClassFile
def u (s : String) : CpInfo := .utf8 (stringToUtf16 s)
/-- a pool by its gaps: so many unusable entries, then the entry; so many at the end -/
def gap : Nat → List CpInfo → List CpInfo
  | 0, r => r
  | n + 1, r => .unusable :: gap n r
def poolList (es : List (Nat × CpInfo)) (last : Nat) : List CpInfo := es.foldr (fun e r => gap e.1 (e.2 :: r)) (gap last [])
def pool (es : List (Nat × CpInfo)) (last : Nat) : Array CpInfo := ⟨poolList es last⟩
def fileOf (pool : Array CpInfo) (this : Nat) (attrs : Array Attribute := #[]) (ms : Array MethodInfo := #[]) (fl : Nat := 33) (sup : Nat := 0) (ifs : Array Nat := #[]) (fds : Array FieldInfo := #[]) : ClassFile where
  minorVersion := 0
  majorVersion := 65
  constantPool := pool
  accessFlags := fl
  thisClass := this
  superClass := sup
  interfaces := ifs
  fields := fds
  methods := ms
  attributes := attrs
def plain (name : String) (sup : Option ClassId) : Class where
  name := name
  kind := .ordinary
  loader := none
  accessFlags := 33
  super := sup
  interfaces := #[]
  cf := none
  fields := #[]
  methods := #[]
  instanceTypes := #[]
  staticTypes := #[]
  resolved := #[]
  callSites := []
  init := .initialized
  statics := none
  mirror := none

def pool0 : Array CpInfo := pool [(5, u "<init>"), (0, u "()V"), (1, .class_ 10), (1, u "java/lang/Object")] 113

def k0c0 : Code := { maxStack := 0, maxLocals := 1, code := object_method_1_code, exceptionTable := #[], attributes := #[] }
def k0m0 : Method := { name := "<init>", desc := "()V", sig := { parameters := [], returnType := none }, accessFlags := 1, code := some k0c0 }
/-- java/lang/Object -/
def k0 : Class := { plain "java/lang/Object" none with
  accessFlags := 33
  interfaces := #[]
  cf := some (fileOf pool0 8 #[] #[{ accessFlags := 1, nameIndex := 5, descriptorIndex := 6, attributes := #[] }] 33 0 #[] #[])
  fields := #[]
  methods := #[k0m0]
  instanceTypes := #[]
  staticTypes := #[]
  resolved := Array.replicate 124 none
  statics := none }

def pool1 : Array CpInfo := pool [(2, .class_ 4), (1, u "java/lang/Object"), (0, u "<init>"), (0, u "()V"), (0, .integer 2147483647), (0, .long 3), (1, .long 2), (3, .long 9223372036854775807), (1, .class_ 17), (0, u "com/example/riverfront/riverfront/solver/VectorMap"), (0, .methodref 16 19), (0, .nameAndType 5 20), (0, u "([I[J[J[I[J)V"), (0, .methodref 16 22), (0, .nameAndType 23 24), (0, u "scalesInPlace"), (0, u "(I)Z"), (0, .methodref 16 26), (0, .nameAndType 27 24), (0, u "isConstant"), (0, .long 18446744073709551615), (1, .methodref 16 31), (0, .nameAndType 32 33), (0, u "apply"), (0, u "([JII)J"), (0, .class_ 35), (0, u "com/example/riverfront/riverfront/solver/VectorMapScalesInPlacePinLaw"), (2, u "law"), (0, u "(IIJJIJ)Z")] 7

def k1m0 : Method := { name := "<init>", desc := "()V", sig := { parameters := [], returnType := none }, accessFlags := 1, code := none }
def k1c1 : Code := { maxStack := 7, maxLocals := 23, code := code, exceptionTable := #[], attributes := #[] }
def k1m1 : Method := { name := "law", desc := "(IIJJIJ)Z", sig := { parameters := [.int, .int, .long, .long, .int, .long], returnType := some .boolean }, accessFlags := 9, code := some k1c1 }
/-- com/example/riverfront/riverfront/solver/VectorMapScalesInPlacePinLaw -/
def k1 : Class := { plain "com/example/riverfront/riverfront/solver/VectorMapScalesInPlacePinLaw" (some 0) with
  accessFlags := 49
  interfaces := #[]
  cf := some (fileOf pool1 34 #[] #[{ accessFlags := 1, nameIndex := 5, descriptorIndex := 6, attributes := #[] }, { accessFlags := 9, nameIndex := 38, descriptorIndex := 39, attributes := #[] }] 49 2 #[] #[])
  fields := #[]
  methods := #[k1m0, k1m1]
  instanceTypes := #[]
  staticTypes := #[]
  resolved := Array.replicate 47 none
  statics := none }

def pool2 : Array CpInfo := pool [(1, .methodref 2 3), (0, .class_ 4), (0, .nameAndType 5 6), (0, u "java/lang/Object"), (0, u "<init>"), (0, u "()V"), (0, .fieldref 8 9), (0, .class_ 10), (0, .nameAndType 11 12), (0, u "com/example/riverfront/riverfront/solver/VectorMap"), (0, u "m_aSources"), (0, u "[I"), (0, .fieldref 8 14), (0, .nameAndType 15 16), (0, u "m_aFactors"), (0, u "[J"), (0, .fieldref 8 18), (0, .nameAndType 19 16), (0, u "m_aAdded"), (0, .fieldref 8 21), (0, .nameAndType 22 12), (0, u "m_aSquared"), (0, .fieldref 8 24), (0, .nameAndType 25 16), (0, u "m_aShifts"), (15, u "scalesInPlace"), (0, u "(I)Z"), (3, u "NO_SQUARE"), (0, u "I"), (2, u "([I[J[J[I[J)V"), (4, u "apply"), (0, u "([JII)J"), (2, u "isConstant")] 3

def k2c0 : Code := { maxStack := 2, maxLocals := 6, code := prog_49_method_1_code, exceptionTable := #[], attributes := #[] }
def k2m0 : Method := { name := "<init>", desc := "([I[J[J[I[J)V", sig := { parameters := [(.array .int), (.array .long), (.array .long), (.array .int), (.array .long)], returnType := none }, accessFlags := 0, code := some k2c0 }
def k2c1 : Code := { maxStack := 6, maxLocals := 8, code := prog_49_method_3_code, exceptionTable := #[], attributes := #[] }
def k2m1 : Method := { name := "apply", desc := "([JII)J", sig := { parameters := [(.array .long), .int, .int], returnType := some .long }, accessFlags := 0, code := some k2c1 }
def k2c2 : Code := { maxStack := 4, maxLocals := 2, code := prog_49_method_5_code, exceptionTable := #[], attributes := #[] }
def k2m2 : Method := { name := "isConstant", desc := "(I)Z", sig := { parameters := [.int], returnType := some .boolean }, accessFlags := 0, code := some k2c2 }
def k2c3 : Code := { maxStack := 4, maxLocals := 2, code := prog_49_method_6_code, exceptionTable := #[], attributes := #[] }
def k2m3 : Method := { name := "scalesInPlace", desc := "(I)Z", sig := { parameters := [.int], returnType := some .boolean }, accessFlags := 0, code := some k2c3 }
/-- com/example/riverfront/riverfront/solver/VectorMap -/
def k2 : Class := { plain "com/example/riverfront/riverfront/solver/VectorMap" (some 0) with
  accessFlags := 48
  interfaces := #[]
  cf := some (fileOf pool2 8 #[] #[{ accessFlags := 0, nameIndex := 5, descriptorIndex := 50, attributes := #[] }, { accessFlags := 0, nameIndex := 55, descriptorIndex := 56, attributes := #[] }, { accessFlags := 0, nameIndex := 59, descriptorIndex := 42, attributes := #[] }, { accessFlags := 0, nameIndex := 41, descriptorIndex := 42, attributes := #[] }] 48 2 #[] #[{ accessFlags := 24, nameIndex := 46, descriptorIndex := 47, attributes := #[] }, { accessFlags := 18, nameIndex := 11, descriptorIndex := 12, attributes := #[] }, { accessFlags := 18, nameIndex := 15, descriptorIndex := 16, attributes := #[] }, { accessFlags := 18, nameIndex := 19, descriptorIndex := 16, attributes := #[] }, { accessFlags := 18, nameIndex := 22, descriptorIndex := 12, attributes := #[] }, { accessFlags := 18, nameIndex := 25, descriptorIndex := 16, attributes := #[] }])
  fields := #[{ name := "NO_SQUARE", type := .int, accessFlags := 24, slot := 0, constantValue := 0 }, { name := "m_aSources", type := (.array .int), accessFlags := 18, slot := 0, constantValue := 0 }, { name := "m_aFactors", type := (.array .long), accessFlags := 18, slot := 1, constantValue := 0 }, { name := "m_aAdded", type := (.array .long), accessFlags := 18, slot := 2, constantValue := 0 }, { name := "m_aSquared", type := (.array .int), accessFlags := 18, slot := 3, constantValue := 0 }, { name := "m_aShifts", type := (.array .long), accessFlags := 18, slot := 4, constantValue := 0 }]
  methods := #[k2m0, k2m1, k2m2, k2m3]
  instanceTypes := #[(.array .int), (.array .long), (.array .long), (.array .int), (.array .long)]
  staticTypes := #[.int]
  resolved := Array.replicate 63 none
  statics := none }

def pool3 : Array CpInfo := pool [(1, u "java/lang/Cloneable"), (0, .class_ 1), (0, u "java/lang/Object"), (0, .class_ 3)] 3

/-- java/lang/Cloneable -/
def k3 : Class := { plain "java/lang/Cloneable" (some 0) with
  accessFlags := 1537
  interfaces := #[]
  cf := some (fileOf pool3 2 #[] #[] 1537 4 #[] #[])
  fields := #[]
  methods := #[]
  instanceTypes := #[]
  staticTypes := #[]
  resolved := Array.replicate 8 none
  statics := none }

def pool4 : Array CpInfo := pool [(1, u "java/io/Serializable"), (0, .class_ 1), (0, u "java/lang/Object"), (0, .class_ 3)] 3

/-- java/io/Serializable -/
def k4 : Class := { plain "java/io/Serializable" (some 0) with
  accessFlags := 1537
  interfaces := #[]
  cf := some (fileOf pool4 2 #[] #[] 1537 4 #[] #[])
  fields := #[]
  methods := #[]
  instanceTypes := #[]
  staticTypes := #[]
  resolved := Array.replicate 8 none
  statics := none }

/-- the primitive byte -/
def k5 : Class := { plain "byte" none with kind := .primitive 'B', accessFlags := 0x411 }
/-- [B -/
def k6 : Class := { plain "[B" (some 0) with kind := .array 5 .byte, interfaces := #[3, 4], accessFlags := 1041 }

/-- the primitive int -/
def k7 : Class := { plain "int" none with kind := .primitive 'I', accessFlags := 0x411 }
/-- [I -/
def k8 : Class := { plain "[I" (some 0) with kind := .array 7 .int, interfaces := #[3, 4], accessFlags := 1041 }

/-- the primitive long -/
def k9 : Class := { plain "long" none with kind := .primitive 'J', accessFlags := 0x411 }
/-- [J -/
def k10 : Class := { plain "[J" (some 0) with kind := .array 9 .long, interfaces := #[3, 4], accessFlags := 1041 }

def heap : Heap := #[]
def classes : Array Class := #[k0, k1, k2, k3, k4, k5, k6, k7, k8, k9, k10]
def interned : List (Array UInt16 × Addr) := []
def slotsUsed : Nat := 0
def theMethod : MethodId := ⟨1, 1⟩
def args0 : Array Value := #[.int 1, .int 1, .long 5, .long 7, .int 0, .long 3]
def aboutOver (below : List Frame) : State where
  vm := { classes := classes, interned := interned.toArray }
  heap := heap
  slotsUsed := slotsUsed
  threads := #[{ frames := .invoking theMethod args0 :: below }]
def below0 : List Frame := [.native { method := ⟨0, 0⟩, args := #[] }]
def about1 : State := aboutOver below0
def p0 : Program := .bare "" "" ""
def e0 : Env := launch0.env 0 0 0
theorem w_frames : about1.frames = Frame.invoking theMethod args0 :: below0 := rfl
set_option maxRecDepth 65536 in
theorem w_args : argsFit about1.vm theMethod args0 = true := by decide +kernel
set_option maxRecDepth 65536 in
theorem w_heap : heapFits about1 = true := by decide +kernel
set_option maxRecDepth 65536 in
theorem w_runnable : about1.curStatus? = some .runnable := by decide +kernel
set_option maxRecDepth 65536 in
theorem w_alone : about1.alone = true := by decide +kernel
set_option maxRecDepth 65536 in
theorem w_named : about1.methodNamed? x = some theMethod := by decide +kernel
set_option maxRecDepth 65536 in
theorem w_hears : about1.hears theMethod below0 = true := by decide +kernel
set_option maxRecDepth 65536 in
theorem w_ripe : about1.ripe theMethod args0 below0 = true := by decide +kernel
theorem w_running : about1.status = .running := rfl
set_option maxRecDepth 65536 in
theorem w_room : about1.hasRoom e0.platform room_1 = true :=
  launch0.hasRoom_least _ room_1 (by decide +kernel) (by decide +kernel) (by decide +kernel) (by decide +kernel) (by decide +kernel) (by decide +kernel)
theorem allAtoms_all (ts : List Jvm.Cond) (a : Array Jvm.Value) (st : Jvm.State) : (allAtoms ts).before a st = ts.all (fun c => c.before a st) := by
  induction ts with
  | nil => rfl
  | cons c t ih =>
    show (Jvm.Cond.and c (allAtoms t)).before a st = _
    rw [Jvm.Cond.before_and, ih, List.all_cons]
def words1 : List Jvm.Cond := Jvm.Cond.code x code maxLocals ret :: tables_1
/-- a 'code' word, met by the world's own term for the bytes: nothing is compared byte by byte -/
theorem code_word {y : MethodName} {bytes : ByteArray} {mx : Nat} {rt : Option FieldType} {a : Array Value} {s : State} {m : MethodId} {meth : Method} {c : Code} (h1 : s.methodNamed? y = some m) (h2 : s.vm.method? m = some meth) (h3 : meth.code = some c) (h4 : c.code = bytes)
    (h5 : (c.maxLocals == mx && c.exceptionTable.isEmpty && decide (c.maxStack ≤ mostOperands) && decide (meth.sig.returnType = rt) && !meth.locks && decide (parseMethodDescriptor y.desc = some meth.sig)) = true) : (Jvm.Cond.code y bytes mx rt).before a s = true := by
  simp only [Bool.and_eq_true, beq_iff_eq, Bool.not_eq_true', decide_eq_true_eq] at h5
  obtain ⟨⟨⟨⟨⟨g1, g2⟩, g3⟩, g4⟩, g5⟩, g6⟩ := h5
  simp [Cond.before, Cond.holds, Cond.value, h1, h2, h3, h4, g1, g2, g3, g4, g5, g6]
def isCode : Jvm.Cond → Bool
  | .code _ _ _ _ => true
  | _ => false
theorem all_split {L : List Jvm.Cond} {P : Jvm.Cond → Bool} (h1 : L.all (fun c => isCode c || P c) = true) (h2 : ∀ c ∈ L.filter isCode, P c = true) : L.all P = true := by
  refine List.all_eq_true.mpr fun c hc => ?_
  have h := List.all_eq_true.mp h1 c hc
  rcases Bool.eq_false_or_eq_true (isCode c) with hi | hi
  · exact h2 c (List.mem_filter.mpr ⟨hc, hi⟩)
  · simpa [hi] using h
set_option maxRecDepth 65536 in
theorem w_c0 : (Jvm.Cond.code x code maxLocals ret).before args0 about1 = true := code_word (m := ⟨1, 1⟩) (meth := k1m1) (c := k1c1) (by decide +kernel) rfl rfl rfl (by decide +kernel)
set_option maxRecDepth 65536 in
theorem w_c1 : (Jvm.Cond.code ({ cls := "com/example/riverfront/riverfront/solver/VectorMap", name := "<init>", desc := "([I[J[J[I[J)V" } : Jvm.MethodName) prog_49_method_1_code (6 : Nat) (Option.none : Option Jvm.ClassFile.FieldType)).before args0 about1 = true := code_word (m := ⟨2, 0⟩) (meth := k2m0) (c := k2c0) (by decide +kernel) rfl rfl rfl (by decide +kernel)
set_option maxRecDepth 65536 in
theorem w_c2 : (Jvm.Cond.code ({ cls := "java/lang/Object", name := "<init>", desc := "()V" } : Jvm.MethodName) object_method_1_code (1 : Nat) (Option.none : Option Jvm.ClassFile.FieldType)).before args0 about1 = true := code_word (m := ⟨0, 0⟩) (meth := k0m0) (c := k0c0) (by decide +kernel) rfl rfl rfl (by decide +kernel)
set_option maxRecDepth 65536 in
theorem w_c3 : (Jvm.Cond.code ({ cls := "com/example/riverfront/riverfront/solver/VectorMap", name := "scalesInPlace", desc := "(I)Z" } : Jvm.MethodName) prog_49_method_6_code (2 : Nat) (Option.some Jvm.ClassFile.FieldType.boolean)).before args0 about1 = true := code_word (m := ⟨2, 3⟩) (meth := k2m3) (c := k2c3) (by decide +kernel) rfl rfl rfl (by decide +kernel)
set_option maxRecDepth 65536 in
theorem w_c4 : (Jvm.Cond.code ({ cls := "com/example/riverfront/riverfront/solver/VectorMap", name := "isConstant", desc := "(I)Z" } : Jvm.MethodName) prog_49_method_5_code (2 : Nat) (Option.some Jvm.ClassFile.FieldType.boolean)).before args0 about1 = true := code_word (m := ⟨2, 2⟩) (meth := k2m2) (c := k2c2) (by decide +kernel) rfl rfl rfl (by decide +kernel)
set_option maxRecDepth 65536 in
theorem w_c5 : (Jvm.Cond.code ({ cls := "com/example/riverfront/riverfront/solver/VectorMap", name := "apply", desc := "([JII)J" } : Jvm.MethodName) prog_49_method_3_code (8 : Nat) (Option.some Jvm.ClassFile.FieldType.long)).before args0 about1 = true := code_word (m := ⟨2, 1⟩) (meth := k2m1) (c := k2c1) (by decide +kernel) rfl rfl rfl (by decide +kernel)
def codes1 : List Jvm.Cond := [Jvm.Cond.code x code maxLocals ret, Jvm.Cond.code ({ cls := "com/example/riverfront/riverfront/solver/VectorMap", name := "<init>", desc := "([I[J[J[I[J)V" } : Jvm.MethodName) prog_49_method_1_code (6 : Nat) (Option.none : Option Jvm.ClassFile.FieldType), Jvm.Cond.code ({ cls := "java/lang/Object", name := "<init>", desc := "()V" } : Jvm.MethodName) object_method_1_code (1 : Nat) (Option.none : Option Jvm.ClassFile.FieldType), Jvm.Cond.code ({ cls := "com/example/riverfront/riverfront/solver/VectorMap", name := "scalesInPlace", desc := "(I)Z" } : Jvm.MethodName) prog_49_method_6_code (2 : Nat) (Option.some Jvm.ClassFile.FieldType.boolean), Jvm.Cond.code ({ cls := "com/example/riverfront/riverfront/solver/VectorMap", name := "isConstant", desc := "(I)Z" } : Jvm.MethodName) prog_49_method_5_code (2 : Nat) (Option.some Jvm.ClassFile.FieldType.boolean), Jvm.Cond.code ({ cls := "com/example/riverfront/riverfront/solver/VectorMap", name := "apply", desc := "([JII)J" } : Jvm.MethodName) prog_49_method_3_code (8 : Nat) (Option.some Jvm.ClassFile.FieldType.long)]
set_option maxRecDepth 65536 in
theorem codes_eq : words1.filter isCode = codes1 := rfl
theorem w_codes : ∀ c ∈ words1.filter isCode, c.before args0 about1 = true := by
  rw [codes_eq]
  intro c hc
  simp only [codes1, List.mem_cons, List.not_mem_nil, or_false] at hc
  rcases hc with rfl | rfl | rfl | rfl | rfl | rfl
  · exact w_c0
  · exact w_c1
  · exact w_c2
  · exact w_c3
  · exact w_c4
  · exact w_c5
set_option maxRecDepth 65536 in
theorem w_t1 : (words1.take 24).all (fun c => isCode c || c.before args0 about1) = true := by decide +kernel
set_option maxRecDepth 65536 in
theorem w_t2 : (words1.drop 24).all (fun c => isCode c || c.before args0 about1) = true := by decide +kernel
theorem w_tables : (allAtoms (Jvm.Cond.code x code maxLocals ret :: tables_1)).before args0 about1 = true := by
  rw [allAtoms_all]
  show words1.all (fun c => c.before args0 about1) = true
  refine all_split ?_ w_codes
  rw [← List.take_append_drop 24 words1, List.all_append, w_t1, w_t2]
  rfl
set_option maxRecDepth 65536 in
theorem w_case : (Jvm.Cond.and given_1 narrow_1).before args0 about1 = true := by decide +kernel
theorem w_applies : (headSpec (Jvm.Cond.code x code maxLocals ret :: tables_1) room_1).applies x e0.platform about1 = true :=
  (Spec.applies_iff w_frames).mpr ⟨w_running, w_runnable, w_alone, w_named, w_hears, w_ripe, w_room, w_tables⟩
theorem atStart : AtStart classFile x code maxLocals ret World_1 tables_1 room_1 Calls_1 rest_1 Pre_1 launch0 p0 e0 about1 theMethod args0 below0 :=
  ⟨lists_1, trivial, launch0.admits_env _ _ _, launch0.least_env, fairChoices_fair.cas, fairChoices_fair.clock, w_frames, w_args, w_heap, w_applies, trivial, trivial, w_case⟩
end start1
theorem witness_1 : WitnessClaimed_1 := ⟨start1.p0, start1.e0, start1.about1, start1.theMethod, start1.args0, start1.below0, start1.atStart⟩
end Jvm.Pilot.@@N@@
