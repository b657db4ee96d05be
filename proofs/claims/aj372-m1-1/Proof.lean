import JvmDerived
import JvmDerived.Pilot.@@N@@Statement
import JvmDerived.Pilot.@@N@@Code
set_option linter.unusedVariables false
set_option linter.unusedSimpArgs false
namespace Jvm.RoadKit
open Sem ClassFile Op Lib Jvm.Stand Jvm.Free Jvm.LawKit
section New
variable {p : Program} {l : Launch} {e : Env} {R : Room} {s : State} {m : MethodId} {args : Array Value} {below : List Frame} {meth : Method} {c : Code} {T : State} {locs : List Loc} {cells slots : Nat}
theorem retI (X : Stand p l e R s m args below meth c T locs cells slots) (hx : p.tables.exec = Jvm.exec) {pc : Nat} {Ls : Array Slot} {z : Int32} {rest : List Value} (hret : meth.sig.returnType = some .int) (hd : decode c.code pc = .ok (.ireturn, 1)) {fs : List Frame}
    (hl : ∀ (f : JFrame) (acts : List Action), f.method = m → f.locked = none → f.entered = [] → (doReturn e (T.setTop f) acts (some (.int z))).1 = T.setFrames fs) : Steps p.tables e below (T.setTop (mkF m pc Ls (.int z :: rest))) (T.setFrames fs) := by
  have hm' : T.vm.method? m = some meth := X.method'
  have hn : narrow .int (.int z) = .int z := rfl
  show Steps p.tables e below (T.setTop { method := m, pc := pc, locals := Ls, stack := _ :: rest, locked := none }) _
  jvm_step X.here [X.here.top, hx, hd, hm', hret, hn]
  first | (intro acts; rw [hl _ acts rfl rfl rfl]) | rw [hl _ _ rfl rfl rfl]
  exact Steps.refl _
end New
end Jvm.RoadKit
namespace Jvm.Pilot.@@N@@
open Jvm Jvm.ClassFile Sem Op Lib Jvm.Free Jvm.Stand Jvm.LawKit Jvm.RoadKit Bundle Jvm.Pilot.@@N@@.Jvm.D
def own_Fin (p : Program) (e : Env) (below : List Frame) (G : Outcome → State → Prop) (st : State) : Prop :=
  ∃ s₂ o, Steps p.tables e below st s₂ ∧ s₂.status = .running ∧ Ended s₂ below o ∧ G o s₂
theorem own_lift {p : Program} {e : Env} {below : List Frame} {G : Outcome → State → Prop} {st st' : State} (k : ∀ t, Steps p.tables e below st' t → Steps p.tables e below st t) (h : own_Fin p e below G st') : own_Fin p e below G st := by
  obtain ⟨t, o, h1, h2⟩ := h
  exact ⟨t, o, k t h1, h2⟩


/-! the plain law -/
def own_band4 (n f la : Int32) : Int32 := if f = 0 then (if la = 0 then 1 else 0) else if la < f then 0 else if la < 64 then (if n = 1 then 1 else 0) else 0
def own_R4 (n f la hi lo : Int32) : Int32 := if own_band4 n f la = 0 then 0 else if hi = 0 then (if 13 < lo then 0 else 1) else if lo = hi - 1 then (if 13 < lo then 0 else 1) else 0
def own_band5 (n f la : Int32) : Int32 := if f = 0 then (if la = 0 then 1 else 0) else if n = 1 then (if la < f then 0 else if 63 < la then 0 else 1) else 0
def own_bits5 (hi lo : Int32) : Int32 := if 13 < lo then 0 else if hi = 0 then 1 else if lo + 1 = hi then 1 else 0
def own_R5 (n f la hi lo : Int32) : Int32 := if own_band5 n f la = 0 then 0 else if own_bits5 hi lo = 0 then 0 else 1
theorem own_step (lo hi : Int32) : lo = hi - 1 ↔ lo + 1 = hi := by
  constructor
  · rintro rfl; exact Int32.sub_add_cancel hi 1
  · rintro rfl; exact (Int32.add_sub_cancel lo 1).symm
theorem own_63 (la : Int32) : la < 64 ↔ ¬ 63 < la := by
  rw [Int32.lt_iff_toInt_lt, Int32.lt_iff_toInt_lt, show (64 : Int32).toInt = 64 from rfl, show (63 : Int32).toInt = 63 from rfl]; omega
theorem own_band (n f la : Int32) : own_band4 n f la = own_band5 n f la := by
  unfold own_band4 own_band5
  by_cases h1 : f = 0 <;> by_cases h2 : la < f <;> by_cases h3 : 63 < la <;> by_cases h4 : n = 1 <;> simp [own_63, h1, h2, h3, h4]
theorem own_R (n f la hi lo : Int32) : own_R4 n f la hi lo = own_R5 n f la hi lo := by
  unfold own_R4 own_R5 own_bits5
  rw [own_band]
  simp only [own_step]
  by_cases h1 : own_band5 n f la = 0 <;> by_cases h2 : hi = 0 <;> by_cases h3 : 13 < lo <;> by_cases h4 : lo + 1 = hi <;> simp [h1, h2, h3, h4]
theorem own_n (x : Int32) : ¬ ((1 : Int32) + (x &&& (3 : Int32))) < 0 ∧ ((1 : Int32) + (x &&& (3 : Int32))).toNatClampNeg ≤ 4 ∧ (0 : Int32) < ((1 : Int32) + (x &&& (3 : Int32))) := by
  have h : (x &&& (3 : Int32)) = 0 ∨ (x &&& (3 : Int32)) = 1 ∨ (x &&& (3 : Int32)) = 2 ∨ (x &&& (3 : Int32)) = 3 := by
    have h1 : (x &&& (3 : Int32)).toBitVec.toNat ≤ 3 := by
      simp only [Int32.toBitVec_and, BitVec.toNat_and]
      exact Nat.and_le_right
    have h2 : (x &&& (3 : Int32)) = Int32.ofNat (x &&& (3 : Int32)).toBitVec.toNat := by
      apply Int32.toBitVec_inj.mp
      show _ = BitVec.ofNat 32 _
      rw [BitVec.ofNat_toNat]; simp
    generalize (x &&& (3 : Int32)).toBitVec.toNat = k at h1 h2
    rw [h2]
    match k, h1 with
    | 0, _ => exact Or.inl rfl
    | 1, _ => exact Or.inr (Or.inl rfl)
    | 2, _ => exact Or.inr (Or.inr (Or.inl rfl))
    | 3, _ => exact Or.inr (Or.inr (Or.inr rfl))
  rcases h with h | h | h | h <;> rw [h] <;> decide

theorem d2_0 : decode jdk_30_method_1_code 0 = .ok (.aload_n 0, 1) := by decide +kernel
theorem d2_1 : decode jdk_30_method_1_code 1 = .ok (.invokespecial 1, 3) := by decide +kernel
theorem d2_4 : decode jdk_30_method_1_code 4 = .ok (.return_, 1) := by decide +kernel
theorem pn_2 : plainName "java/lang/Record" = true := by first | (simp [plainName, overriddenIn]; done) | decide +kernel
theorem ef_2 (m : MethodId) (x0 : Addr) : entryFrame m #[(.ref x0)] 1 = mkF m 0 #[.val (.ref x0)] [] := by first | (simp [entryFrame, mkF, argsToLocals, Value.category]; done) | rfl
def Q2 (Z : State) (a1 : Addr) (h0 : Heap) (n0 : Nat) (v : Option Value) (h : Heap) (L : List Loc) : Prop := v = none ∧ Fr n0 L ∧ h = h0
set_option maxRecDepth 65536 in
set_option maxHeartbeats 40000000 in
theorem rm2 (l : Launch) (Z : State) (a0 : Array Value) (hw : ∀ d ∈ tables_1, d.before a0 Z = true) (ws : List Jvm.Cond) (a1 : Addr) (h0 : Heap) (n0 : Nat) (Z0 : n0 ≤ h0.size) :
    MetFree l (⟨"java/lang/Record", "<init>", "()V"⟩ : MethodName) (head1 (Jvm.Cond.code (⟨"java/lang/Record", "<init>", "()V"⟩ : MethodName) jdk_30_method_1_code 1 none :: ws) ({ frames := 1, cells := 0, slots := 0, locals := 12 } : Room)) (fun a U => a = #[(.ref a1)] ∧ Z.Warmed39 U.vm ∧ U.heap = h0) (fun _ _ _ _ _ => True) (fun _ U o U' => ∃ v L, o = .returned v ∧ Q2 Z a1 h0 n0 v U'.heap L ∧ FrameEnd U o U' L ({ frames := 1, cells := 0, slots := 0, locals := 12 } : Room).cells ({ frames := 1, cells := 0, slots := 0, locals := 12 } : Room).slots) := by
  refine MetFree.of_bodySF (plainFor_of_name pn_2) hisR ?_
  intro p e s m args below meth c s₁ Bd hml0 hP hK
  obtain ⟨rfl, hZ, hh⟩ := hP
  have hx := Bd.exec
  have hby := Bd.bytes
  have hml : c.maxLocals = 1 := hml0
  have hown : s.vm.findClass "java/lang/Record" = some m.cls := findClass_of_methodNamed Bd.named
  have hnm := (name_of_methodNamed Bd.named Bd.method).1
  have X0 : Stand p l e ({ frames := 1, cells := 0, slots := 0, locals := 12 } : Room) s m #[(.ref a1)] below meth c s₁ [] 0 0 := Stand.of_body Bd
  have e0 : s₁.heap = h0 := by rw [← hh, Bd.state]; rfl
  have N0 := Fr.nil n0
  have pre0 : ∀ t, Steps p.tables e below (s₁.setTop (mkF m 0 #[.val (.ref a1)] [])) t → Steps p.tables e below (s₁.setTop (entryFrame m #[(.ref a1)] 1)) t := fun t k => castTop (ef_2 m a1) k
  obtain ⟨T2, X2, e2, st2⟩ := initO X0 hx hZ hown (hw _ (List.mem_of_getElem? (i := 12) rfl)) (hw _ (List.mem_of_getElem? (i := 13) rfl)) (hw _ (List.mem_of_getElem? (i := 14) rfl)) e0 (g := (mkF m 1 #[.val (.ref a1)] [(.ref a1)])) rfl (by rw [hml]; rfl) rfl (hb hby d2_1) (by decide) (W := 0) (by show 2 * 0 + _ ≤ _; exact Nat.le_of_eq rfl) (by decide)
  obtain ⟨fs, hr, hrun, hended, hW, hsame⟩ := X2.leave (v := none) (fun _ => rfl)
  refine ⟨_, _, pre0 _ ?_, hrun, hended, _, _, rfl, ?_, ⟨_, rfl⟩, hW, hsame.mono (by decide) (by decide)⟩
  · show Steps p.tables e below (s₁.setTop (mkF m 0 #[.val (.ref a1)] [])) _
    refine XS.aloadN X0.here hx rfl (hb hby d2_0) rfl rfl ?_
    show Steps p.tables e below (s₁.setTop (mkF m 1 #[.val (.ref a1)] [(.ref a1)])) _
    refine st2 _ ?_
    show Steps p.tables e below (T2.setTop (mkF m 4 #[.val (.ref a1)] [])) _
    exact X2.returnOut hx Bd.returns (hb hby d2_4) hr
  · show Q2 Z a1 h0 n0 _ T2.heap _
    rw [e2]
    exact ⟨rfl, N0, rfl⟩

theorem d1_0 : decode prog_73_method_1_code 0 = .ok (.aload_n 0, 1) := by decide +kernel
theorem d1_1 : decode prog_73_method_1_code 1 = .ok (.invokespecial 1, 3) := by decide +kernel
theorem d1_4 : decode prog_73_method_1_code 4 = .ok (.aload_n 0, 1) := by decide +kernel
theorem d1_5 : decode prog_73_method_1_code 5 = .ok (.aload_n 1, 1) := by decide +kernel
theorem d1_6 : decode prog_73_method_1_code 6 = .ok (.putfield 7, 3) := by decide +kernel
theorem d1_9 : decode prog_73_method_1_code 9 = .ok (.aload_n 0, 1) := by decide +kernel
theorem d1_10 : decode prog_73_method_1_code 10 = .ok (.aload_n 2, 1) := by decide +kernel
theorem d1_11 : decode prog_73_method_1_code 11 = .ok (.putfield 13, 3) := by decide +kernel
theorem d1_14 : decode prog_73_method_1_code 14 = .ok (.aload_n 0, 1) := by decide +kernel
theorem d1_15 : decode prog_73_method_1_code 15 = .ok (.iload_n 3, 1) := by decide +kernel
theorem d1_16 : decode prog_73_method_1_code 16 = .ok (.putfield 16, 3) := by decide +kernel
theorem d1_19 : decode prog_73_method_1_code 19 = .ok (.aload_n 0, 1) := by decide +kernel
theorem d1_20 : decode prog_73_method_1_code 20 = .ok (.iload 4, 2) := by decide +kernel
theorem d1_22 : decode prog_73_method_1_code 22 = .ok (.putfield 20, 3) := by decide +kernel
theorem d1_25 : decode prog_73_method_1_code 25 = .ok (.aload_n 0, 1) := by decide +kernel
theorem d1_26 : decode prog_73_method_1_code 26 = .ok (.iload 5, 2) := by decide +kernel
theorem d1_28 : decode prog_73_method_1_code 28 = .ok (.putfield 23, 3) := by decide +kernel
theorem d1_31 : decode prog_73_method_1_code 31 = .ok (.aload_n 0, 1) := by decide +kernel
theorem d1_32 : decode prog_73_method_1_code 32 = .ok (.iload 6, 2) := by decide +kernel
theorem d1_34 : decode prog_73_method_1_code 34 = .ok (.putfield 26, 3) := by decide +kernel
theorem d1_37 : decode prog_73_method_1_code 37 = .ok (.return_, 1) := by decide +kernel
theorem pn_1 : plainName "com/example/proofsheet/proofsheet/media/JpegSegments$ScanHeader" = true := by first | (simp [plainName, overriddenIn]; done) | decide +kernel
theorem pd_1_1 : parseMethodDescriptor "()V" = some ⟨[], none⟩ := by decide +kernel
theorem ef_1 (m : MethodId) (x0 : Addr) (x1 : Addr) (x2 : Addr) (x3 : Int32) (x4 : Int32) (x5 : Int32) (x6 : Int32) : entryFrame m #[(.ref x0), (.ref x1), (.ref x2), (.int x3), (.int x4), (.int x5), (.int x6)] 7 = mkF m 0 #[.val (.ref x0), .val (.ref x1), .val (.ref x2), .val (.int x3), .val (.int x4), .val (.int x5), .val (.int x6)] [] := by first | (simp [entryFrame, mkF, argsToLocals, Value.category]; done) | rfl
def Q1 (Z : State) (a1 : Addr) (a2 : Addr) (a3 : Addr) (p4 : Int32) (p5 : Int32) (p6 : Int32) (p7 : Int32) (u_ids_a1 : Value) (u_selectors_a1 : Value) (u_first_a1 : Value) (u_last_a1 : Value) (u_high_a1 : Value) (u_low_a1 : Value) (h0 : Heap) (n0 : Nat) (v : Option Value) (h : Heap) (L : List Loc) : Prop := v = none ∧ Fr n0 L ∧ Keep h0 h [a1] ∧ Exa Z h a1 "com/example/proofsheet/proofsheet/media/JpegSegments$ScanHeader" ∧ Fld Z h a1 "com/example/proofsheet/proofsheet/media/JpegSegments$ScanHeader" "ids" "[I" (.ref a2) ∧ Fld Z h a1 "com/example/proofsheet/proofsheet/media/JpegSegments$ScanHeader" "selectors" "[I" (.ref a3) ∧ Fld Z h a1 "com/example/proofsheet/proofsheet/media/JpegSegments$ScanHeader" "first" "I" (.int p4) ∧ Fld Z h a1 "com/example/proofsheet/proofsheet/media/JpegSegments$ScanHeader" "last" "I" (.int p5) ∧ Fld Z h a1 "com/example/proofsheet/proofsheet/media/JpegSegments$ScanHeader" "high" "I" (.int p6) ∧ Fld Z h a1 "com/example/proofsheet/proofsheet/media/JpegSegments$ScanHeader" "low" "I" (.int p7)
set_option maxRecDepth 65536 in
set_option maxHeartbeats 40000000 in
theorem rm1 (l : Launch) (Z : State) (a0 : Array Value) (hw : ∀ d ∈ tables_1, d.before a0 Z = true) (ws : List Jvm.Cond) (a1 : Addr) (a2 : Addr) (a3 : Addr) (p4 : Int32) (p5 : Int32) (p6 : Int32) (p7 : Int32) (u_ids_a1 : Value) (u_selectors_a1 : Value) (u_first_a1 : Value) (u_last_a1 : Value) (u_high_a1 : Value) (u_low_a1 : Value) (h0 : Heap) (n0 : Nat) (Z0 : n0 ≤ h0.size) (E_a1 : Exa Z h0 a1 "com/example/proofsheet/proofsheet/media/JpegSegments$ScanHeader") (F_ids_a1 : Fld Z h0 a1 "com/example/proofsheet/proofsheet/media/JpegSegments$ScanHeader" "ids" "[I" u_ids_a1) (g_a1 : n0 ≤ a1) (F_selectors_a1 : Fld Z h0 a1 "com/example/proofsheet/proofsheet/media/JpegSegments$ScanHeader" "selectors" "[I" u_selectors_a1) (F_first_a1 : Fld Z h0 a1 "com/example/proofsheet/proofsheet/media/JpegSegments$ScanHeader" "first" "I" u_first_a1) (F_last_a1 : Fld Z h0 a1 "com/example/proofsheet/proofsheet/media/JpegSegments$ScanHeader" "last" "I" u_last_a1) (F_high_a1 : Fld Z h0 a1 "com/example/proofsheet/proofsheet/media/JpegSegments$ScanHeader" "high" "I" u_high_a1) (F_low_a1 : Fld Z h0 a1 "com/example/proofsheet/proofsheet/media/JpegSegments$ScanHeader" "low" "I" u_low_a1) :
    MetFree l (⟨"com/example/proofsheet/proofsheet/media/JpegSegments$ScanHeader", "<init>", "([I[IIIII)V"⟩ : MethodName) (head1 (Jvm.Cond.code (⟨"com/example/proofsheet/proofsheet/media/JpegSegments$ScanHeader", "<init>", "([I[IIIII)V"⟩ : MethodName) prog_73_method_1_code 7 none :: ws) ({ frames := 2, cells := 0, slots := 0, locals := 24 } : Room)) (fun a U => a = #[(.ref a1), (.ref a2), (.ref a3), (.int p4), (.int p5), (.int p6), (.int p7)] ∧ Z.Warmed39 U.vm ∧ U.heap = h0) (fun _ _ _ _ _ => True) (fun _ U o U' => ∃ v L, o = .returned v ∧ Q1 Z a1 a2 a3 p4 p5 p6 p7 u_ids_a1 u_selectors_a1 u_first_a1 u_last_a1 u_high_a1 u_low_a1 h0 n0 v U'.heap L ∧ FrameEnd U o U' L ({ frames := 2, cells := 0, slots := 0, locals := 24 } : Room).cells ({ frames := 2, cells := 0, slots := 0, locals := 24 } : Room).slots) := by
  refine MetFree.of_bodySF (plainFor_of_name pn_1) hisR ?_
  intro p e s m args below meth c s₁ Bd hml0 hP hK
  obtain ⟨rfl, hZ, hh⟩ := hP
  have hx := Bd.exec
  have hby := Bd.bytes
  have hml : c.maxLocals = 7 := hml0
  have hown : s.vm.findClass "com/example/proofsheet/proofsheet/media/JpegSegments$ScanHeader" = some m.cls := findClass_of_methodNamed Bd.named
  have hnm := (name_of_methodNamed Bd.named Bd.method).1
  have X0 : Stand p l e ({ frames := 2, cells := 0, slots := 0, locals := 24 } : Room) s m #[(.ref a1), (.ref a2), (.ref a3), (.int p4), (.int p5), (.int p6), (.int p7)] below meth c s₁ [] 0 0 := Stand.of_body Bd
  have e0 : s₁.heap = h0 := by rw [← hh, Bd.state]; rfl
  have N0 := Fr.nil n0
  have pre0 : ∀ t, Steps p.tables e below (s₁.setTop (mkF m 0 #[.val (.ref a1), .val (.ref a2), .val (.ref a3), .val (.int p4), .val (.int p5), .val (.int p6), .val (.int p7)] [])) t → Steps p.tables e below (s₁.setTop (entryFrame m #[(.ref a1), (.ref a2), (.ref a3), (.int p4), (.int p5), (.int p6), (.int p7)] 7)) t := fun t k => castTop (ef_1 m a1 a2 a3 p4 p5 p6 p7) k
  obtain ⟨_, _, ⟨T8, L8, k8, n8⟩, -, X8, ⟨Lc8, hQ8, l8, y8, z8⟩, st8⟩ := X0.specialBack hx (y := (⟨"java/lang/Record", "<init>", "()V"⟩ : MethodName)) rfl hown (mvT hZ (hw _ (List.mem_of_getElem? (i := 7) rfl))) (mvT hZ (hw _ (List.mem_of_getElem? (i := 8) rfl))) (mvT hZ (hw _ (List.mem_of_getElem? (i := 11) rfl))) (by decide) (backOf (W := 0) (rm2 l Z a0 hw [] a1 h0 n0 Z0) hZ (hw _ (List.mem_of_getElem? (i := 11) rfl)) (hw _ (List.mem_of_getElem? (i := 10) rfl)) (by decide) (by decide)) (g := (mkF m 1 #[.val (.ref a1), .val (.ref a2), .val (.ref a3), .val (.int p4), .val (.int p5), .val (.int p6), .val (.int p7)] [(.ref a1)])) rfl (by rw [hml]; rfl) (Steps.refl _) (a := a1) (argsL := []) (rest := []) (lenOf pd_1_1 rfl) rfl (by show 2 * 0 + _ ≤ _; exact Nat.le_of_eq rfl) (hb hby d1_1) (fun _ _ => ⟨rfl, e0, (by decide : 0 + 0 ≤ _), (by decide : 0 + 0 ≤ _)⟩)
  dsimp only [Pt.U, Pt.locs, Pt.cells, Pt.slots] at X8 l8 y8 z8 st8 hQ8
  subst l8 y8 z8
  obtain ⟨rfl, N8q, K8h⟩ := hQ8
  have KK8 : Keep h0 T8.heap [] := by rw [K8h]; exact Keep.refl h0 []
  have KH8 : Keep h0 T8.heap [a1] := by rw [K8h]; exact Keep.refl h0 [a1]
  have N8 := Fr.app N0 N8q
  obtain ⟨T9, h9, X9, e9, W9, st9⟩ := putF X8 hx hZ hown (host := "") (Or.inl (hw _ (List.mem_of_getElem? (i := 15) rfl))) Via.refl rfl (F_ids_a1.keep KK8 (by simp)) (E_a1.keep KK8) (Or.inr ⟨(hw _ (List.mem_of_getElem? (i := 16) rfl)), rfl, hnm⟩) (hw _ (List.mem_of_getElem? (i := 2) rfl)) (ty := (.array .int)) (by decide) rfl rfl (g := (mkF m 6 #[.val (.ref a1), .val (.ref a2), .val (.ref a3), .val (.int p4), .val (.int p5), .val (.int p6), .val (.int p7)] [(.ref a2), (.ref a1)])) rfl rfl (hb hby d1_6)
  have Fw9 := (F_ids_a1.keep KK8 (by simp)).same W9
  have K9 : Keep h0 h9 [a1] := KH8.wr W9 (Or.inl (List.mem_of_getElem? (i := 0) rfl))
  have N9 := Fr.snoc X9 N8 g_a1
  obtain ⟨T10, h10, X10, e10, W10, st10⟩ := putF X9 hx hZ hown (host := "") (Or.inl (hw _ (List.mem_of_getElem? (i := 17) rfl))) Via.refl e9 ((F_selectors_a1.keep KK8 (by simp)).other W9 (Or.inr (slot_ne (Or.inr (hw _ (List.mem_of_getElem? (i := 18) rfl))) (Or.inr (hw _ (List.mem_of_getElem? (i := 16) rfl))) (by decide) (t := (.array .int)) (t' := (.array .int)) (by decide) (by decide)))) ((E_a1.keep KK8).wr W9) (Or.inr ⟨(hw _ (List.mem_of_getElem? (i := 18) rfl)), rfl, hnm⟩) (hw _ (List.mem_of_getElem? (i := 2) rfl)) (ty := (.array .int)) (by decide) rfl rfl (g := (mkF m 11 #[.val (.ref a1), .val (.ref a2), .val (.ref a3), .val (.int p4), .val (.int p5), .val (.int p6), .val (.int p7)] [(.ref a3), (.ref a1)])) rfl rfl (hb hby d1_11)
  have Fw10 := ((F_selectors_a1.keep KK8 (by simp)).other W9 (Or.inr (slot_ne (Or.inr (hw _ (List.mem_of_getElem? (i := 18) rfl))) (Or.inr (hw _ (List.mem_of_getElem? (i := 16) rfl))) (by decide) (t := (.array .int)) (t' := (.array .int)) (by decide) (by decide)))).same W10
  have K10 : Keep h0 h10 [a1] := K9.wr W10 (Or.inl (List.mem_of_getElem? (i := 0) rfl))
  have N10 := Fr.snoc X10 N9 g_a1
  obtain ⟨T11, h11, X11, e11, W11, st11⟩ := putF X10 hx hZ hown (host := "") (Or.inl (hw _ (List.mem_of_getElem? (i := 19) rfl))) Via.refl e10 (((F_first_a1.keep KK8 (by simp)).other W9 (Or.inr (slot_ne (Or.inr (hw _ (List.mem_of_getElem? (i := 20) rfl))) (Or.inr (hw _ (List.mem_of_getElem? (i := 16) rfl))) (by decide) (t := .int) (t' := (.array .int)) (by decide) (by decide)))).other W10 (Or.inr (slot_ne (Or.inr (hw _ (List.mem_of_getElem? (i := 20) rfl))) (Or.inr (hw _ (List.mem_of_getElem? (i := 18) rfl))) (by decide) (t := .int) (t' := (.array .int)) (by decide) (by decide)))) (((E_a1.keep KK8).wr W9).wr W10) (Or.inr ⟨(hw _ (List.mem_of_getElem? (i := 20) rfl)), rfl, hnm⟩) (hw _ (List.mem_of_getElem? (i := 2) rfl)) (ty := .int) (by decide) rfl rfl (g := (mkF m 16 #[.val (.ref a1), .val (.ref a2), .val (.ref a3), .val (.int p4), .val (.int p5), .val (.int p6), .val (.int p7)] [(.int p4), (.ref a1)])) rfl rfl (hb hby d1_16)
  have Fw11 := (((F_first_a1.keep KK8 (by simp)).other W9 (Or.inr (slot_ne (Or.inr (hw _ (List.mem_of_getElem? (i := 20) rfl))) (Or.inr (hw _ (List.mem_of_getElem? (i := 16) rfl))) (by decide) (t := .int) (t' := (.array .int)) (by decide) (by decide)))).other W10 (Or.inr (slot_ne (Or.inr (hw _ (List.mem_of_getElem? (i := 20) rfl))) (Or.inr (hw _ (List.mem_of_getElem? (i := 18) rfl))) (by decide) (t := .int) (t' := (.array .int)) (by decide) (by decide)))).same W11
  have K11 : Keep h0 h11 [a1] := K10.wr W11 (Or.inl (List.mem_of_getElem? (i := 0) rfl))
  have N11 := Fr.snoc X11 N10 g_a1
  obtain ⟨T12, h12, X12, e12, W12, st12⟩ := putF X11 hx hZ hown (host := "") (Or.inl (hw _ (List.mem_of_getElem? (i := 21) rfl))) Via.refl e11 ((((F_last_a1.keep KK8 (by simp)).other W9 (Or.inr (slot_ne (Or.inr (hw _ (List.mem_of_getElem? (i := 22) rfl))) (Or.inr (hw _ (List.mem_of_getElem? (i := 16) rfl))) (by decide) (t := .int) (t' := (.array .int)) (by decide) (by decide)))).other W10 (Or.inr (slot_ne (Or.inr (hw _ (List.mem_of_getElem? (i := 22) rfl))) (Or.inr (hw _ (List.mem_of_getElem? (i := 18) rfl))) (by decide) (t := .int) (t' := (.array .int)) (by decide) (by decide)))).other W11 (Or.inr (slot_ne (Or.inr (hw _ (List.mem_of_getElem? (i := 22) rfl))) (Or.inr (hw _ (List.mem_of_getElem? (i := 20) rfl))) (by decide) (t := .int) (t' := .int) (by decide) (by decide)))) ((((E_a1.keep KK8).wr W9).wr W10).wr W11) (Or.inr ⟨(hw _ (List.mem_of_getElem? (i := 22) rfl)), rfl, hnm⟩) (hw _ (List.mem_of_getElem? (i := 2) rfl)) (ty := .int) (by decide) rfl rfl (g := (mkF m 22 #[.val (.ref a1), .val (.ref a2), .val (.ref a3), .val (.int p4), .val (.int p5), .val (.int p6), .val (.int p7)] [(.int p5), (.ref a1)])) rfl rfl (hb hby d1_22)
  have Fw12 := ((((F_last_a1.keep KK8 (by simp)).other W9 (Or.inr (slot_ne (Or.inr (hw _ (List.mem_of_getElem? (i := 22) rfl))) (Or.inr (hw _ (List.mem_of_getElem? (i := 16) rfl))) (by decide) (t := .int) (t' := (.array .int)) (by decide) (by decide)))).other W10 (Or.inr (slot_ne (Or.inr (hw _ (List.mem_of_getElem? (i := 22) rfl))) (Or.inr (hw _ (List.mem_of_getElem? (i := 18) rfl))) (by decide) (t := .int) (t' := (.array .int)) (by decide) (by decide)))).other W11 (Or.inr (slot_ne (Or.inr (hw _ (List.mem_of_getElem? (i := 22) rfl))) (Or.inr (hw _ (List.mem_of_getElem? (i := 20) rfl))) (by decide) (t := .int) (t' := .int) (by decide) (by decide)))).same W12
  have K12 : Keep h0 h12 [a1] := K11.wr W12 (Or.inl (List.mem_of_getElem? (i := 0) rfl))
  have N12 := Fr.snoc X12 N11 g_a1
  obtain ⟨T13, h13, X13, e13, W13, st13⟩ := putF X12 hx hZ hown (host := "") (Or.inl (hw _ (List.mem_of_getElem? (i := 23) rfl))) Via.refl e12 (((((F_high_a1.keep KK8 (by simp)).other W9 (Or.inr (slot_ne (Or.inr (hw _ (List.mem_of_getElem? (i := 24) rfl))) (Or.inr (hw _ (List.mem_of_getElem? (i := 16) rfl))) (by decide) (t := .int) (t' := (.array .int)) (by decide) (by decide)))).other W10 (Or.inr (slot_ne (Or.inr (hw _ (List.mem_of_getElem? (i := 24) rfl))) (Or.inr (hw _ (List.mem_of_getElem? (i := 18) rfl))) (by decide) (t := .int) (t' := (.array .int)) (by decide) (by decide)))).other W11 (Or.inr (slot_ne (Or.inr (hw _ (List.mem_of_getElem? (i := 24) rfl))) (Or.inr (hw _ (List.mem_of_getElem? (i := 20) rfl))) (by decide) (t := .int) (t' := .int) (by decide) (by decide)))).other W12 (Or.inr (slot_ne (Or.inr (hw _ (List.mem_of_getElem? (i := 24) rfl))) (Or.inr (hw _ (List.mem_of_getElem? (i := 22) rfl))) (by decide) (t := .int) (t' := .int) (by decide) (by decide)))) (((((E_a1.keep KK8).wr W9).wr W10).wr W11).wr W12) (Or.inr ⟨(hw _ (List.mem_of_getElem? (i := 24) rfl)), rfl, hnm⟩) (hw _ (List.mem_of_getElem? (i := 2) rfl)) (ty := .int) (by decide) rfl rfl (g := (mkF m 28 #[.val (.ref a1), .val (.ref a2), .val (.ref a3), .val (.int p4), .val (.int p5), .val (.int p6), .val (.int p7)] [(.int p6), (.ref a1)])) rfl rfl (hb hby d1_28)
  have Fw13 := (((((F_high_a1.keep KK8 (by simp)).other W9 (Or.inr (slot_ne (Or.inr (hw _ (List.mem_of_getElem? (i := 24) rfl))) (Or.inr (hw _ (List.mem_of_getElem? (i := 16) rfl))) (by decide) (t := .int) (t' := (.array .int)) (by decide) (by decide)))).other W10 (Or.inr (slot_ne (Or.inr (hw _ (List.mem_of_getElem? (i := 24) rfl))) (Or.inr (hw _ (List.mem_of_getElem? (i := 18) rfl))) (by decide) (t := .int) (t' := (.array .int)) (by decide) (by decide)))).other W11 (Or.inr (slot_ne (Or.inr (hw _ (List.mem_of_getElem? (i := 24) rfl))) (Or.inr (hw _ (List.mem_of_getElem? (i := 20) rfl))) (by decide) (t := .int) (t' := .int) (by decide) (by decide)))).other W12 (Or.inr (slot_ne (Or.inr (hw _ (List.mem_of_getElem? (i := 24) rfl))) (Or.inr (hw _ (List.mem_of_getElem? (i := 22) rfl))) (by decide) (t := .int) (t' := .int) (by decide) (by decide)))).same W13
  have K13 : Keep h0 h13 [a1] := K12.wr W13 (Or.inl (List.mem_of_getElem? (i := 0) rfl))
  have N13 := Fr.snoc X13 N12 g_a1
  obtain ⟨T14, h14, X14, e14, W14, st14⟩ := putF X13 hx hZ hown (host := "") (Or.inl (hw _ (List.mem_of_getElem? (i := 25) rfl))) Via.refl e13 ((((((F_low_a1.keep KK8 (by simp)).other W9 (Or.inr (slot_ne (Or.inr (hw _ (List.mem_of_getElem? (i := 26) rfl))) (Or.inr (hw _ (List.mem_of_getElem? (i := 16) rfl))) (by decide) (t := .int) (t' := (.array .int)) (by decide) (by decide)))).other W10 (Or.inr (slot_ne (Or.inr (hw _ (List.mem_of_getElem? (i := 26) rfl))) (Or.inr (hw _ (List.mem_of_getElem? (i := 18) rfl))) (by decide) (t := .int) (t' := (.array .int)) (by decide) (by decide)))).other W11 (Or.inr (slot_ne (Or.inr (hw _ (List.mem_of_getElem? (i := 26) rfl))) (Or.inr (hw _ (List.mem_of_getElem? (i := 20) rfl))) (by decide) (t := .int) (t' := .int) (by decide) (by decide)))).other W12 (Or.inr (slot_ne (Or.inr (hw _ (List.mem_of_getElem? (i := 26) rfl))) (Or.inr (hw _ (List.mem_of_getElem? (i := 22) rfl))) (by decide) (t := .int) (t' := .int) (by decide) (by decide)))).other W13 (Or.inr (slot_ne (Or.inr (hw _ (List.mem_of_getElem? (i := 26) rfl))) (Or.inr (hw _ (List.mem_of_getElem? (i := 24) rfl))) (by decide) (t := .int) (t' := .int) (by decide) (by decide)))) ((((((E_a1.keep KK8).wr W9).wr W10).wr W11).wr W12).wr W13) (Or.inr ⟨(hw _ (List.mem_of_getElem? (i := 26) rfl)), rfl, hnm⟩) (hw _ (List.mem_of_getElem? (i := 2) rfl)) (ty := .int) (by decide) rfl rfl (g := (mkF m 34 #[.val (.ref a1), .val (.ref a2), .val (.ref a3), .val (.int p4), .val (.int p5), .val (.int p6), .val (.int p7)] [(.int p7), (.ref a1)])) rfl rfl (hb hby d1_34)
  have Fw14 := ((((((F_low_a1.keep KK8 (by simp)).other W9 (Or.inr (slot_ne (Or.inr (hw _ (List.mem_of_getElem? (i := 26) rfl))) (Or.inr (hw _ (List.mem_of_getElem? (i := 16) rfl))) (by decide) (t := .int) (t' := (.array .int)) (by decide) (by decide)))).other W10 (Or.inr (slot_ne (Or.inr (hw _ (List.mem_of_getElem? (i := 26) rfl))) (Or.inr (hw _ (List.mem_of_getElem? (i := 18) rfl))) (by decide) (t := .int) (t' := (.array .int)) (by decide) (by decide)))).other W11 (Or.inr (slot_ne (Or.inr (hw _ (List.mem_of_getElem? (i := 26) rfl))) (Or.inr (hw _ (List.mem_of_getElem? (i := 20) rfl))) (by decide) (t := .int) (t' := .int) (by decide) (by decide)))).other W12 (Or.inr (slot_ne (Or.inr (hw _ (List.mem_of_getElem? (i := 26) rfl))) (Or.inr (hw _ (List.mem_of_getElem? (i := 22) rfl))) (by decide) (t := .int) (t' := .int) (by decide) (by decide)))).other W13 (Or.inr (slot_ne (Or.inr (hw _ (List.mem_of_getElem? (i := 26) rfl))) (Or.inr (hw _ (List.mem_of_getElem? (i := 24) rfl))) (by decide) (t := .int) (t' := .int) (by decide) (by decide)))).same W14
  have K14 : Keep h0 h14 [a1] := K13.wr W14 (Or.inl (List.mem_of_getElem? (i := 0) rfl))
  have N14 := Fr.snoc X14 N13 g_a1
  obtain ⟨fs, hr, hrun, hended, hW, hsame⟩ := X14.leave (v := none) (fun _ => rfl)
  refine ⟨_, _, pre0 _ ?_, hrun, hended, _, _, rfl, ?_, ⟨_, rfl⟩, hW, hsame.mono (by decide) (by decide)⟩
  · show Steps p.tables e below (s₁.setTop (mkF m 0 #[.val (.ref a1), .val (.ref a2), .val (.ref a3), .val (.int p4), .val (.int p5), .val (.int p6), .val (.int p7)] [])) _
    refine XS.aloadN X0.here hx rfl (hb hby d1_0) rfl rfl ?_
    show Steps p.tables e below (s₁.setTop (mkF m 1 #[.val (.ref a1), .val (.ref a2), .val (.ref a3), .val (.int p4), .val (.int p5), .val (.int p6), .val (.int p7)] [(.ref a1)])) _
    refine st8.trans ?_
    show Steps p.tables e below (T8.setTop (mkF m 4 #[.val (.ref a1), .val (.ref a2), .val (.ref a3), .val (.int p4), .val (.int p5), .val (.int p6), .val (.int p7)] [])) _
    refine XS.aloadN X8.here hx rfl (hb hby d1_4) rfl rfl ?_
    show Steps p.tables e below (T8.setTop (mkF m 5 #[.val (.ref a1), .val (.ref a2), .val (.ref a3), .val (.int p4), .val (.int p5), .val (.int p6), .val (.int p7)] [(.ref a1)])) _
    refine XS.aloadN X8.here hx rfl (hb hby d1_5) rfl rfl ?_
    show Steps p.tables e below (T8.setTop (mkF m 6 #[.val (.ref a1), .val (.ref a2), .val (.ref a3), .val (.int p4), .val (.int p5), .val (.int p6), .val (.int p7)] [(.ref a2), (.ref a1)])) _
    refine st9 _ ?_
    show Steps p.tables e below (T9.setTop (mkF m 9 #[.val (.ref a1), .val (.ref a2), .val (.ref a3), .val (.int p4), .val (.int p5), .val (.int p6), .val (.int p7)] [])) _
    refine XS.aloadN X9.here hx rfl (hb hby d1_9) rfl rfl ?_
    show Steps p.tables e below (T9.setTop (mkF m 10 #[.val (.ref a1), .val (.ref a2), .val (.ref a3), .val (.int p4), .val (.int p5), .val (.int p6), .val (.int p7)] [(.ref a1)])) _
    refine XS.aloadN X9.here hx rfl (hb hby d1_10) rfl rfl ?_
    show Steps p.tables e below (T9.setTop (mkF m 11 #[.val (.ref a1), .val (.ref a2), .val (.ref a3), .val (.int p4), .val (.int p5), .val (.int p6), .val (.int p7)] [(.ref a3), (.ref a1)])) _
    refine st10 _ ?_
    show Steps p.tables e below (T10.setTop (mkF m 14 #[.val (.ref a1), .val (.ref a2), .val (.ref a3), .val (.int p4), .val (.int p5), .val (.int p6), .val (.int p7)] [])) _
    refine XS.aloadN X10.here hx rfl (hb hby d1_14) rfl rfl ?_
    show Steps p.tables e below (T10.setTop (mkF m 15 #[.val (.ref a1), .val (.ref a2), .val (.ref a3), .val (.int p4), .val (.int p5), .val (.int p6), .val (.int p7)] [(.ref a1)])) _
    refine XS.iloadN X10.here hx rfl (hb hby d1_15) rfl ?_
    show Steps p.tables e below (T10.setTop (mkF m 16 #[.val (.ref a1), .val (.ref a2), .val (.ref a3), .val (.int p4), .val (.int p5), .val (.int p6), .val (.int p7)] [(.int p4), (.ref a1)])) _
    refine st11 _ ?_
    show Steps p.tables e below (T11.setTop (mkF m 19 #[.val (.ref a1), .val (.ref a2), .val (.ref a3), .val (.int p4), .val (.int p5), .val (.int p6), .val (.int p7)] [])) _
    refine XS.aloadN X11.here hx rfl (hb hby d1_19) rfl rfl ?_
    show Steps p.tables e below (T11.setTop (mkF m 20 #[.val (.ref a1), .val (.ref a2), .val (.ref a3), .val (.int p4), .val (.int p5), .val (.int p6), .val (.int p7)] [(.ref a1)])) _
    refine XS.iload X11.here hx rfl (hb hby d1_20) rfl ?_
    show Steps p.tables e below (T11.setTop (mkF m 22 #[.val (.ref a1), .val (.ref a2), .val (.ref a3), .val (.int p4), .val (.int p5), .val (.int p6), .val (.int p7)] [(.int p5), (.ref a1)])) _
    refine st12 _ ?_
    show Steps p.tables e below (T12.setTop (mkF m 25 #[.val (.ref a1), .val (.ref a2), .val (.ref a3), .val (.int p4), .val (.int p5), .val (.int p6), .val (.int p7)] [])) _
    refine XS.aloadN X12.here hx rfl (hb hby d1_25) rfl rfl ?_
    show Steps p.tables e below (T12.setTop (mkF m 26 #[.val (.ref a1), .val (.ref a2), .val (.ref a3), .val (.int p4), .val (.int p5), .val (.int p6), .val (.int p7)] [(.ref a1)])) _
    refine XS.iload X12.here hx rfl (hb hby d1_26) rfl ?_
    show Steps p.tables e below (T12.setTop (mkF m 28 #[.val (.ref a1), .val (.ref a2), .val (.ref a3), .val (.int p4), .val (.int p5), .val (.int p6), .val (.int p7)] [(.int p6), (.ref a1)])) _
    refine st13 _ ?_
    show Steps p.tables e below (T13.setTop (mkF m 31 #[.val (.ref a1), .val (.ref a2), .val (.ref a3), .val (.int p4), .val (.int p5), .val (.int p6), .val (.int p7)] [])) _
    refine XS.aloadN X13.here hx rfl (hb hby d1_31) rfl rfl ?_
    show Steps p.tables e below (T13.setTop (mkF m 32 #[.val (.ref a1), .val (.ref a2), .val (.ref a3), .val (.int p4), .val (.int p5), .val (.int p6), .val (.int p7)] [(.ref a1)])) _
    refine XS.iload X13.here hx rfl (hb hby d1_32) rfl ?_
    show Steps p.tables e below (T13.setTop (mkF m 34 #[.val (.ref a1), .val (.ref a2), .val (.ref a3), .val (.int p4), .val (.int p5), .val (.int p6), .val (.int p7)] [(.int p7), (.ref a1)])) _
    refine st14 _ ?_
    show Steps p.tables e below (T14.setTop (mkF m 37 #[.val (.ref a1), .val (.ref a2), .val (.ref a3), .val (.int p4), .val (.int p5), .val (.int p6), .val (.int p7)] [])) _
    exact X14.returnOut hx Bd.returns (hb hby d1_37) hr
  · show Q1 Z a1 a2 a3 p4 p5 p6 p7 u_ids_a1 u_selectors_a1 u_first_a1 u_last_a1 u_high_a1 u_low_a1 h0 n0 _ T14.heap _
    rw [e14]
    exact ⟨rfl, N14, K14, (((((((E_a1.keep KK8).wr W9).wr W10).wr W11).wr W12).wr W13).wr W14), (((((Fw9.other W10 (Or.inr (slot_ne (Or.inr (hw _ (List.mem_of_getElem? (i := 16) rfl))) (Or.inr (hw _ (List.mem_of_getElem? (i := 18) rfl))) (by decide) (t := (.array .int)) (t' := (.array .int)) (by decide) (by decide)))).other W11 (Or.inr (slot_ne (Or.inr (hw _ (List.mem_of_getElem? (i := 16) rfl))) (Or.inr (hw _ (List.mem_of_getElem? (i := 20) rfl))) (by decide) (t := (.array .int)) (t' := .int) (by decide) (by decide)))).other W12 (Or.inr (slot_ne (Or.inr (hw _ (List.mem_of_getElem? (i := 16) rfl))) (Or.inr (hw _ (List.mem_of_getElem? (i := 22) rfl))) (by decide) (t := (.array .int)) (t' := .int) (by decide) (by decide)))).other W13 (Or.inr (slot_ne (Or.inr (hw _ (List.mem_of_getElem? (i := 16) rfl))) (Or.inr (hw _ (List.mem_of_getElem? (i := 24) rfl))) (by decide) (t := (.array .int)) (t' := .int) (by decide) (by decide)))).other W14 (Or.inr (slot_ne (Or.inr (hw _ (List.mem_of_getElem? (i := 16) rfl))) (Or.inr (hw _ (List.mem_of_getElem? (i := 26) rfl))) (by decide) (t := (.array .int)) (t' := .int) (by decide) (by decide)))), ((((Fw10.other W11 (Or.inr (slot_ne (Or.inr (hw _ (List.mem_of_getElem? (i := 18) rfl))) (Or.inr (hw _ (List.mem_of_getElem? (i := 20) rfl))) (by decide) (t := (.array .int)) (t' := .int) (by decide) (by decide)))).other W12 (Or.inr (slot_ne (Or.inr (hw _ (List.mem_of_getElem? (i := 18) rfl))) (Or.inr (hw _ (List.mem_of_getElem? (i := 22) rfl))) (by decide) (t := (.array .int)) (t' := .int) (by decide) (by decide)))).other W13 (Or.inr (slot_ne (Or.inr (hw _ (List.mem_of_getElem? (i := 18) rfl))) (Or.inr (hw _ (List.mem_of_getElem? (i := 24) rfl))) (by decide) (t := (.array .int)) (t' := .int) (by decide) (by decide)))).other W14 (Or.inr (slot_ne (Or.inr (hw _ (List.mem_of_getElem? (i := 18) rfl))) (Or.inr (hw _ (List.mem_of_getElem? (i := 26) rfl))) (by decide) (t := (.array .int)) (t' := .int) (by decide) (by decide)))), (((Fw11.other W12 (Or.inr (slot_ne (Or.inr (hw _ (List.mem_of_getElem? (i := 20) rfl))) (Or.inr (hw _ (List.mem_of_getElem? (i := 22) rfl))) (by decide) (t := .int) (t' := .int) (by decide) (by decide)))).other W13 (Or.inr (slot_ne (Or.inr (hw _ (List.mem_of_getElem? (i := 20) rfl))) (Or.inr (hw _ (List.mem_of_getElem? (i := 24) rfl))) (by decide) (t := .int) (t' := .int) (by decide) (by decide)))).other W14 (Or.inr (slot_ne (Or.inr (hw _ (List.mem_of_getElem? (i := 20) rfl))) (Or.inr (hw _ (List.mem_of_getElem? (i := 26) rfl))) (by decide) (t := .int) (t' := .int) (by decide) (by decide)))), ((Fw12.other W13 (Or.inr (slot_ne (Or.inr (hw _ (List.mem_of_getElem? (i := 22) rfl))) (Or.inr (hw _ (List.mem_of_getElem? (i := 24) rfl))) (by decide) (t := .int) (t' := .int) (by decide) (by decide)))).other W14 (Or.inr (slot_ne (Or.inr (hw _ (List.mem_of_getElem? (i := 22) rfl))) (Or.inr (hw _ (List.mem_of_getElem? (i := 26) rfl))) (by decide) (t := .int) (t' := .int) (by decide) (by decide)))), (Fw13.other W14 (Or.inr (slot_ne (Or.inr (hw _ (List.mem_of_getElem? (i := 24) rfl))) (Or.inr (hw _ (List.mem_of_getElem? (i := 26) rfl))) (by decide) (t := .int) (t' := .int) (by decide) (by decide)))), Fw14⟩

theorem d4_0 : decode prog_73_method_2_code 0 = .ok (.aload_n 0, 1) := by decide +kernel
theorem d4_1 : decode prog_73_method_2_code 1 = .ok (.getfield 16, 3) := by decide +kernel
theorem d4_4 : decode prog_73_method_2_code 4 = .ok (.ifCond .ne 7, 3) := by decide +kernel
theorem d4_7 : decode prog_73_method_2_code 7 = .ok (.iconst 1, 1) := by decide +kernel
theorem d4_8 : decode prog_73_method_2_code 8 = .ok (.goto 4, 3) := by decide +kernel
theorem d4_11 : decode prog_73_method_2_code 11 = .ok (.iconst 0, 1) := by decide +kernel
theorem d4_12 : decode prog_73_method_2_code 12 = .ok (.istore_n 1, 1) := by decide +kernel
theorem d4_13 : decode prog_73_method_2_code 13 = .ok (.iload_n 1, 1) := by decide +kernel
theorem d4_14 : decode prog_73_method_2_code 14 = .ok (.ifCond .eq 18, 3) := by decide +kernel
theorem d4_17 : decode prog_73_method_2_code 17 = .ok (.aload_n 0, 1) := by decide +kernel
theorem d4_18 : decode prog_73_method_2_code 18 = .ok (.getfield 20, 3) := by decide +kernel
theorem d4_21 : decode prog_73_method_2_code 21 = .ok (.ifCond .ne 7, 3) := by decide +kernel
theorem d4_24 : decode prog_73_method_2_code 24 = .ok (.iconst 1, 1) := by decide +kernel
theorem d4_25 : decode prog_73_method_2_code 25 = .ok (.goto 41, 3) := by decide +kernel
theorem d4_28 : decode prog_73_method_2_code 28 = .ok (.iconst 0, 1) := by decide +kernel
theorem d4_29 : decode prog_73_method_2_code 29 = .ok (.goto 37, 3) := by decide +kernel
theorem d4_32 : decode prog_73_method_2_code 32 = .ok (.aload_n 0, 1) := by decide +kernel
theorem d4_33 : decode prog_73_method_2_code 33 = .ok (.getfield 16, 3) := by decide +kernel
theorem d4_36 : decode prog_73_method_2_code 36 = .ok (.aload_n 0, 1) := by decide +kernel
theorem d4_37 : decode prog_73_method_2_code 37 = .ok (.getfield 20, 3) := by decide +kernel
theorem d4_40 : decode prog_73_method_2_code 40 = .ok (.if_icmp .gt 25, 3) := by decide +kernel
theorem d4_43 : decode prog_73_method_2_code 43 = .ok (.aload_n 0, 1) := by decide +kernel
theorem d4_44 : decode prog_73_method_2_code 44 = .ok (.getfield 20, 3) := by decide +kernel
theorem d4_47 : decode prog_73_method_2_code 47 = .ok (.bipush 64, 2) := by decide +kernel
theorem d4_49 : decode prog_73_method_2_code 49 = .ok (.if_icmp .ge 16, 3) := by decide +kernel
theorem d4_52 : decode prog_73_method_2_code 52 = .ok (.aload_n 0, 1) := by decide +kernel
theorem d4_53 : decode prog_73_method_2_code 53 = .ok (.getfield 7, 3) := by decide +kernel
theorem d4_56 : decode prog_73_method_2_code 56 = .ok (.arraylength, 1) := by decide +kernel
theorem d4_57 : decode prog_73_method_2_code 57 = .ok (.iconst 1, 1) := by decide +kernel
theorem d4_58 : decode prog_73_method_2_code 58 = .ok (.if_icmp .ne 7, 3) := by decide +kernel
theorem d4_61 : decode prog_73_method_2_code 61 = .ok (.iconst 1, 1) := by decide +kernel
theorem d4_62 : decode prog_73_method_2_code 62 = .ok (.goto 4, 3) := by decide +kernel
theorem d4_65 : decode prog_73_method_2_code 65 = .ok (.iconst 0, 1) := by decide +kernel
theorem d4_66 : decode prog_73_method_2_code 66 = .ok (.istore_n 2, 1) := by decide +kernel
theorem d4_67 : decode prog_73_method_2_code 67 = .ok (.iload_n 2, 1) := by decide +kernel
theorem d4_68 : decode prog_73_method_2_code 68 = .ok (.ifCond .eq 36, 3) := by decide +kernel
theorem d4_71 : decode prog_73_method_2_code 71 = .ok (.aload_n 0, 1) := by decide +kernel
theorem d4_72 : decode prog_73_method_2_code 72 = .ok (.getfield 23, 3) := by decide +kernel
theorem d4_75 : decode prog_73_method_2_code 75 = .ok (.ifCond .eq 16, 3) := by decide +kernel
theorem d4_78 : decode prog_73_method_2_code 78 = .ok (.aload_n 0, 1) := by decide +kernel
theorem d4_79 : decode prog_73_method_2_code 79 = .ok (.getfield 26, 3) := by decide +kernel
theorem d4_82 : decode prog_73_method_2_code 82 = .ok (.aload_n 0, 1) := by decide +kernel
theorem d4_83 : decode prog_73_method_2_code 83 = .ok (.getfield 23, 3) := by decide +kernel
theorem d4_86 : decode prog_73_method_2_code 86 = .ok (.iconst 1, 1) := by decide +kernel
theorem d4_87 : decode prog_73_method_2_code 87 = .ok (.isub, 1) := by decide +kernel
theorem d4_88 : decode prog_73_method_2_code 88 = .ok (.if_icmp .ne 16, 3) := by decide +kernel
theorem d4_91 : decode prog_73_method_2_code 91 = .ok (.aload_n 0, 1) := by decide +kernel
theorem d4_92 : decode prog_73_method_2_code 92 = .ok (.getfield 26, 3) := by decide +kernel
theorem d4_95 : decode prog_73_method_2_code 95 = .ok (.bipush 13, 2) := by decide +kernel
theorem d4_97 : decode prog_73_method_2_code 97 = .ok (.if_icmp .gt 7, 3) := by decide +kernel
theorem d4_100 : decode prog_73_method_2_code 100 = .ok (.iconst 1, 1) := by decide +kernel
theorem d4_101 : decode prog_73_method_2_code 101 = .ok (.goto 4, 3) := by decide +kernel
theorem d4_104 : decode prog_73_method_2_code 104 = .ok (.iconst 0, 1) := by decide +kernel
theorem d4_105 : decode prog_73_method_2_code 105 = .ok (.ireturn, 1) := by decide +kernel
theorem pn_4 : plainName "com/example/proofsheet/proofsheet/media/JpegSegments$ScanHeader" = true := by first | (simp [plainName, overriddenIn]; done) | decide +kernel
theorem ef_4 (m : MethodId) (x0 : Addr) : entryFrame m #[(.ref x0)] 3 = mkF m 0 #[.val (.ref x0), .unset, .unset] [] := by first | (simp [entryFrame, mkF, argsToLocals, Value.category]; done) | rfl
def Q4 (Z : State) (a1 t : Addr) (cl : Cell) (n f la hi lo : Int32) (h0 : Heap) (n0 : Nat) (v : Option Value) (h : Heap) (L : List Loc) : Prop := v = some (.int (own_R4 n f la hi lo)) ∧ Fr n0 L ∧ h = h0
set_option maxRecDepth 65536 in
set_option maxHeartbeats 40000000 in
theorem rm4 (l : Launch) (Z : State) (a0 : Array Value) (hw : ∀ d ∈ tables_1, d.before a0 Z = true) (ws : List Jvm.Cond) (a1 t : Addr) (cl : Cell) (n f la hi lo : Int32) (h0 : Heap) (n0 : Nat) (Z0 : n0 ≤ h0.size) (F_ids : Fld Z h0 a1 "com/example/proofsheet/proofsheet/media/JpegSegments$ScanHeader" "ids" "[I" (.ref t)) (F_first : Fld Z h0 a1 "com/example/proofsheet/proofsheet/media/JpegSegments$ScanHeader" "first" "I" (.int f)) (F_last : Fld Z h0 a1 "com/example/proofsheet/proofsheet/media/JpegSegments$ScanHeader" "last" "I" (.int la)) (F_high : Fld Z h0 a1 "com/example/proofsheet/proofsheet/media/JpegSegments$ScanHeader" "high" "I" (.int hi)) (F_low : Fld Z h0 a1 "com/example/proofsheet/proofsheet/media/JpegSegments$ScanHeader" "low" "I" (.int lo)) (Ar : Arr Z h0 t cl .int) (S : cl.slots.size = n.toNatClampNeg) (M : ¬ n < 0) :
    MetFree l (⟨"com/example/proofsheet/proofsheet/media/JpegSegments$ScanHeader", "progressive", "()Z"⟩ : MethodName) (head1 (Jvm.Cond.code (⟨"com/example/proofsheet/proofsheet/media/JpegSegments$ScanHeader", "progressive", "()Z"⟩ : MethodName) prog_73_method_2_code 3 (some .boolean) :: ws) ({ frames := 0, cells := 0, slots := 0, locals := 0 } : Room)) (fun a U => a = #[(.ref a1)] ∧ Z.Warmed39 U.vm ∧ U.heap = h0) (fun _ _ _ _ _ => True) (fun _ U o U' => ∃ v L, o = .returned v ∧ Q4 Z a1 t cl n f la hi lo h0 n0 v U'.heap L ∧ FrameEnd U o U' L ({ frames := 0, cells := 0, slots := 0, locals := 0 } : Room).cells ({ frames := 0, cells := 0, slots := 0, locals := 0 } : Room).slots) := by
  refine MetFree.of_bodySF (plainFor_of_name pn_4) hisR ?_
  intro p e s m args below meth c s₁ Bd hml0 hP hK
  obtain ⟨rfl, hZ, hh⟩ := hP
  have hx := Bd.exec
  have hby := Bd.bytes
  have hml : c.maxLocals = 3 := hml0
  have hown : s.vm.findClass "com/example/proofsheet/proofsheet/media/JpegSegments$ScanHeader" = some m.cls := findClass_of_methodNamed Bd.named
  have hnm := (name_of_methodNamed Bd.named Bd.method).1
  have X0 : Stand p l e ({ frames := 0, cells := 0, slots := 0, locals := 0 } : Room) s m #[(.ref a1)] below meth c s₁ [] 0 0 := Stand.of_body Bd
  have e0 : s₁.heap = h0 := by rw [← hh, Bd.state]; rfl
  have N0 := Fr.nil n0
  show own_Fin p e below (fun o U' => ∃ v L, o = .returned v ∧ Q4 Z a1 t cl n f la hi lo h0 n0 v U'.heap L ∧ FrameEnd s o U' L ({ frames := 0, cells := 0, slots := 0, locals := 0 } : Room).cells ({ frames := 0, cells := 0, slots := 0, locals := 0 } : Room).slots) (s₁.setTop (entryFrame m #[(.ref a1)] 3))
  have j66 : ∀ (T : State) (locs : List Loc) (s1 : Slot) (b : Int32), Stand p l e ({ frames := 0, cells := 0, slots := 0, locals := 0 } : Room) s m #[(.ref a1)] below meth c T locs 0 0 → T.heap = h0 → Fr n0 locs → own_band4 n f la = b → own_Fin p e below (fun o U' => ∃ v L, o = .returned v ∧ Q4 Z a1 t cl n f la hi lo h0 n0 v U'.heap L ∧ FrameEnd s o U' L ({ frames := 0, cells := 0, slots := 0, locals := 0 } : Room).cells ({ frames := 0, cells := 0, slots := 0, locals := 0 } : Room).slots) (T.setTop (mkF m 66 #[.val (.ref a1), s1, .unset] [(.int b)])) := by
    intro T locs s1 b X e1 N hB
    refine own_lift (fun tz kz => XS.istoreN X.here hx rfl (hb hby d4_66) rfl (l' := #[.val (.ref a1), s1, .val (.int b)]) rfl kz) ?_
    show own_Fin p e below _ (T.setTop (mkF m 67 #[.val (.ref a1), s1, .val (.int b)] []))
    refine own_lift (fun tz kz => XS.iloadN X.here hx rfl (hb hby d4_67) rfl kz) ?_
    show own_Fin p e below _ (T.setTop (mkF m 68 #[.val (.ref a1), s1, .val (.int b)] [(.int b)]))
    by_cases hc68_1 : b = (0 : Int32)
    · refine own_lift (fun tz kz => XS.ifYes X.here hx rfl (pc0 := 68) (pc' := 104) rfl (hb hby d4_68) rfl ((if0 _ _).trans (teq hc68_1).1) (by decide) (by decide) kz) ?_
      show own_Fin p e below _ (T.setTop (mkF m 104 #[.val (.ref a1), s1, .val (.int b)] []))
      refine own_lift (fun tz kz => XS.iconst X.here hx rfl (hb hby d4_104) kz) ?_
      show own_Fin p e below _ (T.setTop (mkF m 105 #[.val (.ref a1), s1, .val (.int b)] [(.int (0 : Int32))]))
      obtain ⟨fs, hr, hrun, hended, hW, hsame⟩ := X.leave (v := some (.int (0 : Int32))) (fun h => by rw [Bd.returns] at h; cases h)
      exact ⟨_, _, retN X hx (t := .boolean) Bd.returns (by simp) (hb hby d4_105) hr, hrun, hended, _, _, rfl, ⟨by simp only [own_R4, hB, if_pos hc68_1], N, e1⟩, ⟨_, rfl⟩, hW, hsame.mono (by decide) (by decide)⟩
    · refine own_lift (fun tz kz => XS.ifNo X.here hx rfl (hb hby d4_68) rfl ((if0 _ _).trans (feq hc68_1).1) kz) ?_
      show own_Fin p e below _ (T.setTop (mkF m 71 #[.val (.ref a1), s1, .val (.int b)] []))
      refine own_lift (fun tz kz => XS.aloadN X.here hx rfl (hb hby d4_71) rfl rfl kz) ?_
      show own_Fin p e below _ (T.setTop (mkF m 72 #[.val (.ref a1), s1, .val (.int b)] [(.ref a1)]))
      obtain ⟨Tg_2, Xg_2, eg_2, stg_2⟩ := getF X hx hZ hown (host := "") (Or.inl (hw _ (List.mem_of_getElem? (i := 23) rfl))) Via.refl e1 F_high (g := (mkF m 72 #[.val (.ref a1), s1, .val (.int b)] [(.ref a1)])) rfl rfl (hb hby d4_72)
      refine own_lift (fun tz kz => stg_2 _ kz) ?_
      show own_Fin p e below _ (Tg_2.setTop (mkF m 75 #[.val (.ref a1), s1, .val (.int b)] [(.int hi)]))
      by_cases hc75_3 : hi = (0 : Int32)
      · refine own_lift (fun tz kz => XS.ifYes Xg_2.here hx rfl (pc0 := 75) (pc' := 91) rfl (hb hby d4_75) rfl ((if0 _ _).trans (teq hc75_3).1) (by decide) (by decide) kz) ?_
        show own_Fin p e below _ (Tg_2.setTop (mkF m 91 #[.val (.ref a1), s1, .val (.int b)] []))
        refine own_lift (fun tz kz => XS.aloadN Xg_2.here hx rfl (hb hby d4_91) rfl rfl kz) ?_
        show own_Fin p e below _ (Tg_2.setTop (mkF m 92 #[.val (.ref a1), s1, .val (.int b)] [(.ref a1)]))
        obtain ⟨Tg_4, Xg_4, eg_4, stg_4⟩ := getF Xg_2 hx hZ hown (host := "") (Or.inl (hw _ (List.mem_of_getElem? (i := 25) rfl))) Via.refl eg_2 F_low (g := (mkF m 92 #[.val (.ref a1), s1, .val (.int b)] [(.ref a1)])) rfl rfl (hb hby d4_92)
        refine own_lift (fun tz kz => stg_4 _ kz) ?_
        show own_Fin p e below _ (Tg_4.setTop (mkF m 95 #[.val (.ref a1), s1, .val (.int b)] [(.int lo)]))
        refine own_lift (fun tz kz => XS.bipush Xg_4.here hx rfl (hb hby d4_95) kz) ?_
        show own_Fin p e below _ (Tg_4.setTop (mkF m 97 #[.val (.ref a1), s1, .val (.int b)] [(.int (13 : Int32)), (.int lo)]))
        by_cases hc97_5 : (13 : Int32) < lo
        · refine own_lift (fun tz kz => XS.icmpYes Xg_4.here hx rfl (pc0 := 97) (pc' := 104) rfl (hb hby d4_97) rfl (tlt hc97_5).2.2.1 (by decide) (by decide) kz) ?_
          show own_Fin p e below _ (Tg_4.setTop (mkF m 104 #[.val (.ref a1), s1, .val (.int b)] []))
          refine own_lift (fun tz kz => XS.iconst Xg_4.here hx rfl (hb hby d4_104) kz) ?_
          show own_Fin p e below _ (Tg_4.setTop (mkF m 105 #[.val (.ref a1), s1, .val (.int b)] [(.int (0 : Int32))]))
          obtain ⟨fs, hr, hrun, hended, hW, hsame⟩ := Xg_4.leave (v := some (.int (0 : Int32))) (fun h => by rw [Bd.returns] at h; cases h)
          exact ⟨_, _, retN Xg_4 hx (t := .boolean) Bd.returns (by simp) (hb hby d4_105) hr, hrun, hended, _, _, rfl, ⟨by simp only [own_R4, hB, if_neg hc68_1, if_pos hc75_3, if_pos hc97_5], N, eg_4⟩, ⟨_, rfl⟩, hW, hsame.mono (by decide) (by decide)⟩
        · refine own_lift (fun tz kz => XS.icmpNo Xg_4.here hx rfl (hb hby d4_97) rfl (flt hc97_5).2.2.1 kz) ?_
          show own_Fin p e below _ (Tg_4.setTop (mkF m 100 #[.val (.ref a1), s1, .val (.int b)] []))
          refine own_lift (fun tz kz => XS.iconst Xg_4.here hx rfl (hb hby d4_100) kz) ?_
          show own_Fin p e below _ (Tg_4.setTop (mkF m 101 #[.val (.ref a1), s1, .val (.int b)] [(.int (1 : Int32))]))
          refine own_lift (fun tz kz => XS.goto Xg_4.here hx rfl (pc0 := 101) (pc' := 105) rfl (hb hby d4_101) (by decide) (by decide) kz) ?_
          show own_Fin p e below _ (Tg_4.setTop (mkF m 105 #[.val (.ref a1), s1, .val (.int b)] [(.int (1 : Int32))]))
          obtain ⟨fs, hr, hrun, hended, hW, hsame⟩ := Xg_4.leave (v := some (.int (1 : Int32))) (fun h => by rw [Bd.returns] at h; cases h)
          exact ⟨_, _, retN Xg_4 hx (t := .boolean) Bd.returns (by simp) (hb hby d4_105) hr, hrun, hended, _, _, rfl, ⟨by simp only [own_R4, hB, if_neg hc68_1, if_pos hc75_3, if_neg hc97_5], N, eg_4⟩, ⟨_, rfl⟩, hW, hsame.mono (by decide) (by decide)⟩
      · refine own_lift (fun tz kz => XS.ifNo Xg_2.here hx rfl (hb hby d4_75) rfl ((if0 _ _).trans (feq hc75_3).1) kz) ?_
        show own_Fin p e below _ (Tg_2.setTop (mkF m 78 #[.val (.ref a1), s1, .val (.int b)] []))
        refine own_lift (fun tz kz => XS.aloadN Xg_2.here hx rfl (hb hby d4_78) rfl rfl kz) ?_
        show own_Fin p e below _ (Tg_2.setTop (mkF m 79 #[.val (.ref a1), s1, .val (.int b)] [(.ref a1)]))
        obtain ⟨Tg_6, Xg_6, eg_6, stg_6⟩ := getF Xg_2 hx hZ hown (host := "") (Or.inl (hw _ (List.mem_of_getElem? (i := 25) rfl))) Via.refl eg_2 F_low (g := (mkF m 79 #[.val (.ref a1), s1, .val (.int b)] [(.ref a1)])) rfl rfl (hb hby d4_79)
        refine own_lift (fun tz kz => stg_6 _ kz) ?_
        show own_Fin p e below _ (Tg_6.setTop (mkF m 82 #[.val (.ref a1), s1, .val (.int b)] [(.int lo)]))
        refine own_lift (fun tz kz => XS.aloadN Xg_6.here hx rfl (hb hby d4_82) rfl rfl kz) ?_
        show own_Fin p e below _ (Tg_6.setTop (mkF m 83 #[.val (.ref a1), s1, .val (.int b)] [(.ref a1), (.int lo)]))
        obtain ⟨Tg_7, Xg_7, eg_7, stg_7⟩ := getF Xg_6 hx hZ hown (host := "") (Or.inl (hw _ (List.mem_of_getElem? (i := 23) rfl))) Via.refl eg_6 F_high (g := (mkF m 83 #[.val (.ref a1), s1, .val (.int b)] [(.ref a1), (.int lo)])) rfl rfl (hb hby d4_83)
        refine own_lift (fun tz kz => stg_7 _ kz) ?_
        show own_Fin p e below _ (Tg_7.setTop (mkF m 86 #[.val (.ref a1), s1, .val (.int b)] [(.int hi), (.int lo)]))
        refine own_lift (fun tz kz => XS.iconst Xg_7.here hx rfl (hb hby d4_86) kz) ?_
        show own_Fin p e below _ (Tg_7.setTop (mkF m 87 #[.val (.ref a1), s1, .val (.int b)] [(.int (1 : Int32)), (.int hi), (.int lo)]))
        refine own_lift (fun tz kz => XS.isub Xg_7.here hx rfl (hb hby d4_87) rfl kz) ?_
        show own_Fin p e below _ (Tg_7.setTop (mkF m 88 #[.val (.ref a1), s1, .val (.int b)] [(.int (hi - (1 : Int32))), (.int lo)]))
        by_cases hc88_8 : lo = (hi - (1 : Int32))
        · refine own_lift (fun tz kz => XS.icmpNo Xg_7.here hx rfl (hb hby d4_88) rfl (teq hc88_8).2 kz) ?_
          show own_Fin p e below _ (Tg_7.setTop (mkF m 91 #[.val (.ref a1), s1, .val (.int b)] []))
          refine own_lift (fun tz kz => XS.aloadN Xg_7.here hx rfl (hb hby d4_91) rfl rfl kz) ?_
          show own_Fin p e below _ (Tg_7.setTop (mkF m 92 #[.val (.ref a1), s1, .val (.int b)] [(.ref a1)]))
          obtain ⟨Tg_9, Xg_9, eg_9, stg_9⟩ := getF Xg_7 hx hZ hown (host := "") (Or.inl (hw _ (List.mem_of_getElem? (i := 25) rfl))) Via.refl eg_7 F_low (g := (mkF m 92 #[.val (.ref a1), s1, .val (.int b)] [(.ref a1)])) rfl rfl (hb hby d4_92)
          refine own_lift (fun tz kz => stg_9 _ kz) ?_
          show own_Fin p e below _ (Tg_9.setTop (mkF m 95 #[.val (.ref a1), s1, .val (.int b)] [(.int lo)]))
          refine own_lift (fun tz kz => XS.bipush Xg_9.here hx rfl (hb hby d4_95) kz) ?_
          show own_Fin p e below _ (Tg_9.setTop (mkF m 97 #[.val (.ref a1), s1, .val (.int b)] [(.int (13 : Int32)), (.int lo)]))
          by_cases hc97_10 : (13 : Int32) < lo
          · refine own_lift (fun tz kz => XS.icmpYes Xg_9.here hx rfl (pc0 := 97) (pc' := 104) rfl (hb hby d4_97) rfl (tlt hc97_10).2.2.1 (by decide) (by decide) kz) ?_
            show own_Fin p e below _ (Tg_9.setTop (mkF m 104 #[.val (.ref a1), s1, .val (.int b)] []))
            refine own_lift (fun tz kz => XS.iconst Xg_9.here hx rfl (hb hby d4_104) kz) ?_
            show own_Fin p e below _ (Tg_9.setTop (mkF m 105 #[.val (.ref a1), s1, .val (.int b)] [(.int (0 : Int32))]))
            obtain ⟨fs, hr, hrun, hended, hW, hsame⟩ := Xg_9.leave (v := some (.int (0 : Int32))) (fun h => by rw [Bd.returns] at h; cases h)
            exact ⟨_, _, retN Xg_9 hx (t := .boolean) Bd.returns (by simp) (hb hby d4_105) hr, hrun, hended, _, _, rfl, ⟨by simp only [own_R4, hB, if_neg hc68_1, if_neg hc75_3, if_pos hc88_8, if_pos hc97_10], N, eg_9⟩, ⟨_, rfl⟩, hW, hsame.mono (by decide) (by decide)⟩
          · refine own_lift (fun tz kz => XS.icmpNo Xg_9.here hx rfl (hb hby d4_97) rfl (flt hc97_10).2.2.1 kz) ?_
            show own_Fin p e below _ (Tg_9.setTop (mkF m 100 #[.val (.ref a1), s1, .val (.int b)] []))
            refine own_lift (fun tz kz => XS.iconst Xg_9.here hx rfl (hb hby d4_100) kz) ?_
            show own_Fin p e below _ (Tg_9.setTop (mkF m 101 #[.val (.ref a1), s1, .val (.int b)] [(.int (1 : Int32))]))
            refine own_lift (fun tz kz => XS.goto Xg_9.here hx rfl (pc0 := 101) (pc' := 105) rfl (hb hby d4_101) (by decide) (by decide) kz) ?_
            show own_Fin p e below _ (Tg_9.setTop (mkF m 105 #[.val (.ref a1), s1, .val (.int b)] [(.int (1 : Int32))]))
            obtain ⟨fs, hr, hrun, hended, hW, hsame⟩ := Xg_9.leave (v := some (.int (1 : Int32))) (fun h => by rw [Bd.returns] at h; cases h)
            exact ⟨_, _, retN Xg_9 hx (t := .boolean) Bd.returns (by simp) (hb hby d4_105) hr, hrun, hended, _, _, rfl, ⟨by simp only [own_R4, hB, if_neg hc68_1, if_neg hc75_3, if_pos hc88_8, if_neg hc97_10], N, eg_9⟩, ⟨_, rfl⟩, hW, hsame.mono (by decide) (by decide)⟩
        · refine own_lift (fun tz kz => XS.icmpYes Xg_7.here hx rfl (pc0 := 88) (pc' := 104) rfl (hb hby d4_88) rfl (feq hc88_8).2 (by decide) (by decide) kz) ?_
          show own_Fin p e below _ (Tg_7.setTop (mkF m 104 #[.val (.ref a1), s1, .val (.int b)] []))
          refine own_lift (fun tz kz => XS.iconst Xg_7.here hx rfl (hb hby d4_104) kz) ?_
          show own_Fin p e below _ (Tg_7.setTop (mkF m 105 #[.val (.ref a1), s1, .val (.int b)] [(.int (0 : Int32))]))
          obtain ⟨fs, hr, hrun, hended, hW, hsame⟩ := Xg_7.leave (v := some (.int (0 : Int32))) (fun h => by rw [Bd.returns] at h; cases h)
          exact ⟨_, _, retN Xg_7 hx (t := .boolean) Bd.returns (by simp) (hb hby d4_105) hr, hrun, hended, _, _, rfl, ⟨by simp only [own_R4, hB, if_neg hc68_1, if_neg hc75_3, if_neg hc88_8], N, eg_7⟩, ⟨_, rfl⟩, hW, hsame.mono (by decide) (by decide)⟩
  refine own_lift (fun tz kz => castTop (ef_4 m a1) kz) ?_
  show own_Fin p e below _ (s₁.setTop (mkF m 0 #[.val (.ref a1), .unset, .unset] []))
  refine own_lift (fun tz kz => XS.aloadN X0.here hx rfl (hb hby d4_0) rfl rfl kz) ?_
  show own_Fin p e below _ (s₁.setTop (mkF m 1 #[.val (.ref a1), .unset, .unset] [(.ref a1)]))
  obtain ⟨Tg_11, Xg_11, eg_11, stg_11⟩ := getF X0 hx hZ hown (host := "") (Or.inl (hw _ (List.mem_of_getElem? (i := 19) rfl))) Via.refl e0 F_first (g := (mkF m 1 #[.val (.ref a1), .unset, .unset] [(.ref a1)])) rfl rfl (hb hby d4_1)
  refine own_lift (fun tz kz => stg_11 _ kz) ?_
  show own_Fin p e below _ (Tg_11.setTop (mkF m 4 #[.val (.ref a1), .unset, .unset] [(.int f)]))
  by_cases hc4_12 : f = (0 : Int32)
  · refine own_lift (fun tz kz => XS.ifNo Xg_11.here hx rfl (hb hby d4_4) rfl ((if0 _ _).trans (teq hc4_12).2) kz) ?_
    show own_Fin p e below _ (Tg_11.setTop (mkF m 7 #[.val (.ref a1), .unset, .unset] []))
    refine own_lift (fun tz kz => XS.iconst Xg_11.here hx rfl (hb hby d4_7) kz) ?_
    show own_Fin p e below _ (Tg_11.setTop (mkF m 8 #[.val (.ref a1), .unset, .unset] [(.int (1 : Int32))]))
    refine own_lift (fun tz kz => XS.goto Xg_11.here hx rfl (pc0 := 8) (pc' := 12) rfl (hb hby d4_8) (by decide) (by decide) kz) ?_
    show own_Fin p e below _ (Tg_11.setTop (mkF m 12 #[.val (.ref a1), .unset, .unset] [(.int (1 : Int32))]))
    refine own_lift (fun tz kz => XS.istoreN Xg_11.here hx rfl (hb hby d4_12) rfl (l' := #[.val (.ref a1), .val (.int (1 : Int32)), .unset]) rfl kz) ?_
    show own_Fin p e below _ (Tg_11.setTop (mkF m 13 #[.val (.ref a1), .val (.int (1 : Int32)), .unset] []))
    refine own_lift (fun tz kz => XS.iloadN Xg_11.here hx rfl (hb hby d4_13) rfl kz) ?_
    show own_Fin p e below _ (Tg_11.setTop (mkF m 14 #[.val (.ref a1), .val (.int (1 : Int32)), .unset] [(.int (1 : Int32))]))
    refine own_lift (fun tz kz => XS.ifNo Xg_11.here hx rfl (hb hby d4_14) rfl ((if0 _ _).trans (feq (by decide : ¬ ((1 : Int32) = (0 : Int32)))).1) kz) ?_
    show own_Fin p e below _ (Tg_11.setTop (mkF m 17 #[.val (.ref a1), .val (.int (1 : Int32)), .unset] []))
    refine own_lift (fun tz kz => XS.aloadN Xg_11.here hx rfl (hb hby d4_17) rfl rfl kz) ?_
    show own_Fin p e below _ (Tg_11.setTop (mkF m 18 #[.val (.ref a1), .val (.int (1 : Int32)), .unset] [(.ref a1)]))
    obtain ⟨Tg_14, Xg_14, eg_14, stg_14⟩ := getF Xg_11 hx hZ hown (host := "") (Or.inl (hw _ (List.mem_of_getElem? (i := 21) rfl))) Via.refl eg_11 F_last (g := (mkF m 18 #[.val (.ref a1), .val (.int (1 : Int32)), .unset] [(.ref a1)])) rfl rfl (hb hby d4_18)
    refine own_lift (fun tz kz => stg_14 _ kz) ?_
    show own_Fin p e below _ (Tg_14.setTop (mkF m 21 #[.val (.ref a1), .val (.int (1 : Int32)), .unset] [(.int la)]))
    by_cases hc21_15 : la = (0 : Int32)
    · refine own_lift (fun tz kz => XS.ifNo Xg_14.here hx rfl (hb hby d4_21) rfl ((if0 _ _).trans (teq hc21_15).2) kz) ?_
      show own_Fin p e below _ (Tg_14.setTop (mkF m 24 #[.val (.ref a1), .val (.int (1 : Int32)), .unset] []))
      refine own_lift (fun tz kz => XS.iconst Xg_14.here hx rfl (hb hby d4_24) kz) ?_
      show own_Fin p e below _ (Tg_14.setTop (mkF m 25 #[.val (.ref a1), .val (.int (1 : Int32)), .unset] [(.int (1 : Int32))]))
      refine own_lift (fun tz kz => XS.goto Xg_14.here hx rfl (pc0 := 25) (pc' := 66) rfl (hb hby d4_25) (by decide) (by decide) kz) ?_
      show own_Fin p e below _ (Tg_14.setTop (mkF m 66 #[.val (.ref a1), .val (.int (1 : Int32)), .unset] [(.int (1 : Int32))]))
      exact j66 _ _ _ _ Xg_14 eg_14 N0 (by simp only [own_band4, if_pos hc4_12, if_pos hc21_15])
    · refine own_lift (fun tz kz => XS.ifYes Xg_14.here hx rfl (pc0 := 21) (pc' := 28) rfl (hb hby d4_21) rfl ((if0 _ _).trans (feq hc21_15).2) (by decide) (by decide) kz) ?_
      show own_Fin p e below _ (Tg_14.setTop (mkF m 28 #[.val (.ref a1), .val (.int (1 : Int32)), .unset] []))
      refine own_lift (fun tz kz => XS.iconst Xg_14.here hx rfl (hb hby d4_28) kz) ?_
      show own_Fin p e below _ (Tg_14.setTop (mkF m 29 #[.val (.ref a1), .val (.int (1 : Int32)), .unset] [(.int (0 : Int32))]))
      refine own_lift (fun tz kz => XS.goto Xg_14.here hx rfl (pc0 := 29) (pc' := 66) rfl (hb hby d4_29) (by decide) (by decide) kz) ?_
      show own_Fin p e below _ (Tg_14.setTop (mkF m 66 #[.val (.ref a1), .val (.int (1 : Int32)), .unset] [(.int (0 : Int32))]))
      exact j66 _ _ _ _ Xg_14 eg_14 N0 (by simp only [own_band4, if_pos hc4_12, if_neg hc21_15])
  · refine own_lift (fun tz kz => XS.ifYes Xg_11.here hx rfl (pc0 := 4) (pc' := 11) rfl (hb hby d4_4) rfl ((if0 _ _).trans (feq hc4_12).2) (by decide) (by decide) kz) ?_
    show own_Fin p e below _ (Tg_11.setTop (mkF m 11 #[.val (.ref a1), .unset, .unset] []))
    refine own_lift (fun tz kz => XS.iconst Xg_11.here hx rfl (hb hby d4_11) kz) ?_
    show own_Fin p e below _ (Tg_11.setTop (mkF m 12 #[.val (.ref a1), .unset, .unset] [(.int (0 : Int32))]))
    refine own_lift (fun tz kz => XS.istoreN Xg_11.here hx rfl (hb hby d4_12) rfl (l' := #[.val (.ref a1), .val (.int (0 : Int32)), .unset]) rfl kz) ?_
    show own_Fin p e below _ (Tg_11.setTop (mkF m 13 #[.val (.ref a1), .val (.int (0 : Int32)), .unset] []))
    refine own_lift (fun tz kz => XS.iloadN Xg_11.here hx rfl (hb hby d4_13) rfl kz) ?_
    show own_Fin p e below _ (Tg_11.setTop (mkF m 14 #[.val (.ref a1), .val (.int (0 : Int32)), .unset] [(.int (0 : Int32))]))
    refine own_lift (fun tz kz => XS.ifYes Xg_11.here hx rfl (pc0 := 14) (pc' := 32) rfl (hb hby d4_14) rfl ((if0 _ _).trans (teq (by decide : (0 : Int32) = (0 : Int32))).1) (by decide) (by decide) kz) ?_
    show own_Fin p e below _ (Tg_11.setTop (mkF m 32 #[.val (.ref a1), .val (.int (0 : Int32)), .unset] []))
    refine own_lift (fun tz kz => XS.aloadN Xg_11.here hx rfl (hb hby d4_32) rfl rfl kz) ?_
    show own_Fin p e below _ (Tg_11.setTop (mkF m 33 #[.val (.ref a1), .val (.int (0 : Int32)), .unset] [(.ref a1)]))
    obtain ⟨Tg_17, Xg_17, eg_17, stg_17⟩ := getF Xg_11 hx hZ hown (host := "") (Or.inl (hw _ (List.mem_of_getElem? (i := 19) rfl))) Via.refl eg_11 F_first (g := (mkF m 33 #[.val (.ref a1), .val (.int (0 : Int32)), .unset] [(.ref a1)])) rfl rfl (hb hby d4_33)
    refine own_lift (fun tz kz => stg_17 _ kz) ?_
    show own_Fin p e below _ (Tg_17.setTop (mkF m 36 #[.val (.ref a1), .val (.int (0 : Int32)), .unset] [(.int f)]))
    refine own_lift (fun tz kz => XS.aloadN Xg_17.here hx rfl (hb hby d4_36) rfl rfl kz) ?_
    show own_Fin p e below _ (Tg_17.setTop (mkF m 37 #[.val (.ref a1), .val (.int (0 : Int32)), .unset] [(.ref a1), (.int f)]))
    obtain ⟨Tg_18, Xg_18, eg_18, stg_18⟩ := getF Xg_17 hx hZ hown (host := "") (Or.inl (hw _ (List.mem_of_getElem? (i := 21) rfl))) Via.refl eg_17 F_last (g := (mkF m 37 #[.val (.ref a1), .val (.int (0 : Int32)), .unset] [(.ref a1), (.int f)])) rfl rfl (hb hby d4_37)
    refine own_lift (fun tz kz => stg_18 _ kz) ?_
    show own_Fin p e below _ (Tg_18.setTop (mkF m 40 #[.val (.ref a1), .val (.int (0 : Int32)), .unset] [(.int la), (.int f)]))
    by_cases hc40_19 : la < f
    · refine own_lift (fun tz kz => XS.icmpYes Xg_18.here hx rfl (pc0 := 40) (pc' := 65) rfl (hb hby d4_40) rfl (tlt hc40_19).2.2.1 (by decide) (by decide) kz) ?_
      show own_Fin p e below _ (Tg_18.setTop (mkF m 65 #[.val (.ref a1), .val (.int (0 : Int32)), .unset] []))
      refine own_lift (fun tz kz => XS.iconst Xg_18.here hx rfl (hb hby d4_65) kz) ?_
      show own_Fin p e below _ (Tg_18.setTop (mkF m 66 #[.val (.ref a1), .val (.int (0 : Int32)), .unset] [(.int (0 : Int32))]))
      exact j66 _ _ _ _ Xg_18 eg_18 N0 (by simp only [own_band4, if_neg hc4_12, if_pos hc40_19])
    · refine own_lift (fun tz kz => XS.icmpNo Xg_18.here hx rfl (hb hby d4_40) rfl (flt hc40_19).2.2.1 kz) ?_
      show own_Fin p e below _ (Tg_18.setTop (mkF m 43 #[.val (.ref a1), .val (.int (0 : Int32)), .unset] []))
      refine own_lift (fun tz kz => XS.aloadN Xg_18.here hx rfl (hb hby d4_43) rfl rfl kz) ?_
      show own_Fin p e below _ (Tg_18.setTop (mkF m 44 #[.val (.ref a1), .val (.int (0 : Int32)), .unset] [(.ref a1)]))
      obtain ⟨Tg_20, Xg_20, eg_20, stg_20⟩ := getF Xg_18 hx hZ hown (host := "") (Or.inl (hw _ (List.mem_of_getElem? (i := 21) rfl))) Via.refl eg_18 F_last (g := (mkF m 44 #[.val (.ref a1), .val (.int (0 : Int32)), .unset] [(.ref a1)])) rfl rfl (hb hby d4_44)
      refine own_lift (fun tz kz => stg_20 _ kz) ?_
      show own_Fin p e below _ (Tg_20.setTop (mkF m 47 #[.val (.ref a1), .val (.int (0 : Int32)), .unset] [(.int la)]))
      refine own_lift (fun tz kz => XS.bipush Xg_20.here hx rfl (hb hby d4_47) kz) ?_
      show own_Fin p e below _ (Tg_20.setTop (mkF m 49 #[.val (.ref a1), .val (.int (0 : Int32)), .unset] [(.int (64 : Int32)), (.int la)]))
      by_cases hc49_21 : la < (64 : Int32)
      · refine own_lift (fun tz kz => XS.icmpNo Xg_20.here hx rfl (hb hby d4_49) rfl (tlt hc49_21).2.1 kz) ?_
        show own_Fin p e below _ (Tg_20.setTop (mkF m 52 #[.val (.ref a1), .val (.int (0 : Int32)), .unset] []))
        refine own_lift (fun tz kz => XS.aloadN Xg_20.here hx rfl (hb hby d4_52) rfl rfl kz) ?_
        show own_Fin p e below _ (Tg_20.setTop (mkF m 53 #[.val (.ref a1), .val (.int (0 : Int32)), .unset] [(.ref a1)]))
        obtain ⟨Tg_22, Xg_22, eg_22, stg_22⟩ := getF Xg_20 hx hZ hown (host := "") (Or.inl (hw _ (List.mem_of_getElem? (i := 15) rfl))) Via.refl eg_20 F_ids (g := (mkF m 53 #[.val (.ref a1), .val (.int (0 : Int32)), .unset] [(.ref a1)])) rfl rfl (hb hby d4_53)
        refine own_lift (fun tz kz => stg_22 _ kz) ?_
        show own_Fin p e below _ (Tg_22.setTop (mkF m 56 #[.val (.ref a1), .val (.int (0 : Int32)), .unset] [(.ref t)]))
        refine own_lift (fun tz kz => Xg_22.arraylength hx (by rw [eg_22]; exact Ar.1) (State.isArrayOf_alike hZ.alike Ar.2.1) (g := (mkF m 56 #[.val (.ref a1), .val (.int (0 : Int32)), .unset] [(.ref t)])) rfl rfl (hb hby d4_56) _ kz) ?_
        rw [len_of S M]
        show own_Fin p e below _ (Tg_22.setTop (mkF m 57 #[.val (.ref a1), .val (.int (0 : Int32)), .unset] [(.int n)]))
        refine own_lift (fun tz kz => XS.iconst Xg_22.here hx rfl (hb hby d4_57) kz) ?_
        show own_Fin p e below _ (Tg_22.setTop (mkF m 58 #[.val (.ref a1), .val (.int (0 : Int32)), .unset] [(.int (1 : Int32)), (.int n)]))
        by_cases hc58_23 : n = (1 : Int32)
        · refine own_lift (fun tz kz => XS.icmpNo Xg_22.here hx rfl (hb hby d4_58) rfl (teq hc58_23).2 kz) ?_
          show own_Fin p e below _ (Tg_22.setTop (mkF m 61 #[.val (.ref a1), .val (.int (0 : Int32)), .unset] []))
          refine own_lift (fun tz kz => XS.iconst Xg_22.here hx rfl (hb hby d4_61) kz) ?_
          show own_Fin p e below _ (Tg_22.setTop (mkF m 62 #[.val (.ref a1), .val (.int (0 : Int32)), .unset] [(.int (1 : Int32))]))
          refine own_lift (fun tz kz => XS.goto Xg_22.here hx rfl (pc0 := 62) (pc' := 66) rfl (hb hby d4_62) (by decide) (by decide) kz) ?_
          show own_Fin p e below _ (Tg_22.setTop (mkF m 66 #[.val (.ref a1), .val (.int (0 : Int32)), .unset] [(.int (1 : Int32))]))
          exact j66 _ _ _ _ Xg_22 eg_22 N0 (by simp only [own_band4, if_neg hc4_12, if_neg hc40_19, if_pos hc49_21, if_pos hc58_23])
        · refine own_lift (fun tz kz => XS.icmpYes Xg_22.here hx rfl (pc0 := 58) (pc' := 65) rfl (hb hby d4_58) rfl (feq hc58_23).2 (by decide) (by decide) kz) ?_
          show own_Fin p e below _ (Tg_22.setTop (mkF m 65 #[.val (.ref a1), .val (.int (0 : Int32)), .unset] []))
          refine own_lift (fun tz kz => XS.iconst Xg_22.here hx rfl (hb hby d4_65) kz) ?_
          show own_Fin p e below _ (Tg_22.setTop (mkF m 66 #[.val (.ref a1), .val (.int (0 : Int32)), .unset] [(.int (0 : Int32))]))
          exact j66 _ _ _ _ Xg_22 eg_22 N0 (by simp only [own_band4, if_neg hc4_12, if_neg hc40_19, if_pos hc49_21, if_neg hc58_23])
      · refine own_lift (fun tz kz => XS.icmpYes Xg_20.here hx rfl (pc0 := 49) (pc' := 65) rfl (hb hby d4_49) rfl (flt hc49_21).2.1 (by decide) (by decide) kz) ?_
        show own_Fin p e below _ (Tg_20.setTop (mkF m 65 #[.val (.ref a1), .val (.int (0 : Int32)), .unset] []))
        refine own_lift (fun tz kz => XS.iconst Xg_20.here hx rfl (hb hby d4_65) kz) ?_
        show own_Fin p e below _ (Tg_20.setTop (mkF m 66 #[.val (.ref a1), .val (.int (0 : Int32)), .unset] [(.int (0 : Int32))]))
        exact j66 _ _ _ _ Xg_20 eg_20 N0 (by simp only [own_band4, if_neg hc4_12, if_neg hc40_19, if_neg hc49_21])
theorem d5_0 : decode method_3_code 0 = .ok (.iload_n 1, 1) := by decide +kernel
theorem d5_1 : decode method_3_code 1 = .ok (.ifCond .ne 17, 3) := by decide +kernel
theorem d5_4 : decode method_3_code 4 = .ok (.iload_n 2, 1) := by decide +kernel
theorem d5_5 : decode method_3_code 5 = .ok (.ifCond .ne 7, 3) := by decide +kernel
theorem d5_8 : decode method_3_code 8 = .ok (.iconst 1, 1) := by decide +kernel
theorem d5_9 : decode method_3_code 9 = .ok (.goto 4, 3) := by decide +kernel
theorem d5_12 : decode method_3_code 12 = .ok (.iconst 0, 1) := by decide +kernel
theorem d5_13 : decode method_3_code 13 = .ok (.istore 5, 2) := by decide +kernel
theorem d5_15 : decode method_3_code 15 = .ok (.goto 32, 3) := by decide +kernel
theorem d5_18 : decode method_3_code 18 = .ok (.iload_n 0, 1) := by decide +kernel
theorem d5_19 : decode method_3_code 19 = .ok (.iconst 1, 1) := by decide +kernel
theorem d5_20 : decode method_3_code 20 = .ok (.if_icmp .eq 9, 3) := by decide +kernel
theorem d5_23 : decode method_3_code 23 = .ok (.iconst 0, 1) := by decide +kernel
theorem d5_24 : decode method_3_code 24 = .ok (.istore 5, 2) := by decide +kernel
theorem d5_26 : decode method_3_code 26 = .ok (.goto 21, 3) := by decide +kernel
theorem d5_29 : decode method_3_code 29 = .ok (.iload_n 1, 1) := by decide +kernel
theorem d5_30 : decode method_3_code 30 = .ok (.iload_n 2, 1) := by decide +kernel
theorem d5_31 : decode method_3_code 31 = .ok (.if_icmp .gt 13, 3) := by decide +kernel
theorem d5_34 : decode method_3_code 34 = .ok (.iload_n 2, 1) := by decide +kernel
theorem d5_35 : decode method_3_code 35 = .ok (.bipush 63, 2) := by decide +kernel
theorem d5_37 : decode method_3_code 37 = .ok (.if_icmp .gt 7, 3) := by decide +kernel
theorem d5_40 : decode method_3_code 40 = .ok (.iconst 1, 1) := by decide +kernel
theorem d5_41 : decode method_3_code 41 = .ok (.goto 4, 3) := by decide +kernel
theorem d5_44 : decode method_3_code 44 = .ok (.iconst 0, 1) := by decide +kernel
theorem d5_45 : decode method_3_code 45 = .ok (.istore 5, 2) := by decide +kernel
theorem d5_47 : decode method_3_code 47 = .ok (.iload 4, 2) := by decide +kernel
theorem d5_49 : decode method_3_code 49 = .ok (.bipush 13, 2) := by decide +kernel
theorem d5_51 : decode method_3_code 51 = .ok (.if_icmp .le 9, 3) := by decide +kernel
theorem d5_54 : decode method_3_code 54 = .ok (.iconst 0, 1) := by decide +kernel
theorem d5_55 : decode method_3_code 55 = .ok (.istore 6, 2) := by decide +kernel
theorem d5_57 : decode method_3_code 57 = .ok (.goto 28, 3) := by decide +kernel
theorem d5_60 : decode method_3_code 60 = .ok (.iload_n 3, 1) := by decide +kernel
theorem d5_61 : decode method_3_code 61 = .ok (.ifCond .ne 9, 3) := by decide +kernel
theorem d5_64 : decode method_3_code 64 = .ok (.iconst 1, 1) := by decide +kernel
theorem d5_65 : decode method_3_code 65 = .ok (.istore 6, 2) := by decide +kernel
theorem d5_67 : decode method_3_code 67 = .ok (.goto 18, 3) := by decide +kernel
theorem d5_70 : decode method_3_code 70 = .ok (.iload 4, 2) := by decide +kernel
theorem d5_72 : decode method_3_code 72 = .ok (.iconst 1, 1) := by decide +kernel
theorem d5_73 : decode method_3_code 73 = .ok (.iadd, 1) := by decide +kernel
theorem d5_74 : decode method_3_code 74 = .ok (.iload_n 3, 1) := by decide +kernel
theorem d5_75 : decode method_3_code 75 = .ok (.if_icmp .ne 7, 3) := by decide +kernel
theorem d5_78 : decode method_3_code 78 = .ok (.iconst 1, 1) := by decide +kernel
theorem d5_79 : decode method_3_code 79 = .ok (.goto 4, 3) := by decide +kernel
theorem d5_82 : decode method_3_code 82 = .ok (.iconst 0, 1) := by decide +kernel
theorem d5_83 : decode method_3_code 83 = .ok (.istore 6, 2) := by decide +kernel
theorem d5_85 : decode method_3_code 85 = .ok (.iload 5, 2) := by decide +kernel
theorem d5_87 : decode method_3_code 87 = .ok (.ifCond .eq 12, 3) := by decide +kernel
theorem d5_90 : decode method_3_code 90 = .ok (.iload 6, 2) := by decide +kernel
theorem d5_92 : decode method_3_code 92 = .ok (.ifCond .eq 7, 3) := by decide +kernel
theorem d5_95 : decode method_3_code 95 = .ok (.iconst 1, 1) := by decide +kernel
theorem d5_96 : decode method_3_code 96 = .ok (.goto 4, 3) := by decide +kernel
theorem d5_99 : decode method_3_code 99 = .ok (.iconst 0, 1) := by decide +kernel
theorem d5_100 : decode method_3_code 100 = .ok (.ireturn, 1) := by decide +kernel
theorem pn_5 : plainName "com/example/proofsheet/proofsheet/media/ScanHeaderProgressivePinLaw" = true := by first | (simp [plainName, overriddenIn]; done) | decide +kernel
theorem ef_5 (m : MethodId) (x0 : Int32) (x1 : Int32) (x2 : Int32) (x3 : Int32) (x4 : Int32) : entryFrame m #[(.int x0), (.int x1), (.int x2), (.int x3), (.int x4)] 7 = mkF m 0 #[.val (.int x0), .val (.int x1), .val (.int x2), .val (.int x3), .val (.int x4), .unset, .unset] [] := by first | (simp [entryFrame, mkF, argsToLocals, Value.category]; done) | rfl
def Q5 (Z : State) (n f la hi lo : Int32) (h0 : Heap) (n0 : Nat) (v : Option Value) (h : Heap) (L : List Loc) : Prop := v = some (.int (own_R5 n f la hi lo)) ∧ Fr n0 L ∧ h = h0
set_option maxRecDepth 65536 in
set_option maxHeartbeats 40000000 in
theorem rm5 (l : Launch) (Z : State) (a0 : Array Value) (hw : ∀ d ∈ tables_1, d.before a0 Z = true) (ws : List Jvm.Cond) (n f la hi lo : Int32) (h0 : Heap) (n0 : Nat) (Z0 : n0 ≤ h0.size) :
    MetFree l (⟨"com/example/proofsheet/proofsheet/media/ScanHeaderProgressivePinLaw", "expected", "(IIIII)Z"⟩ : MethodName) (head1 (Jvm.Cond.code (⟨"com/example/proofsheet/proofsheet/media/ScanHeaderProgressivePinLaw", "expected", "(IIIII)Z"⟩ : MethodName) method_3_code 7 (some .boolean) :: ws) ({ frames := 0, cells := 0, slots := 0, locals := 0 } : Room)) (fun a U => a = #[(.int n), (.int f), (.int la), (.int hi), (.int lo)] ∧ Z.Warmed39 U.vm ∧ U.heap = h0) (fun _ _ _ _ _ => True) (fun _ U o U' => ∃ v L, o = .returned v ∧ Q5 Z n f la hi lo h0 n0 v U'.heap L ∧ FrameEnd U o U' L ({ frames := 0, cells := 0, slots := 0, locals := 0 } : Room).cells ({ frames := 0, cells := 0, slots := 0, locals := 0 } : Room).slots) := by
  refine MetFree.of_bodySF (plainFor_of_name pn_5) hisR ?_
  intro p e s m args below meth c s₁ Bd hml0 hP hK
  obtain ⟨rfl, hZ, hh⟩ := hP
  have hx := Bd.exec
  have hby := Bd.bytes
  have hml : c.maxLocals = 7 := hml0
  have hown : s.vm.findClass "com/example/proofsheet/proofsheet/media/ScanHeaderProgressivePinLaw" = some m.cls := findClass_of_methodNamed Bd.named
  have hnm := (name_of_methodNamed Bd.named Bd.method).1
  have X0 : Stand p l e ({ frames := 0, cells := 0, slots := 0, locals := 0 } : Room) s m #[(.int n), (.int f), (.int la), (.int hi), (.int lo)] below meth c s₁ [] 0 0 := Stand.of_body Bd
  have e0 : s₁.heap = h0 := by rw [← hh, Bd.state]; rfl
  have N0 := Fr.nil n0
  show own_Fin p e below (fun o U' => ∃ v L, o = .returned v ∧ Q5 Z n f la hi lo h0 n0 v U'.heap L ∧ FrameEnd s o U' L ({ frames := 0, cells := 0, slots := 0, locals := 0 } : Room).cells ({ frames := 0, cells := 0, slots := 0, locals := 0 } : Room).slots) (s₁.setTop (entryFrame m #[(.int n), (.int f), (.int la), (.int hi), (.int lo)] 7))
  have j85 : ∀ (T : State) (locs : List Loc) (b t : Int32), Stand p l e ({ frames := 0, cells := 0, slots := 0, locals := 0 } : Room) s m #[(.int n), (.int f), (.int la), (.int hi), (.int lo)] below meth c T locs 0 0 → T.heap = h0 → Fr n0 locs → own_band5 n f la = b → own_bits5 hi lo = t → own_Fin p e below (fun o U' => ∃ v L, o = .returned v ∧ Q5 Z n f la hi lo h0 n0 v U'.heap L ∧ FrameEnd s o U' L ({ frames := 0, cells := 0, slots := 0, locals := 0 } : Room).cells ({ frames := 0, cells := 0, slots := 0, locals := 0 } : Room).slots) (T.setTop (mkF m 85 #[.val (.int n), .val (.int f), .val (.int la), .val (.int hi), .val (.int lo), .val (.int b), .val (.int t)] [])) := by
    intro T locs b t X e1 N hB hT
    refine own_lift (fun tz kz => XS.iload X.here hx rfl (hb hby d5_85) rfl kz) ?_
    show own_Fin p e below _ (T.setTop (mkF m 87 #[.val (.int n), .val (.int f), .val (.int la), .val (.int hi), .val (.int lo), .val (.int b), .val (.int t)] [(.int b)]))
    by_cases hc87_1 : b = (0 : Int32)
    · refine own_lift (fun tz kz => XS.ifYes X.here hx rfl (pc0 := 87) (pc' := 99) rfl (hb hby d5_87) rfl ((if0 _ _).trans (teq hc87_1).1) (by decide) (by decide) kz) ?_
      show own_Fin p e below _ (T.setTop (mkF m 99 #[.val (.int n), .val (.int f), .val (.int la), .val (.int hi), .val (.int lo), .val (.int b), .val (.int t)] []))
      refine own_lift (fun tz kz => XS.iconst X.here hx rfl (hb hby d5_99) kz) ?_
      show own_Fin p e below _ (T.setTop (mkF m 100 #[.val (.int n), .val (.int f), .val (.int la), .val (.int hi), .val (.int lo), .val (.int b), .val (.int t)] [(.int (0 : Int32))]))
      obtain ⟨fs, hr, hrun, hended, hW, hsame⟩ := X.leave (v := some (.int (0 : Int32))) (fun h => by rw [Bd.returns] at h; cases h)
      exact ⟨_, _, retN X hx (t := .boolean) Bd.returns (by simp) (hb hby d5_100) hr, hrun, hended, _, _, rfl, ⟨by simp only [own_R5, hB, hT, if_pos hc87_1], N, e1⟩, ⟨_, rfl⟩, hW, hsame.mono (by decide) (by decide)⟩
    · refine own_lift (fun tz kz => XS.ifNo X.here hx rfl (hb hby d5_87) rfl ((if0 _ _).trans (feq hc87_1).1) kz) ?_
      show own_Fin p e below _ (T.setTop (mkF m 90 #[.val (.int n), .val (.int f), .val (.int la), .val (.int hi), .val (.int lo), .val (.int b), .val (.int t)] []))
      refine own_lift (fun tz kz => XS.iload X.here hx rfl (hb hby d5_90) rfl kz) ?_
      show own_Fin p e below _ (T.setTop (mkF m 92 #[.val (.int n), .val (.int f), .val (.int la), .val (.int hi), .val (.int lo), .val (.int b), .val (.int t)] [(.int t)]))
      by_cases hc92_2 : t = (0 : Int32)
      · refine own_lift (fun tz kz => XS.ifYes X.here hx rfl (pc0 := 92) (pc' := 99) rfl (hb hby d5_92) rfl ((if0 _ _).trans (teq hc92_2).1) (by decide) (by decide) kz) ?_
        show own_Fin p e below _ (T.setTop (mkF m 99 #[.val (.int n), .val (.int f), .val (.int la), .val (.int hi), .val (.int lo), .val (.int b), .val (.int t)] []))
        refine own_lift (fun tz kz => XS.iconst X.here hx rfl (hb hby d5_99) kz) ?_
        show own_Fin p e below _ (T.setTop (mkF m 100 #[.val (.int n), .val (.int f), .val (.int la), .val (.int hi), .val (.int lo), .val (.int b), .val (.int t)] [(.int (0 : Int32))]))
        obtain ⟨fs, hr, hrun, hended, hW, hsame⟩ := X.leave (v := some (.int (0 : Int32))) (fun h => by rw [Bd.returns] at h; cases h)
        exact ⟨_, _, retN X hx (t := .boolean) Bd.returns (by simp) (hb hby d5_100) hr, hrun, hended, _, _, rfl, ⟨by simp only [own_R5, hB, hT, if_neg hc87_1, if_pos hc92_2], N, e1⟩, ⟨_, rfl⟩, hW, hsame.mono (by decide) (by decide)⟩
      · refine own_lift (fun tz kz => XS.ifNo X.here hx rfl (hb hby d5_92) rfl ((if0 _ _).trans (feq hc92_2).1) kz) ?_
        show own_Fin p e below _ (T.setTop (mkF m 95 #[.val (.int n), .val (.int f), .val (.int la), .val (.int hi), .val (.int lo), .val (.int b), .val (.int t)] []))
        refine own_lift (fun tz kz => XS.iconst X.here hx rfl (hb hby d5_95) kz) ?_
        show own_Fin p e below _ (T.setTop (mkF m 96 #[.val (.int n), .val (.int f), .val (.int la), .val (.int hi), .val (.int lo), .val (.int b), .val (.int t)] [(.int (1 : Int32))]))
        refine own_lift (fun tz kz => XS.goto X.here hx rfl (pc0 := 96) (pc' := 100) rfl (hb hby d5_96) (by decide) (by decide) kz) ?_
        show own_Fin p e below _ (T.setTop (mkF m 100 #[.val (.int n), .val (.int f), .val (.int la), .val (.int hi), .val (.int lo), .val (.int b), .val (.int t)] [(.int (1 : Int32))]))
        obtain ⟨fs, hr, hrun, hended, hW, hsame⟩ := X.leave (v := some (.int (1 : Int32))) (fun h => by rw [Bd.returns] at h; cases h)
        exact ⟨_, _, retN X hx (t := .boolean) Bd.returns (by simp) (hb hby d5_100) hr, hrun, hended, _, _, rfl, ⟨by simp only [own_R5, hB, hT, if_neg hc87_1, if_neg hc92_2], N, e1⟩, ⟨_, rfl⟩, hW, hsame.mono (by decide) (by decide)⟩
  have j47 : ∀ (T : State) (locs : List Loc) (b : Int32), Stand p l e ({ frames := 0, cells := 0, slots := 0, locals := 0 } : Room) s m #[(.int n), (.int f), (.int la), (.int hi), (.int lo)] below meth c T locs 0 0 → T.heap = h0 → Fr n0 locs → own_band5 n f la = b → own_Fin p e below (fun o U' => ∃ v L, o = .returned v ∧ Q5 Z n f la hi lo h0 n0 v U'.heap L ∧ FrameEnd s o U' L ({ frames := 0, cells := 0, slots := 0, locals := 0 } : Room).cells ({ frames := 0, cells := 0, slots := 0, locals := 0 } : Room).slots) (T.setTop (mkF m 47 #[.val (.int n), .val (.int f), .val (.int la), .val (.int hi), .val (.int lo), .val (.int b), .unset] [])) := by
    intro T locs b X e1 N hB
    refine own_lift (fun tz kz => XS.iload X.here hx rfl (hb hby d5_47) rfl kz) ?_
    show own_Fin p e below _ (T.setTop (mkF m 49 #[.val (.int n), .val (.int f), .val (.int la), .val (.int hi), .val (.int lo), .val (.int b), .unset] [(.int lo)]))
    refine own_lift (fun tz kz => XS.bipush X.here hx rfl (hb hby d5_49) kz) ?_
    show own_Fin p e below _ (T.setTop (mkF m 51 #[.val (.int n), .val (.int f), .val (.int la), .val (.int hi), .val (.int lo), .val (.int b), .unset] [(.int (13 : Int32)), (.int lo)]))
    by_cases hc51_3 : (13 : Int32) < lo
    · refine own_lift (fun tz kz => XS.icmpNo X.here hx rfl (hb hby d5_51) rfl (tlt hc51_3).2.2.2 kz) ?_
      show own_Fin p e below _ (T.setTop (mkF m 54 #[.val (.int n), .val (.int f), .val (.int la), .val (.int hi), .val (.int lo), .val (.int b), .unset] []))
      refine own_lift (fun tz kz => XS.iconst X.here hx rfl (hb hby d5_54) kz) ?_
      show own_Fin p e below _ (T.setTop (mkF m 55 #[.val (.int n), .val (.int f), .val (.int la), .val (.int hi), .val (.int lo), .val (.int b), .unset] [(.int (0 : Int32))]))
      refine own_lift (fun tz kz => XS.istore X.here hx rfl (hb hby d5_55) rfl (l' := #[.val (.int n), .val (.int f), .val (.int la), .val (.int hi), .val (.int lo), .val (.int b), .val (.int (0 : Int32))]) rfl kz) ?_
      show own_Fin p e below _ (T.setTop (mkF m 57 #[.val (.int n), .val (.int f), .val (.int la), .val (.int hi), .val (.int lo), .val (.int b), .val (.int (0 : Int32))] []))
      refine own_lift (fun tz kz => XS.goto X.here hx rfl (pc0 := 57) (pc' := 85) rfl (hb hby d5_57) (by decide) (by decide) kz) ?_
      show own_Fin p e below _ (T.setTop (mkF m 85 #[.val (.int n), .val (.int f), .val (.int la), .val (.int hi), .val (.int lo), .val (.int b), .val (.int (0 : Int32))] []))
      exact j85 _ _ _ _ X e1 N hB (by simp only [own_bits5, if_pos hc51_3])
    · refine own_lift (fun tz kz => XS.icmpYes X.here hx rfl (pc0 := 51) (pc' := 60) rfl (hb hby d5_51) rfl (flt hc51_3).2.2.2 (by decide) (by decide) kz) ?_
      show own_Fin p e below _ (T.setTop (mkF m 60 #[.val (.int n), .val (.int f), .val (.int la), .val (.int hi), .val (.int lo), .val (.int b), .unset] []))
      refine own_lift (fun tz kz => XS.iloadN X.here hx rfl (hb hby d5_60) rfl kz) ?_
      show own_Fin p e below _ (T.setTop (mkF m 61 #[.val (.int n), .val (.int f), .val (.int la), .val (.int hi), .val (.int lo), .val (.int b), .unset] [(.int hi)]))
      by_cases hc61_4 : hi = (0 : Int32)
      · refine own_lift (fun tz kz => XS.ifNo X.here hx rfl (hb hby d5_61) rfl ((if0 _ _).trans (teq hc61_4).2) kz) ?_
        show own_Fin p e below _ (T.setTop (mkF m 64 #[.val (.int n), .val (.int f), .val (.int la), .val (.int hi), .val (.int lo), .val (.int b), .unset] []))
        refine own_lift (fun tz kz => XS.iconst X.here hx rfl (hb hby d5_64) kz) ?_
        show own_Fin p e below _ (T.setTop (mkF m 65 #[.val (.int n), .val (.int f), .val (.int la), .val (.int hi), .val (.int lo), .val (.int b), .unset] [(.int (1 : Int32))]))
        refine own_lift (fun tz kz => XS.istore X.here hx rfl (hb hby d5_65) rfl (l' := #[.val (.int n), .val (.int f), .val (.int la), .val (.int hi), .val (.int lo), .val (.int b), .val (.int (1 : Int32))]) rfl kz) ?_
        show own_Fin p e below _ (T.setTop (mkF m 67 #[.val (.int n), .val (.int f), .val (.int la), .val (.int hi), .val (.int lo), .val (.int b), .val (.int (1 : Int32))] []))
        refine own_lift (fun tz kz => XS.goto X.here hx rfl (pc0 := 67) (pc' := 85) rfl (hb hby d5_67) (by decide) (by decide) kz) ?_
        show own_Fin p e below _ (T.setTop (mkF m 85 #[.val (.int n), .val (.int f), .val (.int la), .val (.int hi), .val (.int lo), .val (.int b), .val (.int (1 : Int32))] []))
        exact j85 _ _ _ _ X e1 N hB (by simp only [own_bits5, if_neg hc51_3, if_pos hc61_4])
      · refine own_lift (fun tz kz => XS.ifYes X.here hx rfl (pc0 := 61) (pc' := 70) rfl (hb hby d5_61) rfl ((if0 _ _).trans (feq hc61_4).2) (by decide) (by decide) kz) ?_
        show own_Fin p e below _ (T.setTop (mkF m 70 #[.val (.int n), .val (.int f), .val (.int la), .val (.int hi), .val (.int lo), .val (.int b), .unset] []))
        refine own_lift (fun tz kz => XS.iload X.here hx rfl (hb hby d5_70) rfl kz) ?_
        show own_Fin p e below _ (T.setTop (mkF m 72 #[.val (.int n), .val (.int f), .val (.int la), .val (.int hi), .val (.int lo), .val (.int b), .unset] [(.int lo)]))
        refine own_lift (fun tz kz => XS.iconst X.here hx rfl (hb hby d5_72) kz) ?_
        show own_Fin p e below _ (T.setTop (mkF m 73 #[.val (.int n), .val (.int f), .val (.int la), .val (.int hi), .val (.int lo), .val (.int b), .unset] [(.int (1 : Int32)), (.int lo)]))
        refine own_lift (fun tz kz => XS.iadd X.here hx rfl (hb hby d5_73) rfl kz) ?_
        show own_Fin p e below _ (T.setTop (mkF m 74 #[.val (.int n), .val (.int f), .val (.int la), .val (.int hi), .val (.int lo), .val (.int b), .unset] [(.int (lo + (1 : Int32)))]))
        refine own_lift (fun tz kz => XS.iloadN X.here hx rfl (hb hby d5_74) rfl kz) ?_
        show own_Fin p e below _ (T.setTop (mkF m 75 #[.val (.int n), .val (.int f), .val (.int la), .val (.int hi), .val (.int lo), .val (.int b), .unset] [(.int hi), (.int (lo + (1 : Int32)))]))
        by_cases hc75_5 : (lo + (1 : Int32)) = hi
        · refine own_lift (fun tz kz => XS.icmpNo X.here hx rfl (hb hby d5_75) rfl (teq hc75_5).2 kz) ?_
          show own_Fin p e below _ (T.setTop (mkF m 78 #[.val (.int n), .val (.int f), .val (.int la), .val (.int hi), .val (.int lo), .val (.int b), .unset] []))
          refine own_lift (fun tz kz => XS.iconst X.here hx rfl (hb hby d5_78) kz) ?_
          show own_Fin p e below _ (T.setTop (mkF m 79 #[.val (.int n), .val (.int f), .val (.int la), .val (.int hi), .val (.int lo), .val (.int b), .unset] [(.int (1 : Int32))]))
          refine own_lift (fun tz kz => XS.goto X.here hx rfl (pc0 := 79) (pc' := 83) rfl (hb hby d5_79) (by decide) (by decide) kz) ?_
          show own_Fin p e below _ (T.setTop (mkF m 83 #[.val (.int n), .val (.int f), .val (.int la), .val (.int hi), .val (.int lo), .val (.int b), .unset] [(.int (1 : Int32))]))
          refine own_lift (fun tz kz => XS.istore X.here hx rfl (hb hby d5_83) rfl (l' := #[.val (.int n), .val (.int f), .val (.int la), .val (.int hi), .val (.int lo), .val (.int b), .val (.int (1 : Int32))]) rfl kz) ?_
          show own_Fin p e below _ (T.setTop (mkF m 85 #[.val (.int n), .val (.int f), .val (.int la), .val (.int hi), .val (.int lo), .val (.int b), .val (.int (1 : Int32))] []))
          exact j85 _ _ _ _ X e1 N hB (by simp only [own_bits5, if_neg hc51_3, if_neg hc61_4, if_pos hc75_5])
        · refine own_lift (fun tz kz => XS.icmpYes X.here hx rfl (pc0 := 75) (pc' := 82) rfl (hb hby d5_75) rfl (feq hc75_5).2 (by decide) (by decide) kz) ?_
          show own_Fin p e below _ (T.setTop (mkF m 82 #[.val (.int n), .val (.int f), .val (.int la), .val (.int hi), .val (.int lo), .val (.int b), .unset] []))
          refine own_lift (fun tz kz => XS.iconst X.here hx rfl (hb hby d5_82) kz) ?_
          show own_Fin p e below _ (T.setTop (mkF m 83 #[.val (.int n), .val (.int f), .val (.int la), .val (.int hi), .val (.int lo), .val (.int b), .unset] [(.int (0 : Int32))]))
          refine own_lift (fun tz kz => XS.istore X.here hx rfl (hb hby d5_83) rfl (l' := #[.val (.int n), .val (.int f), .val (.int la), .val (.int hi), .val (.int lo), .val (.int b), .val (.int (0 : Int32))]) rfl kz) ?_
          show own_Fin p e below _ (T.setTop (mkF m 85 #[.val (.int n), .val (.int f), .val (.int la), .val (.int hi), .val (.int lo), .val (.int b), .val (.int (0 : Int32))] []))
          exact j85 _ _ _ _ X e1 N hB (by simp only [own_bits5, if_neg hc51_3, if_neg hc61_4, if_neg hc75_5])
  refine own_lift (fun tz kz => castTop (ef_5 m n f la hi lo) kz) ?_
  show own_Fin p e below _ (s₁.setTop (mkF m 0 #[.val (.int n), .val (.int f), .val (.int la), .val (.int hi), .val (.int lo), .unset, .unset] []))
  refine own_lift (fun tz kz => XS.iloadN X0.here hx rfl (hb hby d5_0) rfl kz) ?_
  show own_Fin p e below _ (s₁.setTop (mkF m 1 #[.val (.int n), .val (.int f), .val (.int la), .val (.int hi), .val (.int lo), .unset, .unset] [(.int f)]))
  by_cases hc1_6 : f = (0 : Int32)
  · refine own_lift (fun tz kz => XS.ifNo X0.here hx rfl (hb hby d5_1) rfl ((if0 _ _).trans (teq hc1_6).2) kz) ?_
    show own_Fin p e below _ (s₁.setTop (mkF m 4 #[.val (.int n), .val (.int f), .val (.int la), .val (.int hi), .val (.int lo), .unset, .unset] []))
    refine own_lift (fun tz kz => XS.iloadN X0.here hx rfl (hb hby d5_4) rfl kz) ?_
    show own_Fin p e below _ (s₁.setTop (mkF m 5 #[.val (.int n), .val (.int f), .val (.int la), .val (.int hi), .val (.int lo), .unset, .unset] [(.int la)]))
    by_cases hc5_7 : la = (0 : Int32)
    · refine own_lift (fun tz kz => XS.ifNo X0.here hx rfl (hb hby d5_5) rfl ((if0 _ _).trans (teq hc5_7).2) kz) ?_
      show own_Fin p e below _ (s₁.setTop (mkF m 8 #[.val (.int n), .val (.int f), .val (.int la), .val (.int hi), .val (.int lo), .unset, .unset] []))
      refine own_lift (fun tz kz => XS.iconst X0.here hx rfl (hb hby d5_8) kz) ?_
      show own_Fin p e below _ (s₁.setTop (mkF m 9 #[.val (.int n), .val (.int f), .val (.int la), .val (.int hi), .val (.int lo), .unset, .unset] [(.int (1 : Int32))]))
      refine own_lift (fun tz kz => XS.goto X0.here hx rfl (pc0 := 9) (pc' := 13) rfl (hb hby d5_9) (by decide) (by decide) kz) ?_
      show own_Fin p e below _ (s₁.setTop (mkF m 13 #[.val (.int n), .val (.int f), .val (.int la), .val (.int hi), .val (.int lo), .unset, .unset] [(.int (1 : Int32))]))
      refine own_lift (fun tz kz => XS.istore X0.here hx rfl (hb hby d5_13) rfl (l' := #[.val (.int n), .val (.int f), .val (.int la), .val (.int hi), .val (.int lo), .val (.int (1 : Int32)), .unset]) rfl kz) ?_
      show own_Fin p e below _ (s₁.setTop (mkF m 15 #[.val (.int n), .val (.int f), .val (.int la), .val (.int hi), .val (.int lo), .val (.int (1 : Int32)), .unset] []))
      refine own_lift (fun tz kz => XS.goto X0.here hx rfl (pc0 := 15) (pc' := 47) rfl (hb hby d5_15) (by decide) (by decide) kz) ?_
      show own_Fin p e below _ (s₁.setTop (mkF m 47 #[.val (.int n), .val (.int f), .val (.int la), .val (.int hi), .val (.int lo), .val (.int (1 : Int32)), .unset] []))
      exact j47 _ _ _ X0 e0 N0 (by simp only [own_band5, if_pos hc1_6, if_pos hc5_7])
    · refine own_lift (fun tz kz => XS.ifYes X0.here hx rfl (pc0 := 5) (pc' := 12) rfl (hb hby d5_5) rfl ((if0 _ _).trans (feq hc5_7).2) (by decide) (by decide) kz) ?_
      show own_Fin p e below _ (s₁.setTop (mkF m 12 #[.val (.int n), .val (.int f), .val (.int la), .val (.int hi), .val (.int lo), .unset, .unset] []))
      refine own_lift (fun tz kz => XS.iconst X0.here hx rfl (hb hby d5_12) kz) ?_
      show own_Fin p e below _ (s₁.setTop (mkF m 13 #[.val (.int n), .val (.int f), .val (.int la), .val (.int hi), .val (.int lo), .unset, .unset] [(.int (0 : Int32))]))
      refine own_lift (fun tz kz => XS.istore X0.here hx rfl (hb hby d5_13) rfl (l' := #[.val (.int n), .val (.int f), .val (.int la), .val (.int hi), .val (.int lo), .val (.int (0 : Int32)), .unset]) rfl kz) ?_
      show own_Fin p e below _ (s₁.setTop (mkF m 15 #[.val (.int n), .val (.int f), .val (.int la), .val (.int hi), .val (.int lo), .val (.int (0 : Int32)), .unset] []))
      refine own_lift (fun tz kz => XS.goto X0.here hx rfl (pc0 := 15) (pc' := 47) rfl (hb hby d5_15) (by decide) (by decide) kz) ?_
      show own_Fin p e below _ (s₁.setTop (mkF m 47 #[.val (.int n), .val (.int f), .val (.int la), .val (.int hi), .val (.int lo), .val (.int (0 : Int32)), .unset] []))
      exact j47 _ _ _ X0 e0 N0 (by simp only [own_band5, if_pos hc1_6, if_neg hc5_7])
  · refine own_lift (fun tz kz => XS.ifYes X0.here hx rfl (pc0 := 1) (pc' := 18) rfl (hb hby d5_1) rfl ((if0 _ _).trans (feq hc1_6).2) (by decide) (by decide) kz) ?_
    show own_Fin p e below _ (s₁.setTop (mkF m 18 #[.val (.int n), .val (.int f), .val (.int la), .val (.int hi), .val (.int lo), .unset, .unset] []))
    refine own_lift (fun tz kz => XS.iloadN X0.here hx rfl (hb hby d5_18) rfl kz) ?_
    show own_Fin p e below _ (s₁.setTop (mkF m 19 #[.val (.int n), .val (.int f), .val (.int la), .val (.int hi), .val (.int lo), .unset, .unset] [(.int n)]))
    refine own_lift (fun tz kz => XS.iconst X0.here hx rfl (hb hby d5_19) kz) ?_
    show own_Fin p e below _ (s₁.setTop (mkF m 20 #[.val (.int n), .val (.int f), .val (.int la), .val (.int hi), .val (.int lo), .unset, .unset] [(.int (1 : Int32)), (.int n)]))
    by_cases hc20_8 : n = (1 : Int32)
    · refine own_lift (fun tz kz => XS.icmpYes X0.here hx rfl (pc0 := 20) (pc' := 29) rfl (hb hby d5_20) rfl (teq hc20_8).1 (by decide) (by decide) kz) ?_
      show own_Fin p e below _ (s₁.setTop (mkF m 29 #[.val (.int n), .val (.int f), .val (.int la), .val (.int hi), .val (.int lo), .unset, .unset] []))
      refine own_lift (fun tz kz => XS.iloadN X0.here hx rfl (hb hby d5_29) rfl kz) ?_
      show own_Fin p e below _ (s₁.setTop (mkF m 30 #[.val (.int n), .val (.int f), .val (.int la), .val (.int hi), .val (.int lo), .unset, .unset] [(.int f)]))
      refine own_lift (fun tz kz => XS.iloadN X0.here hx rfl (hb hby d5_30) rfl kz) ?_
      show own_Fin p e below _ (s₁.setTop (mkF m 31 #[.val (.int n), .val (.int f), .val (.int la), .val (.int hi), .val (.int lo), .unset, .unset] [(.int la), (.int f)]))
      by_cases hc31_9 : la < f
      · refine own_lift (fun tz kz => XS.icmpYes X0.here hx rfl (pc0 := 31) (pc' := 44) rfl (hb hby d5_31) rfl (tlt hc31_9).2.2.1 (by decide) (by decide) kz) ?_
        show own_Fin p e below _ (s₁.setTop (mkF m 44 #[.val (.int n), .val (.int f), .val (.int la), .val (.int hi), .val (.int lo), .unset, .unset] []))
        refine own_lift (fun tz kz => XS.iconst X0.here hx rfl (hb hby d5_44) kz) ?_
        show own_Fin p e below _ (s₁.setTop (mkF m 45 #[.val (.int n), .val (.int f), .val (.int la), .val (.int hi), .val (.int lo), .unset, .unset] [(.int (0 : Int32))]))
        refine own_lift (fun tz kz => XS.istore X0.here hx rfl (hb hby d5_45) rfl (l' := #[.val (.int n), .val (.int f), .val (.int la), .val (.int hi), .val (.int lo), .val (.int (0 : Int32)), .unset]) rfl kz) ?_
        show own_Fin p e below _ (s₁.setTop (mkF m 47 #[.val (.int n), .val (.int f), .val (.int la), .val (.int hi), .val (.int lo), .val (.int (0 : Int32)), .unset] []))
        exact j47 _ _ _ X0 e0 N0 (by simp only [own_band5, if_neg hc1_6, if_pos hc20_8, if_pos hc31_9])
      · refine own_lift (fun tz kz => XS.icmpNo X0.here hx rfl (hb hby d5_31) rfl (flt hc31_9).2.2.1 kz) ?_
        show own_Fin p e below _ (s₁.setTop (mkF m 34 #[.val (.int n), .val (.int f), .val (.int la), .val (.int hi), .val (.int lo), .unset, .unset] []))
        refine own_lift (fun tz kz => XS.iloadN X0.here hx rfl (hb hby d5_34) rfl kz) ?_
        show own_Fin p e below _ (s₁.setTop (mkF m 35 #[.val (.int n), .val (.int f), .val (.int la), .val (.int hi), .val (.int lo), .unset, .unset] [(.int la)]))
        refine own_lift (fun tz kz => XS.bipush X0.here hx rfl (hb hby d5_35) kz) ?_
        show own_Fin p e below _ (s₁.setTop (mkF m 37 #[.val (.int n), .val (.int f), .val (.int la), .val (.int hi), .val (.int lo), .unset, .unset] [(.int (63 : Int32)), (.int la)]))
        by_cases hc37_10 : (63 : Int32) < la
        · refine own_lift (fun tz kz => XS.icmpYes X0.here hx rfl (pc0 := 37) (pc' := 44) rfl (hb hby d5_37) rfl (tlt hc37_10).2.2.1 (by decide) (by decide) kz) ?_
          show own_Fin p e below _ (s₁.setTop (mkF m 44 #[.val (.int n), .val (.int f), .val (.int la), .val (.int hi), .val (.int lo), .unset, .unset] []))
          refine own_lift (fun tz kz => XS.iconst X0.here hx rfl (hb hby d5_44) kz) ?_
          show own_Fin p e below _ (s₁.setTop (mkF m 45 #[.val (.int n), .val (.int f), .val (.int la), .val (.int hi), .val (.int lo), .unset, .unset] [(.int (0 : Int32))]))
          refine own_lift (fun tz kz => XS.istore X0.here hx rfl (hb hby d5_45) rfl (l' := #[.val (.int n), .val (.int f), .val (.int la), .val (.int hi), .val (.int lo), .val (.int (0 : Int32)), .unset]) rfl kz) ?_
          show own_Fin p e below _ (s₁.setTop (mkF m 47 #[.val (.int n), .val (.int f), .val (.int la), .val (.int hi), .val (.int lo), .val (.int (0 : Int32)), .unset] []))
          exact j47 _ _ _ X0 e0 N0 (by simp only [own_band5, if_neg hc1_6, if_pos hc20_8, if_neg hc31_9, if_pos hc37_10])
        · refine own_lift (fun tz kz => XS.icmpNo X0.here hx rfl (hb hby d5_37) rfl (flt hc37_10).2.2.1 kz) ?_
          show own_Fin p e below _ (s₁.setTop (mkF m 40 #[.val (.int n), .val (.int f), .val (.int la), .val (.int hi), .val (.int lo), .unset, .unset] []))
          refine own_lift (fun tz kz => XS.iconst X0.here hx rfl (hb hby d5_40) kz) ?_
          show own_Fin p e below _ (s₁.setTop (mkF m 41 #[.val (.int n), .val (.int f), .val (.int la), .val (.int hi), .val (.int lo), .unset, .unset] [(.int (1 : Int32))]))
          refine own_lift (fun tz kz => XS.goto X0.here hx rfl (pc0 := 41) (pc' := 45) rfl (hb hby d5_41) (by decide) (by decide) kz) ?_
          show own_Fin p e below _ (s₁.setTop (mkF m 45 #[.val (.int n), .val (.int f), .val (.int la), .val (.int hi), .val (.int lo), .unset, .unset] [(.int (1 : Int32))]))
          refine own_lift (fun tz kz => XS.istore X0.here hx rfl (hb hby d5_45) rfl (l' := #[.val (.int n), .val (.int f), .val (.int la), .val (.int hi), .val (.int lo), .val (.int (1 : Int32)), .unset]) rfl kz) ?_
          show own_Fin p e below _ (s₁.setTop (mkF m 47 #[.val (.int n), .val (.int f), .val (.int la), .val (.int hi), .val (.int lo), .val (.int (1 : Int32)), .unset] []))
          exact j47 _ _ _ X0 e0 N0 (by simp only [own_band5, if_neg hc1_6, if_pos hc20_8, if_neg hc31_9, if_neg hc37_10])
    · refine own_lift (fun tz kz => XS.icmpNo X0.here hx rfl (hb hby d5_20) rfl (feq hc20_8).1 kz) ?_
      show own_Fin p e below _ (s₁.setTop (mkF m 23 #[.val (.int n), .val (.int f), .val (.int la), .val (.int hi), .val (.int lo), .unset, .unset] []))
      refine own_lift (fun tz kz => XS.iconst X0.here hx rfl (hb hby d5_23) kz) ?_
      show own_Fin p e below _ (s₁.setTop (mkF m 24 #[.val (.int n), .val (.int f), .val (.int la), .val (.int hi), .val (.int lo), .unset, .unset] [(.int (0 : Int32))]))
      refine own_lift (fun tz kz => XS.istore X0.here hx rfl (hb hby d5_24) rfl (l' := #[.val (.int n), .val (.int f), .val (.int la), .val (.int hi), .val (.int lo), .val (.int (0 : Int32)), .unset]) rfl kz) ?_
      show own_Fin p e below _ (s₁.setTop (mkF m 26 #[.val (.int n), .val (.int f), .val (.int la), .val (.int hi), .val (.int lo), .val (.int (0 : Int32)), .unset] []))
      refine own_lift (fun tz kz => XS.goto X0.here hx rfl (pc0 := 26) (pc' := 47) rfl (hb hby d5_26) (by decide) (by decide) kz) ?_
      show own_Fin p e below _ (s₁.setTop (mkF m 47 #[.val (.int n), .val (.int f), .val (.int la), .val (.int hi), .val (.int lo), .val (.int (0 : Int32)), .unset] []))
      exact j47 _ _ _ X0 e0 N0 (by simp only [own_band5, if_neg hc1_6, if_neg hc20_8])
theorem pn_0 : plainName "com/example/proofsheet/proofsheet/media/ScanHeaderProgressivePinLaw" = true := by first | (simp [plainName, overriddenIn]; done) | decide +kernel
theorem pd_0_0 : parseMethodDescriptor "([I[IIIII)V" = some ⟨[(.array .int), (.array .int), .int, .int, .int, .int], none⟩ := by decide +kernel
theorem pd_0_2 : parseMethodDescriptor "()Z" = some ⟨[], some .boolean⟩ := by decide +kernel
theorem pd_0_3 : parseMethodDescriptor "(IIIII)Z" = some ⟨[.int, .int, .int, .int, .int], some .boolean⟩ := by decide +kernel
theorem ef_0 (m : MethodId) (x0 : Int32) (x1 : Int32) (x2 : Int32) (x3 : Int32) (x4 : Int32) (x5 : Int32) : entryFrame m #[(.int x0), (.int x1), (.int x2), (.int x3), (.int x4), (.int x5)] maxLocals = mkF m 0 #[.val (.int x0), .val (.int x1), .val (.int x2), .val (.int x3), .val (.int x4), .val (.int x5), .unset, .unset, .unset, .unset, .unset] [] := by first | (simp [entryFrame, mkF, argsToLocals, Value.category, maxLocals]; done) | rfl
def Q0 (Z : State) (p1 : Int32) (p2 : Int32) (p3 : Int32) (p4 : Int32) (p5 : Int32) (p6 : Int32) (h0 : Heap) (n0 : Nat) (v : Option Value) (h : Heap) (L : List Loc) : Prop := v = some (.int (1 : Int32)) ∧ Fr n0 L
set_option maxRecDepth 65536 in
set_option maxHeartbeats 40000000 in
theorem rm0 (l : Launch) (Z : State) (a0 : Array Value) (hw : ∀ d ∈ tables_1, d.before a0 Z = true) (ws : List Jvm.Cond) (p1 : Int32) (p2 : Int32) (p3 : Int32) (p4 : Int32) (p5 : Int32) (p6 : Int32) (h0 : Heap) (n0 : Nat) (Z0 : n0 ≤ h0.size) :
    MetFree l x (head1 (Jvm.Cond.code x code maxLocals ret :: ws) room_1) (fun a U => a = #[(.int p1), (.int p2), (.int p3), (.int p4), (.int p5), (.int p6)] ∧ Z.Warmed39 U.vm ∧ U.heap = h0) (fun _ _ _ _ _ => True) (fun _ U o U' => ∃ v L, o = .returned v ∧ Q0 Z p1 p2 p3 p4 p5 p6 h0 n0 v U'.heap L ∧ FrameEnd U o U' L room_1.cells room_1.slots) := by
  refine MetFree.of_bodySF (plainFor_of_name pn_0) hisR ?_
  intro p e s m args below meth c s₁ Bd hml0 hP hK
  obtain ⟨rfl, hZ, hh⟩ := hP
  have hx := Bd.exec
  have hby := Bd.bytes
  have hml : c.maxLocals = 11 := hml0
  have hown : s.vm.findClass "com/example/proofsheet/proofsheet/media/ScanHeaderProgressivePinLaw" = some m.cls := findClass_of_methodNamed Bd.named
  have hnm := (name_of_methodNamed Bd.named Bd.method).1
  have X0 : Stand p l e room_1 s m #[(.int p1), (.int p2), (.int p3), (.int p4), (.int p5), (.int p6)] below meth c s₁ [] 0 0 := Stand.of_body Bd
  have e0 : s₁.heap = h0 := by rw [← hh, Bd.state]; rfl
  have N0 := Fr.nil n0
  have pre0 : ∀ t, Steps p.tables e below (s₁.setTop (mkF m 0 #[.val (.int p1), .val (.int p2), .val (.int p3), .val (.int p4), .val (.int p5), .val (.int p6), .unset, .unset, .unset, .unset, .unset] [])) t → Steps p.tables e below (s₁.setTop (entryFrame m #[(.int p1), (.int p2), (.int p3), (.int p4), (.int p5), (.int p6)] maxLocals)) t := fun t k => castTop (ef_0 m p1 p2 p3 p4 p5 p6) k
  obtain ⟨T7, h7, k7, X7, e7, E7, A7, st7⟩ := newP X0 hx hZ (hw _ (List.mem_of_getElem? (i := 0) rfl)) e0 (g := (mkF m 9 #[.val (.int p1), .val (.int p2), .val (.int p3), .val (.int p4), .val (.int p5), .val (.int p6), .val (.int ((1 : Int32) + (p1 &&& (3 : Int32)))), .unset, .unset, .unset, .unset] [(.int ((1 : Int32) + (p1 &&& (3 : Int32))))])) rfl (hb hby at_9) rfl (own_n p1).1 (cap := 4) (own_n p1).2.1 (by decide) (by decide) (by decide)
  obtain ⟨b7, g7⟩ : ∃ z, z = h0.size := ⟨_, rfl⟩
  rw [← g7] at A7 st7
  have V_b7 : Arv Z h7 b7 k7 .int ((1 : Int32) + (p1 &&& (3 : Int32))) [(.int (0 : Int32))] (.int (0 : Int32)) := (Arv.new A7 (own_n p1).1).pad (pad_rep [] (.int (0 : Int32)) 1)
  have g_b7 : n0 ≤ b7 := Nat.le_trans Z0 (Nat.le_of_eq g7.symm)
  have sz_b7 : h0.size ≤ b7 := (Nat.le_trans (Keep.refl h0 []).1 (Nat.le_of_eq g7.symm))
  have K7 : Keep h0 h7 [] := (Keep.refl h0 []).ext E7
  obtain ⟨T8, h8, k8, X8, e8, E8, A8, st8⟩ := newP X7 hx hZ (hw _ (List.mem_of_getElem? (i := 0) rfl)) e7 (g := (mkF m 15 #[.val (.int p1), .val (.int p2), .val (.int p3), .val (.int p4), .val (.int p5), .val (.int p6), .val (.int ((1 : Int32) + (p1 &&& (3 : Int32)))), .val (.ref b7), .unset, .unset, .unset] [(.int ((1 : Int32) + (p1 &&& (3 : Int32))))])) rfl (hb hby at_15) rfl (own_n p1).1 (cap := 4) (own_n p1).2.1 (by decide) (by decide) (by decide)
  obtain ⟨b8, g8⟩ : ∃ z, z = h7.size := ⟨_, rfl⟩
  rw [← g8] at A8 st8
  have V_b8 : Arv Z h8 b8 k8 .int ((1 : Int32) + (p1 &&& (3 : Int32))) [(.int (0 : Int32))] (.int (0 : Int32)) := (Arv.new A8 (own_n p1).1).pad (pad_rep [] (.int (0 : Int32)) 1)
  have g_b8 : n0 ≤ b8 := Nat.le_trans (Nat.le_trans Z0 E7.1) (Nat.le_of_eq g8.symm)
  have sz_b8 : h0.size ≤ b8 := (Nat.le_trans K7.1 (Nat.le_of_eq g8.symm))
  have K8 : Keep h0 h8 [] := K7.ext E8
  obtain ⟨cl_b7_28, Ar_b7, q_b7, S_b7, N_b7, H_b7, G_b7⟩ := (V_b7.ext E8)
  have hin28 : ¬ ((0 : Int32) < 0 ∨ cl_b7_28.slots.size ≤ ((0 : Int32)).toNatClampNeg) := inb_of S_b7 ⟨by decide, (own_n p1).2.2⟩
  obtain ⟨T9, h9, X9, e9, W9, st9⟩ := stI X8 hx hZ e8 Ar_b7 (j := (0 : Int32)) hin28 (g := (mkF m 28 #[.val (.int p1), .val (.int p2), .val (.int p3), .val (.int p4), .val (.int p5), .val (.int p6), .val (.int ((1 : Int32) + (p1 &&& (3 : Int32)))), .val (.ref b7), .val (.ref b8), .unset, .unset] [(.int (p6 &&& (255 : Int32))), (.int (0 : Int32)), (.ref b7)])) rfl rfl (hb hby at_28)
  have V_b7_9 := Arv.set Ar_b7 q_b7 S_b7 N_b7 H_b7 G_b7 rfl W9 0 rfl (Nat.le_of_ble_eq_true rfl)
  have K9 : Keep h0 h9 [] := K8.wr W9 (Or.inr sz_b7)
  have N9 := Fr.snoc X9 N0 g_b7
  obtain ⟨cl_b8_41, Ar_b8, q_b8, S_b8, N_b8, H_b8, G_b8⟩ := (V_b8.other W9 (Ne.symm (Nat.ne_of_lt (Nat.lt_of_lt_of_le V_b7.lt (Nat.le_of_eq g8.symm)))))
  have hin41 : ¬ ((0 : Int32) < 0 ∨ cl_b8_41.slots.size ≤ ((0 : Int32)).toNatClampNeg) := inb_of S_b8 ⟨by decide, (own_n p1).2.2⟩
  obtain ⟨T10, h10, X10, e10, W10, st10⟩ := stI X9 hx hZ e9 Ar_b8 (j := (0 : Int32)) hin41 (g := (mkF m 41 #[.val (.int p1), .val (.int p2), .val (.int p3), .val (.int p4), .val (.int p5), .val (.int p6), .val (.int ((1 : Int32) + (p1 &&& (3 : Int32)))), .val (.ref b7), .val (.ref b8), .unset, .unset] [(.int (((p6.toUInt32 >>> ((8 : Int32) &&& 31).toUInt32).toInt32) &&& (255 : Int32))), (.int (0 : Int32)), (.ref b8)])) rfl rfl (hb hby at_41)
  have V_b8_10 := Arv.set Ar_b8 q_b8 S_b8 N_b8 H_b8 G_b8 rfl W10 0 rfl (Nat.le_of_ble_eq_true rfl)
  have K10 : Keep h0 h10 [] := K9.wr W10 (Or.inr sz_b8)
  have N10 := Fr.snoc X10 N9 g_b8
  obtain ⟨T11, h11, X11, e11, E11, A11, D11, -, st11⟩ := newO X10 hx hZ hown (hw _ (List.mem_of_getElem? (i := 1) rfl)) (hw _ (List.mem_of_getElem? (i := 2) rfl)) (hw _ (List.mem_of_getElem? (i := 3) rfl)) e10 (g := (mkF m 42 #[.val (.int p1), .val (.int p2), .val (.int p3), .val (.int p4), .val (.int p5), .val (.int p6), .val (.int ((1 : Int32) + (p1 &&& (3 : Int32)))), .val (.ref b7), .val (.ref b8), .unset, .unset] [])) rfl (hb hby at_42) (by decide) (by decide)
  obtain ⟨b11, g11⟩ : ∃ z, z = h10.size := ⟨_, rfl⟩
  rw [← g11] at A11 D11 st11
  have F_ids_b11 : Fld Z h11 b11 "com/example/proofsheet/proofsheet/media/JpegSegments$ScanHeader" "ids" "[I" .null := D11 (Or.inr (hw _ (List.mem_of_getElem? (i := 16) rfl))) (ty := (.array .int)) (by decide)
  have F_selectors_b11 : Fld Z h11 b11 "com/example/proofsheet/proofsheet/media/JpegSegments$ScanHeader" "selectors" "[I" .null := D11 (Or.inr (hw _ (List.mem_of_getElem? (i := 18) rfl))) (ty := (.array .int)) (by decide)
  have F_first_b11 : Fld Z h11 b11 "com/example/proofsheet/proofsheet/media/JpegSegments$ScanHeader" "first" "I" (.int (0 : Int32)) := D11 (Or.inr (hw _ (List.mem_of_getElem? (i := 20) rfl))) (ty := .int) (by decide)
  have F_last_b11 : Fld Z h11 b11 "com/example/proofsheet/proofsheet/media/JpegSegments$ScanHeader" "last" "I" (.int (0 : Int32)) := D11 (Or.inr (hw _ (List.mem_of_getElem? (i := 22) rfl))) (ty := .int) (by decide)
  have F_high_b11 : Fld Z h11 b11 "com/example/proofsheet/proofsheet/media/JpegSegments$ScanHeader" "high" "I" (.int (0 : Int32)) := D11 (Or.inr (hw _ (List.mem_of_getElem? (i := 24) rfl))) (ty := .int) (by decide)
  have F_low_b11 : Fld Z h11 b11 "com/example/proofsheet/proofsheet/media/JpegSegments$ScanHeader" "low" "I" (.int (0 : Int32)) := D11 (Or.inr (hw _ (List.mem_of_getElem? (i := 26) rfl))) (ty := .int) (by decide)
  have E_b11 := A11
  have g_b11 : n0 ≤ b11 := Nat.le_trans (Nat.le_trans (Nat.le_trans (Nat.le_trans (Nat.le_trans Z0 E7.1) E8.1) (Keep.of_wr W9).1) (Keep.of_wr W10).1) (Nat.le_of_eq g11.symm)
  have sz_b11 : h0.size ≤ b11 := (Nat.le_trans K10.1 (Nat.le_of_eq g11.symm))
  have K11 : Keep h0 h11 [] := K10.ext E11
  obtain ⟨_, _, ⟨T12, L12, k12, n12⟩, -, X12, ⟨Lc12, hQ12, l12, y12, z12⟩, st12⟩ := X11.specialBack hx (y := (⟨"com/example/proofsheet/proofsheet/media/JpegSegments$ScanHeader", "<init>", "([I[IIIII)V"⟩ : MethodName)) rfl hown (mvT hZ (hw _ (List.mem_of_getElem? (i := 4) rfl))) (mvT hZ (hw _ (List.mem_of_getElem? (i := 5) rfl))) (mvT hZ (hw _ (List.mem_of_getElem? (i := 6) rfl))) (by decide) (backOf (W := 1) (rm1 l Z a0 hw [] b11 b7 b8 p2 p3 p4 p5 _ _ _ _ _ _ h11 n0 (Nat.le_trans Z0 K11.1) E_b11 F_ids_b11 g_b11 F_selectors_b11 F_first_b11 F_last_b11 F_high_b11 F_low_b11) hZ (hw _ (List.mem_of_getElem? (i := 6) rfl)) (hw _ (List.mem_of_getElem? (i := 3) rfl)) (by decide) (by decide)) (g := (mkF m 55 #[.val (.int p1), .val (.int p2), .val (.int p3), .val (.int p4), .val (.int p5), .val (.int p6), .val (.int ((1 : Int32) + (p1 &&& (3 : Int32)))), .val (.ref b7), .val (.ref b8), .unset, .unset] [(.int p5), (.int p4), (.int p3), (.int p2), (.ref b8), (.ref b7), (.ref b11), (.ref b11)])) rfl (by rw [hml]; rfl) (Steps.refl _) (a := b11) (argsL := [(.ref b7), (.ref b8), (.int p2), (.int p3), (.int p4), (.int p5)]) (rest := [(.ref b11)]) (lenOf pd_0_0 rfl) rfl (by show 2 * 0 + _ ≤ _; exact Nat.le_of_eq rfl) (hb hby at_55) (fun _ _ => ⟨rfl, e11, (by decide : 3 + 0 ≤ _), (by decide : 14 + 0 ≤ _)⟩)
  dsimp only [Pt.U, Pt.locs, Pt.cells, Pt.slots] at X12 l12 y12 z12 st12 hQ12
  subst l12 y12 z12
  obtain ⟨rfl, N12q, K12, E12, F12a, F12b, F12c, F12d, F12e, F12f⟩ := hQ12
  have V12 := (((V_b7_9.other W10 (Nat.ne_of_lt (Nat.lt_of_lt_of_le V_b7.lt (Nat.le_of_eq g8.symm)))).ext E11).keep K12 (by simpa using Nat.ne_of_lt (Nat.lt_of_lt_of_le (V_b7_9.other W10 (Nat.ne_of_lt (Nat.lt_of_lt_of_le V_b7.lt (Nat.le_of_eq g8.symm)))).lt (Nat.le_of_eq g11.symm))))
  obtain ⟨cl12, Ar12, -, S12, M12, -, -⟩ := V12
  have N12 := Fr.app N10 N12q
  obtain ⟨cq13, kq13, q13a, q13b, q13c⟩ := isOf hZ rfl E12
  obtain ⟨_, _, ⟨T13, L13, k13, n13⟩, -, X13, ⟨Lc13, hQ13, l13, y13, z13⟩, st13⟩ := X12.virtualBack hx (y := (⟨"com/example/proofsheet/proofsheet/media/JpegSegments$ScanHeader", "progressive", "()Z"⟩ : MethodName)) (z := (⟨"com/example/proofsheet/proofsheet/media/JpegSegments$ScanHeader", "progressive", "()Z"⟩ : MethodName)) hown (mvT hZ (hw _ (List.mem_of_getElem? (i := 27) rfl))) (mvT hZ (hw _ (List.mem_of_getElem? (i := 28) rfl))) (notFace_of_selects (args := #[]) (mvT hZ (hw _ (List.mem_of_getElem? (i := 30) rfl)))) (mvT hZ (hw _ (List.mem_of_getElem? (i := 30) rfl))) (mvT hZ (hw _ (List.mem_of_getElem? (i := 29) rfl))) (by decide) (backOf (W := 0) (rm4 l Z a0 hw [] b11 b7 cl12 ((1 : Int32) + (p1 &&& (3 : Int32))) p2 p3 p4 p5 T12.heap n0 (Nat.le_trans (Nat.le_trans Z0 K11.1) K12.1) F12a F12c F12d F12e F12f Ar12 S12 M12) hZ (hw _ (List.mem_of_getElem? (i := 31) rfl)) (hw _ (List.mem_of_getElem? (i := 3) rfl)) (by decide) (by decide)) q13a q13c (g := (mkF m 62 #[.val (.int p1), .val (.int p2), .val (.int p3), .val (.int p4), .val (.int p5), .val (.int p6), .val (.int ((1 : Int32) + (p1 &&& (3 : Int32)))), .val (.ref b7), .val (.ref b8), .val (.ref b11), .unset] [(.ref b11)])) rfl (by rw [hml]; rfl) (Steps.refl _) (argsL := []) (rest := []) (lenOf pd_0_2 rfl) rfl (by show 2 * 0 + _ ≤ _; exact Nat.le_of_eq rfl) (hb hby at_62) (fun _ _ => ⟨rfl, rfl, (by decide : 3 + 0 ≤ _), (by decide : 14 + 0 ≤ _)⟩)
  dsimp only [Pt.U, Pt.locs, Pt.cells, Pt.slots] at X13 l13 y13 z13 st13 hQ13
  subst l13 y13 z13
  obtain ⟨rfl, N13q, e13⟩ := hQ13
  have N13 := Fr.app N12 N13q
  obtain ⟨_, _, ⟨T14, L14, k14, n14⟩, -, X14, ⟨Lc14, hQ14, l14, y14, z14⟩, st14⟩ := Jvm.LawKit.callS X13 hx (y := (⟨"com/example/proofsheet/proofsheet/media/ScanHeaderProgressivePinLaw", "expected", "(IIIII)Z"⟩ : MethodName)) hown (mvT hZ (hw _ (List.mem_of_getElem? (i := 32) rfl))) (mvT hZ (hw _ (List.mem_of_getElem? (i := 33) rfl))) (mvT hZ (hw _ (List.mem_of_getElem? (i := 34) rfl))) (mvT hZ (hw _ (List.mem_of_getElem? (i := 35) rfl))) (by decide) (backOf (W := 1) (rm5 l Z a0 hw [] ((1 : Int32) + (p1 &&& (3 : Int32))) p2 p3 p4 p5 T13.heap n0 (by rw [e13]; exact Nat.le_trans (Nat.le_trans Z0 K11.1) K12.1)) hZ (hw _ (List.mem_of_getElem? (i := 35) rfl)) (hw _ (List.mem_of_getElem? (i := 34) rfl)) (by decide) (by decide)) (g := (mkF m 76 #[.val (.int p1), .val (.int p2), .val (.int p3), .val (.int p4), .val (.int p5), .val (.int p6), .val (.int ((1 : Int32) + (p1 &&& (3 : Int32)))), .val (.ref b7), .val (.ref b8), .val (.ref b11), .val (.int (own_R4 ((1 : Int32) + (p1 &&& (3 : Int32))) p2 p3 p4 p5))] [(.int p5), (.int p4), (.int p3), (.int p2), (.int ((1 : Int32) + (p1 &&& (3 : Int32)))), (.int (own_R4 ((1 : Int32) + (p1 &&& (3 : Int32))) p2 p3 p4 p5))])) rfl (by rw [hml]; rfl) (argsL := [(.int ((1 : Int32) + (p1 &&& (3 : Int32)))), (.int p2), (.int p3), (.int p4), (.int p5)]) (rest := [(.int (own_R4 ((1 : Int32) + (p1 &&& (3 : Int32))) p2 p3 p4 p5))]) (lenOf pd_0_3 rfl) rfl (by show 2 * 0 + _ ≤ _; exact Nat.le_of_eq rfl) (hb hby at_76) (fun _ _ => ⟨rfl, rfl, (by decide : 3 + 0 ≤ _), (by decide : 14 + 0 ≤ _)⟩)
  dsimp only [Pt.U, Pt.locs, Pt.cells, Pt.slots] at X14 l14 y14 z14 st14 hQ14
  subst l14 y14 z14
  obtain ⟨rfl, N14q, e14⟩ := hQ14
  have N14 := Fr.app N13 N14q
  obtain ⟨fs, hr, hrun, hended, hW, hsame⟩ := X14.leave (v := some (.int (1 : Int32))) (fun h => by rw [Bd.returns] at h; cases h)
  refine ⟨_, _, pre0 _ ?_, hrun, hended, _, _, rfl, ?_, ⟨_, rfl⟩, hW, hsame.mono (by decide) (by decide)⟩
  · show Steps p.tables e below (s₁.setTop (mkF m 0 #[.val (.int p1), .val (.int p2), .val (.int p3), .val (.int p4), .val (.int p5), .val (.int p6), .unset, .unset, .unset, .unset, .unset] [])) _
    refine XS.iconst X0.here hx rfl (hb hby at_0) ?_
    show Steps p.tables e below (s₁.setTop (mkF m 1 #[.val (.int p1), .val (.int p2), .val (.int p3), .val (.int p4), .val (.int p5), .val (.int p6), .unset, .unset, .unset, .unset, .unset] [(.int (1 : Int32))])) _
    refine XS.iloadN X0.here hx rfl (hb hby at_1) rfl ?_
    show Steps p.tables e below (s₁.setTop (mkF m 2 #[.val (.int p1), .val (.int p2), .val (.int p3), .val (.int p4), .val (.int p5), .val (.int p6), .unset, .unset, .unset, .unset, .unset] [(.int p1), (.int (1 : Int32))])) _
    refine XS.iconst X0.here hx rfl (hb hby at_2) ?_
    show Steps p.tables e below (s₁.setTop (mkF m 3 #[.val (.int p1), .val (.int p2), .val (.int p3), .val (.int p4), .val (.int p5), .val (.int p6), .unset, .unset, .unset, .unset, .unset] [(.int (3 : Int32)), (.int p1), (.int (1 : Int32))])) _
    refine XS.iand X0.here hx rfl (hb hby at_3) rfl ?_
    show Steps p.tables e below (s₁.setTop (mkF m 4 #[.val (.int p1), .val (.int p2), .val (.int p3), .val (.int p4), .val (.int p5), .val (.int p6), .unset, .unset, .unset, .unset, .unset] [(.int (p1 &&& (3 : Int32))), (.int (1 : Int32))])) _
    refine XS.iadd X0.here hx rfl (hb hby at_4) rfl ?_
    show Steps p.tables e below (s₁.setTop (mkF m 5 #[.val (.int p1), .val (.int p2), .val (.int p3), .val (.int p4), .val (.int p5), .val (.int p6), .unset, .unset, .unset, .unset, .unset] [(.int ((1 : Int32) + (p1 &&& (3 : Int32))))])) _
    refine XS.istore X0.here hx rfl (hb hby at_5) rfl (l' := #[.val (.int p1), .val (.int p2), .val (.int p3), .val (.int p4), .val (.int p5), .val (.int p6), .val (.int ((1 : Int32) + (p1 &&& (3 : Int32)))), .unset, .unset, .unset, .unset]) rfl ?_
    show Steps p.tables e below (s₁.setTop (mkF m 7 #[.val (.int p1), .val (.int p2), .val (.int p3), .val (.int p4), .val (.int p5), .val (.int p6), .val (.int ((1 : Int32) + (p1 &&& (3 : Int32)))), .unset, .unset, .unset, .unset] [])) _
    refine XS.iload X0.here hx rfl (hb hby at_7) rfl ?_
    show Steps p.tables e below (s₁.setTop (mkF m 9 #[.val (.int p1), .val (.int p2), .val (.int p3), .val (.int p4), .val (.int p5), .val (.int p6), .val (.int ((1 : Int32) + (p1 &&& (3 : Int32)))), .unset, .unset, .unset, .unset] [(.int ((1 : Int32) + (p1 &&& (3 : Int32))))])) _
    refine st7 _ ?_
    show Steps p.tables e below (T7.setTop (mkF m 11 #[.val (.int p1), .val (.int p2), .val (.int p3), .val (.int p4), .val (.int p5), .val (.int p6), .val (.int ((1 : Int32) + (p1 &&& (3 : Int32)))), .unset, .unset, .unset, .unset] [(.ref b7)])) _
    refine XS.astore X7.here hx rfl (hb hby at_11) rfl rfl (l' := #[.val (.int p1), .val (.int p2), .val (.int p3), .val (.int p4), .val (.int p5), .val (.int p6), .val (.int ((1 : Int32) + (p1 &&& (3 : Int32)))), .val (.ref b7), .unset, .unset, .unset]) rfl ?_
    show Steps p.tables e below (T7.setTop (mkF m 13 #[.val (.int p1), .val (.int p2), .val (.int p3), .val (.int p4), .val (.int p5), .val (.int p6), .val (.int ((1 : Int32) + (p1 &&& (3 : Int32)))), .val (.ref b7), .unset, .unset, .unset] [])) _
    refine XS.iload X7.here hx rfl (hb hby at_13) rfl ?_
    show Steps p.tables e below (T7.setTop (mkF m 15 #[.val (.int p1), .val (.int p2), .val (.int p3), .val (.int p4), .val (.int p5), .val (.int p6), .val (.int ((1 : Int32) + (p1 &&& (3 : Int32)))), .val (.ref b7), .unset, .unset, .unset] [(.int ((1 : Int32) + (p1 &&& (3 : Int32))))])) _
    refine st8 _ ?_
    show Steps p.tables e below (T8.setTop (mkF m 17 #[.val (.int p1), .val (.int p2), .val (.int p3), .val (.int p4), .val (.int p5), .val (.int p6), .val (.int ((1 : Int32) + (p1 &&& (3 : Int32)))), .val (.ref b7), .unset, .unset, .unset] [(.ref b8)])) _
    refine XS.astore X8.here hx rfl (hb hby at_17) rfl rfl (l' := #[.val (.int p1), .val (.int p2), .val (.int p3), .val (.int p4), .val (.int p5), .val (.int p6), .val (.int ((1 : Int32) + (p1 &&& (3 : Int32)))), .val (.ref b7), .val (.ref b8), .unset, .unset]) rfl ?_
    show Steps p.tables e below (T8.setTop (mkF m 19 #[.val (.int p1), .val (.int p2), .val (.int p3), .val (.int p4), .val (.int p5), .val (.int p6), .val (.int ((1 : Int32) + (p1 &&& (3 : Int32)))), .val (.ref b7), .val (.ref b8), .unset, .unset] [])) _
    refine XS.aload X8.here hx rfl (hb hby at_19) rfl rfl ?_
    show Steps p.tables e below (T8.setTop (mkF m 21 #[.val (.int p1), .val (.int p2), .val (.int p3), .val (.int p4), .val (.int p5), .val (.int p6), .val (.int ((1 : Int32) + (p1 &&& (3 : Int32)))), .val (.ref b7), .val (.ref b8), .unset, .unset] [(.ref b7)])) _
    refine XS.iconst X8.here hx rfl (hb hby at_21) ?_
    show Steps p.tables e below (T8.setTop (mkF m 22 #[.val (.int p1), .val (.int p2), .val (.int p3), .val (.int p4), .val (.int p5), .val (.int p6), .val (.int ((1 : Int32) + (p1 &&& (3 : Int32)))), .val (.ref b7), .val (.ref b8), .unset, .unset] [(.int (0 : Int32)), (.ref b7)])) _
    refine XS.iload X8.here hx rfl (hb hby at_22) rfl ?_
    show Steps p.tables e below (T8.setTop (mkF m 24 #[.val (.int p1), .val (.int p2), .val (.int p3), .val (.int p4), .val (.int p5), .val (.int p6), .val (.int ((1 : Int32) + (p1 &&& (3 : Int32)))), .val (.ref b7), .val (.ref b8), .unset, .unset] [(.int p6), (.int (0 : Int32)), (.ref b7)])) _
    refine XS.sipush X8.here hx rfl (hb hby at_24) ?_
    show Steps p.tables e below (T8.setTop (mkF m 27 #[.val (.int p1), .val (.int p2), .val (.int p3), .val (.int p4), .val (.int p5), .val (.int p6), .val (.int ((1 : Int32) + (p1 &&& (3 : Int32)))), .val (.ref b7), .val (.ref b8), .unset, .unset] [(.int (255 : Int32)), (.int p6), (.int (0 : Int32)), (.ref b7)])) _
    refine XS.iand X8.here hx rfl (hb hby at_27) rfl ?_
    show Steps p.tables e below (T8.setTop (mkF m 28 #[.val (.int p1), .val (.int p2), .val (.int p3), .val (.int p4), .val (.int p5), .val (.int p6), .val (.int ((1 : Int32) + (p1 &&& (3 : Int32)))), .val (.ref b7), .val (.ref b8), .unset, .unset] [(.int (p6 &&& (255 : Int32))), (.int (0 : Int32)), (.ref b7)])) _
    refine st9 _ ?_
    show Steps p.tables e below (T9.setTop (mkF m 29 #[.val (.int p1), .val (.int p2), .val (.int p3), .val (.int p4), .val (.int p5), .val (.int p6), .val (.int ((1 : Int32) + (p1 &&& (3 : Int32)))), .val (.ref b7), .val (.ref b8), .unset, .unset] [])) _
    refine XS.aload X9.here hx rfl (hb hby at_29) rfl rfl ?_
    show Steps p.tables e below (T9.setTop (mkF m 31 #[.val (.int p1), .val (.int p2), .val (.int p3), .val (.int p4), .val (.int p5), .val (.int p6), .val (.int ((1 : Int32) + (p1 &&& (3 : Int32)))), .val (.ref b7), .val (.ref b8), .unset, .unset] [(.ref b8)])) _
    refine XS.iconst X9.here hx rfl (hb hby at_31) ?_
    show Steps p.tables e below (T9.setTop (mkF m 32 #[.val (.int p1), .val (.int p2), .val (.int p3), .val (.int p4), .val (.int p5), .val (.int p6), .val (.int ((1 : Int32) + (p1 &&& (3 : Int32)))), .val (.ref b7), .val (.ref b8), .unset, .unset] [(.int (0 : Int32)), (.ref b8)])) _
    refine XS.iload X9.here hx rfl (hb hby at_32) rfl ?_
    show Steps p.tables e below (T9.setTop (mkF m 34 #[.val (.int p1), .val (.int p2), .val (.int p3), .val (.int p4), .val (.int p5), .val (.int p6), .val (.int ((1 : Int32) + (p1 &&& (3 : Int32)))), .val (.ref b7), .val (.ref b8), .unset, .unset] [(.int p6), (.int (0 : Int32)), (.ref b8)])) _
    refine XS.bipush X9.here hx rfl (hb hby at_34) ?_
    show Steps p.tables e below (T9.setTop (mkF m 36 #[.val (.int p1), .val (.int p2), .val (.int p3), .val (.int p4), .val (.int p5), .val (.int p6), .val (.int ((1 : Int32) + (p1 &&& (3 : Int32)))), .val (.ref b7), .val (.ref b8), .unset, .unset] [(.int (8 : Int32)), (.int p6), (.int (0 : Int32)), (.ref b8)])) _
    refine XS.iushr X9.here hx rfl (hb hby at_36) rfl ?_
    show Steps p.tables e below (T9.setTop (mkF m 37 #[.val (.int p1), .val (.int p2), .val (.int p3), .val (.int p4), .val (.int p5), .val (.int p6), .val (.int ((1 : Int32) + (p1 &&& (3 : Int32)))), .val (.ref b7), .val (.ref b8), .unset, .unset] [(.int ((p6.toUInt32 >>> ((8 : Int32) &&& 31).toUInt32).toInt32)), (.int (0 : Int32)), (.ref b8)])) _
    refine XS.sipush X9.here hx rfl (hb hby at_37) ?_
    show Steps p.tables e below (T9.setTop (mkF m 40 #[.val (.int p1), .val (.int p2), .val (.int p3), .val (.int p4), .val (.int p5), .val (.int p6), .val (.int ((1 : Int32) + (p1 &&& (3 : Int32)))), .val (.ref b7), .val (.ref b8), .unset, .unset] [(.int (255 : Int32)), (.int ((p6.toUInt32 >>> ((8 : Int32) &&& 31).toUInt32).toInt32)), (.int (0 : Int32)), (.ref b8)])) _
    refine XS.iand X9.here hx rfl (hb hby at_40) rfl ?_
    show Steps p.tables e below (T9.setTop (mkF m 41 #[.val (.int p1), .val (.int p2), .val (.int p3), .val (.int p4), .val (.int p5), .val (.int p6), .val (.int ((1 : Int32) + (p1 &&& (3 : Int32)))), .val (.ref b7), .val (.ref b8), .unset, .unset] [(.int (((p6.toUInt32 >>> ((8 : Int32) &&& 31).toUInt32).toInt32) &&& (255 : Int32))), (.int (0 : Int32)), (.ref b8)])) _
    refine st10 _ ?_
    show Steps p.tables e below (T10.setTop (mkF m 42 #[.val (.int p1), .val (.int p2), .val (.int p3), .val (.int p4), .val (.int p5), .val (.int p6), .val (.int ((1 : Int32) + (p1 &&& (3 : Int32)))), .val (.ref b7), .val (.ref b8), .unset, .unset] [])) _
    refine st11 _ ?_
    show Steps p.tables e below (T11.setTop (mkF m 45 #[.val (.int p1), .val (.int p2), .val (.int p3), .val (.int p4), .val (.int p5), .val (.int p6), .val (.int ((1 : Int32) + (p1 &&& (3 : Int32)))), .val (.ref b7), .val (.ref b8), .unset, .unset] [(.ref b11)])) _
    refine XS.dup X11.here hx rfl (hb hby at_45) rfl rfl ?_
    show Steps p.tables e below (T11.setTop (mkF m 46 #[.val (.int p1), .val (.int p2), .val (.int p3), .val (.int p4), .val (.int p5), .val (.int p6), .val (.int ((1 : Int32) + (p1 &&& (3 : Int32)))), .val (.ref b7), .val (.ref b8), .unset, .unset] [(.ref b11), (.ref b11)])) _
    refine XS.aload X11.here hx rfl (hb hby at_46) rfl rfl ?_
    show Steps p.tables e below (T11.setTop (mkF m 48 #[.val (.int p1), .val (.int p2), .val (.int p3), .val (.int p4), .val (.int p5), .val (.int p6), .val (.int ((1 : Int32) + (p1 &&& (3 : Int32)))), .val (.ref b7), .val (.ref b8), .unset, .unset] [(.ref b7), (.ref b11), (.ref b11)])) _
    refine XS.aload X11.here hx rfl (hb hby at_48) rfl rfl ?_
    show Steps p.tables e below (T11.setTop (mkF m 50 #[.val (.int p1), .val (.int p2), .val (.int p3), .val (.int p4), .val (.int p5), .val (.int p6), .val (.int ((1 : Int32) + (p1 &&& (3 : Int32)))), .val (.ref b7), .val (.ref b8), .unset, .unset] [(.ref b8), (.ref b7), (.ref b11), (.ref b11)])) _
    refine XS.iloadN X11.here hx rfl (hb hby at_50) rfl ?_
    show Steps p.tables e below (T11.setTop (mkF m 51 #[.val (.int p1), .val (.int p2), .val (.int p3), .val (.int p4), .val (.int p5), .val (.int p6), .val (.int ((1 : Int32) + (p1 &&& (3 : Int32)))), .val (.ref b7), .val (.ref b8), .unset, .unset] [(.int p2), (.ref b8), (.ref b7), (.ref b11), (.ref b11)])) _
    refine XS.iloadN X11.here hx rfl (hb hby at_51) rfl ?_
    show Steps p.tables e below (T11.setTop (mkF m 52 #[.val (.int p1), .val (.int p2), .val (.int p3), .val (.int p4), .val (.int p5), .val (.int p6), .val (.int ((1 : Int32) + (p1 &&& (3 : Int32)))), .val (.ref b7), .val (.ref b8), .unset, .unset] [(.int p3), (.int p2), (.ref b8), (.ref b7), (.ref b11), (.ref b11)])) _
    refine XS.iloadN X11.here hx rfl (hb hby at_52) rfl ?_
    show Steps p.tables e below (T11.setTop (mkF m 53 #[.val (.int p1), .val (.int p2), .val (.int p3), .val (.int p4), .val (.int p5), .val (.int p6), .val (.int ((1 : Int32) + (p1 &&& (3 : Int32)))), .val (.ref b7), .val (.ref b8), .unset, .unset] [(.int p4), (.int p3), (.int p2), (.ref b8), (.ref b7), (.ref b11), (.ref b11)])) _
    refine XS.iload X11.here hx rfl (hb hby at_53) rfl ?_
    show Steps p.tables e below (T11.setTop (mkF m 55 #[.val (.int p1), .val (.int p2), .val (.int p3), .val (.int p4), .val (.int p5), .val (.int p6), .val (.int ((1 : Int32) + (p1 &&& (3 : Int32)))), .val (.ref b7), .val (.ref b8), .unset, .unset] [(.int p5), (.int p4), (.int p3), (.int p2), (.ref b8), (.ref b7), (.ref b11), (.ref b11)])) _
    refine st12.trans ?_
    show Steps p.tables e below (T12.setTop (mkF m 58 #[.val (.int p1), .val (.int p2), .val (.int p3), .val (.int p4), .val (.int p5), .val (.int p6), .val (.int ((1 : Int32) + (p1 &&& (3 : Int32)))), .val (.ref b7), .val (.ref b8), .unset, .unset] [(.ref b11)])) _
    refine XS.astore X12.here hx rfl (hb hby at_58) rfl rfl (l' := #[.val (.int p1), .val (.int p2), .val (.int p3), .val (.int p4), .val (.int p5), .val (.int p6), .val (.int ((1 : Int32) + (p1 &&& (3 : Int32)))), .val (.ref b7), .val (.ref b8), .val (.ref b11), .unset]) rfl ?_
    show Steps p.tables e below (T12.setTop (mkF m 60 #[.val (.int p1), .val (.int p2), .val (.int p3), .val (.int p4), .val (.int p5), .val (.int p6), .val (.int ((1 : Int32) + (p1 &&& (3 : Int32)))), .val (.ref b7), .val (.ref b8), .val (.ref b11), .unset] [])) _
    refine XS.aload X12.here hx rfl (hb hby at_60) rfl rfl ?_
    show Steps p.tables e below (T12.setTop (mkF m 62 #[.val (.int p1), .val (.int p2), .val (.int p3), .val (.int p4), .val (.int p5), .val (.int p6), .val (.int ((1 : Int32) + (p1 &&& (3 : Int32)))), .val (.ref b7), .val (.ref b8), .val (.ref b11), .unset] [(.ref b11)])) _
    refine st13.trans ?_
    show Steps p.tables e below (T13.setTop (mkF m 65 #[.val (.int p1), .val (.int p2), .val (.int p3), .val (.int p4), .val (.int p5), .val (.int p6), .val (.int ((1 : Int32) + (p1 &&& (3 : Int32)))), .val (.ref b7), .val (.ref b8), .val (.ref b11), .unset] [(.int (own_R4 ((1 : Int32) + (p1 &&& (3 : Int32))) p2 p3 p4 p5))])) _
    refine XS.istore X13.here hx rfl (hb hby at_65) rfl (l' := #[.val (.int p1), .val (.int p2), .val (.int p3), .val (.int p4), .val (.int p5), .val (.int p6), .val (.int ((1 : Int32) + (p1 &&& (3 : Int32)))), .val (.ref b7), .val (.ref b8), .val (.ref b11), .val (.int (own_R4 ((1 : Int32) + (p1 &&& (3 : Int32))) p2 p3 p4 p5))]) rfl ?_
    show Steps p.tables e below (T13.setTop (mkF m 67 #[.val (.int p1), .val (.int p2), .val (.int p3), .val (.int p4), .val (.int p5), .val (.int p6), .val (.int ((1 : Int32) + (p1 &&& (3 : Int32)))), .val (.ref b7), .val (.ref b8), .val (.ref b11), .val (.int (own_R4 ((1 : Int32) + (p1 &&& (3 : Int32))) p2 p3 p4 p5))] [])) _
    refine XS.iload X13.here hx rfl (hb hby at_67) rfl ?_
    show Steps p.tables e below (T13.setTop (mkF m 69 #[.val (.int p1), .val (.int p2), .val (.int p3), .val (.int p4), .val (.int p5), .val (.int p6), .val (.int ((1 : Int32) + (p1 &&& (3 : Int32)))), .val (.ref b7), .val (.ref b8), .val (.ref b11), .val (.int (own_R4 ((1 : Int32) + (p1 &&& (3 : Int32))) p2 p3 p4 p5))] [(.int (own_R4 ((1 : Int32) + (p1 &&& (3 : Int32))) p2 p3 p4 p5))])) _
    refine XS.iload X13.here hx rfl (hb hby at_69) rfl ?_
    show Steps p.tables e below (T13.setTop (mkF m 71 #[.val (.int p1), .val (.int p2), .val (.int p3), .val (.int p4), .val (.int p5), .val (.int p6), .val (.int ((1 : Int32) + (p1 &&& (3 : Int32)))), .val (.ref b7), .val (.ref b8), .val (.ref b11), .val (.int (own_R4 ((1 : Int32) + (p1 &&& (3 : Int32))) p2 p3 p4 p5))] [(.int ((1 : Int32) + (p1 &&& (3 : Int32)))), (.int (own_R4 ((1 : Int32) + (p1 &&& (3 : Int32))) p2 p3 p4 p5))])) _
    refine XS.iloadN X13.here hx rfl (hb hby at_71) rfl ?_
    show Steps p.tables e below (T13.setTop (mkF m 72 #[.val (.int p1), .val (.int p2), .val (.int p3), .val (.int p4), .val (.int p5), .val (.int p6), .val (.int ((1 : Int32) + (p1 &&& (3 : Int32)))), .val (.ref b7), .val (.ref b8), .val (.ref b11), .val (.int (own_R4 ((1 : Int32) + (p1 &&& (3 : Int32))) p2 p3 p4 p5))] [(.int p2), (.int ((1 : Int32) + (p1 &&& (3 : Int32)))), (.int (own_R4 ((1 : Int32) + (p1 &&& (3 : Int32))) p2 p3 p4 p5))])) _
    refine XS.iloadN X13.here hx rfl (hb hby at_72) rfl ?_
    show Steps p.tables e below (T13.setTop (mkF m 73 #[.val (.int p1), .val (.int p2), .val (.int p3), .val (.int p4), .val (.int p5), .val (.int p6), .val (.int ((1 : Int32) + (p1 &&& (3 : Int32)))), .val (.ref b7), .val (.ref b8), .val (.ref b11), .val (.int (own_R4 ((1 : Int32) + (p1 &&& (3 : Int32))) p2 p3 p4 p5))] [(.int p3), (.int p2), (.int ((1 : Int32) + (p1 &&& (3 : Int32)))), (.int (own_R4 ((1 : Int32) + (p1 &&& (3 : Int32))) p2 p3 p4 p5))])) _
    refine XS.iloadN X13.here hx rfl (hb hby at_73) rfl ?_
    show Steps p.tables e below (T13.setTop (mkF m 74 #[.val (.int p1), .val (.int p2), .val (.int p3), .val (.int p4), .val (.int p5), .val (.int p6), .val (.int ((1 : Int32) + (p1 &&& (3 : Int32)))), .val (.ref b7), .val (.ref b8), .val (.ref b11), .val (.int (own_R4 ((1 : Int32) + (p1 &&& (3 : Int32))) p2 p3 p4 p5))] [(.int p4), (.int p3), (.int p2), (.int ((1 : Int32) + (p1 &&& (3 : Int32)))), (.int (own_R4 ((1 : Int32) + (p1 &&& (3 : Int32))) p2 p3 p4 p5))])) _
    refine XS.iload X13.here hx rfl (hb hby at_74) rfl ?_
    show Steps p.tables e below (T13.setTop (mkF m 76 #[.val (.int p1), .val (.int p2), .val (.int p3), .val (.int p4), .val (.int p5), .val (.int p6), .val (.int ((1 : Int32) + (p1 &&& (3 : Int32)))), .val (.ref b7), .val (.ref b8), .val (.ref b11), .val (.int (own_R4 ((1 : Int32) + (p1 &&& (3 : Int32))) p2 p3 p4 p5))] [(.int p5), (.int p4), (.int p3), (.int p2), (.int ((1 : Int32) + (p1 &&& (3 : Int32)))), (.int (own_R4 ((1 : Int32) + (p1 &&& (3 : Int32))) p2 p3 p4 p5))])) _
    refine st14 _ ?_
    show Steps p.tables e below (T14.setTop (mkF m 79 #[.val (.int p1), .val (.int p2), .val (.int p3), .val (.int p4), .val (.int p5), .val (.int p6), .val (.int ((1 : Int32) + (p1 &&& (3 : Int32)))), .val (.ref b7), .val (.ref b8), .val (.ref b11), .val (.int (own_R4 ((1 : Int32) + (p1 &&& (3 : Int32))) p2 p3 p4 p5))] [(.int (own_R5 ((1 : Int32) + (p1 &&& (3 : Int32))) p2 p3 p4 p5)), (.int (own_R4 ((1 : Int32) + (p1 &&& (3 : Int32))) p2 p3 p4 p5))])) _
    refine XS.icmpNo X14.here hx rfl (hb hby at_79) rfl (teq (own_R ((1 : Int32) + (p1 &&& (3 : Int32))) p2 p3 p4 p5)).2 ?_
    show Steps p.tables e below (T14.setTop (mkF m 82 #[.val (.int p1), .val (.int p2), .val (.int p3), .val (.int p4), .val (.int p5), .val (.int p6), .val (.int ((1 : Int32) + (p1 &&& (3 : Int32)))), .val (.ref b7), .val (.ref b8), .val (.ref b11), .val (.int (own_R4 ((1 : Int32) + (p1 &&& (3 : Int32))) p2 p3 p4 p5))] [])) _
    refine XS.iconst X14.here hx rfl (hb hby at_82) ?_
    show Steps p.tables e below (T14.setTop (mkF m 83 #[.val (.int p1), .val (.int p2), .val (.int p3), .val (.int p4), .val (.int p5), .val (.int p6), .val (.int ((1 : Int32) + (p1 &&& (3 : Int32)))), .val (.ref b7), .val (.ref b8), .val (.ref b11), .val (.int (own_R4 ((1 : Int32) + (p1 &&& (3 : Int32))) p2 p3 p4 p5))] [(.int (1 : Int32))])) _
    refine XS.goto X14.here hx rfl (pc0 := 83) (pc' := 87) rfl (hb hby at_83) (by decide) (by decide) ?_
    show Steps p.tables e below (T14.setTop (mkF m 87 #[.val (.int p1), .val (.int p2), .val (.int p3), .val (.int p4), .val (.int p5), .val (.int p6), .val (.int ((1 : Int32) + (p1 &&& (3 : Int32)))), .val (.ref b7), .val (.ref b8), .val (.ref b11), .val (.int (own_R4 ((1 : Int32) + (p1 &&& (3 : Int32))) p2 p3 p4 p5))] [(.int (1 : Int32))])) _
    exact retN X14 hx (t := .boolean) Bd.returns (by simp) (hb hby at_87) hr
  · show Q0 Z p1 p2 p3 p4 p5 p6 h0 n0 _ T14.heap _
    exact ⟨rfl, N14⟩
set_option maxRecDepth 65536 in
set_option maxHeartbeats 40000000 in
theorem comes_1 {Post : Tables → Env → Array Value → State → Outcome → State → Prop} (hpost : ∀ tb e args s v u, (limb_1_1.after args s (.returned v) u = true ∧ limb_1_2.after args s (.returned v) u = true ∧ True) → FrameEnd s (.returned v) u (Jvm.fieldLocs frame_1_writes args s ++ Jvm.arrayLocs frame_1_arrays args s ++ Jvm.staticLocs frame_1_statics s) 16 128 → Post tb e args s (.returned v) u) :
    ArmFor flags0 classFile x code maxLocals ret World_1 tables_1 room_1 Calls_1 rest_1 Pre_1 Post := by
  intro l hfl _ _ p e ha hc hk s m args below hf hA hF happ hP
  obtain ⟨hcalls, hrest, hpre⟩ := hP
  obtain ⟨-, -, -, hnamed, -, -, -, hat⟩ := (Spec.applies_iff hf).mp happ
  obtain ⟨hg, hn⟩ := and_e (Cond.before_iff.mp (show (Jvm.Cond.and given_1 narrow_1).before args s = true from hpre))
  obtain ⟨g15, g16⟩ := and_e hg
  obtain ⟨g17, g18⟩ := and_e g16
  obtain ⟨g19, g20⟩ := and_e g18
  obtain ⟨g21, g22⟩ := and_e g20
  obtain ⟨g23, g24⟩ := and_e g22
  obtain ⟨g25, g26⟩ := and_e g24
  obtain ⟨w0, w1, w2, w3, w4, w5, rfl⟩ : ∃ w0 w1 w2 w3 w4 w5 : Value, args = #[w0, w1, w2, w3, w4, w5] := by
    have hs : args.size = 6 := by simpa [Cond.value, given_1] using g15
    obtain ⟨L⟩ := args
    match L, hs with
    | [w0, w1, w2, w3, w4, w5], _ => exact ⟨w0, w1, w2, w3, w4, w5, rfl⟩
  have hw := fun d (hd : d ∈ tables_1) => atoms_spec (ws := Jvm.Cond.code x code maxLocals ret :: tables_1) hat d (List.mem_cons_of_mem _ hd)
  have hfit : Fit s := fun {y c} hc i hi => by
    obtain ⟨ha, rfl⟩ := Array.getElem?_eq_some_iff.mp hc
    have q := List.all_eq_true.mp ((Array.all_eq_true_iff_forall_mem.mp hF) _ (Array.getElem_mem ha)) i (List.mem_range.mpr hi)
    simpa [Array.getElem?_eq_getElem hi] using q
  obtain ⟨i0, ei0⟩ := is_v g17
  obtain rfl : w0 = (.int i0) := Option.some.inj ei0
  obtain ⟨i1, ei1⟩ := is_v g19
  obtain rfl : w1 = (.int i1) := Option.some.inj ei1
  obtain ⟨i2, ei2⟩ := is_v g21
  obtain rfl : w2 = (.int i2) := Option.some.inj ei2
  obtain ⟨i3, ei3⟩ := is_v g23
  obtain rfl : w3 = (.int i3) := Option.some.inj ei3
  obtain ⟨i4, ei4⟩ := is_v g25
  obtain rfl : w4 = (.int i4) := Option.some.inj ei4
  obtain ⟨i5, ei5⟩ := is_v g26
  obtain rfl : w5 = (.int i5) := Option.some.inj ei5
  obtain ⟨n, o, h1, h2, h3, _, L, rfl, ⟨rfl, N⟩, hq⟩ := rm0 l s _ hw tables_1 i0 i1 i2 i3 i4 i5 s.heap s.heap.size (Nat.le_refl _) p e ha hc hk s m _ below hf ((Spec.applies_iff_loose hf).mp happ).1 ⟨rfl, State.Warmed39.refl s, rfl⟩ trivial
  refine ⟨n, _, h1, h2, h3, hpost _ _ _ _ _ _ ⟨Cond.after_iff.mpr rfl, Cond.after_iff.mpr (eq_i res_at (Term.int_eval (1)) rfl), trivial⟩ ⟨hq.1, hq.2.1, (hq.2.2.sift fun y hy => Or.inr (N y hy)).mono (by decide) (by decide)⟩⟩
theorem main_1_1 : Claimed_1_1 := comes_1 fun _ _ _ _ _ _ h hF => ⟨h.1, hF⟩
theorem main_1_2 : Claimed_1_2 := comes_1 fun _ _ _ _ _ _ h hF => ⟨h.2.1, hF⟩
end Jvm.Pilot.@@N@@
namespace Jvm.Pilot.@@N@@
open Jvm Jvm.ClassFile Sem Op Lib Jvm.Free Jvm.Stand Jvm.Pilot.@@N@@.Jvm.D
/-! MADE BY PROGRAM (witnessworld.py) out of the Statement's table words and the real class files: 10 classes; the members and pool entries that the words name. The judged class is class 1, her method 1. -/
namespace start1
open Jvm.ClassFile
def u (s : String) : CpInfo := .utf8 (stringToUtf16 s)
/-- a pool by its gaps: so many unusable entries, then the entry; so many at the end -/
def gap : Nat → List CpInfo → List CpInfo
  | 0, r => r
  | n + 1, r => .unusable :: gap n r
def poolList (es : List (Nat × CpInfo)) (last : Nat) : List CpInfo := es.foldr (fun e r => gap e.1 (e.2 :: r)) (gap last [])
def pool (es : List (Nat × CpInfo)) (last : Nat) : Array CpInfo := ⟨poolList es last⟩
def fileOf (pool : Array CpInfo) (this : Nat) (attrs : Array Attribute := #[]) (ms : Array MethodInfo := #[]) (fl : Nat := 33) (sup : Nat := 0) (ifs : Array Nat := #[]) (fds : Array FieldInfo := #[]) : ClassFile where
  minorVersion := 0
  majorVersion := 65
  constantPool := pool
  accessFlags := fl
  thisClass := this
  superClass := sup
  interfaces := ifs
  fields := fds
  methods := ms
  attributes := attrs
def plain (name : String) (sup : Option ClassId) : Class where
  name := name
  kind := .ordinary
  loader := none
  accessFlags := 33
  super := sup
  interfaces := #[]
  cf := none
  fields := #[]
  methods := #[]
  instanceTypes := #[]
  staticTypes := #[]
  resolved := #[]
  callSites := []
  init := .initialized
  statics := none
  mirror := none

def pool0 : Array CpInfo := pool [(5, u "<init>"), (0, u "()V"), (1, .class_ 10), (1, u "java/lang/Object")] 113

def k0c0 : Code := { maxStack := 0, maxLocals := 1, code := object_method_1_code, exceptionTable := #[], attributes := #[] }
def k0m0 : Method := { name := "<init>", desc := "()V", sig := { parameters := [], returnType := none }, accessFlags := 1, code := some k0c0 }
/-- java/lang/Object -/
def k0 : Class := { plain "java/lang/Object" none with
  accessFlags := 33
  interfaces := #[]
  cf := some (fileOf pool0 8 #[] #[{ accessFlags := 1, nameIndex := 5, descriptorIndex := 6, attributes := #[] }] 33 0 #[] #[])
  fields := #[]
  methods := #[k0m0]
  instanceTypes := #[]
  staticTypes := #[]
  resolved := Array.replicate 124 none
  statics := none }

def pool1 : Array CpInfo := pool [(2, .class_ 4), (1, u "java/lang/Object"), (0, u "<init>"), (0, u "()V"), (0, .class_ 8), (0, u "com/example/proofsheet/proofsheet/media/JpegSegments$ScanHeader"), (0, .methodref 7 10), (0, .nameAndType 5 11), (0, u "([I[IIIII)V"), (0, .methodref 7 13), (0, .nameAndType 14 15), (0, u "progressive"), (0, u "()Z"), (0, .methodref 17 18), (0, .class_ 19), (0, .nameAndType 20 21), (0, u "com/example/proofsheet/proofsheet/media/ScanHeaderProgressivePinLaw"), (0, u "expected"), (0, u "(IIIII)Z"), (2, u "law"), (0, u "(IIIIII)Z")] 9

def k1m0 : Method := { name := "<init>", desc := "()V", sig := { parameters := [], returnType := none }, accessFlags := 1, code := none }
def k1c1 : Code := { maxStack := 8, maxLocals := 11, code := code, exceptionTable := #[], attributes := #[] }
def k1m1 : Method := { name := "law", desc := "(IIIIII)Z", sig := { parameters := [.int, .int, .int, .int, .int, .int], returnType := some .boolean }, accessFlags := 9, code := some k1c1 }
def k1c2 : Code := { maxStack := 2, maxLocals := 7, code := method_3_code, exceptionTable := #[], attributes := #[] }
def k1m2 : Method := { name := "expected", desc := "(IIIII)Z", sig := { parameters := [.int, .int, .int, .int, .int], returnType := some .boolean }, accessFlags := 10, code := some k1c2 }
/-- com/example/proofsheet/proofsheet/media/ScanHeaderProgressivePinLaw -/
def k1 : Class := { plain "com/example/proofsheet/proofsheet/media/ScanHeaderProgressivePinLaw" (some 0) with
  accessFlags := 49
  interfaces := #[]
  cf := some (fileOf pool1 17 #[] #[{ accessFlags := 1, nameIndex := 5, descriptorIndex := 6, attributes := #[] }, { accessFlags := 9, nameIndex := 24, descriptorIndex := 25, attributes := #[] }, { accessFlags := 10, nameIndex := 20, descriptorIndex := 21, attributes := #[] }] 49 2 #[] #[])
  fields := #[]
  methods := #[k1m0, k1m1, k1m2]
  instanceTypes := #[]
  staticTypes := #[]
  resolved := Array.replicate 35 none
  statics := none }

def pool2 : Array CpInfo := pool [(1, .methodref 2 3), (0, .class_ 4), (0, .nameAndType 5 6), (0, u "java/lang/Object"), (0, u "<init>"), (0, u "()V"), (0, .class_ 8), (0, u "java/lang/Record")] 13

def k2c0 : Code := { maxStack := 1, maxLocals := 1, code := jdk_30_method_1_code, exceptionTable := #[], attributes := #[] }
def k2m0 : Method := { name := "<init>", desc := "()V", sig := { parameters := [], returnType := none }, accessFlags := 4, code := some k2c0 }
/-- java/lang/Record -/
def k2 : Class := { plain "java/lang/Record" (some 0) with
  accessFlags := 1057
  interfaces := #[]
  cf := some (fileOf pool2 7 #[] #[{ accessFlags := 4, nameIndex := 5, descriptorIndex := 6, attributes := #[] }] 1057 2 #[] #[])
  fields := #[]
  methods := #[k2m0]
  instanceTypes := #[]
  staticTypes := #[]
  resolved := Array.replicate 22 none
  statics := none }

def pool3 : Array CpInfo := pool [(1, .methodref 2 3), (0, .class_ 4), (0, .nameAndType 5 6), (0, u "java/lang/Record"), (0, u "<init>"), (0, u "()V"), (0, .fieldref 8 9), (0, .class_ 10), (0, .nameAndType 11 12), (0, u "com/example/proofsheet/proofsheet/media/JpegSegments$ScanHeader"), (0, u "ids"), (0, u "[I"), (0, .fieldref 8 14), (0, .nameAndType 15 12), (0, u "selectors"), (0, .fieldref 8 17), (0, .nameAndType 18 19), (0, u "first"), (0, u "I"), (0, .fieldref 8 21), (0, .nameAndType 22 19), (0, u "last"), (0, .fieldref 8 24), (0, .nameAndType 25 19), (0, u "high"), (0, .fieldref 8 27), (0, .nameAndType 28 19), (0, u "low"), (14, u "MOST_SHIFT"), (2, u "([I[IIIII)V"), (3, u "progressive"), (0, u "()Z"), (8, .class_ 61), (0, u "com/example/proofsheet/proofsheet/media/JpegSegments")] 24

def k3c0 : Code := { maxStack := 2, maxLocals := 7, code := prog_73_method_1_code, exceptionTable := #[], attributes := #[] }
def k3m0 : Method := { name := "<init>", desc := "([I[IIIII)V", sig := { parameters := [(.array .int), (.array .int), .int, .int, .int, .int], returnType := none }, accessFlags := 0, code := some k3c0 }
def k3c1 : Code := { maxStack := 3, maxLocals := 3, code := prog_73_method_2_code, exceptionTable := #[], attributes := #[] }
def k3m1 : Method := { name := "progressive", desc := "()Z", sig := { parameters := [], returnType := some .boolean }, accessFlags := 0, code := some k3c1 }
/-- com/example/proofsheet/proofsheet/media/JpegSegments$ScanHeader -/
def k3 : Class := { plain "com/example/proofsheet/proofsheet/media/JpegSegments$ScanHeader" (some 2) with
  accessFlags := 48
  interfaces := #[]
  cf := some (fileOf pool3 8 #[.nestHost 60] #[{ accessFlags := 0, nameIndex := 5, descriptorIndex := 46, attributes := #[] }, { accessFlags := 0, nameIndex := 50, descriptorIndex := 51, attributes := #[] }] 48 2 #[] #[{ accessFlags := 18, nameIndex := 11, descriptorIndex := 12, attributes := #[] }, { accessFlags := 18, nameIndex := 15, descriptorIndex := 12, attributes := #[] }, { accessFlags := 18, nameIndex := 18, descriptorIndex := 19, attributes := #[] }, { accessFlags := 18, nameIndex := 22, descriptorIndex := 19, attributes := #[] }, { accessFlags := 18, nameIndex := 25, descriptorIndex := 19, attributes := #[] }, { accessFlags := 18, nameIndex := 28, descriptorIndex := 19, attributes := #[] }, { accessFlags := 26, nameIndex := 43, descriptorIndex := 19, attributes := #[] }])
  fields := #[{ name := "ids", type := (.array .int), accessFlags := 18, slot := 0, constantValue := 0 }, { name := "selectors", type := (.array .int), accessFlags := 18, slot := 1, constantValue := 0 }, { name := "first", type := .int, accessFlags := 18, slot := 2, constantValue := 0 }, { name := "last", type := .int, accessFlags := 18, slot := 3, constantValue := 0 }, { name := "high", type := .int, accessFlags := 18, slot := 4, constantValue := 0 }, { name := "low", type := .int, accessFlags := 18, slot := 5, constantValue := 0 }, { name := "MOST_SHIFT", type := .int, accessFlags := 26, slot := 0, constantValue := 0 }]
  methods := #[k3m0, k3m1]
  instanceTypes := #[(.array .int), (.array .int), .int, .int, .int, .int]
  staticTypes := #[.int]
  resolved := Array.replicate 86 none
  statics := none }

def pool4 : Array CpInfo := pool [(1, u "java/lang/Cloneable"), (0, .class_ 1), (0, u "java/lang/Object"), (0, .class_ 3)] 3

/-- java/lang/Cloneable -/
def k4 : Class := { plain "java/lang/Cloneable" (some 0) with
  accessFlags := 1537
  interfaces := #[]
  cf := some (fileOf pool4 2 #[] #[] 1537 4 #[] #[])
  fields := #[]
  methods := #[]
  instanceTypes := #[]
  staticTypes := #[]
  resolved := Array.replicate 8 none
  statics := none }

def pool5 : Array CpInfo := pool [(1, u "java/io/Serializable"), (0, .class_ 1), (0, u "java/lang/Object"), (0, .class_ 3)] 3

/-- java/io/Serializable -/
def k5 : Class := { plain "java/io/Serializable" (some 0) with
  accessFlags := 1537
  interfaces := #[]
  cf := some (fileOf pool5 2 #[] #[] 1537 4 #[] #[])
  fields := #[]
  methods := #[]
  instanceTypes := #[]
  staticTypes := #[]
  resolved := Array.replicate 8 none
  statics := none }

/-- the primitive byte -/
def k6 : Class := { plain "byte" none with kind := .primitive 'B', accessFlags := 0x411 }
/-- [B -/
def k7 : Class := { plain "[B" (some 0) with kind := .array 6 .byte, interfaces := #[4, 5], accessFlags := 1041 }

/-- the primitive int -/
def k8 : Class := { plain "int" none with kind := .primitive 'I', accessFlags := 0x411 }
/-- [I -/
def k9 : Class := { plain "[I" (some 0) with kind := .array 8 .int, interfaces := #[4, 5], accessFlags := 1041 }

def heap : Heap := #[]
def classes : Array Class := #[k0, k1, k2, k3, k4, k5, k6, k7, k8, k9]
def interned : List (Array UInt16 × Addr) := []
def slotsUsed : Nat := 0
def theMethod : MethodId := ⟨1, 1⟩
def args0 : Array Value := #[.int 0, .int 0, .int 0, .int 0, .int 0, .int 7]
def aboutOver (below : List Frame) : State where
  vm := { classes := classes, interned := interned.toArray }
  heap := heap
  slotsUsed := slotsUsed
  threads := #[{ frames := .invoking theMethod args0 :: below }]
def below0 : List Frame := [.native { method := ⟨0, 0⟩, args := #[] }]
def about1 : State := aboutOver below0
def p0 : Program := .bare "" "" ""
def e0 : Env := launch0.env 0 0 0
theorem w_frames : about1.frames = Frame.invoking theMethod args0 :: below0 := rfl
set_option maxRecDepth 65536 in
theorem w_args : argsFit about1.vm theMethod args0 = true := by decide +kernel
set_option maxRecDepth 65536 in
theorem w_heap : heapFits about1 = true := by decide +kernel
set_option maxRecDepth 65536 in
theorem w_runnable : about1.curStatus? = some .runnable := by decide +kernel
set_option maxRecDepth 65536 in
theorem w_alone : about1.alone = true := by decide +kernel
set_option maxRecDepth 65536 in
theorem w_named : about1.methodNamed? x = some theMethod := by decide +kernel
set_option maxRecDepth 65536 in
theorem w_hears : about1.hears theMethod below0 = true := by decide +kernel
set_option maxRecDepth 65536 in
theorem w_ripe : about1.ripe theMethod args0 below0 = true := by decide +kernel
theorem w_running : about1.status = .running := rfl
set_option maxRecDepth 65536 in
theorem w_room : about1.hasRoom e0.platform room_1 = true :=
  launch0.hasRoom_least _ room_1 (by decide +kernel) (by decide +kernel) (by decide +kernel) (by decide +kernel) (by decide +kernel) (by decide +kernel)
theorem allAtoms_all (ts : List Jvm.Cond) (a : Array Jvm.Value) (st : Jvm.State) : (allAtoms ts).before a st = ts.all (fun c => c.before a st) := by
  induction ts with
  | nil => rfl
  | cons c t ih =>
    show (Jvm.Cond.and c (allAtoms t)).before a st = _
    rw [Jvm.Cond.before_and, ih, List.all_cons]
def words1 : List Jvm.Cond := Jvm.Cond.code x code maxLocals ret :: tables_1
/-- a 'code' word, met by the world's own term for the bytes: nothing is compared byte by byte -/
theorem code_word {y : MethodName} {bytes : ByteArray} {mx : Nat} {rt : Option FieldType} {a : Array Value} {s : State} {m : MethodId} {meth : Method} {c : Code} (h1 : s.methodNamed? y = some m) (h2 : s.vm.method? m = some meth) (h3 : meth.code = some c) (h4 : c.code = bytes)
    (h5 : (c.maxLocals == mx && c.exceptionTable.isEmpty && decide (c.maxStack ≤ mostOperands) && decide (meth.sig.returnType = rt) && !meth.locks && decide (parseMethodDescriptor y.desc = some meth.sig)) = true) : (Jvm.Cond.code y bytes mx rt).before a s = true := by
  simp only [Bool.and_eq_true, beq_iff_eq, Bool.not_eq_true', decide_eq_true_eq] at h5
  obtain ⟨⟨⟨⟨⟨g1, g2⟩, g3⟩, g4⟩, g5⟩, g6⟩ := h5
  simp [Cond.before, Cond.holds, Cond.value, h1, h2, h3, h4, g1, g2, g3, g4, g5, g6]
def isCode : Jvm.Cond → Bool
  | .code _ _ _ _ => true
  | _ => false
theorem all_split {L : List Jvm.Cond} {P : Jvm.Cond → Bool} (h1 : L.all (fun c => isCode c || P c) = true) (h2 : ∀ c ∈ L.filter isCode, P c = true) : L.all P = true := by
  refine List.all_eq_true.mpr fun c hc => ?_
  have h := List.all_eq_true.mp h1 c hc
  rcases Bool.eq_false_or_eq_true (isCode c) with hi | hi
  · exact h2 c (List.mem_filter.mpr ⟨hc, hi⟩)
  · simpa [hi] using h
set_option maxRecDepth 65536 in
theorem w_c0 : (Jvm.Cond.code x code maxLocals ret).before args0 about1 = true := code_word (m := ⟨1, 1⟩) (meth := k1m1) (c := k1c1) (by decide +kernel) rfl rfl rfl (by decide +kernel)
set_option maxRecDepth 65536 in
theorem w_c1 : (Jvm.Cond.code ({ cls := "com/example/proofsheet/proofsheet/media/JpegSegments$ScanHeader", name := "<init>", desc := "([I[IIIII)V" } : Jvm.MethodName) prog_73_method_1_code (7 : Nat) (Option.none : Option Jvm.ClassFile.FieldType)).before args0 about1 = true := code_word (m := ⟨3, 0⟩) (meth := k3m0) (c := k3c0) (by decide +kernel) rfl rfl rfl (by decide +kernel)
set_option maxRecDepth 65536 in
theorem w_c2 : (Jvm.Cond.code ({ cls := "java/lang/Record", name := "<init>", desc := "()V" } : Jvm.MethodName) jdk_30_method_1_code (1 : Nat) (Option.none : Option Jvm.ClassFile.FieldType)).before args0 about1 = true := code_word (m := ⟨2, 0⟩) (meth := k2m0) (c := k2c0) (by decide +kernel) rfl rfl rfl (by decide +kernel)
set_option maxRecDepth 65536 in
theorem w_c3 : (Jvm.Cond.code ({ cls := "java/lang/Object", name := "<init>", desc := "()V" } : Jvm.MethodName) object_method_1_code (1 : Nat) (Option.none : Option Jvm.ClassFile.FieldType)).before args0 about1 = true := code_word (m := ⟨0, 0⟩) (meth := k0m0) (c := k0c0) (by decide +kernel) rfl rfl rfl (by decide +kernel)
set_option maxRecDepth 65536 in
theorem w_c4 : (Jvm.Cond.code ({ cls := "com/example/proofsheet/proofsheet/media/JpegSegments$ScanHeader", name := "progressive", desc := "()Z" } : Jvm.MethodName) prog_73_method_2_code (3 : Nat) (Option.some Jvm.ClassFile.FieldType.boolean)).before args0 about1 = true := code_word (m := ⟨3, 1⟩) (meth := k3m1) (c := k3c1) (by decide +kernel) rfl rfl rfl (by decide +kernel)
set_option maxRecDepth 65536 in
theorem w_c5 : (Jvm.Cond.code ({ cls := "com/example/proofsheet/proofsheet/media/ScanHeaderProgressivePinLaw", name := "expected", desc := "(IIIII)Z" } : Jvm.MethodName) method_3_code (7 : Nat) (Option.some Jvm.ClassFile.FieldType.boolean)).before args0 about1 = true := code_word (m := ⟨1, 2⟩) (meth := k1m2) (c := k1c2) (by decide +kernel) rfl rfl rfl (by decide +kernel)
def codes1 : List Jvm.Cond := [Jvm.Cond.code x code maxLocals ret, Jvm.Cond.code ({ cls := "com/example/proofsheet/proofsheet/media/JpegSegments$ScanHeader", name := "<init>", desc := "([I[IIIII)V" } : Jvm.MethodName) prog_73_method_1_code (7 : Nat) (Option.none : Option Jvm.ClassFile.FieldType), Jvm.Cond.code ({ cls := "java/lang/Record", name := "<init>", desc := "()V" } : Jvm.MethodName) jdk_30_method_1_code (1 : Nat) (Option.none : Option Jvm.ClassFile.FieldType), Jvm.Cond.code ({ cls := "java/lang/Object", name := "<init>", desc := "()V" } : Jvm.MethodName) object_method_1_code (1 : Nat) (Option.none : Option Jvm.ClassFile.FieldType), Jvm.Cond.code ({ cls := "com/example/proofsheet/proofsheet/media/JpegSegments$ScanHeader", name := "progressive", desc := "()Z" } : Jvm.MethodName) prog_73_method_2_code (3 : Nat) (Option.some Jvm.ClassFile.FieldType.boolean), Jvm.Cond.code ({ cls := "com/example/proofsheet/proofsheet/media/ScanHeaderProgressivePinLaw", name := "expected", desc := "(IIIII)Z" } : Jvm.MethodName) method_3_code (7 : Nat) (Option.some Jvm.ClassFile.FieldType.boolean)]
set_option maxRecDepth 65536 in
theorem codes_eq : words1.filter isCode = codes1 := rfl
theorem w_codes : ∀ c ∈ words1.filter isCode, c.before args0 about1 = true := by
  rw [codes_eq]
  intro c hc
  simp only [codes1, List.mem_cons, List.not_mem_nil, or_false] at hc
  rcases hc with rfl | rfl | rfl | rfl | rfl | rfl
  · exact w_c0
  · exact w_c1
  · exact w_c2
  · exact w_c3
  · exact w_c4
  · exact w_c5
set_option maxRecDepth 65536 in
theorem w_t1 : (words1.take 24).all (fun c => isCode c || c.before args0 about1) = true := by decide +kernel
set_option maxRecDepth 65536 in
theorem w_t2 : (words1.drop 24).all (fun c => isCode c || c.before args0 about1) = true := by decide +kernel
theorem w_tables : (allAtoms (Jvm.Cond.code x code maxLocals ret :: tables_1)).before args0 about1 = true := by
  rw [allAtoms_all]
  show words1.all (fun c => c.before args0 about1) = true
  refine all_split ?_ w_codes
  rw [← List.take_append_drop 24 words1, List.all_append, w_t1, w_t2]
  rfl
set_option maxRecDepth 65536 in
theorem w_case : (Jvm.Cond.and given_1 narrow_1).before args0 about1 = true := by decide +kernel
theorem w_applies : (headSpec (Jvm.Cond.code x code maxLocals ret :: tables_1) room_1).applies x e0.platform about1 = true :=
  (Spec.applies_iff w_frames).mpr ⟨w_running, w_runnable, w_alone, w_named, w_hears, w_ripe, w_room, w_tables⟩
theorem atStart : AtStart classFile x code maxLocals ret World_1 tables_1 room_1 Calls_1 rest_1 Pre_1 launch0 p0 e0 about1 theMethod args0 below0 :=
  ⟨lists_1, trivial, launch0.admits_env _ _ _, launch0.least_env, fairChoices_fair.cas, fairChoices_fair.clock, w_frames, w_args, w_heap, w_applies, trivial, trivial, w_case⟩
end start1
theorem witness_1 : WitnessClaimed_1 := ⟨start1.p0, start1.e0, start1.about1, start1.theMethod, start1.args0, start1.below0, start1.atStart⟩
end Jvm.Pilot.@@N@@
