import JvmDerived
import JvmDerived.Pilot.@@N@@Statement
import JvmDerived.Pilot.@@N@@Code
set_option linter.unusedVariables false
set_option linter.unusedSimpArgs false
namespace Jvm.RoadKit
open Sem ClassFile Op Lib Jvm.Stand Jvm.Free Jvm.LawKit
section New
variable {p : Program} {l : Launch} {e : Env} {R : Room} {s : State} {m : MethodId} {args : Array Value} {below : List Frame} {meth : Method} {c : Code} {T : State} {locs : List Loc} {cells slots : Nat}
theorem retI (X : Stand p l e R s m args below meth c T locs cells slots) (hx : p.tables.exec = Jvm.exec) {pc : Nat} {Ls : Array Slot} {z : Int32} {rest : List Value} (hret : meth.sig.returnType = some .int) (hd : decode c.code pc = .ok (.ireturn, 1)) {fs : List Frame}
    (hl : ∀ (f : JFrame) (acts : List Action), f.method = m → f.locked = none → f.entered = [] → (doReturn e (T.setTop f) acts (some (.int z))).1 = T.setFrames fs) : Steps p.tables e below (T.setTop (mkF m pc Ls (.int z :: rest))) (T.setFrames fs) := by
  have hm' : T.vm.method? m = some meth := X.method'
  have hn : narrow .int (.int z) = .int z := rfl
  show Steps p.tables e below (T.setTop { method := m, pc := pc, locals := Ls, stack := _ :: rest, locked := none }) _
  jvm_step X.here [X.here.top, hx, hd, hm', hret, hn]
  first | (intro acts; rw [hl _ acts rfl rfl rfl]) | rw [hl _ _ rfl rfl rfl]
  exact Steps.refl _
end New
end Jvm.RoadKit
namespace Jvm.Pilot.@@N@@
open Jvm Jvm.ClassFile Sem Op Lib Jvm.Free Jvm.Stand Jvm.LawKit Jvm.RoadKit Bundle Jvm.Pilot.@@N@@.Jvm.D
def own_Fin (p : Program) (e : Env) (below : List Frame) (G : Outcome → State → Prop) (st : State) : Prop :=
  ∃ s₂ o, Steps p.tables e below st s₂ ∧ s₂.status = .running ∧ Ended s₂ below o ∧ G o s₂
theorem own_lift {p : Program} {e : Env} {below : List Frame} {G : Outcome → State → Prop} {st st' : State} (k : ∀ t, Steps p.tables e below st' t → Steps p.tables e below st t) (h : own_Fin p e below G st') : own_Fin p e below G st := by
  obtain ⟨t, o, h1, h2⟩ := h
  exact ⟨t, o, k t h1, h2⟩

/-! the plain law -/
def own_vals (g : Nat → Int32) (n : Nat) : List Value := (List.range n).map fun j => .int (g j)
theorem own_vlen (g : Nat → Int32) (n : Nat) : (own_vals g n).length = n := by simp [own_vals]
theorem own_at (g : Nat → Int32) {n j : Nat} (h : j < n) (d : Value) : (own_vals g n).getD j d = .int (g j) := by simp [own_vals, List.getD_eq_getElem?_getD, h]
theorem own_out (g : Nat → Int32) {n j : Nat} (h : ¬ j < n) (d : Value) : (own_vals g n).getD j d = d := by
  rw [List.getD_eq_getElem?_getD, List.getElem?_eq_none (by rw [own_vlen]; omega)]; rfl
def own_upd (g : Nat → Int32) (t : Nat) : Nat → Int32 := fun j => if j = t then g t + 1 else g j
theorem own_set (g : Nat → Int32) (n t : Nat) : (own_vals g n).set t (.int (g t + 1)) = own_vals (own_upd g t) n := by
  apply List.ext_getElem
  · simp [own_vals]
  · intro i h1 h2
    simp only [own_vals, List.getElem_set, List.getElem_map, List.getElem_range, own_upd]
    by_cases h : t = i
    · subst h; simp
    · have : ¬ i = t := fun q => h q.symm
      simp [h, this]
theorem own_cp (g : Nat → Int32) {n n2 z0 nn : Nat} (h0 : z0 = 0) (hn : nn = n) (hle : n ≤ n2) (hz : ∀ j, n ≤ j → g j = 0) : ∀ i, (own_vals g n2).getD i (.int 0) = (((List.replicate n2 (Value.int 0)).take z0 ++ ((List.range nn).map fun i => (own_vals g n).getD (z0 + i) (.int 0))) ++ (List.replicate n2 (Value.int 0)).drop (z0 + nn)).getD i (.int 0) := by
  subst h0 hn
  intro i
  by_cases h : i < nn
  · rw [own_at g (by omega : i < n2), List.getD_eq_getElem?_getD]
    simp only [List.take_zero, List.nil_append, Nat.zero_add]
    rw [List.getElem?_append_left (by simpa using h)]
    simp only [List.getElem?_map, List.getElem?_range h, Option.map_some, Option.getD_some]
    rw [own_at g h]
  · have r : (((List.replicate n2 (Value.int 0)).take 0 ++ ((List.range nn).map fun i => (own_vals g nn).getD (0 + i) (.int 0))) ++ (List.replicate n2 (Value.int 0)).drop (0 + nn)).getD i (.int 0) = .int 0 := by
      rw [List.getD_eq_getElem?_getD]
      simp only [List.take_zero, List.nil_append, Nat.zero_add]
      rw [List.getElem?_append_right (by simpa using (by omega : nn ≤ i))]
      simp only [List.drop_replicate, List.getElem?_replicate]
      split <;> rfl
    rw [r]
    by_cases h2 : i < n2
    · rw [own_at g h2, hz i (by omega)]
    · rw [own_out g h2]
/-- numbers -/
theorem own_msk (x m : Int32) : ∃ n : Nat, n ≤ m.toBitVec.toNat ∧ (x &&& m) = Int32.ofNat n := by
  refine ⟨(x &&& m).toBitVec.toNat, ?_, ?_⟩
  · simp only [Int32.toBitVec_and, BitVec.toNat_and]
    exact Nat.and_le_right
  · apply Int32.toBitVec_inj.mp
    show _ = BitVec.ofNat 32 _
    rw [BitVec.ofNat_toNat]; simp
theorem own_and7 (x : Int32) : ∃ n : Nat, n < 8 ∧ (x &&& (7 : Int32)) = Int32.ofNat n := by
  obtain ⟨n, h, e⟩ := own_msk x 7
  exact ⟨n, Nat.lt_succ_of_le h, e⟩
theorem own_and15 (x : Int32) : ∃ n : Nat, n < 2147483648 ∧ (x &&& (15 : Int32)) = Int32.ofNat n := by
  obtain ⟨n, h, e⟩ := own_msk x 15
  have : (15 : Int32).toBitVec.toNat = 15 := rfl
  exact ⟨n, by omega, e⟩
theorem own_andM (x : Int32) : ∃ n : Nat, n < 2147483648 ∧ (x &&& (2147483647 : Int32)) = Int32.ofNat n := by
  obtain ⟨n, h, e⟩ := own_msk x 2147483647
  have : (2147483647 : Int32).toBitVec.toNat = 2147483647 := rfl
  exact ⟨n, by omega, e⟩
theorem own_lt {i n : Nat} (hi : i < 2147483648) (hn : n < 2147483648) : Int32.ofNat i < Int32.ofNat n ↔ i < n := by
  rw [Int32.lt_iff_toInt_lt, Int32.toInt_ofNat_of_lt (by omega), Int32.toInt_ofNat_of_lt (by omega)]
  omega
theorem own_inj {i n : Nat} (hi : i < 2147483648) (hn : n < 2147483648) : Int32.ofNat i = Int32.ofNat n ↔ i = n := by
  rw [← Int32.toInt_inj, Int32.toInt_ofNat_of_lt (by omega), Int32.toInt_ofNat_of_lt (by omega)]
  omega
theorem own_nn {n : Nat} (hn : n < 2147483648) : ¬ Int32.ofNat n < 0 := by
  rw [Int32.lt_iff_toInt_lt, Int32.toInt_ofNat_of_lt (by omega), show (0 : Int32).toInt = 0 from rfl]
  omega
theorem own_n32 {n : Nat} (hn : n < 2147483648) : (Int32.ofNat n).toNatClampNeg = n := by
  rw [Int32.toNatClampNeg, Int32.toInt_ofNat_of_lt (by omega)]; rfl
theorem own_one (i : Nat) : Int32.ofNat i + (1 : Int32) = Int32.ofNat (i + 1) := (Int32.ofNat_add i 1).symm
def own_hit (b t q : Int32) : Int32 := if b = 0 then 0 else if t = q then 1 else 0
def own_st (P : Prop) [Decidable P] (t : Nat) (g : Nat → Int32) : Nat → Int32 := if P then g else own_upd g t
theorem own_zero : ∀ j : Nat, 0 ≤ j → (fun _ : Nat => (0 : Int32)) j = 0 := fun _ _ => rfl
theorem own_st1 (P : Prop) [Decidable P] {t q : Nat} (ht : t < 8) (hq : q < 2147483648) (g : Nat → Int32) : own_st P t g q = g q + own_hit (if P then 0 else 1) (Int32.ofNat t) (Int32.ofNat q) := by
  unfold own_st own_hit
  by_cases h : P
  · simp [h]
  · by_cases h2 : t = q
    · subst h2; simp [h, own_upd]
    · have h3 : ¬ q = t := fun e => h2 e.symm
      have h4 : ¬ Int32.ofNat t = Int32.ofNat q := fun e => h2 ((own_inj (by omega) hq).mp e)
      simp [h, own_upd, h3, h4]
theorem own_fin (P1 P2 P3 : Prop) [Decidable P1] [Decidable P2] [Decidable P3] {a b c q : Nat} (ha : a < 8) (hb : b < 8) (hc : c < 8) (hq : q < 2147483648) :
    own_st P3 c (own_st P2 b (own_st P1 a (fun _ => 0))) q = (own_hit (if P1 then 0 else 1) (Int32.ofNat a) (Int32.ofNat q) + own_hit (if P2 then 0 else 1) (Int32.ofNat b) (Int32.ofNat q)) + own_hit (if P3 then 0 else 1) (Int32.ofNat c) (Int32.ofNat q) := by
  rw [own_st1 P3 hc hq, own_st1 P2 hb hq, own_st1 P1 ha hq, Int32.zero_add]

def own_clk (Z : State) (h : Heap) (n0 : Nat) (a : Addr) (n : Nat) (g : Nat → Int32) : Prop :=
  n ≤ 8 ∧ (∀ j, n ≤ j → g j = 0) ∧ Exa Z h a "com/example/porridge/porridge/engine/VectorClock" ∧ n0 ≤ a ∧ ∃ (t : Addr) (kc : ClassId), n0 ≤ t ∧ a ≠ t ∧ Fld Z h a "com/example/porridge/porridge/engine/VectorClock" "counts" "[I" (.ref t) ∧ Arv Z h t kc .int (Int32.ofNat n) (own_vals g n) (.int (0 : Int32))
theorem own_upd_z {g : Nat → Int32} {n n' t : Nat} (hz : ∀ j, n ≤ j → g j = 0) (hn : n ≤ n') (ht : t < n') : ∀ j, n' ≤ j → own_upd g t j = 0 := by
  intro j hj
  unfold own_upd
  rw [if_neg (by omega)]; exact hz j (by omega)
theorem own_hin {cl : Cell} {j n : Nat} (hn : n ≤ 8) (h : j < n) (S : cl.slots.size = (Int32.ofNat n).toNatClampNeg) : ¬ (Int32.ofNat j < 0 ∨ cl.slots.size ≤ (Int32.ofNat j).toNatClampNeg) := by
  rw [S, own_n32 (by omega), own_n32 (by omega)]
  intro q
  rcases q with q | q
  · exact own_nn (by omega) q
  · omega
theorem own_hat {cl : Cell} {g : Nat → Int32} {j n : Nat} (hn : n ≤ 8) (h : j < n) (H : Has cl (own_vals g n) (.int (0 : Int32))) (S : cl.slots.size = (Int32.ofNat n).toNatClampNeg) : cl.slots[(Int32.ofNat j).toNatClampNeg]? = some (.int (g j)) := by
  rw [own_n32 (by omega), H j (by rw [S, own_n32 (by omega)]; exact h), own_at g h]

theorem d7_0 : decode jdk_29_method_69_code 0 = .ok (.iload_n 0, 1) := by decide +kernel
theorem d7_1 : decode jdk_29_method_69_code 1 = .ok (.iload_n 1, 1) := by decide +kernel
theorem d7_2 : decode jdk_29_method_69_code 2 = .ok (.if_icmp .gt 7, 3) := by decide +kernel
theorem d7_5 : decode jdk_29_method_69_code 5 = .ok (.iload_n 0, 1) := by decide +kernel
theorem d7_6 : decode jdk_29_method_69_code 6 = .ok (.goto 4, 3) := by decide +kernel
theorem d7_10 : decode jdk_29_method_69_code 10 = .ok (.ireturn, 1) := by decide +kernel
theorem ef_7 (m : MethodId) (x0 : Int32) (x1 : Int32) : entryFrame m #[(.int x0), (.int x1)] 2 = mkF m 0 #[.val (.int x0), .val (.int x1)] [] := by first | (simp [entryFrame, mkF, argsToLocals, Value.category]; done) | rfl
def Q7 (Z : State) (p1 : Int32) (p2 : Int32) (h0 : Heap) (n0 : Nat) (v : Option Value) (h : Heap) (L : List Loc) : Prop := v = some (.int p1) ∧ Fr n0 L ∧ h = h0
set_option maxRecDepth 65536 in
set_option maxHeartbeats 40000000 in
theorem rm7 (l : Launch) (Z : State) (a0 : Array Value) (hw : ∀ d ∈ tables_1, d.before a0 Z = true) (ws : List Jvm.Cond) (p1 : Int32) (p2 : Int32) (h0 : Heap) (n0 : Nat) (Z0 : n0 ≤ h0.size) (hc2 : ¬ (p2 < p1)) :
    MetFree l (⟨"java/lang/Math", "min", "(II)I"⟩ : MethodName) (head1 (Jvm.Cond.code (⟨"java/lang/Math", "min", "(II)I"⟩ : MethodName) jdk_29_method_69_code 2 (some .int) :: ws) ({ frames := 0, cells := 0, slots := 0, locals := 0 } : Room)) (fun a U => a = #[(.int p1), (.int p2)] ∧ Z.Warmed39 U.vm ∧ U.heap = h0) (fun _ _ _ _ _ => True) (fun _ U o U' => ∃ v L, o = .returned v ∧ Q7 Z p1 p2 h0 n0 v U'.heap L ∧ FrameEnd U o U' L ({ frames := 0, cells := 0, slots := 0, locals := 0 } : Room).cells ({ frames := 0, cells := 0, slots := 0, locals := 0 } : Room).slots) := by
  refine MetFree.of_bodySF (Jvm.Free.JP.mathPlain rfl (by decide +kernel)) hisR ?_
  intro p e s m args below meth c s₁ Bd hml0 hP hK
  obtain ⟨rfl, hZ, hh⟩ := hP
  have hx := Bd.exec
  have hby := Bd.bytes
  have hml : c.maxLocals = 2 := hml0
  have hown : s.vm.findClass "java/lang/Math" = some m.cls := findClass_of_methodNamed Bd.named
  have hnm := (name_of_methodNamed Bd.named Bd.method).1
  have X0 : Stand p l e ({ frames := 0, cells := 0, slots := 0, locals := 0 } : Room) s m #[(.int p1), (.int p2)] below meth c s₁ [] 0 0 := Stand.of_body Bd
  have e0 : s₁.heap = h0 := by rw [← hh, Bd.state]; rfl
  have N0 := Fr.nil n0
  have pre0 : ∀ t, Steps p.tables e below (s₁.setTop (mkF m 0 #[.val (.int p1), .val (.int p2)] [])) t → Steps p.tables e below (s₁.setTop (entryFrame m #[(.int p1), (.int p2)] 2)) t := fun t k => castTop (ef_7 m p1 p2) k

  obtain ⟨fs, hr, hrun, hended, hW, hsame⟩ := X0.leave (v := some (.int p1)) (fun h => by rw [Bd.returns] at h; cases h)
  refine ⟨_, _, pre0 _ ?_, hrun, hended, _, _, rfl, ?_, ⟨_, rfl⟩, hW, hsame.mono (by decide) (by decide)⟩
  · show Steps p.tables e below (s₁.setTop (mkF m 0 #[.val (.int p1), .val (.int p2)] [])) _
    refine XS.iloadN X0.here hx rfl (hb hby d7_0) rfl ?_
    show Steps p.tables e below (s₁.setTop (mkF m 1 #[.val (.int p1), .val (.int p2)] [(.int p1)])) _
    refine XS.iloadN X0.here hx rfl (hb hby d7_1) rfl ?_
    show Steps p.tables e below (s₁.setTop (mkF m 2 #[.val (.int p1), .val (.int p2)] [(.int p2), (.int p1)])) _
    refine XS.icmpNo X0.here hx rfl (hb hby d7_2) rfl (flt hc2).2.2.1 ?_
    show Steps p.tables e below (s₁.setTop (mkF m 5 #[.val (.int p1), .val (.int p2)] [])) _
    refine XS.iloadN X0.here hx rfl (hb hby d7_5) rfl ?_
    show Steps p.tables e below (s₁.setTop (mkF m 6 #[.val (.int p1), .val (.int p2)] [(.int p1)])) _
    refine XS.goto X0.here hx rfl (pc0 := 6) (pc' := 10) rfl (hb hby d7_6) (by decide) (by decide) ?_
    show Steps p.tables e below (s₁.setTop (mkF m 10 #[.val (.int p1), .val (.int p2)] [(.int p1)])) _
    exact retI X0 hx Bd.returns (hb hby d7_10) hr
  · show Q7 Z p1 p2 h0 n0 _ s₁.heap _
    rw [e0]
    exact ⟨rfl, N0, rfl⟩

theorem d6_0 : decode jdk_65_method_123_code 0 = .ok (.iload_n 1, 1) := by decide +kernel
theorem d6_1 : decode jdk_65_method_123_code 1 = .ok (.aload_n 0, 1) := by decide +kernel
theorem d6_2 : decode jdk_65_method_123_code 2 = .ok (.arraylength, 1) := by decide +kernel
theorem d6_3 : decode jdk_65_method_123_code 3 = .ok (.if_icmp .ne 11, 3) := by decide +kernel
theorem d6_14 : decode jdk_65_method_123_code 14 = .ok (.iload_n 1, 1) := by decide +kernel
theorem d6_15 : decode jdk_65_method_123_code 15 = .ok (.newarray .int, 2) := by decide +kernel
theorem d6_17 : decode jdk_65_method_123_code 17 = .ok (.astore_n 2, 1) := by decide +kernel
theorem d6_18 : decode jdk_65_method_123_code 18 = .ok (.aload_n 0, 1) := by decide +kernel
theorem d6_19 : decode jdk_65_method_123_code 19 = .ok (.iconst 0, 1) := by decide +kernel
theorem d6_20 : decode jdk_65_method_123_code 20 = .ok (.aload_n 2, 1) := by decide +kernel
theorem d6_21 : decode jdk_65_method_123_code 21 = .ok (.iconst 0, 1) := by decide +kernel
theorem d6_22 : decode jdk_65_method_123_code 22 = .ok (.aload_n 0, 1) := by decide +kernel
theorem d6_23 : decode jdk_65_method_123_code 23 = .ok (.arraylength, 1) := by decide +kernel
theorem d6_24 : decode jdk_65_method_123_code 24 = .ok (.iload_n 1, 1) := by decide +kernel
theorem d6_25 : decode jdk_65_method_123_code 25 = .ok (.invokestatic 304, 3) := by decide +kernel
theorem d6_28 : decode jdk_65_method_123_code 28 = .ok (.invokestatic 150, 3) := by decide +kernel
theorem d6_31 : decode jdk_65_method_123_code 31 = .ok (.aload_n 2, 1) := by decide +kernel
theorem d6_32 : decode jdk_65_method_123_code 32 = .ok (.areturn, 1) := by decide +kernel
theorem pd_7 : parseMethodDescriptor "(II)I" = some ⟨[.int, .int], some .int⟩ := by decide +kernel
theorem pn_6 : plainName "java/util/Arrays" = true := by first | (simp [plainName, overriddenIn]; done) | decide +kernel
theorem ef_6 (m : MethodId) (x0 : Addr) (x1 : Int32) : entryFrame m #[(.ref x0), (.int x1)] 3 = mkF m 0 #[.val (.ref x0), .val (.int x1), .unset] [] := by first | (simp [entryFrame, mkF, argsToLocals, Value.category]; done) | rfl
def Q6 (Z : State) (a1 : Addr) (n n2 : Nat) (g : Nat → Int32) (kc : ClassId) (h0 : Heap) (n0 : Nat) (v : Option Value) (h : Heap) (L : List Loc) : Prop := ∃ (t : Addr) (kt : ClassId), v = some (.ref t) ∧ Fr n0 L ∧ Keep h0 h [] ∧ h0.size ≤ t ∧ Arv Z h t kt .int (Int32.ofNat n2) (own_vals g n2) (.int (0 : Int32))
set_option maxRecDepth 65536 in
set_option maxHeartbeats 40000000 in
theorem rm6 (l : Launch) (Z : State) (a0 : Array Value) (hw : ∀ d ∈ tables_1, d.before a0 Z = true) (ws : List Jvm.Cond) (a1 : Addr) (n n2 : Nat) (g : Nat → Int32) (kc : ClassId) (h0 : Heap) (n0 : Nat) (Z0 : n0 ≤ h0.size) (V0 : Arv Z h0 a1 kc .int (Int32.ofNat n) (own_vals g n) (.int (0 : Int32))) (hlt : n < n2) (hle : n2 ≤ 8) (hz : ∀ j, n ≤ j → g j = 0) :
    MetFree l (⟨"java/util/Arrays", "copyOf", "([II)[I"⟩ : MethodName) (head1 (Jvm.Cond.code (⟨"java/util/Arrays", "copyOf", "([II)[I"⟩ : MethodName) jdk_65_method_123_code 3 (some (.array .int)) :: ws) ({ frames := 1, cells := 1, slots := 8, locals := 32 } : Room)) (fun a U => a = #[(.ref a1), (.int (Int32.ofNat n2))] ∧ Z.Warmed39 U.vm ∧ U.heap = h0) (fun _ _ _ _ _ => True) (fun _ U o U' => ∃ v L, o = .returned v ∧ Q6 Z a1 n n2 g kc h0 n0 v U'.heap L ∧ FrameEnd U o U' L ({ frames := 1, cells := 1, slots := 8, locals := 32 } : Room).cells ({ frames := 1, cells := 1, slots := 8, locals := 32 } : Room).slots) := by
  refine MetFree.of_bodySF (plainFor_of_name pn_6) hisR ?_
  intro p e s m args below meth c s₁ Bd hml0 hP hK
  obtain ⟨rfl, hZ, hh⟩ := hP
  have hx := Bd.exec
  have hby := Bd.bytes
  have hml : c.maxLocals = 3 := hml0
  have hown : s.vm.findClass "java/util/Arrays" = some m.cls := findClass_of_methodNamed Bd.named
  have hnm := (name_of_methodNamed Bd.named Bd.method).1
  have X0 : Stand p l e ({ frames := 1, cells := 1, slots := 8, locals := 32 } : Room) s m #[(.ref a1), (.int (Int32.ofNat n2))] below meth c s₁ [] 0 0 := Stand.of_body Bd
  have e0 : s₁.heap = h0 := by rw [← hh, Bd.state]; rfl
  have N0 := Fr.nil n0
  show own_Fin p e below (fun o U' => ∃ v L, o = .returned v ∧ Q6 Z a1 n n2 g kc h0 n0 v U'.heap L ∧ FrameEnd s o U' L ({ frames := 1, cells := 1, slots := 8, locals := 32 } : Room).cells ({ frames := 1, cells := 1, slots := 8, locals := 32 } : Room).slots) (s₁.setTop (entryFrame m #[(.ref a1), (.int (Int32.ofNat n2))] 3))
  have hne : ¬ ((Int32.ofNat n2) = (Int32.ofNat n)) := fun q => absurd ((own_inj (by omega) (by omega)).mp q) (by omega)
  have hmin : ¬ (Int32.ofNat n2) < (Int32.ofNat n) := fun q => absurd ((own_lt (by omega) (by omega)).mp q) (by omega)
  refine own_lift (fun tz kz => castTop (ef_6 m a1 (Int32.ofNat n2)) kz) ?_
  show own_Fin p e below _ (s₁.setTop (mkF m 0 #[.val (.ref a1), .val (.int (Int32.ofNat n2)), .unset] []))
  refine own_lift (fun tz kz => XS.iloadN X0.here hx rfl (hb hby d6_0) rfl kz) ?_
  show own_Fin p e below _ (s₁.setTop (mkF m 1 #[.val (.ref a1), .val (.int (Int32.ofNat n2)), .unset] [(.int (Int32.ofNat n2))]))
  refine own_lift (fun tz kz => XS.aloadN X0.here hx rfl (hb hby d6_1) rfl rfl kz) ?_
  show own_Fin p e below _ (s₁.setTop (mkF m 2 #[.val (.ref a1), .val (.int (Int32.ofNat n2)), .unset] [(.ref a1), (.int (Int32.ofNat n2))]))
  have cpv_1 := V0
  obtain ⟨clv_1, Arv_1, qv_1, Sv_1, Mv_1, Hv_1, Gv_1⟩ := cpv_1
  refine own_lift (fun tz kz => X0.arraylength hx (by rw [e0]; exact Arv_1.1) (State.isArrayOf_alike hZ.alike Arv_1.2.1) (g := (mkF m 2 #[.val (.ref a1), .val (.int (Int32.ofNat n2)), .unset] [(.ref a1), (.int (Int32.ofNat n2))])) rfl rfl (hb hby d6_2) _ kz) ?_
  rw [len_of Sv_1 Mv_1]
  show own_Fin p e below _ (s₁.setTop (mkF m 3 #[.val (.ref a1), .val (.int (Int32.ofNat n2)), .unset] [(.int (Int32.ofNat n)), (.int (Int32.ofNat n2))]))
  refine own_lift (fun tz kz => XS.icmpYes X0.here hx rfl (pc0 := 3) (pc' := 14) rfl (hb hby d6_3) rfl (feq hne).2 (by decide) (by decide) kz) ?_
  show own_Fin p e below _ (s₁.setTop (mkF m 14 #[.val (.ref a1), .val (.int (Int32.ofNat n2)), .unset] []))
  refine own_lift (fun tz kz => XS.iloadN X0.here hx rfl (hb hby d6_14) rfl kz) ?_
  show own_Fin p e below _ (s₁.setTop (mkF m 15 #[.val (.ref a1), .val (.int (Int32.ofNat n2)), .unset] [(.int (Int32.ofNat n2))]))
  obtain ⟨Ta_3, ha_3, ka_3, Xa_3, ea_3, Ea_3, Aa_3, sta_3⟩ := newP X0 hx hZ (hw _ (List.mem_of_getElem? (i := 9) rfl)) e0 (g := (mkF m 15 #[.val (.ref a1), .val (.int (Int32.ofNat n2)), .unset] [(.int (Int32.ofNat n2))])) rfl (hb hby d6_15) rfl (own_nn (by omega)) (cap := 8) (by rw [own_n32 (by omega)]; exact hle) (by decide) (by decide) (by decide)
  obtain ⟨ba_3, ga_3⟩ : ∃ z, z = h0.size := ⟨_, rfl⟩
  rw [← ga_3] at Aa_3 sta_3
  have nea_3_a1 : a1 ≠ ba_3 := Nat.ne_of_lt (Nat.lt_of_lt_of_le V0.lt (Nat.le_of_eq ga_3.symm))
  have gba_3 : n0 ≤ ba_3 := Nat.le_trans Z0 (Nat.le_of_eq ga_3.symm)
  have va_3_a1 := V0.ext Ea_3
  have SZa_3 : n0 ≤ ha_3.size := Nat.le_trans Z0 Ea_3.1
  have Va_3 : Arv Z ha_3 ba_3 ka_3 .int (Int32.ofNat n2) (List.replicate n2 (Value.int (0 : Int32))) (.int (0 : Int32)) := (Arv.new Aa_3 (own_nn (by omega))).pad (pad_rep [] (.int (0 : Int32)) n2)
  refine own_lift (fun tz kz => sta_3 _ kz) ?_
  show own_Fin p e below _ (Ta_3.setTop (mkF m 17 #[.val (.ref a1), .val (.int (Int32.ofNat n2)), .unset] [(.ref ba_3)]))
  refine own_lift (fun tz kz => XS.astoreN Xa_3.here hx rfl (hb hby d6_17) rfl rfl (l' := #[.val (.ref a1), .val (.int (Int32.ofNat n2)), .val (.ref ba_3)]) rfl kz) ?_
  show own_Fin p e below _ (Ta_3.setTop (mkF m 18 #[.val (.ref a1), .val (.int (Int32.ofNat n2)), .val (.ref ba_3)] []))
  refine own_lift (fun tz kz => XS.aloadN Xa_3.here hx rfl (hb hby d6_18) rfl rfl kz) ?_
  show own_Fin p e below _ (Ta_3.setTop (mkF m 19 #[.val (.ref a1), .val (.int (Int32.ofNat n2)), .val (.ref ba_3)] [(.ref a1)]))
  refine own_lift (fun tz kz => XS.iconst Xa_3.here hx rfl (hb hby d6_19) kz) ?_
  show own_Fin p e below _ (Ta_3.setTop (mkF m 20 #[.val (.ref a1), .val (.int (Int32.ofNat n2)), .val (.ref ba_3)] [(.int (0 : Int32)), (.ref a1)]))
  refine own_lift (fun tz kz => XS.aloadN Xa_3.here hx rfl (hb hby d6_20) rfl rfl kz) ?_
  show own_Fin p e below _ (Ta_3.setTop (mkF m 21 #[.val (.ref a1), .val (.int (Int32.ofNat n2)), .val (.ref ba_3)] [(.ref ba_3), (.int (0 : Int32)), (.ref a1)]))
  refine own_lift (fun tz kz => XS.iconst Xa_3.here hx rfl (hb hby d6_21) kz) ?_
  show own_Fin p e below _ (Ta_3.setTop (mkF m 22 #[.val (.ref a1), .val (.int (Int32.ofNat n2)), .val (.ref ba_3)] [(.int (0 : Int32)), (.ref ba_3), (.int (0 : Int32)), (.ref a1)]))
  refine own_lift (fun tz kz => XS.aloadN Xa_3.here hx rfl (hb hby d6_22) rfl rfl kz) ?_
  show own_Fin p e below _ (Ta_3.setTop (mkF m 23 #[.val (.ref a1), .val (.int (Int32.ofNat n2)), .val (.ref ba_3)] [(.ref a1), (.int (0 : Int32)), (.ref ba_3), (.int (0 : Int32)), (.ref a1)]))
  have cpv_4 := va_3_a1
  obtain ⟨clv_4, Arv_4, qv_4, Sv_4, Mv_4, Hv_4, Gv_4⟩ := cpv_4
  refine own_lift (fun tz kz => Xa_3.arraylength hx (by rw [ea_3]; exact Arv_4.1) (State.isArrayOf_alike hZ.alike Arv_4.2.1) (g := (mkF m 23 #[.val (.ref a1), .val (.int (Int32.ofNat n2)), .val (.ref ba_3)] [(.ref a1), (.int (0 : Int32)), (.ref ba_3), (.int (0 : Int32)), (.ref a1)])) rfl rfl (hb hby d6_23) _ kz) ?_
  rw [len_of Sv_4 Mv_4]
  show own_Fin p e below _ (Ta_3.setTop (mkF m 24 #[.val (.ref a1), .val (.int (Int32.ofNat n2)), .val (.ref ba_3)] [(.int (Int32.ofNat n)), (.int (0 : Int32)), (.ref ba_3), (.int (0 : Int32)), (.ref a1)]))
  refine own_lift (fun tz kz => XS.iloadN Xa_3.here hx rfl (hb hby d6_24) rfl kz) ?_
  show own_Fin p e below _ (Ta_3.setTop (mkF m 25 #[.val (.ref a1), .val (.int (Int32.ofNat n2)), .val (.ref ba_3)] [(.int (Int32.ofNat n2)), (.int (Int32.ofNat n)), (.int (0 : Int32)), (.ref ba_3), (.int (0 : Int32)), (.ref a1)]))
  obtain ⟨_, _, ⟨Tk_5, Lk_5, kk_5, nk_5⟩, -, Xk_5, ⟨Lck_5, hQk_5, lk_5, yk_5, zk_5⟩, stk_5⟩ := Jvm.LawKit.callS Xa_3 hx (y := (⟨"java/lang/Math", "min", "(II)I"⟩ : MethodName)) hown (mvT hZ (hw _ (List.mem_of_getElem? (i := 30) rfl))) (mvT hZ (hw _ (List.mem_of_getElem? (i := 31) rfl))) (mvT hZ (hw _ (List.mem_of_getElem? (i := 32) rfl))) (mvT hZ (hw _ (List.mem_of_getElem? (i := 33) rfl))) (by decide) (backOf (W := 4) (rm7 l Z a0 hw [] (Int32.ofNat n) (Int32.ofNat n2) ha_3 n0 SZa_3 hmin) hZ (hw _ (List.mem_of_getElem? (i := 33) rfl)) (hw _ (List.mem_of_getElem? (i := 32) rfl)) (by decide) (by decide)) (g := (mkF m 25 #[.val (.ref a1), .val (.int (Int32.ofNat n2)), .val (.ref ba_3)] [(.int (Int32.ofNat n2)), (.int (Int32.ofNat n)), (.int (0 : Int32)), (.ref ba_3), (.int (0 : Int32)), (.ref a1)])) rfl (by rw [hml]; rfl) (argsL := [(.int (Int32.ofNat n)), (.int (Int32.ofNat n2))]) (rest := [(.int (0 : Int32)), (.ref ba_3), (.int (0 : Int32)), (.ref a1)]) (lenOf pd_7 rfl) rfl (by show 2 * 0 + _ ≤ _; exact Nat.le_of_eq rfl) (hb hby d6_25) (fun _ _ => ⟨rfl, ea_3, (by decide : 1 + 0 ≤ _), (by decide : 8 + 0 ≤ _)⟩)
  dsimp only [Pt.U, Pt.locs, Pt.cells, Pt.slots] at Xk_5 lk_5 yk_5 zk_5 stk_5 hQk_5
  subst lk_5 yk_5 zk_5
  obtain ⟨rfl, Nk_5q, ek_5⟩ := hQk_5
  have Nk_5 := Fr.app N0 Nk_5q
  refine own_lift (fun tz kz => stk_5 _ kz) ?_
  show own_Fin p e below _ (Tk_5.setTop (mkF m 28 #[.val (.ref a1), .val (.int (Int32.ofNat n2)), .val (.ref ba_3)] [(.int (Int32.ofNat n)), (.int (0 : Int32)), (.ref ba_3), (.int (0 : Int32)), (.ref a1)]))
  obtain ⟨Ty_6, hy_6, Ly_6, Xy_6, ey_6, Ny_6, Ky_6, Vy_6, sty_6⟩ := cpA Xk_5 hx hZ hown (hw _ (List.mem_of_getElem? (i := 34) rfl)) (hw _ (List.mem_of_getElem? (i := 37) rfl)) (hw _ (List.mem_of_getElem? (i := 35) rfl)) (hw _ (List.mem_of_getElem? (i := 36) rfl)) ek_5 va_3_a1 Va_3 (Or.inl ⟨rfl, rfl⟩) (by decide) (by decide) (own_nn (by omega)) (by rw [own_n32 (by omega)]; simp) (by rw [own_n32 (by omega), own_n32 (by omega)]; simp; omega) rfl (by rw [own_n32 (by omega), List.length_replicate]; simp; omega) Nk_5 gba_3 (g := (mkF m 28 #[.val (.ref a1), .val (.int (Int32.ofNat n2)), .val (.ref ba_3)] [(.int (Int32.ofNat n)), (.int (0 : Int32)), (.ref ba_3), (.int (0 : Int32)), (.ref a1)])) rfl (by rw [hml]; rfl) rfl (hb hby d6_28) (by decide) (W := 0) (by show 2 * 0 + _ ≤ _; exact Nat.le_of_eq rfl) (by decide)
  have VR : Arv Z hy_6 ba_3 ka_3 .int (Int32.ofNat n2) (own_vals g n2) (.int (0 : Int32)) := Vy_6.pad (own_cp g rfl (own_n32 (by omega)) (by omega) hz)
  have KR : Keep h0 hy_6 [] := ((Keep.refl h0 []).ext Ea_3).trans Ky_6 (fun x hx => Or.inr (by rw [List.mem_singleton.mp hx]; exact Nat.le_of_eq ga_3.symm))
  refine own_lift (fun tz kz => sty_6 _ kz) ?_
  show own_Fin p e below _ (Ty_6.setTop (mkF m 31 #[.val (.ref a1), .val (.int (Int32.ofNat n2)), .val (.ref ba_3)] []))
  refine own_lift (fun tz kz => XS.aloadN Xy_6.here hx rfl (hb hby d6_31) rfl rfl kz) ?_
  show own_Fin p e below _ (Ty_6.setTop (mkF m 32 #[.val (.ref a1), .val (.int (Int32.ofNat n2)), .val (.ref ba_3)] [(.ref ba_3)]))
  obtain ⟨fs, hr, hrun, hended, hW, hsame⟩ := Xy_6.leave (v := some (.ref ba_3)) (fun h => by rw [Bd.returns] at h; cases h)
  refine ⟨_, _, ?_, hrun, hended, _, _, rfl, ⟨ba_3, ka_3, rfl, Ny_6, by show Keep h0 Ty_6.heap []; rw [ey_6]; exact KR, Nat.le_of_eq ga_3.symm, by show Arv Z Ty_6.heap _ _ _ _ _ _; rw [ey_6]; exact VR⟩, ⟨_, rfl⟩, hW, hsame.mono (by decide) (by decide)⟩
  jvm_step Xy_6.here [Xy_6.here.top, hx, (hb hby d6_32), Xy_6.method', Bd.returns, Value.isRef, FieldType.isReference]
  first | (intro acts; rw [hr _ acts rfl rfl rfl]) | rw [hr _ _ rfl rfl rfl]
  exact Steps.refl _
theorem d5_0 : decode prog_21_method_4_code 0 = .ok (.iload_n 1, 1) := by decide +kernel
theorem d5_1 : decode prog_21_method_4_code 1 = .ok (.aload_n 0, 1) := by decide +kernel
theorem d5_2 : decode prog_21_method_4_code 2 = .ok (.getfield 7, 3) := by decide +kernel
theorem d5_5 : decode prog_21_method_4_code 5 = .ok (.arraylength, 1) := by decide +kernel
theorem d5_6 : decode prog_21_method_4_code 6 = .ok (.if_icmp .lt 17, 3) := by decide +kernel
theorem d5_9 : decode prog_21_method_4_code 9 = .ok (.aload_n 0, 1) := by decide +kernel
theorem d5_10 : decode prog_21_method_4_code 10 = .ok (.aload_n 0, 1) := by decide +kernel
theorem d5_11 : decode prog_21_method_4_code 11 = .ok (.getfield 7, 3) := by decide +kernel
theorem d5_14 : decode prog_21_method_4_code 14 = .ok (.iload_n 1, 1) := by decide +kernel
theorem d5_15 : decode prog_21_method_4_code 15 = .ok (.iconst 1, 1) := by decide +kernel
theorem d5_16 : decode prog_21_method_4_code 16 = .ok (.iadd, 1) := by decide +kernel
theorem d5_17 : decode prog_21_method_4_code 17 = .ok (.invokestatic 13, 3) := by decide +kernel
theorem d5_20 : decode prog_21_method_4_code 20 = .ok (.putfield 7, 3) := by decide +kernel
theorem d5_23 : decode prog_21_method_4_code 23 = .ok (.aload_n 0, 1) := by decide +kernel
theorem d5_24 : decode prog_21_method_4_code 24 = .ok (.getfield 7, 3) := by decide +kernel
theorem d5_27 : decode prog_21_method_4_code 27 = .ok (.iload_n 1, 1) := by decide +kernel
theorem d5_28 : decode prog_21_method_4_code 28 = .ok (.dup2, 1) := by decide +kernel
theorem d5_29 : decode prog_21_method_4_code 29 = .ok (.iaload, 1) := by decide +kernel
theorem d5_30 : decode prog_21_method_4_code 30 = .ok (.iconst 1, 1) := by decide +kernel
theorem d5_31 : decode prog_21_method_4_code 31 = .ok (.iadd, 1) := by decide +kernel
theorem d5_32 : decode prog_21_method_4_code 32 = .ok (.iastore, 1) := by decide +kernel
theorem d5_33 : decode prog_21_method_4_code 33 = .ok (.return_, 1) := by decide +kernel
theorem pd_6 : parseMethodDescriptor "([II)[I" = some ⟨[(.array .int), .int], some (.array .int)⟩ := by decide +kernel
theorem pn_5 : plainName "com/example/porridge/porridge/engine/VectorClock" = true := by first | (simp [plainName, overriddenIn]; done) | decide +kernel
theorem ef_5 (m : MethodId) (x0 : Addr) (x1 : Int32) : entryFrame m #[(.ref x0), (.int x1)] 2 = mkF m 0 #[.val (.ref x0), .val (.int x1)] [] := by first | (simp [entryFrame, mkF, argsToLocals, Value.category]; done) | rfl
def Q5 (Z : State) (a1 : Addr) (u n : Nat) (g : Nat → Int32) (h0 : Heap) (n0 : Nat) (v : Option Value) (h : Heap) (L : List Loc) : Prop := v = none ∧ Fr n0 L ∧ h0.size ≤ h.size ∧ ∃ n' : Nat, own_clk Z h n0 a1 n' (own_upd g u)
set_option maxRecDepth 65536 in
set_option maxHeartbeats 40000000 in
theorem rm5 (l : Launch) (Z : State) (a0 : Array Value) (hw : ∀ d ∈ tables_1, d.before a0 Z = true) (ws : List Jvm.Cond) (a1 : Addr) (u n : Nat) (g : Nat → Int32) (h0 : Heap) (n0 : Nat) (Z0 : n0 ≤ h0.size) (hu : u < 8) (HC : own_clk Z h0 n0 a1 n g) :
    MetFree l (⟨"com/example/porridge/porridge/engine/VectorClock", "increment", "(I)V"⟩ : MethodName) (head1 (Jvm.Cond.code (⟨"com/example/porridge/porridge/engine/VectorClock", "increment", "(I)V"⟩ : MethodName) prog_21_method_4_code 2 none :: ws) ({ frames := 2, cells := 1, slots := 8, locals := 47 } : Room)) (fun a U => a = #[(.ref a1), (.int (Int32.ofNat u))] ∧ Z.Warmed39 U.vm ∧ U.heap = h0) (fun _ _ _ _ _ => True) (fun _ U o U' => ∃ v L, o = .returned v ∧ Q5 Z a1 u n g h0 n0 v U'.heap L ∧ FrameEnd U o U' L ({ frames := 2, cells := 1, slots := 8, locals := 47 } : Room).cells ({ frames := 2, cells := 1, slots := 8, locals := 47 } : Room).slots) := by
  refine MetFree.of_bodySF (plainFor_of_name pn_5) hisR ?_
  intro p e s m args below meth c s₁ Bd hml0 hP hK
  obtain ⟨rfl, hZ, hh⟩ := hP
  have hx := Bd.exec
  have hby := Bd.bytes
  have hml : c.maxLocals = 2 := hml0
  have hown : s.vm.findClass "com/example/porridge/porridge/engine/VectorClock" = some m.cls := findClass_of_methodNamed Bd.named
  have hnm := (name_of_methodNamed Bd.named Bd.method).1
  have X0 : Stand p l e ({ frames := 2, cells := 1, slots := 8, locals := 47 } : Room) s m #[(.ref a1), (.int (Int32.ofNat u))] below meth c s₁ [] 0 0 := Stand.of_body Bd
  have e0 : s₁.heap = h0 := by rw [← hh, Bd.state]; rfl
  have N0 := Fr.nil n0
  show own_Fin p e below (fun o U' => ∃ v L, o = .returned v ∧ Q5 Z a1 u n g h0 n0 v U'.heap L ∧ FrameEnd s o U' L ({ frames := 2, cells := 1, slots := 8, locals := 47 } : Room).cells ({ frames := 2, cells := 1, slots := 8, locals := 47 } : Room).slots) (s₁.setTop (entryFrame m #[(.ref a1), (.int (Int32.ofNat u))] 2))
  obtain ⟨hn8, hz, E0, g_a1, t, kc, g_t, ne_t, F0, V0⟩ := HC
  have j23 : ∀ (T1 : State) (locs : List Loc) (h1 : Heap) (t1 : Addr) (kc1 : ClassId) (n1 : Nat), Stand p l e ({ frames := 2, cells := 1, slots := 8, locals := 47 } : Room) s m #[(.ref a1), (.int (Int32.ofNat u))] below meth c T1 locs 1 8 → T1.heap = h1 → Fr n0 locs → h0.size ≤ h1.size → Exa Z h1 a1 "com/example/porridge/porridge/engine/VectorClock" → Fld Z h1 a1 "com/example/porridge/porridge/engine/VectorClock" "counts" "[I" (.ref t1) → Arv Z h1 t1 kc1 .int (Int32.ofNat n1) (own_vals g n1) (.int (0 : Int32)) → n0 ≤ t1 → a1 ≠ t1 → u < n1 → n1 ≤ 8 → n ≤ n1 → own_Fin p e below (fun o U' => ∃ v L, o = .returned v ∧ Q5 Z a1 u n g h0 n0 v U'.heap L ∧ FrameEnd s o U' L ({ frames := 2, cells := 1, slots := 8, locals := 47 } : Room).cells ({ frames := 2, cells := 1, slots := 8, locals := 47 } : Room).slots) (T1.setTop (mkF m 23 #[.val (.ref a1), .val (.int (Int32.ofNat u))] [])) := by
    intro T1 locs h1 t1 kc1 n1 X1 e1 N1 hs1 E1 F1 V1 g_t1 ne_t1 hu1 hn1 hnn
    have SZ1 : n0 ≤ h1.size := Nat.le_trans Z0 hs1
    refine own_lift (fun tz kz => XS.aloadN X1.here hx rfl (hb hby d5_23) rfl rfl kz) ?_
    show own_Fin p e below _ (T1.setTop (mkF m 24 #[.val (.ref a1), .val (.int (Int32.ofNat u))] [(.ref a1)]))
    obtain ⟨Tg_1, Xg_1, eg_1, stg_1⟩ := getF X1 hx hZ hown (host := "") (Or.inl (hw _ (List.mem_of_getElem? (i := 10) rfl))) Via.refl e1 F1 (g := (mkF m 24 #[.val (.ref a1), .val (.int (Int32.ofNat u))] [(.ref a1)])) rfl rfl (hb hby d5_24)
    refine own_lift (fun tz kz => stg_1 _ kz) ?_
    show own_Fin p e below _ (Tg_1.setTop (mkF m 27 #[.val (.ref a1), .val (.int (Int32.ofNat u))] [(.ref t1)]))
    refine own_lift (fun tz kz => XS.iloadN Xg_1.here hx rfl (hb hby d5_27) rfl kz) ?_
    show own_Fin p e below _ (Tg_1.setTop (mkF m 28 #[.val (.ref a1), .val (.int (Int32.ofNat u))] [(.int (Int32.ofNat u)), (.ref t1)]))
    refine own_lift (st' := Tg_1.setTop (mkF m 29 #[.val (.ref a1), .val (.int (Int32.ofNat u))] [(.int (Int32.ofNat u)), (.ref t1), (.int (Int32.ofNat u)), (.ref t1)])) (fun tz kz => by jvm_step Xg_1.here [Xg_1.here.top, hx, (hb hby d5_28), Value.category]; exact kz) ?_
    show own_Fin p e below _ (Tg_1.setTop (mkF m 29 #[.val (.ref a1), .val (.int (Int32.ofNat u))] [(.int (Int32.ofNat u)), (.ref t1), (.int (Int32.ofNat u)), (.ref t1)]))
    have cpv_2 := V1
    obtain ⟨clv_2, Arv_2, qv_2, Sv_2, Mv_2, Hv_2, Gv_2⟩ := cpv_2
    refine own_lift (fun tz kz => Xg_1.iaload hx (j := (Int32.ofNat u)) (v := (.int (g u))) (by rw [eg_1]; exact Arv_2.1) (State.isArrayOf_alike hZ.alike Arv_2.2.1) Arv_2.2.2 (own_hin hn1 hu1 Sv_2) (own_hat hn1 hu1 Hv_2 Sv_2) (g := (mkF m 29 #[.val (.ref a1), .val (.int (Int32.ofNat u))] [(.int (Int32.ofNat u)), (.ref t1), (.int (Int32.ofNat u)), (.ref t1)])) rfl rfl (hb hby d5_29) _ kz) ?_
    show own_Fin p e below _ (Tg_1.setTop (mkF m 30 #[.val (.ref a1), .val (.int (Int32.ofNat u))] [(.int (g u)), (.int (Int32.ofNat u)), (.ref t1)]))
    refine own_lift (fun tz kz => XS.iconst Xg_1.here hx rfl (hb hby d5_30) kz) ?_
    show own_Fin p e below _ (Tg_1.setTop (mkF m 31 #[.val (.ref a1), .val (.int (Int32.ofNat u))] [(.int (1 : Int32)), (.int (g u)), (.int (Int32.ofNat u)), (.ref t1)]))
    refine own_lift (fun tz kz => XS.iadd Xg_1.here hx rfl (hb hby d5_31) rfl kz) ?_
    show own_Fin p e below _ (Tg_1.setTop (mkF m 32 #[.val (.ref a1), .val (.int (Int32.ofNat u))] [(.int ((g u) + (1 : Int32))), (.int (Int32.ofNat u)), (.ref t1)]))
    have cpv_3 := V1
    obtain ⟨clv_3, Arv_3, qv_3, Sv_3, Mv_3, Hv_3, Gv_3⟩ := cpv_3
    obtain ⟨Tw_4, hw_4, Xw_4, ew_4, Ww_4, stw_4⟩ := stI Xg_1 hx hZ eg_1 Arv_3 (j := (Int32.ofNat u)) (own_hin hn1 hu1 Sv_3) (g := (mkF m 32 #[.val (.ref a1), .val (.int (Int32.ofNat u))] [(.int ((g u) + (1 : Int32))), (.int (Int32.ofNat u)), (.ref t1)])) rfl rfl (hb hby d5_32)
    have fw_4_a1_counts := F1.other Ww_4 (Or.inl ne_t1)
    have fw_4_a1_Exa := E1.wr Ww_4
    have SZw_4 : n0 ≤ hw_4.size := Nat.le_trans SZ1 (Keep.of_wr Ww_4).1
    have Vw_4 : Arv Z hw_4 t1 kc1 .int (Int32.ofNat n1) ((own_vals g n1).set u (.int ((g u) + (1 : Int32)))) (.int (0 : Int32)) := Arv.set Arv_3 qv_3 Sv_3 Mv_3 Hv_3 Gv_3 rfl Ww_4 u (own_n32 (by omega)) (by rw [own_vlen]; exact hu1)
    have Nw_4 := Fr.snoc Xw_4 N1 g_t1
    refine own_lift (fun tz kz => stw_4 _ kz) ?_
    show own_Fin p e below _ (Tw_4.setTop (mkF m 33 #[.val (.ref a1), .val (.int (Int32.ofNat u))] []))
    obtain ⟨fs, hr, hrun, hended, hW, hsame⟩ := Xw_4.leave (v := none) (fun _ => rfl)
    exact ⟨_, _, Xw_4.returnOut hx Bd.returns (hb hby d5_33) hr, hrun, hended, _, _, rfl, ⟨rfl, Nw_4, by show h0.size ≤ Tw_4.heap.size; rw [ew_4]; exact Nat.le_trans hs1 (Keep.of_wr Ww_4).1, n1, hn1, own_upd_z hz hnn hu1, by show Exa Z Tw_4.heap _ _; rw [ew_4]; exact fw_4_a1_Exa, g_a1, t1, kc1, g_t1, ne_t1, by show Fld Z Tw_4.heap _ _ _ _ _; rw [ew_4]; exact fw_4_a1_counts, by show Arv Z Tw_4.heap _ _ _ _ _ _; rw [ew_4, ← own_set]; exact Vw_4⟩, ⟨_, rfl⟩, hW, hsame.mono (by decide) (by decide)⟩
  refine own_lift (fun tz kz => castTop (ef_5 m a1 (Int32.ofNat u)) kz) ?_
  show own_Fin p e below _ (s₁.setTop (mkF m 0 #[.val (.ref a1), .val (.int (Int32.ofNat u))] []))
  refine own_lift (fun tz kz => XS.iloadN X0.here hx rfl (hb hby d5_0) rfl kz) ?_
  show own_Fin p e below _ (s₁.setTop (mkF m 1 #[.val (.ref a1), .val (.int (Int32.ofNat u))] [(.int (Int32.ofNat u))]))
  refine own_lift (fun tz kz => XS.aloadN X0.here hx rfl (hb hby d5_1) rfl rfl kz) ?_
  show own_Fin p e below _ (s₁.setTop (mkF m 2 #[.val (.ref a1), .val (.int (Int32.ofNat u))] [(.ref a1), (.int (Int32.ofNat u))]))
  obtain ⟨Tg_5, Xg_5, eg_5, stg_5⟩ := getF X0 hx hZ hown (host := "") (Or.inl (hw _ (List.mem_of_getElem? (i := 10) rfl))) Via.refl e0 F0 (g := (mkF m 2 #[.val (.ref a1), .val (.int (Int32.ofNat u))] [(.ref a1), (.int (Int32.ofNat u))])) rfl rfl (hb hby d5_2)
  refine own_lift (fun tz kz => stg_5 _ kz) ?_
  show own_Fin p e below _ (Tg_5.setTop (mkF m 5 #[.val (.ref a1), .val (.int (Int32.ofNat u))] [(.ref t), (.int (Int32.ofNat u))]))
  have cpv_6 := V0
  obtain ⟨clv_6, Arv_6, qv_6, Sv_6, Mv_6, Hv_6, Gv_6⟩ := cpv_6
  refine own_lift (fun tz kz => Xg_5.arraylength hx (by rw [eg_5]; exact Arv_6.1) (State.isArrayOf_alike hZ.alike Arv_6.2.1) (g := (mkF m 5 #[.val (.ref a1), .val (.int (Int32.ofNat u))] [(.ref t), (.int (Int32.ofNat u))])) rfl rfl (hb hby d5_5) _ kz) ?_
  rw [len_of Sv_6 Mv_6]
  show own_Fin p e below _ (Tg_5.setTop (mkF m 6 #[.val (.ref a1), .val (.int (Int32.ofNat u))] [(.int (Int32.ofNat n)), (.int (Int32.ofNat u))]))
  by_cases hc6_7 : (Int32.ofNat u) < (Int32.ofNat n)
  · refine own_lift (fun tz kz => XS.icmpYes Xg_5.here hx rfl (pc0 := 6) (pc' := 23) rfl (hb hby d5_6) rfl (tlt hc6_7).1 (by decide) (by decide) kz) ?_
    show own_Fin p e below _ (Tg_5.setTop (mkF m 23 #[.val (.ref a1), .val (.int (Int32.ofNat u))] []))
    exact j23 _ _ _ _ _ n (Xg_5.more (by decide) (by decide)) eg_5 N0 (Nat.le_refl _) E0 F0 V0 g_t ne_t ((own_lt (by omega) (by omega)).mp hc6_7) hn8 (Nat.le_refl _)
  · refine own_lift (fun tz kz => XS.icmpNo Xg_5.here hx rfl (hb hby d5_6) rfl (flt hc6_7).1 kz) ?_
    show own_Fin p e below _ (Tg_5.setTop (mkF m 9 #[.val (.ref a1), .val (.int (Int32.ofNat u))] []))
    refine own_lift (fun tz kz => XS.aloadN Xg_5.here hx rfl (hb hby d5_9) rfl rfl kz) ?_
    show own_Fin p e below _ (Tg_5.setTop (mkF m 10 #[.val (.ref a1), .val (.int (Int32.ofNat u))] [(.ref a1)]))
    refine own_lift (fun tz kz => XS.aloadN Xg_5.here hx rfl (hb hby d5_10) rfl rfl kz) ?_
    show own_Fin p e below _ (Tg_5.setTop (mkF m 11 #[.val (.ref a1), .val (.int (Int32.ofNat u))] [(.ref a1), (.ref a1)]))
    obtain ⟨Tg_8, Xg_8, eg_8, stg_8⟩ := getF Xg_5 hx hZ hown (host := "") (Or.inl (hw _ (List.mem_of_getElem? (i := 10) rfl))) Via.refl eg_5 F0 (g := (mkF m 11 #[.val (.ref a1), .val (.int (Int32.ofNat u))] [(.ref a1), (.ref a1)])) rfl rfl (hb hby d5_11)
    refine own_lift (fun tz kz => stg_8 _ kz) ?_
    show own_Fin p e below _ (Tg_8.setTop (mkF m 14 #[.val (.ref a1), .val (.int (Int32.ofNat u))] [(.ref t), (.ref a1)]))
    refine own_lift (fun tz kz => XS.iloadN Xg_8.here hx rfl (hb hby d5_14) rfl kz) ?_
    show own_Fin p e below _ (Tg_8.setTop (mkF m 15 #[.val (.ref a1), .val (.int (Int32.ofNat u))] [(.int (Int32.ofNat u)), (.ref t), (.ref a1)]))
    refine own_lift (fun tz kz => XS.iconst Xg_8.here hx rfl (hb hby d5_15) kz) ?_
    show own_Fin p e below _ (Tg_8.setTop (mkF m 16 #[.val (.ref a1), .val (.int (Int32.ofNat u))] [(.int (1 : Int32)), (.int (Int32.ofNat u)), (.ref t), (.ref a1)]))
    refine own_lift (fun tz kz => XS.iadd Xg_8.here hx rfl (hb hby d5_16) rfl kz) ?_
    show own_Fin p e below _ (Tg_8.setTop (mkF m 17 #[.val (.ref a1), .val (.int (Int32.ofNat u))] [(.int ((Int32.ofNat u) + (1 : Int32))), (.ref t), (.ref a1)]))
    rw [own_one]
    show own_Fin p e below _ (Tg_8.setTop (mkF m 17 #[.val (.ref a1), .val (.int (Int32.ofNat u))] [(.int (Int32.ofNat (u + 1))), (.ref t), (.ref a1)]))
    have hnu : n ≤ u := Nat.le_of_not_lt fun q => hc6_7 ((own_lt (by omega) (by omega)).mpr q)
    obtain ⟨_, _, ⟨Tk_9, Lk_9, kk_9, nk_9⟩, -, Xk_9, ⟨Lck_9, hQk_9, lk_9, yk_9, zk_9⟩, stk_9⟩ := Jvm.LawKit.callS Xg_8 hx (y := (⟨"java/util/Arrays", "copyOf", "([II)[I"⟩ : MethodName)) hown (mvT hZ (hw _ (List.mem_of_getElem? (i := 26) rfl))) (mvT hZ (hw _ (List.mem_of_getElem? (i := 27) rfl))) (mvT hZ (hw _ (List.mem_of_getElem? (i := 28) rfl))) (mvT hZ (hw _ (List.mem_of_getElem? (i := 29) rfl))) (by decide) (backOf (W := 1) (rm6 l Z a0 hw [] t n (u + 1) g kc h0 n0 Z0 V0 (by omega) (by omega) hz) hZ (hw _ (List.mem_of_getElem? (i := 29) rfl)) (hw _ (List.mem_of_getElem? (i := 28) rfl)) (by decide) (by decide)) (g := (mkF m 17 #[.val (.ref a1), .val (.int (Int32.ofNat u))] [(.int (Int32.ofNat (u + 1))), (.ref t), (.ref a1)])) rfl (by rw [hml]; rfl) (argsL := [(.ref t), (.int (Int32.ofNat (u + 1)))]) (rest := [(.ref a1)]) (lenOf pd_6 rfl) rfl (by show 2 * 0 + _ ≤ _; exact Nat.le_of_eq rfl) (hb hby d5_17) (fun _ _ => ⟨rfl, eg_8, (by decide : 0 + 1 ≤ _), (by decide : 0 + 8 ≤ _)⟩)
    dsimp only [Pt.U, Pt.locs, Pt.cells, Pt.slots] at Xk_9 lk_9 yk_9 zk_9 stk_9 hQk_9
    subst lk_9 yk_9 zk_9
    obtain ⟨tt, ktt, rfl, Nk_9q, KC, hst, VT⟩ := hQk_9
    have Nk_9 := Fr.app N0 Nk_9q
    refine own_lift (fun tz kz => stk_9 _ kz) ?_
    have g_tt : n0 ≤ tt := Nat.le_trans Z0 hst
    have ne_tt : a1 ≠ tt := Nat.ne_of_lt (Nat.lt_of_lt_of_le E0.lt hst)
    have vk_9_t := V0.keep KC (by simp only [List.mem_cons, List.not_mem_nil, or_false, not_false_eq_true])
    have fk_9_a1_counts := F0.keep KC (by simp only [List.mem_cons, List.not_mem_nil, or_false, not_false_eq_true])
    have fk_9_a1_Exa := E0.keep KC
    have SZk_9 : n0 ≤ Tk_9.heap.size := Nat.le_trans Z0 KC.1
    show own_Fin p e below _ (Tk_9.setTop (mkF m 20 #[.val (.ref a1), .val (.int (Int32.ofNat u))] [(.ref tt), (.ref a1)]))
    obtain ⟨Tp_10, hp_10, Xp_10, ep_10, Wp_10, stp_10⟩ := putF Xk_9 hx hZ hown (host := "") (Or.inl (hw _ (List.mem_of_getElem? (i := 10) rfl))) Via.refl rfl fk_9_a1_counts fk_9_a1_Exa (Or.inl (hw _ (List.mem_of_getElem? (i := 11) rfl))) (hw _ (List.mem_of_getElem? (i := 1) rfl)) (ty := (.array .int)) (by decide) rfl rfl (g := (mkF m 20 #[.val (.ref a1), .val (.int (Int32.ofNat u))] [(.ref tt), (.ref a1)])) rfl rfl (hb hby d5_20)
    have Fwp_10 := fk_9_a1_counts.same Wp_10
    have vp_10_tt := VT.other Wp_10 (Ne.symm ne_tt)
    have fp_10_a1_Exa := fk_9_a1_Exa.wr Wp_10
    have SZp_10 : n0 ≤ hp_10.size := Nat.le_trans SZk_9 (Keep.of_wr Wp_10).1
    have Np_10 := Fr.snoc Xp_10 Nk_9 g_a1
    refine own_lift (fun tz kz => stp_10 _ kz) ?_
    show own_Fin p e below _ (Tp_10.setTop (mkF m 23 #[.val (.ref a1), .val (.int (Int32.ofNat u))] []))
    exact j23 _ _ _ _ _ (u + 1) Xp_10 ep_10 Np_10 (Nat.le_trans KC.1 (Keep.of_wr Wp_10).1) fp_10_a1_Exa Fwp_10 vp_10_tt g_tt ne_tt (by omega) (by omega) (by have := fun q => hc6_7 ((own_lt (by omega) (by omega)).mpr q); omega)
theorem d4_0 : decode prog_21_method_3_code 0 = .ok (.iload_n 1, 1) := by decide +kernel
theorem d4_1 : decode prog_21_method_3_code 1 = .ok (.aload_n 0, 1) := by decide +kernel
theorem d4_2 : decode prog_21_method_3_code 2 = .ok (.getfield 7, 3) := by decide +kernel
theorem d4_5 : decode prog_21_method_3_code 5 = .ok (.arraylength, 1) := by decide +kernel
theorem d4_6 : decode prog_21_method_3_code 6 = .ok (.if_icmp .ge 12, 3) := by decide +kernel
theorem d4_9 : decode prog_21_method_3_code 9 = .ok (.aload_n 0, 1) := by decide +kernel
theorem d4_10 : decode prog_21_method_3_code 10 = .ok (.getfield 7, 3) := by decide +kernel
theorem d4_13 : decode prog_21_method_3_code 13 = .ok (.iload_n 1, 1) := by decide +kernel
theorem d4_14 : decode prog_21_method_3_code 14 = .ok (.iaload, 1) := by decide +kernel
theorem d4_15 : decode prog_21_method_3_code 15 = .ok (.goto 4, 3) := by decide +kernel
theorem d4_18 : decode prog_21_method_3_code 18 = .ok (.iconst 0, 1) := by decide +kernel
theorem d4_19 : decode prog_21_method_3_code 19 = .ok (.ireturn, 1) := by decide +kernel
theorem pn_4 : plainName "com/example/porridge/porridge/engine/VectorClock" = true := by first | (simp [plainName, overriddenIn]; done) | decide +kernel
theorem ef_4 (m : MethodId) (x0 : Addr) (x1 : Int32) : entryFrame m #[(.ref x0), (.int x1)] 2 = mkF m 0 #[.val (.ref x0), .val (.int x1)] [] := by first | (simp [entryFrame, mkF, argsToLocals, Value.category]; done) | rfl
def Q4 (Z : State) (a1 : Addr) (u n : Nat) (g : Nat → Int32) (h0 : Heap) (n0 : Nat) (v : Option Value) (h : Heap) (L : List Loc) : Prop := v = some (.int (g u)) ∧ Fr n0 L ∧ h = h0
set_option maxRecDepth 65536 in
set_option maxHeartbeats 40000000 in
theorem rm4 (l : Launch) (Z : State) (a0 : Array Value) (hw : ∀ d ∈ tables_1, d.before a0 Z = true) (ws : List Jvm.Cond) (a1 : Addr) (u n : Nat) (g : Nat → Int32) (h0 : Heap) (n0 : Nat) (Z0 : n0 ≤ h0.size) (hu : u < 2147483648) (HC : own_clk Z h0 n0 a1 n g) :
    MetFree l (⟨"com/example/porridge/porridge/engine/VectorClock", "get", "(I)I"⟩ : MethodName) (head1 (Jvm.Cond.code (⟨"com/example/porridge/porridge/engine/VectorClock", "get", "(I)I"⟩ : MethodName) prog_21_method_3_code 2 (some .int) :: ws) ({ frames := 0, cells := 0, slots := 0, locals := 0 } : Room)) (fun a U => a = #[(.ref a1), (.int (Int32.ofNat u))] ∧ Z.Warmed39 U.vm ∧ U.heap = h0) (fun _ _ _ _ _ => True) (fun _ U o U' => ∃ v L, o = .returned v ∧ Q4 Z a1 u n g h0 n0 v U'.heap L ∧ FrameEnd U o U' L ({ frames := 0, cells := 0, slots := 0, locals := 0 } : Room).cells ({ frames := 0, cells := 0, slots := 0, locals := 0 } : Room).slots) := by
  refine MetFree.of_bodySF (plainFor_of_name pn_4) hisR ?_
  intro p e s m args below meth c s₁ Bd hml0 hP hK
  obtain ⟨rfl, hZ, hh⟩ := hP
  have hx := Bd.exec
  have hby := Bd.bytes
  have hml : c.maxLocals = 2 := hml0
  have hown : s.vm.findClass "com/example/porridge/porridge/engine/VectorClock" = some m.cls := findClass_of_methodNamed Bd.named
  have hnm := (name_of_methodNamed Bd.named Bd.method).1
  have X0 : Stand p l e ({ frames := 0, cells := 0, slots := 0, locals := 0 } : Room) s m #[(.ref a1), (.int (Int32.ofNat u))] below meth c s₁ [] 0 0 := Stand.of_body Bd
  have e0 : s₁.heap = h0 := by rw [← hh, Bd.state]; rfl
  have N0 := Fr.nil n0
  show own_Fin p e below (fun o U' => ∃ v L, o = .returned v ∧ Q4 Z a1 u n g h0 n0 v U'.heap L ∧ FrameEnd s o U' L ({ frames := 0, cells := 0, slots := 0, locals := 0 } : Room).cells ({ frames := 0, cells := 0, slots := 0, locals := 0 } : Room).slots) (s₁.setTop (entryFrame m #[(.ref a1), (.int (Int32.ofNat u))] 2))
  obtain ⟨hn8, hz, E0, g_a1, t, kc, g_t, ne_t, F0, V0⟩ := HC
  refine own_lift (fun tz kz => castTop (ef_4 m a1 (Int32.ofNat u)) kz) ?_
  show own_Fin p e below _ (s₁.setTop (mkF m 0 #[.val (.ref a1), .val (.int (Int32.ofNat u))] []))
  refine own_lift (fun tz kz => XS.iloadN X0.here hx rfl (hb hby d4_0) rfl kz) ?_
  show own_Fin p e below _ (s₁.setTop (mkF m 1 #[.val (.ref a1), .val (.int (Int32.ofNat u))] [(.int (Int32.ofNat u))]))
  refine own_lift (fun tz kz => XS.aloadN X0.here hx rfl (hb hby d4_1) rfl rfl kz) ?_
  show own_Fin p e below _ (s₁.setTop (mkF m 2 #[.val (.ref a1), .val (.int (Int32.ofNat u))] [(.ref a1), (.int (Int32.ofNat u))]))
  obtain ⟨Tg_1, Xg_1, eg_1, stg_1⟩ := getF X0 hx hZ hown (host := "") (Or.inl (hw _ (List.mem_of_getElem? (i := 10) rfl))) Via.refl e0 F0 (g := (mkF m 2 #[.val (.ref a1), .val (.int (Int32.ofNat u))] [(.ref a1), (.int (Int32.ofNat u))])) rfl rfl (hb hby d4_2)
  refine own_lift (fun tz kz => stg_1 _ kz) ?_
  show own_Fin p e below _ (Tg_1.setTop (mkF m 5 #[.val (.ref a1), .val (.int (Int32.ofNat u))] [(.ref t), (.int (Int32.ofNat u))]))
  have cpv_2 := V0
  obtain ⟨clv_2, Arv_2, qv_2, Sv_2, Mv_2, Hv_2, Gv_2⟩ := cpv_2
  refine own_lift (fun tz kz => Xg_1.arraylength hx (by rw [eg_1]; exact Arv_2.1) (State.isArrayOf_alike hZ.alike Arv_2.2.1) (g := (mkF m 5 #[.val (.ref a1), .val (.int (Int32.ofNat u))] [(.ref t), (.int (Int32.ofNat u))])) rfl rfl (hb hby d4_5) _ kz) ?_
  rw [len_of Sv_2 Mv_2]
  show own_Fin p e below _ (Tg_1.setTop (mkF m 6 #[.val (.ref a1), .val (.int (Int32.ofNat u))] [(.int (Int32.ofNat n)), (.int (Int32.ofNat u))]))
  by_cases hc6_3 : (Int32.ofNat u) < (Int32.ofNat n)
  · refine own_lift (fun tz kz => XS.icmpNo Xg_1.here hx rfl (hb hby d4_6) rfl (tlt hc6_3).2.1 kz) ?_
    show own_Fin p e below _ (Tg_1.setTop (mkF m 9 #[.val (.ref a1), .val (.int (Int32.ofNat u))] []))
    have hun : u < n := (own_lt (by omega) (by omega)).mp hc6_3
    refine own_lift (fun tz kz => XS.aloadN Xg_1.here hx rfl (hb hby d4_9) rfl rfl kz) ?_
    show own_Fin p e below _ (Tg_1.setTop (mkF m 10 #[.val (.ref a1), .val (.int (Int32.ofNat u))] [(.ref a1)]))
    obtain ⟨Tg_4, Xg_4, eg_4, stg_4⟩ := getF Xg_1 hx hZ hown (host := "") (Or.inl (hw _ (List.mem_of_getElem? (i := 10) rfl))) Via.refl eg_1 F0 (g := (mkF m 10 #[.val (.ref a1), .val (.int (Int32.ofNat u))] [(.ref a1)])) rfl rfl (hb hby d4_10)
    refine own_lift (fun tz kz => stg_4 _ kz) ?_
    show own_Fin p e below _ (Tg_4.setTop (mkF m 13 #[.val (.ref a1), .val (.int (Int32.ofNat u))] [(.ref t)]))
    refine own_lift (fun tz kz => XS.iloadN Xg_4.here hx rfl (hb hby d4_13) rfl kz) ?_
    show own_Fin p e below _ (Tg_4.setTop (mkF m 14 #[.val (.ref a1), .val (.int (Int32.ofNat u))] [(.int (Int32.ofNat u)), (.ref t)]))
    have cpv_5 := V0
    obtain ⟨clv_5, Arv_5, qv_5, Sv_5, Mv_5, Hv_5, Gv_5⟩ := cpv_5
    refine own_lift (fun tz kz => Xg_4.iaload hx (j := (Int32.ofNat u)) (v := (.int (g u))) (by rw [eg_4]; exact Arv_5.1) (State.isArrayOf_alike hZ.alike Arv_5.2.1) Arv_5.2.2 (own_hin hn8 hun Sv_5) (own_hat hn8 hun Hv_5 Sv_5) (g := (mkF m 14 #[.val (.ref a1), .val (.int (Int32.ofNat u))] [(.int (Int32.ofNat u)), (.ref t)])) rfl rfl (hb hby d4_14) _ kz) ?_
    show own_Fin p e below _ (Tg_4.setTop (mkF m 15 #[.val (.ref a1), .val (.int (Int32.ofNat u))] [(.int (g u))]))
    refine own_lift (fun tz kz => XS.goto Xg_4.here hx rfl (pc0 := 15) (pc' := 19) rfl (hb hby d4_15) (by decide) (by decide) kz) ?_
    show own_Fin p e below _ (Tg_4.setTop (mkF m 19 #[.val (.ref a1), .val (.int (Int32.ofNat u))] [(.int (g u))]))
    obtain ⟨fs, hr, hrun, hended, hW, hsame⟩ := Xg_4.leave (v := some (.int (g u))) (fun h => by rw [Bd.returns] at h; cases h)
    exact ⟨_, _, retI Xg_4 hx Bd.returns (hb hby d4_19) hr, hrun, hended, _, _, rfl, ⟨rfl, N0, eg_4⟩, ⟨_, rfl⟩, hW, hsame.mono (by decide) (by decide)⟩
  · refine own_lift (fun tz kz => XS.icmpYes Xg_1.here hx rfl (pc0 := 6) (pc' := 18) rfl (hb hby d4_6) rfl (flt hc6_3).2.1 (by decide) (by decide) kz) ?_
    show own_Fin p e below _ (Tg_1.setTop (mkF m 18 #[.val (.ref a1), .val (.int (Int32.ofNat u))] []))
    refine own_lift (fun tz kz => XS.iconst Xg_1.here hx rfl (hb hby d4_18) kz) ?_
    show own_Fin p e below _ (Tg_1.setTop (mkF m 19 #[.val (.ref a1), .val (.int (Int32.ofNat u))] [(.int (0 : Int32))]))
    obtain ⟨fs, hr, hrun, hended, hW, hsame⟩ := Xg_1.leave (v := some (.int (0 : Int32))) (fun h => by rw [Bd.returns] at h; cases h)
    exact ⟨_, _, retI Xg_1 hx Bd.returns (hb hby d4_19) hr, hrun, hended, _, _, rfl, ⟨by rw [hz u (Nat.le_of_not_lt fun q => hc6_3 ((own_lt (by omega) (by omega)).mpr q))], N0, eg_1⟩, ⟨_, rfl⟩, hW, hsame.mono (by decide) (by decide)⟩
theorem d3_0 : decode method_2_code 0 = .ok (.iload_n 0, 1) := by decide +kernel
theorem d3_1 : decode method_2_code 1 = .ok (.ifCond .eq 12, 3) := by decide +kernel
theorem d3_4 : decode method_2_code 4 = .ok (.iload_n 1, 1) := by decide +kernel
theorem d3_5 : decode method_2_code 5 = .ok (.iload_n 2, 1) := by decide +kernel
theorem d3_6 : decode method_2_code 6 = .ok (.if_icmp .ne 7, 3) := by decide +kernel
theorem d3_9 : decode method_2_code 9 = .ok (.iconst 1, 1) := by decide +kernel
theorem d3_10 : decode method_2_code 10 = .ok (.goto 4, 3) := by decide +kernel
theorem d3_13 : decode method_2_code 13 = .ok (.iconst 0, 1) := by decide +kernel
theorem d3_14 : decode method_2_code 14 = .ok (.ireturn, 1) := by decide +kernel
theorem pn_3 : plainName "com/example/porridge/porridge/engine/VectorClockGetPinLaw" = true := by first | (simp [plainName, overriddenIn]; done) | decide +kernel
theorem ef_3 (m : MethodId) (x0 : Int32) (x1 : Int32) (x2 : Int32) : entryFrame m #[(.int x0), (.int x1), (.int x2)] 3 = mkF m 0 #[.val (.int x0), .val (.int x1), .val (.int x2)] [] := by first | (simp [entryFrame, mkF, argsToLocals, Value.category]; done) | rfl
def Q3 (Z : State) (p1 p2 p3 : Int32) (h0 : Heap) (n0 : Nat) (v : Option Value) (h : Heap) (L : List Loc) : Prop := v = some (.int (own_hit p1 p2 p3)) ∧ Fr n0 L ∧ h = h0
set_option maxRecDepth 65536 in
set_option maxHeartbeats 40000000 in
theorem rm3 (l : Launch) (Z : State) (a0 : Array Value) (hw : ∀ d ∈ tables_1, d.before a0 Z = true) (ws : List Jvm.Cond) (p1 p2 p3 : Int32) (h0 : Heap) (n0 : Nat) (Z0 : n0 ≤ h0.size) :
    MetFree l (⟨"com/example/porridge/porridge/engine/VectorClockGetPinLaw", "hit", "(ZII)I"⟩ : MethodName) (head1 (Jvm.Cond.code (⟨"com/example/porridge/porridge/engine/VectorClockGetPinLaw", "hit", "(ZII)I"⟩ : MethodName) method_2_code 3 (some .int) :: ws) ({ frames := 0, cells := 0, slots := 0, locals := 0 } : Room)) (fun a U => a = #[(.int p1), (.int p2), (.int p3)] ∧ Z.Warmed39 U.vm ∧ U.heap = h0) (fun _ _ _ _ _ => True) (fun _ U o U' => ∃ v L, o = .returned v ∧ Q3 Z p1 p2 p3 h0 n0 v U'.heap L ∧ FrameEnd U o U' L ({ frames := 0, cells := 0, slots := 0, locals := 0 } : Room).cells ({ frames := 0, cells := 0, slots := 0, locals := 0 } : Room).slots) := by
  refine MetFree.of_bodySF (plainFor_of_name pn_3) hisR ?_
  intro p e s m args below meth c s₁ Bd hml0 hP hK
  obtain ⟨rfl, hZ, hh⟩ := hP
  have hx := Bd.exec
  have hby := Bd.bytes
  have hml : c.maxLocals = 3 := hml0
  have hown : s.vm.findClass "com/example/porridge/porridge/engine/VectorClockGetPinLaw" = some m.cls := findClass_of_methodNamed Bd.named
  have hnm := (name_of_methodNamed Bd.named Bd.method).1
  have X0 : Stand p l e ({ frames := 0, cells := 0, slots := 0, locals := 0 } : Room) s m #[(.int p1), (.int p2), (.int p3)] below meth c s₁ [] 0 0 := Stand.of_body Bd
  have e0 : s₁.heap = h0 := by rw [← hh, Bd.state]; rfl
  have N0 := Fr.nil n0
  show own_Fin p e below (fun o U' => ∃ v L, o = .returned v ∧ Q3 Z p1 p2 p3 h0 n0 v U'.heap L ∧ FrameEnd s o U' L ({ frames := 0, cells := 0, slots := 0, locals := 0 } : Room).cells ({ frames := 0, cells := 0, slots := 0, locals := 0 } : Room).slots) (s₁.setTop (entryFrame m #[(.int p1), (.int p2), (.int p3)] 3))
  refine own_lift (fun tz kz => castTop (ef_3 m p1 p2 p3) kz) ?_
  show own_Fin p e below _ (s₁.setTop (mkF m 0 #[.val (.int p1), .val (.int p2), .val (.int p3)] []))
  refine own_lift (fun tz kz => XS.iloadN X0.here hx rfl (hb hby d3_0) rfl kz) ?_
  show own_Fin p e below _ (s₁.setTop (mkF m 1 #[.val (.int p1), .val (.int p2), .val (.int p3)] [(.int p1)]))
  by_cases hc1_1 : p1 = (0 : Int32)
  · refine own_lift (fun tz kz => XS.ifYes X0.here hx rfl (pc0 := 1) (pc' := 13) rfl (hb hby d3_1) rfl ((if0 _ _).trans (teq hc1_1).1) (by decide) (by decide) kz) ?_
    show own_Fin p e below _ (s₁.setTop (mkF m 13 #[.val (.int p1), .val (.int p2), .val (.int p3)] []))
    refine own_lift (fun tz kz => XS.iconst X0.here hx rfl (hb hby d3_13) kz) ?_
    show own_Fin p e below _ (s₁.setTop (mkF m 14 #[.val (.int p1), .val (.int p2), .val (.int p3)] [(.int (0 : Int32))]))
    obtain ⟨fs, hr, hrun, hended, hW, hsame⟩ := X0.leave (v := some (.int (0 : Int32))) (fun h => by rw [Bd.returns] at h; cases h)
    exact ⟨_, _, retI X0 hx Bd.returns (hb hby d3_14) hr, hrun, hended, _, _, rfl, ⟨by simp [own_hit, hc1_1], N0, e0⟩, ⟨_, rfl⟩, hW, hsame.mono (by decide) (by decide)⟩
  · refine own_lift (fun tz kz => XS.ifNo X0.here hx rfl (hb hby d3_1) rfl ((if0 _ _).trans (feq hc1_1).1) kz) ?_
    show own_Fin p e below _ (s₁.setTop (mkF m 4 #[.val (.int p1), .val (.int p2), .val (.int p3)] []))
    refine own_lift (fun tz kz => XS.iloadN X0.here hx rfl (hb hby d3_4) rfl kz) ?_
    show own_Fin p e below _ (s₁.setTop (mkF m 5 #[.val (.int p1), .val (.int p2), .val (.int p3)] [(.int p2)]))
    refine own_lift (fun tz kz => XS.iloadN X0.here hx rfl (hb hby d3_5) rfl kz) ?_
    show own_Fin p e below _ (s₁.setTop (mkF m 6 #[.val (.int p1), .val (.int p2), .val (.int p3)] [(.int p3), (.int p2)]))
    by_cases hc6_2 : p2 = p3
    · refine own_lift (fun tz kz => XS.icmpNo X0.here hx rfl (hb hby d3_6) rfl (teq hc6_2).2 kz) ?_
      show own_Fin p e below _ (s₁.setTop (mkF m 9 #[.val (.int p1), .val (.int p2), .val (.int p3)] []))
      refine own_lift (fun tz kz => XS.iconst X0.here hx rfl (hb hby d3_9) kz) ?_
      show own_Fin p e below _ (s₁.setTop (mkF m 10 #[.val (.int p1), .val (.int p2), .val (.int p3)] [(.int (1 : Int32))]))
      refine own_lift (fun tz kz => XS.goto X0.here hx rfl (pc0 := 10) (pc' := 14) rfl (hb hby d3_10) (by decide) (by decide) kz) ?_
      show own_Fin p e below _ (s₁.setTop (mkF m 14 #[.val (.int p1), .val (.int p2), .val (.int p3)] [(.int (1 : Int32))]))
      obtain ⟨fs, hr, hrun, hended, hW, hsame⟩ := X0.leave (v := some (.int (1 : Int32))) (fun h => by rw [Bd.returns] at h; cases h)
      exact ⟨_, _, retI X0 hx Bd.returns (hb hby d3_14) hr, hrun, hended, _, _, rfl, ⟨by simp [own_hit, hc1_1, hc6_2], N0, e0⟩, ⟨_, rfl⟩, hW, hsame.mono (by decide) (by decide)⟩
    · refine own_lift (fun tz kz => XS.icmpYes X0.here hx rfl (pc0 := 6) (pc' := 13) rfl (hb hby d3_6) rfl (feq hc6_2).2 (by decide) (by decide) kz) ?_
      show own_Fin p e below _ (s₁.setTop (mkF m 13 #[.val (.int p1), .val (.int p2), .val (.int p3)] []))
      refine own_lift (fun tz kz => XS.iconst X0.here hx rfl (hb hby d3_13) kz) ?_
      show own_Fin p e below _ (s₁.setTop (mkF m 14 #[.val (.int p1), .val (.int p2), .val (.int p3)] [(.int (0 : Int32))]))
      obtain ⟨fs, hr, hrun, hended, hW, hsame⟩ := X0.leave (v := some (.int (0 : Int32))) (fun h => by rw [Bd.returns] at h; cases h)
      exact ⟨_, _, retI X0 hx Bd.returns (hb hby d3_14) hr, hrun, hended, _, _, rfl, ⟨by simp [own_hit, hc1_1, hc6_2], N0, e0⟩, ⟨_, rfl⟩, hW, hsame.mono (by decide) (by decide)⟩
theorem d1_0 : decode prog_21_method_1_code 0 = .ok (.aload_n 0, 1) := by decide +kernel
theorem d1_1 : decode prog_21_method_1_code 1 = .ok (.invokespecial 1, 3) := by decide +kernel
theorem d1_4 : decode prog_21_method_1_code 4 = .ok (.aload_n 0, 1) := by decide +kernel
theorem d1_5 : decode prog_21_method_1_code 5 = .ok (.iconst 0, 1) := by decide +kernel
theorem d1_6 : decode prog_21_method_1_code 6 = .ok (.newarray .int, 2) := by decide +kernel
theorem d1_8 : decode prog_21_method_1_code 8 = .ok (.putfield 7, 3) := by decide +kernel
theorem d1_11 : decode prog_21_method_1_code 11 = .ok (.return_, 1) := by decide +kernel
theorem pn_1 : plainName "com/example/porridge/porridge/engine/VectorClock" = true := by first | (simp [plainName, overriddenIn]; done) | decide +kernel
theorem ef_1 (m : MethodId) (x0 : Addr) : entryFrame m #[(.ref x0)] 1 = mkF m 0 #[.val (.ref x0)] [] := by first | (simp [entryFrame, mkF, argsToLocals, Value.category]; done) | rfl
def Q1 (Z : State) (a1 : Addr) (h0 : Heap) (n0 : Nat) (v : Option Value) (h : Heap) (L : List Loc) : Prop := v = none ∧ Fr n0 L ∧ h0.size ≤ h.size ∧ own_clk Z h n0 a1 0 (fun _ => 0)
set_option maxRecDepth 65536 in
set_option maxHeartbeats 40000000 in
theorem rm1 (l : Launch) (Z : State) (a0 : Array Value) (hw : ∀ d ∈ tables_1, d.before a0 Z = true) (ws : List Jvm.Cond) (a1 : Addr) (h0 : Heap) (n0 : Nat) (Z0 : n0 ≤ h0.size) (E_a1 : Exa Z h0 a1 "com/example/porridge/porridge/engine/VectorClock") (F_a1 : Fld Z h0 a1 "com/example/porridge/porridge/engine/VectorClock" "counts" "[I" .null) (g_a1 : n0 ≤ a1) :
    MetFree l (⟨"com/example/porridge/porridge/engine/VectorClock", "<init>", "()V"⟩ : MethodName) (head1 (Jvm.Cond.code (⟨"com/example/porridge/porridge/engine/VectorClock", "<init>", "()V"⟩ : MethodName) prog_21_method_1_code 1 none :: ws) ({ frames := 1, cells := 1, slots := 0, locals := 12 } : Room)) (fun a U => a = #[(.ref a1)] ∧ Z.Warmed39 U.vm ∧ U.heap = h0) (fun _ _ _ _ _ => True) (fun _ U o U' => ∃ v L, o = .returned v ∧ Q1 Z a1 h0 n0 v U'.heap L ∧ FrameEnd U o U' L ({ frames := 1, cells := 1, slots := 0, locals := 12 } : Room).cells ({ frames := 1, cells := 1, slots := 0, locals := 12 } : Room).slots) := by
  refine MetFree.of_bodySF (plainFor_of_name pn_1) hisR ?_
  intro p e s m args below meth c s₁ Bd hml0 hP hK
  obtain ⟨rfl, hZ, hh⟩ := hP
  have hx := Bd.exec
  have hby := Bd.bytes
  have hml : c.maxLocals = 1 := hml0
  have hown : s.vm.findClass "com/example/porridge/porridge/engine/VectorClock" = some m.cls := findClass_of_methodNamed Bd.named
  have hnm := (name_of_methodNamed Bd.named Bd.method).1
  have X0 : Stand p l e ({ frames := 1, cells := 1, slots := 0, locals := 12 } : Room) s m #[(.ref a1)] below meth c s₁ [] 0 0 := Stand.of_body Bd
  have e0 : s₁.heap = h0 := by rw [← hh, Bd.state]; rfl
  have N0 := Fr.nil n0
  show own_Fin p e below (fun o U' => ∃ v L, o = .returned v ∧ Q1 Z a1 h0 n0 v U'.heap L ∧ FrameEnd s o U' L ({ frames := 1, cells := 1, slots := 0, locals := 12 } : Room).cells ({ frames := 1, cells := 1, slots := 0, locals := 12 } : Room).slots) (s₁.setTop (entryFrame m #[(.ref a1)] 1))
  refine own_lift (fun tz kz => castTop (ef_1 m a1) kz) ?_
  show own_Fin p e below _ (s₁.setTop (mkF m 0 #[.val (.ref a1)] []))
  refine own_lift (fun t k => XS.aloadN X0.here hx rfl (hb hby d1_0) rfl rfl k) ?_
  show own_Fin p e below _ (s₁.setTop (mkF m 1 #[.val (.ref a1)] [(.ref a1)]))
  obtain ⟨T2, X2, e2, st2⟩ := initO X0 hx hZ hown (hw _ (List.mem_of_getElem? (i := 6) rfl)) (hw _ (List.mem_of_getElem? (i := 7) rfl)) (hw _ (List.mem_of_getElem? (i := 8) rfl)) e0 (g := (mkF m 1 #[.val (.ref a1)] [(.ref a1)])) rfl (by rw [hml]; rfl) rfl (hb hby d1_1) (by decide) (W := 0) (by show 2 * 0 + _ ≤ _; exact Nat.le_of_eq rfl) (by decide)
  refine own_lift (fun t k => st2 _ k) ?_
  show own_Fin p e below _ (T2.setTop (mkF m 4 #[.val (.ref a1)] []))
  refine own_lift (fun tz kz => XS.aloadN X2.here hx rfl (hb hby d1_4) rfl rfl kz) ?_
  show own_Fin p e below _ (T2.setTop (mkF m 5 #[.val (.ref a1)] [(.ref a1)]))
  refine own_lift (fun tz kz => XS.iconst X2.here hx rfl (hb hby d1_5) kz) ?_
  show own_Fin p e below _ (T2.setTop (mkF m 6 #[.val (.ref a1)] [(.int (0 : Int32)), (.ref a1)]))
  obtain ⟨Ta_1, ha_1, ka_1, Xa_1, ea_1, Ea_1, Aa_1, sta_1⟩ := newP X2 hx hZ (hw _ (List.mem_of_getElem? (i := 9) rfl)) e2 (g := (mkF m 6 #[.val (.ref a1)] [(.int (0 : Int32)), (.ref a1)])) rfl (hb hby d1_6) rfl (by decide) (cap := 0) (by decide) (by decide) (by decide) (by decide)
  obtain ⟨ba_1, ga_1⟩ : ∃ z, z = h0.size := ⟨_, rfl⟩
  rw [← ga_1] at Aa_1 sta_1
  have nea_1_a1 : a1 ≠ ba_1 := Nat.ne_of_lt (Nat.lt_of_lt_of_le E_a1.lt (Nat.le_of_eq ga_1.symm))
  have gba_1 : n0 ≤ ba_1 := Nat.le_trans Z0 (Nat.le_of_eq ga_1.symm)
  have fa_1_a1_counts := F_a1.ext Ea_1
  have fa_1_a1_Exa := E_a1.ext Ea_1
  have SZa_1 : n0 ≤ ha_1.size := Nat.le_trans Z0 Ea_1.1
  have Va_1 : Arv Z ha_1 ba_1 ka_1 .int (0 : Int32) [] (.int (0 : Int32)) := Arv.new Aa_1 (by decide)
  refine own_lift (fun tz kz => sta_1 _ kz) ?_
  show own_Fin p e below _ (Ta_1.setTop (mkF m 8 #[.val (.ref a1)] [(.ref ba_1), (.ref a1)]))
  obtain ⟨Tp_2, hp_2, Xp_2, ep_2, Wp_2, stp_2⟩ := putF Xa_1 hx hZ hown (host := "") (Or.inl (hw _ (List.mem_of_getElem? (i := 10) rfl))) Via.refl ea_1 fa_1_a1_counts fa_1_a1_Exa (Or.inl (hw _ (List.mem_of_getElem? (i := 11) rfl))) (hw _ (List.mem_of_getElem? (i := 1) rfl)) (ty := (.array .int)) (by decide) rfl rfl (g := (mkF m 8 #[.val (.ref a1)] [(.ref ba_1), (.ref a1)])) rfl rfl (hb hby d1_8)
  have Fwp_2 := fa_1_a1_counts.same Wp_2
  have vp_2_ba_1 := Va_1.other Wp_2 (Ne.symm nea_1_a1)
  have fp_2_a1_Exa := fa_1_a1_Exa.wr Wp_2
  have SZp_2 : n0 ≤ hp_2.size := Nat.le_trans SZa_1 (Keep.of_wr Wp_2).1
  have Np_2 := Fr.snoc Xp_2 N0 g_a1
  refine own_lift (fun tz kz => stp_2 _ kz) ?_
  show own_Fin p e below _ (Tp_2.setTop (mkF m 11 #[.val (.ref a1)] []))
  obtain ⟨fs, hr, hrun, hended, hW, hsame⟩ := Xp_2.leave (v := none) (fun _ => rfl)
  exact ⟨_, _, Xp_2.returnOut hx Bd.returns (hb hby d1_11) hr, hrun, hended, _, _, rfl, ⟨rfl, Np_2, by show h0.size ≤ Tp_2.heap.size; rw [ep_2]; exact Nat.le_trans Ea_1.1 (Keep.of_wr Wp_2).1, by decide, own_zero, by show Exa Z Tp_2.heap _ _; rw [ep_2]; exact fp_2_a1_Exa, g_a1, ba_1, ka_1, gba_1, nea_1_a1, by show Fld Z Tp_2.heap _ _ _ _ _; rw [ep_2]; exact Fwp_2, by show Arv Z Tp_2.heap _ _ _ _ _ _; rw [ep_2]; exact vp_2_ba_1⟩, ⟨_, rfl⟩, hW, hsame.mono (by decide) (by decide)⟩
theorem pd_1 : parseMethodDescriptor "()V" = some ⟨[], none⟩ := by decide +kernel
theorem pd_3 : parseMethodDescriptor "(ZII)I" = some ⟨[.boolean, .int, .int], some .int⟩ := by decide +kernel
theorem pd_4 : parseMethodDescriptor "(I)I" = some ⟨[.int], some .int⟩ := by decide +kernel
theorem pd_5 : parseMethodDescriptor "(I)V" = some ⟨[.int], none⟩ := by decide +kernel
theorem pn_0 : plainName "com/example/porridge/porridge/engine/VectorClockGetPinLaw" = true := by first | (simp [plainName, overriddenIn]; done) | decide +kernel
theorem ef_0 (m : MethodId) (x0 : Int32) (x1 : Int32) (x2 : Int32) (x3 : Int32) (x4 : Int32) : entryFrame m #[(.int x0), (.int x1), (.int x2), (.int x3), (.int x4)] maxLocals = mkF m 0 #[.val (.int x0), .val (.int x1), .val (.int x2), .val (.int x3), .val (.int x4), .unset, .unset, .unset, .unset, .unset, .unset, .unset, .unset] [] := by first | (simp [entryFrame, mkF, argsToLocals, Value.category, maxLocals]; done) | rfl
def Q0 (Z : State) (p1 p2 p3 p4 p5 : Int32) (h0 : Heap) (n0 : Nat) (v : Option Value) (h : Heap) (L : List Loc) : Prop := v = some (.int (1 : Int32)) ∧ Fr n0 L
set_option maxRecDepth 65536 in
set_option maxHeartbeats 40000000 in
theorem rm0 (l : Launch) (Z : State) (a0 : Array Value) (hw : ∀ d ∈ tables_1, d.before a0 Z = true) (ws : List Jvm.Cond) (p1 p2 p3 p4 p5 : Int32) (h0 : Heap) (n0 : Nat) (Z0 : n0 ≤ h0.size) :
    MetFree l x (head1 (Jvm.Cond.code x code maxLocals ret :: ws) room_1) (fun a U => a = #[(.int p1), (.int p2), (.int p3), (.int p4), (.int p5)] ∧ Z.Warmed39 U.vm ∧ U.heap = h0) (fun _ _ _ _ _ => True) (fun _ U o U' => ∃ v L, o = .returned v ∧ Q0 Z p1 p2 p3 p4 p5 h0 n0 v U'.heap L ∧ FrameEnd U o U' L room_1.cells room_1.slots) := by
  refine MetFree.of_bodySF (plainFor_of_name pn_0) hisR ?_
  intro p e s m args below meth c s₁ Bd hml0 hP hK
  obtain ⟨rfl, hZ, hh⟩ := hP
  have hx := Bd.exec
  have hby := Bd.bytes
  have hml : c.maxLocals = 13 := hml0
  have hown : s.vm.findClass "com/example/porridge/porridge/engine/VectorClockGetPinLaw" = some m.cls := findClass_of_methodNamed Bd.named
  have hnm := (name_of_methodNamed Bd.named Bd.method).1
  have X0 : Stand p l e room_1 s m #[(.int p1), (.int p2), (.int p3), (.int p4), (.int p5)] below meth c s₁ [] 0 0 := Stand.of_body Bd
  have e0 : s₁.heap = h0 := by rw [← hh, Bd.state]; rfl
  have N0 := Fr.nil n0
  show own_Fin p e below (fun o U' => ∃ v L, o = .returned v ∧ Q0 Z p1 p2 p3 p4 p5 h0 n0 v U'.heap L ∧ FrameEnd s o U' L room_1.cells room_1.slots) (s₁.setTop (entryFrame m #[(.int p1), (.int p2), (.int p3), (.int p4), (.int p5)] maxLocals))
  refine own_lift (fun tz kz => castTop (ef_0 m p1 p2 p3 p4 p5) kz) ?_
  show own_Fin p e below _ (s₁.setTop (mkF m 0 #[.val (.int p1), .val (.int p2), .val (.int p3), .val (.int p4), .val (.int p5), .unset, .unset, .unset, .unset, .unset, .unset, .unset, .unset] []))
  refine own_lift (fun tz kz => XS.iloadN X0.here hx rfl (hb hby at_0) rfl kz) ?_
  show own_Fin p e below _ (s₁.setTop (mkF m 1 #[.val (.int p1), .val (.int p2), .val (.int p3), .val (.int p4), .val (.int p5), .unset, .unset, .unset, .unset, .unset, .unset, .unset, .unset] [(.int p1)]))
  refine own_lift (fun tz kz => XS.iconst X0.here hx rfl (hb hby at_1) kz) ?_
  show own_Fin p e below _ (s₁.setTop (mkF m 2 #[.val (.int p1), .val (.int p2), .val (.int p3), .val (.int p4), .val (.int p5), .unset, .unset, .unset, .unset, .unset, .unset, .unset, .unset] [(.int (3 : Int32)), (.int p1)]))
  refine own_lift (fun tz kz => XS.iand X0.here hx rfl (hb hby at_2) rfl kz) ?_
  show own_Fin p e below _ (s₁.setTop (mkF m 3 #[.val (.int p1), .val (.int p2), .val (.int p3), .val (.int p4), .val (.int p5), .unset, .unset, .unset, .unset, .unset, .unset, .unset, .unset] [(.int (p1 &&& (3 : Int32)))]))
  refine own_lift (fun tz kz => XS.istore X0.here hx rfl (hb hby at_3) rfl (l' := #[.val (.int p1), .val (.int p2), .val (.int p3), .val (.int p4), .val (.int p5), .val (.int (p1 &&& (3 : Int32))), .unset, .unset, .unset, .unset, .unset, .unset, .unset]) rfl kz) ?_
  show own_Fin p e below _ (s₁.setTop (mkF m 5 #[.val (.int p1), .val (.int p2), .val (.int p3), .val (.int p4), .val (.int p5), .val (.int (p1 &&& (3 : Int32))), .unset, .unset, .unset, .unset, .unset, .unset, .unset] []))
  generalize (p1 &&& (3 : Int32)) = nv
  show own_Fin p e below _ (s₁.setTop (mkF m 5 #[.val (.int p1), .val (.int p2), .val (.int p3), .val (.int p4), .val (.int p5), .val (.int nv), .unset, .unset, .unset, .unset, .unset, .unset, .unset] []))
  have j18 : ∀ (T1 : State) (locs1 : List Loc) (w : Int32), Stand p l e room_1 s m #[(.int p1), (.int p2), (.int p3), (.int p4), (.int p5)] below meth c T1 locs1 0 0 → T1.heap = h0 → Fr n0 locs1 → own_Fin p e below (fun o U' => ∃ v L, o = .returned v ∧ Q0 Z p1 p2 p3 p4 p5 h0 n0 v U'.heap L ∧ FrameEnd s o U' L room_1.cells room_1.slots) (T1.setTop (mkF m 18 #[.val (.int p1), .val (.int p2), .val (.int p3), .val (.int p4), .val (.int p5), .val (.int nv), .unset, .unset, .unset, .unset, .unset, .unset, .unset] [(.int w)])) := by
    intro T1 locs1 w X1 e1 N1
    refine own_lift (fun tz kz => XS.istore X1.here hx rfl (hb hby at_18) rfl (l' := #[.val (.int p1), .val (.int p2), .val (.int p3), .val (.int p4), .val (.int p5), .val (.int nv), .val (.int w), .unset, .unset, .unset, .unset, .unset, .unset]) rfl kz) ?_
    show own_Fin p e below _ (T1.setTop (mkF m 20 #[.val (.int p1), .val (.int p2), .val (.int p3), .val (.int p4), .val (.int p5), .val (.int nv), .val (.int w), .unset, .unset, .unset, .unset, .unset, .unset] []))
    refine own_lift (fun tz kz => XS.iloadN X1.here hx rfl (hb hby at_20) rfl kz) ?_
    show own_Fin p e below _ (T1.setTop (mkF m 21 #[.val (.int p1), .val (.int p2), .val (.int p3), .val (.int p4), .val (.int p5), .val (.int nv), .val (.int w), .unset, .unset, .unset, .unset, .unset, .unset] [(.int p2)]))
    refine own_lift (fun tz kz => XS.bipush X1.here hx rfl (hb hby at_21) kz) ?_
    show own_Fin p e below _ (T1.setTop (mkF m 23 #[.val (.int p1), .val (.int p2), .val (.int p3), .val (.int p4), .val (.int p5), .val (.int nv), .val (.int w), .unset, .unset, .unset, .unset, .unset, .unset] [(.int (7 : Int32)), (.int p2)]))
    refine own_lift (fun tz kz => XS.iand X1.here hx rfl (hb hby at_23) rfl kz) ?_
    show own_Fin p e below _ (T1.setTop (mkF m 24 #[.val (.int p1), .val (.int p2), .val (.int p3), .val (.int p4), .val (.int p5), .val (.int nv), .val (.int w), .unset, .unset, .unset, .unset, .unset, .unset] [(.int (p2 &&& (7 : Int32)))]))
    refine own_lift (fun tz kz => XS.istore X1.here hx rfl (hb hby at_24) rfl (l' := #[.val (.int p1), .val (.int p2), .val (.int p3), .val (.int p4), .val (.int p5), .val (.int nv), .val (.int w), .val (.int (p2 &&& (7 : Int32))), .unset, .unset, .unset, .unset, .unset]) rfl kz) ?_
    show own_Fin p e below _ (T1.setTop (mkF m 26 #[.val (.int p1), .val (.int p2), .val (.int p3), .val (.int p4), .val (.int p5), .val (.int nv), .val (.int w), .val (.int (p2 &&& (7 : Int32))), .unset, .unset, .unset, .unset, .unset] []))
    refine own_lift (fun tz kz => XS.iloadN X1.here hx rfl (hb hby at_26) rfl kz) ?_
    show own_Fin p e below _ (T1.setTop (mkF m 27 #[.val (.int p1), .val (.int p2), .val (.int p3), .val (.int p4), .val (.int p5), .val (.int nv), .val (.int w), .val (.int (p2 &&& (7 : Int32))), .unset, .unset, .unset, .unset, .unset] [(.int p3)]))
    refine own_lift (fun tz kz => XS.bipush X1.here hx rfl (hb hby at_27) kz) ?_
    show own_Fin p e below _ (T1.setTop (mkF m 29 #[.val (.int p1), .val (.int p2), .val (.int p3), .val (.int p4), .val (.int p5), .val (.int nv), .val (.int w), .val (.int (p2 &&& (7 : Int32))), .unset, .unset, .unset, .unset, .unset] [(.int (7 : Int32)), (.int p3)]))
    refine own_lift (fun tz kz => XS.iand X1.here hx rfl (hb hby at_29) rfl kz) ?_
    show own_Fin p e below _ (T1.setTop (mkF m 30 #[.val (.int p1), .val (.int p2), .val (.int p3), .val (.int p4), .val (.int p5), .val (.int nv), .val (.int w), .val (.int (p2 &&& (7 : Int32))), .unset, .unset, .unset, .unset, .unset] [(.int (p3 &&& (7 : Int32)))]))
    refine own_lift (fun tz kz => XS.istore X1.here hx rfl (hb hby at_30) rfl (l' := #[.val (.int p1), .val (.int p2), .val (.int p3), .val (.int p4), .val (.int p5), .val (.int nv), .val (.int w), .val (.int (p2 &&& (7 : Int32))), .val (.int (p3 &&& (7 : Int32))), .unset, .unset, .unset, .unset]) rfl kz) ?_
    show own_Fin p e below _ (T1.setTop (mkF m 32 #[.val (.int p1), .val (.int p2), .val (.int p3), .val (.int p4), .val (.int p5), .val (.int nv), .val (.int w), .val (.int (p2 &&& (7 : Int32))), .val (.int (p3 &&& (7 : Int32))), .unset, .unset, .unset, .unset] []))
    refine own_lift (fun tz kz => XS.iloadN X1.here hx rfl (hb hby at_32) rfl kz) ?_
    show own_Fin p e below _ (T1.setTop (mkF m 33 #[.val (.int p1), .val (.int p2), .val (.int p3), .val (.int p4), .val (.int p5), .val (.int nv), .val (.int w), .val (.int (p2 &&& (7 : Int32))), .val (.int (p3 &&& (7 : Int32))), .unset, .unset, .unset, .unset] [(.int p4)]))
    refine own_lift (fun tz kz => XS.bipush X1.here hx rfl (hb hby at_33) kz) ?_
    show own_Fin p e below _ (T1.setTop (mkF m 35 #[.val (.int p1), .val (.int p2), .val (.int p3), .val (.int p4), .val (.int p5), .val (.int nv), .val (.int w), .val (.int (p2 &&& (7 : Int32))), .val (.int (p3 &&& (7 : Int32))), .unset, .unset, .unset, .unset] [(.int (7 : Int32)), (.int p4)]))
    refine own_lift (fun tz kz => XS.iand X1.here hx rfl (hb hby at_35) rfl kz) ?_
    show own_Fin p e below _ (T1.setTop (mkF m 36 #[.val (.int p1), .val (.int p2), .val (.int p3), .val (.int p4), .val (.int p5), .val (.int nv), .val (.int w), .val (.int (p2 &&& (7 : Int32))), .val (.int (p3 &&& (7 : Int32))), .unset, .unset, .unset, .unset] [(.int (p4 &&& (7 : Int32)))]))
    refine own_lift (fun tz kz => XS.istore X1.here hx rfl (hb hby at_36) rfl (l' := #[.val (.int p1), .val (.int p2), .val (.int p3), .val (.int p4), .val (.int p5), .val (.int nv), .val (.int w), .val (.int (p2 &&& (7 : Int32))), .val (.int (p3 &&& (7 : Int32))), .val (.int (p4 &&& (7 : Int32))), .unset, .unset, .unset]) rfl kz) ?_
    show own_Fin p e below _ (T1.setTop (mkF m 38 #[.val (.int p1), .val (.int p2), .val (.int p3), .val (.int p4), .val (.int p5), .val (.int nv), .val (.int w), .val (.int (p2 &&& (7 : Int32))), .val (.int (p3 &&& (7 : Int32))), .val (.int (p4 &&& (7 : Int32))), .unset, .unset, .unset] []))
    obtain ⟨A, hA, eA⟩ := own_and7 p2
    obtain ⟨B, hB, eB⟩ := own_and7 p3
    obtain ⟨D, hD, eD⟩ := own_and7 p4
    rw [eA, eB, eD]
    show own_Fin p e below _ (T1.setTop (mkF m 38 #[.val (.int p1), .val (.int p2), .val (.int p3), .val (.int p4), .val (.int p5), .val (.int nv), .val (.int w), .val (.int (Int32.ofNat A)), .val (.int (Int32.ofNat B)), .val (.int (Int32.ofNat D)), .unset, .unset, .unset] []))
    have j56 : ∀ (T2 : State) (locs2 : List Loc) (Q : Nat), Stand p l e room_1 s m #[(.int p1), (.int p2), (.int p3), (.int p4), (.int p5)] below meth c T2 locs2 0 0 → T2.heap = h0 → Fr n0 locs2 → Q < 2147483648 → own_Fin p e below (fun o U' => ∃ v L, o = .returned v ∧ Q0 Z p1 p2 p3 p4 p5 h0 n0 v U'.heap L ∧ FrameEnd s o U' L room_1.cells room_1.slots) (T2.setTop (mkF m 56 #[.val (.int p1), .val (.int p2), .val (.int p3), .val (.int p4), .val (.int p5), .val (.int nv), .val (.int w), .val (.int (Int32.ofNat A)), .val (.int (Int32.ofNat B)), .val (.int (Int32.ofNat D)), .unset, .unset, .unset] [(.int (Int32.ofNat Q))])) := by
      intro T2 locs2 Q X2 e2 N2 hQ
      refine own_lift (fun tz kz => XS.istore X2.here hx rfl (hb hby at_56) rfl (l' := #[.val (.int p1), .val (.int p2), .val (.int p3), .val (.int p4), .val (.int p5), .val (.int nv), .val (.int w), .val (.int (Int32.ofNat A)), .val (.int (Int32.ofNat B)), .val (.int (Int32.ofNat D)), .val (.int (Int32.ofNat Q)), .unset, .unset]) rfl kz) ?_
      show own_Fin p e below _ (T2.setTop (mkF m 58 #[.val (.int p1), .val (.int p2), .val (.int p3), .val (.int p4), .val (.int p5), .val (.int nv), .val (.int w), .val (.int (Int32.ofNat A)), .val (.int (Int32.ofNat B)), .val (.int (Int32.ofNat D)), .val (.int (Int32.ofNat Q)), .unset, .unset] []))
      obtain ⟨To_1, ho_1, Xo_1, eo_1, Eo_1, Ao_1, Do_1, -, sto_1⟩ := newO X2 hx hZ hown (hw _ (List.mem_of_getElem? (i := 0) rfl)) (hw _ (List.mem_of_getElem? (i := 1) rfl)) (hw _ (List.mem_of_getElem? (i := 2) rfl)) e2 (g := (mkF m 58 #[.val (.int p1), .val (.int p2), .val (.int p3), .val (.int p4), .val (.int p5), .val (.int nv), .val (.int w), .val (.int (Int32.ofNat A)), .val (.int (Int32.ofNat B)), .val (.int (Int32.ofNat D)), .val (.int (Int32.ofNat Q)), .unset, .unset] [])) rfl (hb hby at_58) (by decide) (by decide)
      obtain ⟨bo_1, go_1⟩ : ∃ z, z = h0.size := ⟨_, rfl⟩
      rw [← go_1] at Ao_1 Do_1 sto_1
      have gbo_1 : n0 ≤ bo_1 := Nat.le_trans Z0 (Nat.le_of_eq go_1.symm)
      have SZo_1 : n0 ≤ ho_1.size := Nat.le_trans Z0 Eo_1.1
      have Fo_1_counts : Fld Z ho_1 bo_1 "com/example/porridge/porridge/engine/VectorClock" "counts" "[I" .null := Do_1 (Or.inl (hw _ (List.mem_of_getElem? (i := 11) rfl))) (ty := (.array .int)) (by decide)
      refine own_lift (fun tz kz => sto_1 _ kz) ?_
      show own_Fin p e below _ (To_1.setTop (mkF m 61 #[.val (.int p1), .val (.int p2), .val (.int p3), .val (.int p4), .val (.int p5), .val (.int nv), .val (.int w), .val (.int (Int32.ofNat A)), .val (.int (Int32.ofNat B)), .val (.int (Int32.ofNat D)), .val (.int (Int32.ofNat Q)), .unset, .unset] [(.ref bo_1)]))
      refine own_lift (fun tz kz => XS.dup Xo_1.here hx rfl (hb hby at_61) rfl rfl kz) ?_
      show own_Fin p e below _ (To_1.setTop (mkF m 62 #[.val (.int p1), .val (.int p2), .val (.int p3), .val (.int p4), .val (.int p5), .val (.int nv), .val (.int w), .val (.int (Int32.ofNat A)), .val (.int (Int32.ofNat B)), .val (.int (Int32.ofNat D)), .val (.int (Int32.ofNat Q)), .unset, .unset] [(.ref bo_1), (.ref bo_1)]))
      obtain ⟨_, _, ⟨Tk_2, Lk_2, kk_2, nk_2⟩, -, Xk_2, ⟨Lck_2, hQk_2, lk_2, yk_2, zk_2⟩, stk_2⟩ := Xo_1.specialBack hx (y := (⟨"com/example/porridge/porridge/engine/VectorClock", "<init>", "()V"⟩ : MethodName)) rfl hown (mvT hZ (hw _ (List.mem_of_getElem? (i := 3) rfl))) (mvT hZ (hw _ (List.mem_of_getElem? (i := 4) rfl))) (mvT hZ (hw _ (List.mem_of_getElem? (i := 5) rfl))) (by decide) (backOf (W := 1) (rm1 l Z a0 hw [] bo_1 ho_1 n0 SZo_1 Ao_1 Fo_1_counts gbo_1) hZ (hw _ (List.mem_of_getElem? (i := 5) rfl)) (hw _ (List.mem_of_getElem? (i := 2) rfl)) (by decide) (by decide)) (g := (mkF m 62 #[.val (.int p1), .val (.int p2), .val (.int p3), .val (.int p4), .val (.int p5), .val (.int nv), .val (.int w), .val (.int (Int32.ofNat A)), .val (.int (Int32.ofNat B)), .val (.int (Int32.ofNat D)), .val (.int (Int32.ofNat Q)), .unset, .unset] [(.ref bo_1), (.ref bo_1)])) rfl (by rw [hml]; rfl) (Steps.refl _) (a := bo_1) (argsL := []) (rest := [(.ref bo_1)]) (lenOf pd_1 rfl) rfl (by show 2 * 0 + _ ≤ _; exact Nat.le_of_eq rfl) (hb hby at_62) (fun _ _ => ⟨rfl, eo_1, (by decide : 1 + 1 ≤ _), (by decide : 1 + 0 ≤ _)⟩)
      dsimp only [Pt.U, Pt.locs, Pt.cells, Pt.slots] at Xk_2 lk_2 yk_2 zk_2 stk_2 hQk_2
      subst lk_2 yk_2 zk_2
      obtain ⟨rfl, Nk_2q, hsk_2, Hk_2⟩ := hQk_2
      have Nk_2 := Fr.app N2 Nk_2q
      refine own_lift (fun tz kz => stk_2.trans kz) ?_
      have SZk_2 : n0 ≤ Tk_2.heap.size := Nat.le_trans SZo_1 hsk_2
      have Ek_2 := Hk_2.2.2.1
      show own_Fin p e below _ (Tk_2.setTop (mkF m 65 #[.val (.int p1), .val (.int p2), .val (.int p3), .val (.int p4), .val (.int p5), .val (.int nv), .val (.int w), .val (.int (Int32.ofNat A)), .val (.int (Int32.ofNat B)), .val (.int (Int32.ofNat D)), .val (.int (Int32.ofNat Q)), .unset, .unset] [(.ref bo_1)]))
      refine own_lift (fun tz kz => XS.astore Xk_2.here hx rfl (hb hby at_65) rfl rfl (l' := #[.val (.int p1), .val (.int p2), .val (.int p3), .val (.int p4), .val (.int p5), .val (.int nv), .val (.int w), .val (.int (Int32.ofNat A)), .val (.int (Int32.ofNat B)), .val (.int (Int32.ofNat D)), .val (.int (Int32.ofNat Q)), .val (.ref bo_1), .unset]) rfl kz) ?_
      show own_Fin p e below _ (Tk_2.setTop (mkF m 67 #[.val (.int p1), .val (.int p2), .val (.int p3), .val (.int p4), .val (.int p5), .val (.int nv), .val (.int w), .val (.int (Int32.ofNat A)), .val (.int (Int32.ofNat B)), .val (.int (Int32.ofNat D)), .val (.int (Int32.ofNat Q)), .val (.ref bo_1), .unset] []))
      have j106 : ∀ (T106 : State) (locs106 : List Loc) (n106 : Nat), Stand p l e room_1 s m #[(.int p1), (.int p2), (.int p3), (.int p4), (.int p5)] below meth c T106 locs106 5 25 → Fr n0 locs106 → n0 ≤ T106.heap.size → own_clk Z T106.heap n0 bo_1 n106 (own_st (nv < (3 : Int32)) D (own_st (nv < (2 : Int32)) B (own_st (nv < (1 : Int32)) A (fun _ => 0)))) → own_Fin p e below (fun o U' => ∃ v L, o = .returned v ∧ Q0 Z p1 p2 p3 p4 p5 h0 n0 v U'.heap L ∧ FrameEnd s o U' L room_1.cells room_1.slots) (T106.setTop (mkF m 106 #[.val (.int p1), .val (.int p2), .val (.int p3), .val (.int p4), .val (.int p5), .val (.int nv), .val (.int w), .val (.int (Int32.ofNat A)), .val (.int (Int32.ofNat B)), .val (.int (Int32.ofNat D)), .val (.int (Int32.ofNat Q)), .val (.ref bo_1), .unset] [])) := by
        intro T106 locs106 n106 X106 N106 SZ106 H106
        have E106 := H106.2.2.1
        refine own_lift (fun tz kz => XS.iload X106.here hx rfl (hb hby at_106) rfl kz) ?_
        show own_Fin p e below _ (T106.setTop (mkF m 108 #[.val (.int p1), .val (.int p2), .val (.int p3), .val (.int p4), .val (.int p5), .val (.int nv), .val (.int w), .val (.int (Int32.ofNat A)), .val (.int (Int32.ofNat B)), .val (.int (Int32.ofNat D)), .val (.int (Int32.ofNat Q)), .val (.ref bo_1), .unset] [(.int nv)]))
        refine own_lift (fun tz kz => XS.iconst X106.here hx rfl (hb hby at_108) kz) ?_
        show own_Fin p e below _ (T106.setTop (mkF m 109 #[.val (.int p1), .val (.int p2), .val (.int p3), .val (.int p4), .val (.int p5), .val (.int nv), .val (.int w), .val (.int (Int32.ofNat A)), .val (.int (Int32.ofNat B)), .val (.int (Int32.ofNat D)), .val (.int (Int32.ofNat Q)), .val (.ref bo_1), .unset] [(.int (1 : Int32)), (.int nv)]))
        by_cases hc109_3 : nv < (1 : Int32)
        · refine own_lift (fun tz kz => XS.icmpYes X106.here hx rfl (pc0 := 109) (pc' := 116) rfl (hb hby at_109) rfl (tlt hc109_3).1 (by decide) (by decide) kz) ?_
          show own_Fin p e below _ (T106.setTop (mkF m 116 #[.val (.int p1), .val (.int p2), .val (.int p3), .val (.int p4), .val (.int p5), .val (.int nv), .val (.int w), .val (.int (Int32.ofNat A)), .val (.int (Int32.ofNat B)), .val (.int (Int32.ofNat D)), .val (.int (Int32.ofNat Q)), .val (.ref bo_1), .unset] []))
          refine own_lift (fun tz kz => XS.iconst X106.here hx rfl (hb hby at_116) kz) ?_
          show own_Fin p e below _ (T106.setTop (mkF m 117 #[.val (.int p1), .val (.int p2), .val (.int p3), .val (.int p4), .val (.int p5), .val (.int nv), .val (.int w), .val (.int (Int32.ofNat A)), .val (.int (Int32.ofNat B)), .val (.int (Int32.ofNat D)), .val (.int (Int32.ofNat Q)), .val (.ref bo_1), .unset] [(.int (0 : Int32))]))
          refine own_lift (fun tz kz => XS.iload X106.here hx rfl (hb hby at_117) rfl kz) ?_
          show own_Fin p e below _ (T106.setTop (mkF m 119 #[.val (.int p1), .val (.int p2), .val (.int p3), .val (.int p4), .val (.int p5), .val (.int nv), .val (.int w), .val (.int (Int32.ofNat A)), .val (.int (Int32.ofNat B)), .val (.int (Int32.ofNat D)), .val (.int (Int32.ofNat Q)), .val (.ref bo_1), .unset] [(.int (Int32.ofNat A)), (.int (0 : Int32))]))
          refine own_lift (fun tz kz => XS.iload X106.here hx rfl (hb hby at_119) rfl kz) ?_
          show own_Fin p e below _ (T106.setTop (mkF m 121 #[.val (.int p1), .val (.int p2), .val (.int p3), .val (.int p4), .val (.int p5), .val (.int nv), .val (.int w), .val (.int (Int32.ofNat A)), .val (.int (Int32.ofNat B)), .val (.int (Int32.ofNat D)), .val (.int (Int32.ofNat Q)), .val (.ref bo_1), .unset] [(.int (Int32.ofNat Q)), (.int (Int32.ofNat A)), (.int (0 : Int32))]))
          obtain ⟨_, _, ⟨Tk_4, Lk_4, kk_4, nk_4⟩, -, Xk_4, ⟨Lck_4, hQk_4, lk_4, yk_4, zk_4⟩, stk_4⟩ := Jvm.LawKit.callS X106 hx (y := (⟨"com/example/porridge/porridge/engine/VectorClockGetPinLaw", "hit", "(ZII)I"⟩ : MethodName)) hown (mvT hZ (hw _ (List.mem_of_getElem? (i := 12) rfl))) (mvT hZ (hw _ (List.mem_of_getElem? (i := 13) rfl))) (mvT hZ (hw _ (List.mem_of_getElem? (i := 14) rfl))) (mvT hZ (hw _ (List.mem_of_getElem? (i := 15) rfl))) (by decide) (backOf (W := 0) (rm3 l Z a0 hw [] (0 : Int32) (Int32.ofNat A) (Int32.ofNat Q) T106.heap n0 SZ106) hZ (hw _ (List.mem_of_getElem? (i := 15) rfl)) (hw _ (List.mem_of_getElem? (i := 14) rfl)) (by decide) (by decide)) (g := (mkF m 121 #[.val (.int p1), .val (.int p2), .val (.int p3), .val (.int p4), .val (.int p5), .val (.int nv), .val (.int w), .val (.int (Int32.ofNat A)), .val (.int (Int32.ofNat B)), .val (.int (Int32.ofNat D)), .val (.int (Int32.ofNat Q)), .val (.ref bo_1), .unset] [(.int (Int32.ofNat Q)), (.int (Int32.ofNat A)), (.int (0 : Int32))])) rfl (by rw [hml]; rfl) (argsL := [(.int (0 : Int32)), (.int (Int32.ofNat A)), (.int (Int32.ofNat Q))]) (rest := []) (lenOf pd_3 rfl) rfl (by show 2 * 0 + _ ≤ _; exact Nat.le_of_eq rfl) (hb hby at_121) (fun _ _ => ⟨rfl, rfl, (by decide : 5 + 0 ≤ _), (by decide : 25 + 0 ≤ _)⟩)
          dsimp only [Pt.U, Pt.locs, Pt.cells, Pt.slots] at Xk_4 lk_4 yk_4 zk_4 stk_4 hQk_4
          subst lk_4 yk_4 zk_4
          obtain ⟨rfl, Nk_4q, ek_4⟩ := hQk_4
          have Nk_4 := Fr.app N106 Nk_4q
          refine own_lift (fun tz kz => stk_4 _ kz) ?_
          show own_Fin p e below _ (Tk_4.setTop (mkF m 124 #[.val (.int p1), .val (.int p2), .val (.int p3), .val (.int p4), .val (.int p5), .val (.int nv), .val (.int w), .val (.int (Int32.ofNat A)), .val (.int (Int32.ofNat B)), .val (.int (Int32.ofNat D)), .val (.int (Int32.ofNat Q)), .val (.ref bo_1), .unset] [(.int (own_hit (0 : Int32) (Int32.ofNat A) (Int32.ofNat Q)))]))
          refine own_lift (fun tz kz => XS.iload Xk_4.here hx rfl (hb hby at_124) rfl kz) ?_
          show own_Fin p e below _ (Tk_4.setTop (mkF m 126 #[.val (.int p1), .val (.int p2), .val (.int p3), .val (.int p4), .val (.int p5), .val (.int nv), .val (.int w), .val (.int (Int32.ofNat A)), .val (.int (Int32.ofNat B)), .val (.int (Int32.ofNat D)), .val (.int (Int32.ofNat Q)), .val (.ref bo_1), .unset] [(.int nv), (.int (own_hit (0 : Int32) (Int32.ofNat A) (Int32.ofNat Q)))]))
          refine own_lift (fun tz kz => XS.iconst Xk_4.here hx rfl (hb hby at_126) kz) ?_
          show own_Fin p e below _ (Tk_4.setTop (mkF m 127 #[.val (.int p1), .val (.int p2), .val (.int p3), .val (.int p4), .val (.int p5), .val (.int nv), .val (.int w), .val (.int (Int32.ofNat A)), .val (.int (Int32.ofNat B)), .val (.int (Int32.ofNat D)), .val (.int (Int32.ofNat Q)), .val (.ref bo_1), .unset] [(.int (2 : Int32)), (.int nv), (.int (own_hit (0 : Int32) (Int32.ofNat A) (Int32.ofNat Q)))]))
          by_cases hc127_5 : nv < (2 : Int32)
          · refine own_lift (fun tz kz => XS.icmpYes Xk_4.here hx rfl (pc0 := 127) (pc' := 134) rfl (hb hby at_127) rfl (tlt hc127_5).1 (by decide) (by decide) kz) ?_
            show own_Fin p e below _ (Tk_4.setTop (mkF m 134 #[.val (.int p1), .val (.int p2), .val (.int p3), .val (.int p4), .val (.int p5), .val (.int nv), .val (.int w), .val (.int (Int32.ofNat A)), .val (.int (Int32.ofNat B)), .val (.int (Int32.ofNat D)), .val (.int (Int32.ofNat Q)), .val (.ref bo_1), .unset] [(.int (own_hit (0 : Int32) (Int32.ofNat A) (Int32.ofNat Q)))]))
            refine own_lift (fun tz kz => XS.iconst Xk_4.here hx rfl (hb hby at_134) kz) ?_
            show own_Fin p e below _ (Tk_4.setTop (mkF m 135 #[.val (.int p1), .val (.int p2), .val (.int p3), .val (.int p4), .val (.int p5), .val (.int nv), .val (.int w), .val (.int (Int32.ofNat A)), .val (.int (Int32.ofNat B)), .val (.int (Int32.ofNat D)), .val (.int (Int32.ofNat Q)), .val (.ref bo_1), .unset] [(.int (0 : Int32)), (.int (own_hit (0 : Int32) (Int32.ofNat A) (Int32.ofNat Q)))]))
            refine own_lift (fun tz kz => XS.iload Xk_4.here hx rfl (hb hby at_135) rfl kz) ?_
            show own_Fin p e below _ (Tk_4.setTop (mkF m 137 #[.val (.int p1), .val (.int p2), .val (.int p3), .val (.int p4), .val (.int p5), .val (.int nv), .val (.int w), .val (.int (Int32.ofNat A)), .val (.int (Int32.ofNat B)), .val (.int (Int32.ofNat D)), .val (.int (Int32.ofNat Q)), .val (.ref bo_1), .unset] [(.int (Int32.ofNat B)), (.int (0 : Int32)), (.int (own_hit (0 : Int32) (Int32.ofNat A) (Int32.ofNat Q)))]))
            refine own_lift (fun tz kz => XS.iload Xk_4.here hx rfl (hb hby at_137) rfl kz) ?_
            show own_Fin p e below _ (Tk_4.setTop (mkF m 139 #[.val (.int p1), .val (.int p2), .val (.int p3), .val (.int p4), .val (.int p5), .val (.int nv), .val (.int w), .val (.int (Int32.ofNat A)), .val (.int (Int32.ofNat B)), .val (.int (Int32.ofNat D)), .val (.int (Int32.ofNat Q)), .val (.ref bo_1), .unset] [(.int (Int32.ofNat Q)), (.int (Int32.ofNat B)), (.int (0 : Int32)), (.int (own_hit (0 : Int32) (Int32.ofNat A) (Int32.ofNat Q)))]))
            obtain ⟨_, _, ⟨Tk_6, Lk_6, kk_6, nk_6⟩, -, Xk_6, ⟨Lck_6, hQk_6, lk_6, yk_6, zk_6⟩, stk_6⟩ := Jvm.LawKit.callS Xk_4 hx (y := (⟨"com/example/porridge/porridge/engine/VectorClockGetPinLaw", "hit", "(ZII)I"⟩ : MethodName)) hown (mvT hZ (hw _ (List.mem_of_getElem? (i := 12) rfl))) (mvT hZ (hw _ (List.mem_of_getElem? (i := 13) rfl))) (mvT hZ (hw _ (List.mem_of_getElem? (i := 14) rfl))) (mvT hZ (hw _ (List.mem_of_getElem? (i := 15) rfl))) (by decide) (backOf (W := 1) (rm3 l Z a0 hw [] (0 : Int32) (Int32.ofNat B) (Int32.ofNat Q) T106.heap n0 SZ106) hZ (hw _ (List.mem_of_getElem? (i := 15) rfl)) (hw _ (List.mem_of_getElem? (i := 14) rfl)) (by decide) (by decide)) (g := (mkF m 139 #[.val (.int p1), .val (.int p2), .val (.int p3), .val (.int p4), .val (.int p5), .val (.int nv), .val (.int w), .val (.int (Int32.ofNat A)), .val (.int (Int32.ofNat B)), .val (.int (Int32.ofNat D)), .val (.int (Int32.ofNat Q)), .val (.ref bo_1), .unset] [(.int (Int32.ofNat Q)), (.int (Int32.ofNat B)), (.int (0 : Int32)), (.int (own_hit (0 : Int32) (Int32.ofNat A) (Int32.ofNat Q)))])) rfl (by rw [hml]; rfl) (argsL := [(.int (0 : Int32)), (.int (Int32.ofNat B)), (.int (Int32.ofNat Q))]) (rest := [(.int (own_hit (0 : Int32) (Int32.ofNat A) (Int32.ofNat Q)))]) (lenOf pd_3 rfl) rfl (by show 2 * 0 + _ ≤ _; exact Nat.le_of_eq rfl) (hb hby at_139) (fun _ _ => ⟨rfl, ek_4, (by decide : 5 + 0 ≤ _), (by decide : 25 + 0 ≤ _)⟩)
            dsimp only [Pt.U, Pt.locs, Pt.cells, Pt.slots] at Xk_6 lk_6 yk_6 zk_6 stk_6 hQk_6
            subst lk_6 yk_6 zk_6
            obtain ⟨rfl, Nk_6q, ek_6⟩ := hQk_6
            have Nk_6 := Fr.app Nk_4 Nk_6q
            refine own_lift (fun tz kz => stk_6 _ kz) ?_
            show own_Fin p e below _ (Tk_6.setTop (mkF m 142 #[.val (.int p1), .val (.int p2), .val (.int p3), .val (.int p4), .val (.int p5), .val (.int nv), .val (.int w), .val (.int (Int32.ofNat A)), .val (.int (Int32.ofNat B)), .val (.int (Int32.ofNat D)), .val (.int (Int32.ofNat Q)), .val (.ref bo_1), .unset] [(.int (own_hit (0 : Int32) (Int32.ofNat B) (Int32.ofNat Q))), (.int (own_hit (0 : Int32) (Int32.ofNat A) (Int32.ofNat Q)))]))
            refine own_lift (fun tz kz => XS.iadd Xk_6.here hx rfl (hb hby at_142) rfl kz) ?_
            show own_Fin p e below _ (Tk_6.setTop (mkF m 143 #[.val (.int p1), .val (.int p2), .val (.int p3), .val (.int p4), .val (.int p5), .val (.int nv), .val (.int w), .val (.int (Int32.ofNat A)), .val (.int (Int32.ofNat B)), .val (.int (Int32.ofNat D)), .val (.int (Int32.ofNat Q)), .val (.ref bo_1), .unset] [(.int ((own_hit (0 : Int32) (Int32.ofNat A) (Int32.ofNat Q)) + (own_hit (0 : Int32) (Int32.ofNat B) (Int32.ofNat Q))))]))
            refine own_lift (fun tz kz => XS.iload Xk_6.here hx rfl (hb hby at_143) rfl kz) ?_
            show own_Fin p e below _ (Tk_6.setTop (mkF m 145 #[.val (.int p1), .val (.int p2), .val (.int p3), .val (.int p4), .val (.int p5), .val (.int nv), .val (.int w), .val (.int (Int32.ofNat A)), .val (.int (Int32.ofNat B)), .val (.int (Int32.ofNat D)), .val (.int (Int32.ofNat Q)), .val (.ref bo_1), .unset] [(.int nv), (.int ((own_hit (0 : Int32) (Int32.ofNat A) (Int32.ofNat Q)) + (own_hit (0 : Int32) (Int32.ofNat B) (Int32.ofNat Q))))]))
            refine own_lift (fun tz kz => XS.iconst Xk_6.here hx rfl (hb hby at_145) kz) ?_
            show own_Fin p e below _ (Tk_6.setTop (mkF m 146 #[.val (.int p1), .val (.int p2), .val (.int p3), .val (.int p4), .val (.int p5), .val (.int nv), .val (.int w), .val (.int (Int32.ofNat A)), .val (.int (Int32.ofNat B)), .val (.int (Int32.ofNat D)), .val (.int (Int32.ofNat Q)), .val (.ref bo_1), .unset] [(.int (3 : Int32)), (.int nv), (.int ((own_hit (0 : Int32) (Int32.ofNat A) (Int32.ofNat Q)) + (own_hit (0 : Int32) (Int32.ofNat B) (Int32.ofNat Q))))]))
            by_cases hc146_7 : nv < (3 : Int32)
            · refine own_lift (fun tz kz => XS.icmpYes Xk_6.here hx rfl (pc0 := 146) (pc' := 153) rfl (hb hby at_146) rfl (tlt hc146_7).1 (by decide) (by decide) kz) ?_
              show own_Fin p e below _ (Tk_6.setTop (mkF m 153 #[.val (.int p1), .val (.int p2), .val (.int p3), .val (.int p4), .val (.int p5), .val (.int nv), .val (.int w), .val (.int (Int32.ofNat A)), .val (.int (Int32.ofNat B)), .val (.int (Int32.ofNat D)), .val (.int (Int32.ofNat Q)), .val (.ref bo_1), .unset] [(.int ((own_hit (0 : Int32) (Int32.ofNat A) (Int32.ofNat Q)) + (own_hit (0 : Int32) (Int32.ofNat B) (Int32.ofNat Q))))]))
              refine own_lift (fun tz kz => XS.iconst Xk_6.here hx rfl (hb hby at_153) kz) ?_
              show own_Fin p e below _ (Tk_6.setTop (mkF m 154 #[.val (.int p1), .val (.int p2), .val (.int p3), .val (.int p4), .val (.int p5), .val (.int nv), .val (.int w), .val (.int (Int32.ofNat A)), .val (.int (Int32.ofNat B)), .val (.int (Int32.ofNat D)), .val (.int (Int32.ofNat Q)), .val (.ref bo_1), .unset] [(.int (0 : Int32)), (.int ((own_hit (0 : Int32) (Int32.ofNat A) (Int32.ofNat Q)) + (own_hit (0 : Int32) (Int32.ofNat B) (Int32.ofNat Q))))]))
              refine own_lift (fun tz kz => XS.iload Xk_6.here hx rfl (hb hby at_154) rfl kz) ?_
              show own_Fin p e below _ (Tk_6.setTop (mkF m 156 #[.val (.int p1), .val (.int p2), .val (.int p3), .val (.int p4), .val (.int p5), .val (.int nv), .val (.int w), .val (.int (Int32.ofNat A)), .val (.int (Int32.ofNat B)), .val (.int (Int32.ofNat D)), .val (.int (Int32.ofNat Q)), .val (.ref bo_1), .unset] [(.int (Int32.ofNat D)), (.int (0 : Int32)), (.int ((own_hit (0 : Int32) (Int32.ofNat A) (Int32.ofNat Q)) + (own_hit (0 : Int32) (Int32.ofNat B) (Int32.ofNat Q))))]))
              refine own_lift (fun tz kz => XS.iload Xk_6.here hx rfl (hb hby at_156) rfl kz) ?_
              show own_Fin p e below _ (Tk_6.setTop (mkF m 158 #[.val (.int p1), .val (.int p2), .val (.int p3), .val (.int p4), .val (.int p5), .val (.int nv), .val (.int w), .val (.int (Int32.ofNat A)), .val (.int (Int32.ofNat B)), .val (.int (Int32.ofNat D)), .val (.int (Int32.ofNat Q)), .val (.ref bo_1), .unset] [(.int (Int32.ofNat Q)), (.int (Int32.ofNat D)), (.int (0 : Int32)), (.int ((own_hit (0 : Int32) (Int32.ofNat A) (Int32.ofNat Q)) + (own_hit (0 : Int32) (Int32.ofNat B) (Int32.ofNat Q))))]))
              obtain ⟨_, _, ⟨Tk_8, Lk_8, kk_8, nk_8⟩, -, Xk_8, ⟨Lck_8, hQk_8, lk_8, yk_8, zk_8⟩, stk_8⟩ := Jvm.LawKit.callS Xk_6 hx (y := (⟨"com/example/porridge/porridge/engine/VectorClockGetPinLaw", "hit", "(ZII)I"⟩ : MethodName)) hown (mvT hZ (hw _ (List.mem_of_getElem? (i := 12) rfl))) (mvT hZ (hw _ (List.mem_of_getElem? (i := 13) rfl))) (mvT hZ (hw _ (List.mem_of_getElem? (i := 14) rfl))) (mvT hZ (hw _ (List.mem_of_getElem? (i := 15) rfl))) (by decide) (backOf (W := 1) (rm3 l Z a0 hw [] (0 : Int32) (Int32.ofNat D) (Int32.ofNat Q) T106.heap n0 SZ106) hZ (hw _ (List.mem_of_getElem? (i := 15) rfl)) (hw _ (List.mem_of_getElem? (i := 14) rfl)) (by decide) (by decide)) (g := (mkF m 158 #[.val (.int p1), .val (.int p2), .val (.int p3), .val (.int p4), .val (.int p5), .val (.int nv), .val (.int w), .val (.int (Int32.ofNat A)), .val (.int (Int32.ofNat B)), .val (.int (Int32.ofNat D)), .val (.int (Int32.ofNat Q)), .val (.ref bo_1), .unset] [(.int (Int32.ofNat Q)), (.int (Int32.ofNat D)), (.int (0 : Int32)), (.int ((own_hit (0 : Int32) (Int32.ofNat A) (Int32.ofNat Q)) + (own_hit (0 : Int32) (Int32.ofNat B) (Int32.ofNat Q))))])) rfl (by rw [hml]; rfl) (argsL := [(.int (0 : Int32)), (.int (Int32.ofNat D)), (.int (Int32.ofNat Q))]) (rest := [(.int ((own_hit (0 : Int32) (Int32.ofNat A) (Int32.ofNat Q)) + (own_hit (0 : Int32) (Int32.ofNat B) (Int32.ofNat Q))))]) (lenOf pd_3 rfl) rfl (by show 2 * 0 + _ ≤ _; exact Nat.le_of_eq rfl) (hb hby at_158) (fun _ _ => ⟨rfl, ek_6, (by decide : 5 + 0 ≤ _), (by decide : 25 + 0 ≤ _)⟩)
              dsimp only [Pt.U, Pt.locs, Pt.cells, Pt.slots] at Xk_8 lk_8 yk_8 zk_8 stk_8 hQk_8
              subst lk_8 yk_8 zk_8
              obtain ⟨rfl, Nk_8q, ek_8⟩ := hQk_8
              have Nk_8 := Fr.app Nk_6 Nk_8q
              refine own_lift (fun tz kz => stk_8 _ kz) ?_
              show own_Fin p e below _ (Tk_8.setTop (mkF m 161 #[.val (.int p1), .val (.int p2), .val (.int p3), .val (.int p4), .val (.int p5), .val (.int nv), .val (.int w), .val (.int (Int32.ofNat A)), .val (.int (Int32.ofNat B)), .val (.int (Int32.ofNat D)), .val (.int (Int32.ofNat Q)), .val (.ref bo_1), .unset] [(.int (own_hit (0 : Int32) (Int32.ofNat D) (Int32.ofNat Q))), (.int ((own_hit (0 : Int32) (Int32.ofNat A) (Int32.ofNat Q)) + (own_hit (0 : Int32) (Int32.ofNat B) (Int32.ofNat Q))))]))
              refine own_lift (fun tz kz => XS.iadd Xk_8.here hx rfl (hb hby at_161) rfl kz) ?_
              show own_Fin p e below _ (Tk_8.setTop (mkF m 162 #[.val (.int p1), .val (.int p2), .val (.int p3), .val (.int p4), .val (.int p5), .val (.int nv), .val (.int w), .val (.int (Int32.ofNat A)), .val (.int (Int32.ofNat B)), .val (.int (Int32.ofNat D)), .val (.int (Int32.ofNat Q)), .val (.ref bo_1), .unset] [(.int (((own_hit (0 : Int32) (Int32.ofNat A) (Int32.ofNat Q)) + (own_hit (0 : Int32) (Int32.ofNat B) (Int32.ofNat Q))) + (own_hit (0 : Int32) (Int32.ofNat D) (Int32.ofNat Q))))]))
              refine own_lift (fun tz kz => XS.istore Xk_8.here hx rfl (hb hby at_162) rfl (l' := #[.val (.int p1), .val (.int p2), .val (.int p3), .val (.int p4), .val (.int p5), .val (.int nv), .val (.int w), .val (.int (Int32.ofNat A)), .val (.int (Int32.ofNat B)), .val (.int (Int32.ofNat D)), .val (.int (Int32.ofNat Q)), .val (.ref bo_1), .val (.int (((own_hit (0 : Int32) (Int32.ofNat A) (Int32.ofNat Q)) + (own_hit (0 : Int32) (Int32.ofNat B) (Int32.ofNat Q))) + (own_hit (0 : Int32) (Int32.ofNat D) (Int32.ofNat Q))))]) rfl kz) ?_
              show own_Fin p e below _ (Tk_8.setTop (mkF m 164 #[.val (.int p1), .val (.int p2), .val (.int p3), .val (.int p4), .val (.int p5), .val (.int nv), .val (.int w), .val (.int (Int32.ofNat A)), .val (.int (Int32.ofNat B)), .val (.int (Int32.ofNat D)), .val (.int (Int32.ofNat Q)), .val (.ref bo_1), .val (.int (((own_hit (0 : Int32) (Int32.ofNat A) (Int32.ofNat Q)) + (own_hit (0 : Int32) (Int32.ofNat B) (Int32.ofNat Q))) + (own_hit (0 : Int32) (Int32.ofNat D) (Int32.ofNat Q))))] []))
              have hfin : ((own_st (nv < (3 : Int32)) D (own_st (nv < (2 : Int32)) B (own_st (nv < (1 : Int32)) A (fun _ => 0)))) Q) = (((own_hit (0 : Int32) (Int32.ofNat A) (Int32.ofNat Q)) + (own_hit (0 : Int32) (Int32.ofNat B) (Int32.ofNat Q))) + (own_hit (0 : Int32) (Int32.ofNat D) (Int32.ofNat Q))) := by rw [own_fin (nv < (1 : Int32)) (nv < (2 : Int32)) (nv < (3 : Int32)) hA hB hD hQ, if_pos hc109_3, if_pos hc127_5, if_pos hc146_7]
              refine own_lift (fun tz kz => XS.aload Xk_8.here hx rfl (hb hby at_164) rfl rfl kz) ?_
              show own_Fin p e below _ (Tk_8.setTop (mkF m 166 #[.val (.int p1), .val (.int p2), .val (.int p3), .val (.int p4), .val (.int p5), .val (.int nv), .val (.int w), .val (.int (Int32.ofNat A)), .val (.int (Int32.ofNat B)), .val (.int (Int32.ofNat D)), .val (.int (Int32.ofNat Q)), .val (.ref bo_1), .val (.int (((own_hit (0 : Int32) (Int32.ofNat A) (Int32.ofNat Q)) + (own_hit (0 : Int32) (Int32.ofNat B) (Int32.ofNat Q))) + (own_hit (0 : Int32) (Int32.ofNat D) (Int32.ofNat Q))))] [(.ref bo_1)]))
              refine own_lift (fun tz kz => XS.iload Xk_8.here hx rfl (hb hby at_166) rfl kz) ?_
              show own_Fin p e below _ (Tk_8.setTop (mkF m 168 #[.val (.int p1), .val (.int p2), .val (.int p3), .val (.int p4), .val (.int p5), .val (.int nv), .val (.int w), .val (.int (Int32.ofNat A)), .val (.int (Int32.ofNat B)), .val (.int (Int32.ofNat D)), .val (.int (Int32.ofNat Q)), .val (.ref bo_1), .val (.int (((own_hit (0 : Int32) (Int32.ofNat A) (Int32.ofNat Q)) + (own_hit (0 : Int32) (Int32.ofNat B) (Int32.ofNat Q))) + (own_hit (0 : Int32) (Int32.ofNat D) (Int32.ofNat Q))))] [(.int (Int32.ofNat Q)), (.ref bo_1)]))
              obtain ⟨cqk_9, kqk_9, qk_9a, qk_9b, qk_9c⟩ := isOf hZ ek_8 E106
              obtain ⟨_, _, ⟨Tk_9, Lk_9, kk_9, nk_9⟩, -, Xk_9, ⟨Lck_9, hQk_9, lk_9, yk_9, zk_9⟩, stk_9⟩ := Xk_8.virtualBack hx (y := (⟨"com/example/porridge/porridge/engine/VectorClock", "get", "(I)I"⟩ : MethodName)) (z := (⟨"com/example/porridge/porridge/engine/VectorClock", "get", "(I)I"⟩ : MethodName)) hown (mvT hZ (hw _ (List.mem_of_getElem? (i := 16) rfl))) (mvT hZ (hw _ (List.mem_of_getElem? (i := 17) rfl))) (notFace_of_selects (args := #[]) (mvT hZ (hw _ (List.mem_of_getElem? (i := 19) rfl)))) (mvT hZ (hw _ (List.mem_of_getElem? (i := 19) rfl))) (mvT hZ (hw _ (List.mem_of_getElem? (i := 18) rfl))) (by decide) (backOf (W := 0) (rm4 l Z a0 hw [] bo_1 Q n106 (own_st (nv < (3 : Int32)) D (own_st (nv < (2 : Int32)) B (own_st (nv < (1 : Int32)) A (fun _ => 0)))) T106.heap n0 SZ106 hQ H106) hZ (hw _ (List.mem_of_getElem? (i := 20) rfl)) (hw _ (List.mem_of_getElem? (i := 2) rfl)) (by decide) (by decide)) qk_9a qk_9c (g := (mkF m 168 #[.val (.int p1), .val (.int p2), .val (.int p3), .val (.int p4), .val (.int p5), .val (.int nv), .val (.int w), .val (.int (Int32.ofNat A)), .val (.int (Int32.ofNat B)), .val (.int (Int32.ofNat D)), .val (.int (Int32.ofNat Q)), .val (.ref bo_1), .val (.int (((own_hit (0 : Int32) (Int32.ofNat A) (Int32.ofNat Q)) + (own_hit (0 : Int32) (Int32.ofNat B) (Int32.ofNat Q))) + (own_hit (0 : Int32) (Int32.ofNat D) (Int32.ofNat Q))))] [(.int (Int32.ofNat Q)), (.ref bo_1)])) rfl (by rw [hml]; rfl) (Steps.refl _) (argsL := [(.int (Int32.ofNat Q))]) (rest := []) (lenOf pd_4 rfl) rfl (by show 2 * 0 + _ ≤ _; exact Nat.le_of_eq rfl) (hb hby at_168) (fun _ _ => ⟨rfl, ek_8, (by decide : 5 + 0 ≤ _), (by decide : 25 + 0 ≤ _)⟩)
              dsimp only [Pt.U, Pt.locs, Pt.cells, Pt.slots] at Xk_9 lk_9 yk_9 zk_9 stk_9 hQk_9
              subst lk_9 yk_9 zk_9
              obtain ⟨rfl, Nk_9q, ek_9⟩ := hQk_9
              have Nk_9 := Fr.app Nk_8 Nk_9q
              refine own_lift (fun tz kz => stk_9.trans kz) ?_
              show own_Fin p e below _ (Tk_9.setTop (mkF m 171 #[.val (.int p1), .val (.int p2), .val (.int p3), .val (.int p4), .val (.int p5), .val (.int nv), .val (.int w), .val (.int (Int32.ofNat A)), .val (.int (Int32.ofNat B)), .val (.int (Int32.ofNat D)), .val (.int (Int32.ofNat Q)), .val (.ref bo_1), .val (.int (((own_hit (0 : Int32) (Int32.ofNat A) (Int32.ofNat Q)) + (own_hit (0 : Int32) (Int32.ofNat B) (Int32.ofNat Q))) + (own_hit (0 : Int32) (Int32.ofNat D) (Int32.ofNat Q))))] [(.int ((own_st (nv < (3 : Int32)) D (own_st (nv < (2 : Int32)) B (own_st (nv < (1 : Int32)) A (fun _ => 0)))) Q))]))
              refine own_lift (fun tz kz => XS.iload Xk_9.here hx rfl (hb hby at_171) rfl kz) ?_
              show own_Fin p e below _ (Tk_9.setTop (mkF m 173 #[.val (.int p1), .val (.int p2), .val (.int p3), .val (.int p4), .val (.int p5), .val (.int nv), .val (.int w), .val (.int (Int32.ofNat A)), .val (.int (Int32.ofNat B)), .val (.int (Int32.ofNat D)), .val (.int (Int32.ofNat Q)), .val (.ref bo_1), .val (.int (((own_hit (0 : Int32) (Int32.ofNat A) (Int32.ofNat Q)) + (own_hit (0 : Int32) (Int32.ofNat B) (Int32.ofNat Q))) + (own_hit (0 : Int32) (Int32.ofNat D) (Int32.ofNat Q))))] [(.int (((own_hit (0 : Int32) (Int32.ofNat A) (Int32.ofNat Q)) + (own_hit (0 : Int32) (Int32.ofNat B) (Int32.ofNat Q))) + (own_hit (0 : Int32) (Int32.ofNat D) (Int32.ofNat Q)))), (.int ((own_st (nv < (3 : Int32)) D (own_st (nv < (2 : Int32)) B (own_st (nv < (1 : Int32)) A (fun _ => 0)))) Q))]))
              refine own_lift (fun tz kz => XS.icmpNo Xk_9.here hx rfl (hb hby at_173) rfl (teq hfin).2 kz) ?_
              show own_Fin p e below _ (Tk_9.setTop (mkF m 176 #[.val (.int p1), .val (.int p2), .val (.int p3), .val (.int p4), .val (.int p5), .val (.int nv), .val (.int w), .val (.int (Int32.ofNat A)), .val (.int (Int32.ofNat B)), .val (.int (Int32.ofNat D)), .val (.int (Int32.ofNat Q)), .val (.ref bo_1), .val (.int (((own_hit (0 : Int32) (Int32.ofNat A) (Int32.ofNat Q)) + (own_hit (0 : Int32) (Int32.ofNat B) (Int32.ofNat Q))) + (own_hit (0 : Int32) (Int32.ofNat D) (Int32.ofNat Q))))] []))
              refine own_lift (fun tz kz => XS.iconst Xk_9.here hx rfl (hb hby at_176) kz) ?_
              show own_Fin p e below _ (Tk_9.setTop (mkF m 177 #[.val (.int p1), .val (.int p2), .val (.int p3), .val (.int p4), .val (.int p5), .val (.int nv), .val (.int w), .val (.int (Int32.ofNat A)), .val (.int (Int32.ofNat B)), .val (.int (Int32.ofNat D)), .val (.int (Int32.ofNat Q)), .val (.ref bo_1), .val (.int (((own_hit (0 : Int32) (Int32.ofNat A) (Int32.ofNat Q)) + (own_hit (0 : Int32) (Int32.ofNat B) (Int32.ofNat Q))) + (own_hit (0 : Int32) (Int32.ofNat D) (Int32.ofNat Q))))] [(.int (1 : Int32))]))
              refine own_lift (fun tz kz => XS.goto Xk_9.here hx rfl (pc0 := 177) (pc' := 181) rfl (hb hby at_177) (by decide) (by decide) kz) ?_
              show own_Fin p e below _ (Tk_9.setTop (mkF m 181 #[.val (.int p1), .val (.int p2), .val (.int p3), .val (.int p4), .val (.int p5), .val (.int nv), .val (.int w), .val (.int (Int32.ofNat A)), .val (.int (Int32.ofNat B)), .val (.int (Int32.ofNat D)), .val (.int (Int32.ofNat Q)), .val (.ref bo_1), .val (.int (((own_hit (0 : Int32) (Int32.ofNat A) (Int32.ofNat Q)) + (own_hit (0 : Int32) (Int32.ofNat B) (Int32.ofNat Q))) + (own_hit (0 : Int32) (Int32.ofNat D) (Int32.ofNat Q))))] [(.int (1 : Int32))]))
              obtain ⟨fs, hr, hrun, hended, hW, hsame⟩ := Xk_9.leave (v := some (.int (1 : Int32))) (fun h => by rw [Bd.returns] at h; cases h)
              exact ⟨_, _, retN Xk_9 hx (t := .boolean) Bd.returns (by simp) (hb hby at_181) hr, hrun, hended, _, _, rfl, ⟨rfl, Nk_9⟩, ⟨_, rfl⟩, hW, hsame.mono (by decide) (by decide)⟩
            · refine own_lift (fun tz kz => XS.icmpNo Xk_6.here hx rfl (hb hby at_146) rfl (flt hc146_7).1 kz) ?_
              show own_Fin p e below _ (Tk_6.setTop (mkF m 149 #[.val (.int p1), .val (.int p2), .val (.int p3), .val (.int p4), .val (.int p5), .val (.int nv), .val (.int w), .val (.int (Int32.ofNat A)), .val (.int (Int32.ofNat B)), .val (.int (Int32.ofNat D)), .val (.int (Int32.ofNat Q)), .val (.ref bo_1), .unset] [(.int ((own_hit (0 : Int32) (Int32.ofNat A) (Int32.ofNat Q)) + (own_hit (0 : Int32) (Int32.ofNat B) (Int32.ofNat Q))))]))
              refine own_lift (fun tz kz => XS.iconst Xk_6.here hx rfl (hb hby at_149) kz) ?_
              show own_Fin p e below _ (Tk_6.setTop (mkF m 150 #[.val (.int p1), .val (.int p2), .val (.int p3), .val (.int p4), .val (.int p5), .val (.int nv), .val (.int w), .val (.int (Int32.ofNat A)), .val (.int (Int32.ofNat B)), .val (.int (Int32.ofNat D)), .val (.int (Int32.ofNat Q)), .val (.ref bo_1), .unset] [(.int (1 : Int32)), (.int ((own_hit (0 : Int32) (Int32.ofNat A) (Int32.ofNat Q)) + (own_hit (0 : Int32) (Int32.ofNat B) (Int32.ofNat Q))))]))
              refine own_lift (fun tz kz => XS.goto Xk_6.here hx rfl (pc0 := 150) (pc' := 154) rfl (hb hby at_150) (by decide) (by decide) kz) ?_
              show own_Fin p e below _ (Tk_6.setTop (mkF m 154 #[.val (.int p1), .val (.int p2), .val (.int p3), .val (.int p4), .val (.int p5), .val (.int nv), .val (.int w), .val (.int (Int32.ofNat A)), .val (.int (Int32.ofNat B)), .val (.int (Int32.ofNat D)), .val (.int (Int32.ofNat Q)), .val (.ref bo_1), .unset] [(.int (1 : Int32)), (.int ((own_hit (0 : Int32) (Int32.ofNat A) (Int32.ofNat Q)) + (own_hit (0 : Int32) (Int32.ofNat B) (Int32.ofNat Q))))]))
              refine own_lift (fun tz kz => XS.iload Xk_6.here hx rfl (hb hby at_154) rfl kz) ?_
              show own_Fin p e below _ (Tk_6.setTop (mkF m 156 #[.val (.int p1), .val (.int p2), .val (.int p3), .val (.int p4), .val (.int p5), .val (.int nv), .val (.int w), .val (.int (Int32.ofNat A)), .val (.int (Int32.ofNat B)), .val (.int (Int32.ofNat D)), .val (.int (Int32.ofNat Q)), .val (.ref bo_1), .unset] [(.int (Int32.ofNat D)), (.int (1 : Int32)), (.int ((own_hit (0 : Int32) (Int32.ofNat A) (Int32.ofNat Q)) + (own_hit (0 : Int32) (Int32.ofNat B) (Int32.ofNat Q))))]))
              refine own_lift (fun tz kz => XS.iload Xk_6.here hx rfl (hb hby at_156) rfl kz) ?_
              show own_Fin p e below _ (Tk_6.setTop (mkF m 158 #[.val (.int p1), .val (.int p2), .val (.int p3), .val (.int p4), .val (.int p5), .val (.int nv), .val (.int w), .val (.int (Int32.ofNat A)), .val (.int (Int32.ofNat B)), .val (.int (Int32.ofNat D)), .val (.int (Int32.ofNat Q)), .val (.ref bo_1), .unset] [(.int (Int32.ofNat Q)), (.int (Int32.ofNat D)), (.int (1 : Int32)), (.int ((own_hit (0 : Int32) (Int32.ofNat A) (Int32.ofNat Q)) + (own_hit (0 : Int32) (Int32.ofNat B) (Int32.ofNat Q))))]))
              obtain ⟨_, _, ⟨Tk_11, Lk_11, kk_11, nk_11⟩, -, Xk_11, ⟨Lck_11, hQk_11, lk_11, yk_11, zk_11⟩, stk_11⟩ := Jvm.LawKit.callS Xk_6 hx (y := (⟨"com/example/porridge/porridge/engine/VectorClockGetPinLaw", "hit", "(ZII)I"⟩ : MethodName)) hown (mvT hZ (hw _ (List.mem_of_getElem? (i := 12) rfl))) (mvT hZ (hw _ (List.mem_of_getElem? (i := 13) rfl))) (mvT hZ (hw _ (List.mem_of_getElem? (i := 14) rfl))) (mvT hZ (hw _ (List.mem_of_getElem? (i := 15) rfl))) (by decide) (backOf (W := 1) (rm3 l Z a0 hw [] (1 : Int32) (Int32.ofNat D) (Int32.ofNat Q) T106.heap n0 SZ106) hZ (hw _ (List.mem_of_getElem? (i := 15) rfl)) (hw _ (List.mem_of_getElem? (i := 14) rfl)) (by decide) (by decide)) (g := (mkF m 158 #[.val (.int p1), .val (.int p2), .val (.int p3), .val (.int p4), .val (.int p5), .val (.int nv), .val (.int w), .val (.int (Int32.ofNat A)), .val (.int (Int32.ofNat B)), .val (.int (Int32.ofNat D)), .val (.int (Int32.ofNat Q)), .val (.ref bo_1), .unset] [(.int (Int32.ofNat Q)), (.int (Int32.ofNat D)), (.int (1 : Int32)), (.int ((own_hit (0 : Int32) (Int32.ofNat A) (Int32.ofNat Q)) + (own_hit (0 : Int32) (Int32.ofNat B) (Int32.ofNat Q))))])) rfl (by rw [hml]; rfl) (argsL := [(.int (1 : Int32)), (.int (Int32.ofNat D)), (.int (Int32.ofNat Q))]) (rest := [(.int ((own_hit (0 : Int32) (Int32.ofNat A) (Int32.ofNat Q)) + (own_hit (0 : Int32) (Int32.ofNat B) (Int32.ofNat Q))))]) (lenOf pd_3 rfl) rfl (by show 2 * 0 + _ ≤ _; exact Nat.le_of_eq rfl) (hb hby at_158) (fun _ _ => ⟨rfl, ek_6, (by decide : 5 + 0 ≤ _), (by decide : 25 + 0 ≤ _)⟩)
              dsimp only [Pt.U, Pt.locs, Pt.cells, Pt.slots] at Xk_11 lk_11 yk_11 zk_11 stk_11 hQk_11
              subst lk_11 yk_11 zk_11
              obtain ⟨rfl, Nk_11q, ek_11⟩ := hQk_11
              have Nk_11 := Fr.app Nk_6 Nk_11q
              refine own_lift (fun tz kz => stk_11 _ kz) ?_
              show own_Fin p e below _ (Tk_11.setTop (mkF m 161 #[.val (.int p1), .val (.int p2), .val (.int p3), .val (.int p4), .val (.int p5), .val (.int nv), .val (.int w), .val (.int (Int32.ofNat A)), .val (.int (Int32.ofNat B)), .val (.int (Int32.ofNat D)), .val (.int (Int32.ofNat Q)), .val (.ref bo_1), .unset] [(.int (own_hit (1 : Int32) (Int32.ofNat D) (Int32.ofNat Q))), (.int ((own_hit (0 : Int32) (Int32.ofNat A) (Int32.ofNat Q)) + (own_hit (0 : Int32) (Int32.ofNat B) (Int32.ofNat Q))))]))
              refine own_lift (fun tz kz => XS.iadd Xk_11.here hx rfl (hb hby at_161) rfl kz) ?_
              show own_Fin p e below _ (Tk_11.setTop (mkF m 162 #[.val (.int p1), .val (.int p2), .val (.int p3), .val (.int p4), .val (.int p5), .val (.int nv), .val (.int w), .val (.int (Int32.ofNat A)), .val (.int (Int32.ofNat B)), .val (.int (Int32.ofNat D)), .val (.int (Int32.ofNat Q)), .val (.ref bo_1), .unset] [(.int (((own_hit (0 : Int32) (Int32.ofNat A) (Int32.ofNat Q)) + (own_hit (0 : Int32) (Int32.ofNat B) (Int32.ofNat Q))) + (own_hit (1 : Int32) (Int32.ofNat D) (Int32.ofNat Q))))]))
              refine own_lift (fun tz kz => XS.istore Xk_11.here hx rfl (hb hby at_162) rfl (l' := #[.val (.int p1), .val (.int p2), .val (.int p3), .val (.int p4), .val (.int p5), .val (.int nv), .val (.int w), .val (.int (Int32.ofNat A)), .val (.int (Int32.ofNat B)), .val (.int (Int32.ofNat D)), .val (.int (Int32.ofNat Q)), .val (.ref bo_1), .val (.int (((own_hit (0 : Int32) (Int32.ofNat A) (Int32.ofNat Q)) + (own_hit (0 : Int32) (Int32.ofNat B) (Int32.ofNat Q))) + (own_hit (1 : Int32) (Int32.ofNat D) (Int32.ofNat Q))))]) rfl kz) ?_
              show own_Fin p e below _ (Tk_11.setTop (mkF m 164 #[.val (.int p1), .val (.int p2), .val (.int p3), .val (.int p4), .val (.int p5), .val (.int nv), .val (.int w), .val (.int (Int32.ofNat A)), .val (.int (Int32.ofNat B)), .val (.int (Int32.ofNat D)), .val (.int (Int32.ofNat Q)), .val (.ref bo_1), .val (.int (((own_hit (0 : Int32) (Int32.ofNat A) (Int32.ofNat Q)) + (own_hit (0 : Int32) (Int32.ofNat B) (Int32.ofNat Q))) + (own_hit (1 : Int32) (Int32.ofNat D) (Int32.ofNat Q))))] []))
              have hfin : ((own_st (nv < (3 : Int32)) D (own_st (nv < (2 : Int32)) B (own_st (nv < (1 : Int32)) A (fun _ => 0)))) Q) = (((own_hit (0 : Int32) (Int32.ofNat A) (Int32.ofNat Q)) + (own_hit (0 : Int32) (Int32.ofNat B) (Int32.ofNat Q))) + (own_hit (1 : Int32) (Int32.ofNat D) (Int32.ofNat Q))) := by rw [own_fin (nv < (1 : Int32)) (nv < (2 : Int32)) (nv < (3 : Int32)) hA hB hD hQ, if_pos hc109_3, if_pos hc127_5, if_neg hc146_7]
              refine own_lift (fun tz kz => XS.aload Xk_11.here hx rfl (hb hby at_164) rfl rfl kz) ?_
              show own_Fin p e below _ (Tk_11.setTop (mkF m 166 #[.val (.int p1), .val (.int p2), .val (.int p3), .val (.int p4), .val (.int p5), .val (.int nv), .val (.int w), .val (.int (Int32.ofNat A)), .val (.int (Int32.ofNat B)), .val (.int (Int32.ofNat D)), .val (.int (Int32.ofNat Q)), .val (.ref bo_1), .val (.int (((own_hit (0 : Int32) (Int32.ofNat A) (Int32.ofNat Q)) + (own_hit (0 : Int32) (Int32.ofNat B) (Int32.ofNat Q))) + (own_hit (1 : Int32) (Int32.ofNat D) (Int32.ofNat Q))))] [(.ref bo_1)]))
              refine own_lift (fun tz kz => XS.iload Xk_11.here hx rfl (hb hby at_166) rfl kz) ?_
              show own_Fin p e below _ (Tk_11.setTop (mkF m 168 #[.val (.int p1), .val (.int p2), .val (.int p3), .val (.int p4), .val (.int p5), .val (.int nv), .val (.int w), .val (.int (Int32.ofNat A)), .val (.int (Int32.ofNat B)), .val (.int (Int32.ofNat D)), .val (.int (Int32.ofNat Q)), .val (.ref bo_1), .val (.int (((own_hit (0 : Int32) (Int32.ofNat A) (Int32.ofNat Q)) + (own_hit (0 : Int32) (Int32.ofNat B) (Int32.ofNat Q))) + (own_hit (1 : Int32) (Int32.ofNat D) (Int32.ofNat Q))))] [(.int (Int32.ofNat Q)), (.ref bo_1)]))
              obtain ⟨cqk_12, kqk_12, qk_12a, qk_12b, qk_12c⟩ := isOf hZ ek_11 E106
              obtain ⟨_, _, ⟨Tk_12, Lk_12, kk_12, nk_12⟩, -, Xk_12, ⟨Lck_12, hQk_12, lk_12, yk_12, zk_12⟩, stk_12⟩ := Xk_11.virtualBack hx (y := (⟨"com/example/porridge/porridge/engine/VectorClock", "get", "(I)I"⟩ : MethodName)) (z := (⟨"com/example/porridge/porridge/engine/VectorClock", "get", "(I)I"⟩ : MethodName)) hown (mvT hZ (hw _ (List.mem_of_getElem? (i := 16) rfl))) (mvT hZ (hw _ (List.mem_of_getElem? (i := 17) rfl))) (notFace_of_selects (args := #[]) (mvT hZ (hw _ (List.mem_of_getElem? (i := 19) rfl)))) (mvT hZ (hw _ (List.mem_of_getElem? (i := 19) rfl))) (mvT hZ (hw _ (List.mem_of_getElem? (i := 18) rfl))) (by decide) (backOf (W := 0) (rm4 l Z a0 hw [] bo_1 Q n106 (own_st (nv < (3 : Int32)) D (own_st (nv < (2 : Int32)) B (own_st (nv < (1 : Int32)) A (fun _ => 0)))) T106.heap n0 SZ106 hQ H106) hZ (hw _ (List.mem_of_getElem? (i := 20) rfl)) (hw _ (List.mem_of_getElem? (i := 2) rfl)) (by decide) (by decide)) qk_12a qk_12c (g := (mkF m 168 #[.val (.int p1), .val (.int p2), .val (.int p3), .val (.int p4), .val (.int p5), .val (.int nv), .val (.int w), .val (.int (Int32.ofNat A)), .val (.int (Int32.ofNat B)), .val (.int (Int32.ofNat D)), .val (.int (Int32.ofNat Q)), .val (.ref bo_1), .val (.int (((own_hit (0 : Int32) (Int32.ofNat A) (Int32.ofNat Q)) + (own_hit (0 : Int32) (Int32.ofNat B) (Int32.ofNat Q))) + (own_hit (1 : Int32) (Int32.ofNat D) (Int32.ofNat Q))))] [(.int (Int32.ofNat Q)), (.ref bo_1)])) rfl (by rw [hml]; rfl) (Steps.refl _) (argsL := [(.int (Int32.ofNat Q))]) (rest := []) (lenOf pd_4 rfl) rfl (by show 2 * 0 + _ ≤ _; exact Nat.le_of_eq rfl) (hb hby at_168) (fun _ _ => ⟨rfl, ek_11, (by decide : 5 + 0 ≤ _), (by decide : 25 + 0 ≤ _)⟩)
              dsimp only [Pt.U, Pt.locs, Pt.cells, Pt.slots] at Xk_12 lk_12 yk_12 zk_12 stk_12 hQk_12
              subst lk_12 yk_12 zk_12
              obtain ⟨rfl, Nk_12q, ek_12⟩ := hQk_12
              have Nk_12 := Fr.app Nk_11 Nk_12q
              refine own_lift (fun tz kz => stk_12.trans kz) ?_
              show own_Fin p e below _ (Tk_12.setTop (mkF m 171 #[.val (.int p1), .val (.int p2), .val (.int p3), .val (.int p4), .val (.int p5), .val (.int nv), .val (.int w), .val (.int (Int32.ofNat A)), .val (.int (Int32.ofNat B)), .val (.int (Int32.ofNat D)), .val (.int (Int32.ofNat Q)), .val (.ref bo_1), .val (.int (((own_hit (0 : Int32) (Int32.ofNat A) (Int32.ofNat Q)) + (own_hit (0 : Int32) (Int32.ofNat B) (Int32.ofNat Q))) + (own_hit (1 : Int32) (Int32.ofNat D) (Int32.ofNat Q))))] [(.int ((own_st (nv < (3 : Int32)) D (own_st (nv < (2 : Int32)) B (own_st (nv < (1 : Int32)) A (fun _ => 0)))) Q))]))
              refine own_lift (fun tz kz => XS.iload Xk_12.here hx rfl (hb hby at_171) rfl kz) ?_
              show own_Fin p e below _ (Tk_12.setTop (mkF m 173 #[.val (.int p1), .val (.int p2), .val (.int p3), .val (.int p4), .val (.int p5), .val (.int nv), .val (.int w), .val (.int (Int32.ofNat A)), .val (.int (Int32.ofNat B)), .val (.int (Int32.ofNat D)), .val (.int (Int32.ofNat Q)), .val (.ref bo_1), .val (.int (((own_hit (0 : Int32) (Int32.ofNat A) (Int32.ofNat Q)) + (own_hit (0 : Int32) (Int32.ofNat B) (Int32.ofNat Q))) + (own_hit (1 : Int32) (Int32.ofNat D) (Int32.ofNat Q))))] [(.int (((own_hit (0 : Int32) (Int32.ofNat A) (Int32.ofNat Q)) + (own_hit (0 : Int32) (Int32.ofNat B) (Int32.ofNat Q))) + (own_hit (1 : Int32) (Int32.ofNat D) (Int32.ofNat Q)))), (.int ((own_st (nv < (3 : Int32)) D (own_st (nv < (2 : Int32)) B (own_st (nv < (1 : Int32)) A (fun _ => 0)))) Q))]))
              refine own_lift (fun tz kz => XS.icmpNo Xk_12.here hx rfl (hb hby at_173) rfl (teq hfin).2 kz) ?_
              show own_Fin p e below _ (Tk_12.setTop (mkF m 176 #[.val (.int p1), .val (.int p2), .val (.int p3), .val (.int p4), .val (.int p5), .val (.int nv), .val (.int w), .val (.int (Int32.ofNat A)), .val (.int (Int32.ofNat B)), .val (.int (Int32.ofNat D)), .val (.int (Int32.ofNat Q)), .val (.ref bo_1), .val (.int (((own_hit (0 : Int32) (Int32.ofNat A) (Int32.ofNat Q)) + (own_hit (0 : Int32) (Int32.ofNat B) (Int32.ofNat Q))) + (own_hit (1 : Int32) (Int32.ofNat D) (Int32.ofNat Q))))] []))
              refine own_lift (fun tz kz => XS.iconst Xk_12.here hx rfl (hb hby at_176) kz) ?_
              show own_Fin p e below _ (Tk_12.setTop (mkF m 177 #[.val (.int p1), .val (.int p2), .val (.int p3), .val (.int p4), .val (.int p5), .val (.int nv), .val (.int w), .val (.int (Int32.ofNat A)), .val (.int (Int32.ofNat B)), .val (.int (Int32.ofNat D)), .val (.int (Int32.ofNat Q)), .val (.ref bo_1), .val (.int (((own_hit (0 : Int32) (Int32.ofNat A) (Int32.ofNat Q)) + (own_hit (0 : Int32) (Int32.ofNat B) (Int32.ofNat Q))) + (own_hit (1 : Int32) (Int32.ofNat D) (Int32.ofNat Q))))] [(.int (1 : Int32))]))
              refine own_lift (fun tz kz => XS.goto Xk_12.here hx rfl (pc0 := 177) (pc' := 181) rfl (hb hby at_177) (by decide) (by decide) kz) ?_
              show own_Fin p e below _ (Tk_12.setTop (mkF m 181 #[.val (.int p1), .val (.int p2), .val (.int p3), .val (.int p4), .val (.int p5), .val (.int nv), .val (.int w), .val (.int (Int32.ofNat A)), .val (.int (Int32.ofNat B)), .val (.int (Int32.ofNat D)), .val (.int (Int32.ofNat Q)), .val (.ref bo_1), .val (.int (((own_hit (0 : Int32) (Int32.ofNat A) (Int32.ofNat Q)) + (own_hit (0 : Int32) (Int32.ofNat B) (Int32.ofNat Q))) + (own_hit (1 : Int32) (Int32.ofNat D) (Int32.ofNat Q))))] [(.int (1 : Int32))]))
              obtain ⟨fs, hr, hrun, hended, hW, hsame⟩ := Xk_12.leave (v := some (.int (1 : Int32))) (fun h => by rw [Bd.returns] at h; cases h)
              exact ⟨_, _, retN Xk_12 hx (t := .boolean) Bd.returns (by simp) (hb hby at_181) hr, hrun, hended, _, _, rfl, ⟨rfl, Nk_12⟩, ⟨_, rfl⟩, hW, hsame.mono (by decide) (by decide)⟩
          · refine own_lift (fun tz kz => XS.icmpNo Xk_4.here hx rfl (hb hby at_127) rfl (flt hc127_5).1 kz) ?_
            show own_Fin p e below _ (Tk_4.setTop (mkF m 130 #[.val (.int p1), .val (.int p2), .val (.int p3), .val (.int p4), .val (.int p5), .val (.int nv), .val (.int w), .val (.int (Int32.ofNat A)), .val (.int (Int32.ofNat B)), .val (.int (Int32.ofNat D)), .val (.int (Int32.ofNat Q)), .val (.ref bo_1), .unset] [(.int (own_hit (0 : Int32) (Int32.ofNat A) (Int32.ofNat Q)))]))
            refine own_lift (fun tz kz => XS.iconst Xk_4.here hx rfl (hb hby at_130) kz) ?_
            show own_Fin p e below _ (Tk_4.setTop (mkF m 131 #[.val (.int p1), .val (.int p2), .val (.int p3), .val (.int p4), .val (.int p5), .val (.int nv), .val (.int w), .val (.int (Int32.ofNat A)), .val (.int (Int32.ofNat B)), .val (.int (Int32.ofNat D)), .val (.int (Int32.ofNat Q)), .val (.ref bo_1), .unset] [(.int (1 : Int32)), (.int (own_hit (0 : Int32) (Int32.ofNat A) (Int32.ofNat Q)))]))
            refine own_lift (fun tz kz => XS.goto Xk_4.here hx rfl (pc0 := 131) (pc' := 135) rfl (hb hby at_131) (by decide) (by decide) kz) ?_
            show own_Fin p e below _ (Tk_4.setTop (mkF m 135 #[.val (.int p1), .val (.int p2), .val (.int p3), .val (.int p4), .val (.int p5), .val (.int nv), .val (.int w), .val (.int (Int32.ofNat A)), .val (.int (Int32.ofNat B)), .val (.int (Int32.ofNat D)), .val (.int (Int32.ofNat Q)), .val (.ref bo_1), .unset] [(.int (1 : Int32)), (.int (own_hit (0 : Int32) (Int32.ofNat A) (Int32.ofNat Q)))]))
            refine own_lift (fun tz kz => XS.iload Xk_4.here hx rfl (hb hby at_135) rfl kz) ?_
            show own_Fin p e below _ (Tk_4.setTop (mkF m 137 #[.val (.int p1), .val (.int p2), .val (.int p3), .val (.int p4), .val (.int p5), .val (.int nv), .val (.int w), .val (.int (Int32.ofNat A)), .val (.int (Int32.ofNat B)), .val (.int (Int32.ofNat D)), .val (.int (Int32.ofNat Q)), .val (.ref bo_1), .unset] [(.int (Int32.ofNat B)), (.int (1 : Int32)), (.int (own_hit (0 : Int32) (Int32.ofNat A) (Int32.ofNat Q)))]))
            refine own_lift (fun tz kz => XS.iload Xk_4.here hx rfl (hb hby at_137) rfl kz) ?_
            show own_Fin p e below _ (Tk_4.setTop (mkF m 139 #[.val (.int p1), .val (.int p2), .val (.int p3), .val (.int p4), .val (.int p5), .val (.int nv), .val (.int w), .val (.int (Int32.ofNat A)), .val (.int (Int32.ofNat B)), .val (.int (Int32.ofNat D)), .val (.int (Int32.ofNat Q)), .val (.ref bo_1), .unset] [(.int (Int32.ofNat Q)), (.int (Int32.ofNat B)), (.int (1 : Int32)), (.int (own_hit (0 : Int32) (Int32.ofNat A) (Int32.ofNat Q)))]))
            obtain ⟨_, _, ⟨Tk_14, Lk_14, kk_14, nk_14⟩, -, Xk_14, ⟨Lck_14, hQk_14, lk_14, yk_14, zk_14⟩, stk_14⟩ := Jvm.LawKit.callS Xk_4 hx (y := (⟨"com/example/porridge/porridge/engine/VectorClockGetPinLaw", "hit", "(ZII)I"⟩ : MethodName)) hown (mvT hZ (hw _ (List.mem_of_getElem? (i := 12) rfl))) (mvT hZ (hw _ (List.mem_of_getElem? (i := 13) rfl))) (mvT hZ (hw _ (List.mem_of_getElem? (i := 14) rfl))) (mvT hZ (hw _ (List.mem_of_getElem? (i := 15) rfl))) (by decide) (backOf (W := 1) (rm3 l Z a0 hw [] (1 : Int32) (Int32.ofNat B) (Int32.ofNat Q) T106.heap n0 SZ106) hZ (hw _ (List.mem_of_getElem? (i := 15) rfl)) (hw _ (List.mem_of_getElem? (i := 14) rfl)) (by decide) (by decide)) (g := (mkF m 139 #[.val (.int p1), .val (.int p2), .val (.int p3), .val (.int p4), .val (.int p5), .val (.int nv), .val (.int w), .val (.int (Int32.ofNat A)), .val (.int (Int32.ofNat B)), .val (.int (Int32.ofNat D)), .val (.int (Int32.ofNat Q)), .val (.ref bo_1), .unset] [(.int (Int32.ofNat Q)), (.int (Int32.ofNat B)), (.int (1 : Int32)), (.int (own_hit (0 : Int32) (Int32.ofNat A) (Int32.ofNat Q)))])) rfl (by rw [hml]; rfl) (argsL := [(.int (1 : Int32)), (.int (Int32.ofNat B)), (.int (Int32.ofNat Q))]) (rest := [(.int (own_hit (0 : Int32) (Int32.ofNat A) (Int32.ofNat Q)))]) (lenOf pd_3 rfl) rfl (by show 2 * 0 + _ ≤ _; exact Nat.le_of_eq rfl) (hb hby at_139) (fun _ _ => ⟨rfl, ek_4, (by decide : 5 + 0 ≤ _), (by decide : 25 + 0 ≤ _)⟩)
            dsimp only [Pt.U, Pt.locs, Pt.cells, Pt.slots] at Xk_14 lk_14 yk_14 zk_14 stk_14 hQk_14
            subst lk_14 yk_14 zk_14
            obtain ⟨rfl, Nk_14q, ek_14⟩ := hQk_14
            have Nk_14 := Fr.app Nk_4 Nk_14q
            refine own_lift (fun tz kz => stk_14 _ kz) ?_
            show own_Fin p e below _ (Tk_14.setTop (mkF m 142 #[.val (.int p1), .val (.int p2), .val (.int p3), .val (.int p4), .val (.int p5), .val (.int nv), .val (.int w), .val (.int (Int32.ofNat A)), .val (.int (Int32.ofNat B)), .val (.int (Int32.ofNat D)), .val (.int (Int32.ofNat Q)), .val (.ref bo_1), .unset] [(.int (own_hit (1 : Int32) (Int32.ofNat B) (Int32.ofNat Q))), (.int (own_hit (0 : Int32) (Int32.ofNat A) (Int32.ofNat Q)))]))
            refine own_lift (fun tz kz => XS.iadd Xk_14.here hx rfl (hb hby at_142) rfl kz) ?_
            show own_Fin p e below _ (Tk_14.setTop (mkF m 143 #[.val (.int p1), .val (.int p2), .val (.int p3), .val (.int p4), .val (.int p5), .val (.int nv), .val (.int w), .val (.int (Int32.ofNat A)), .val (.int (Int32.ofNat B)), .val (.int (Int32.ofNat D)), .val (.int (Int32.ofNat Q)), .val (.ref bo_1), .unset] [(.int ((own_hit (0 : Int32) (Int32.ofNat A) (Int32.ofNat Q)) + (own_hit (1 : Int32) (Int32.ofNat B) (Int32.ofNat Q))))]))
            refine own_lift (fun tz kz => XS.iload Xk_14.here hx rfl (hb hby at_143) rfl kz) ?_
            show own_Fin p e below _ (Tk_14.setTop (mkF m 145 #[.val (.int p1), .val (.int p2), .val (.int p3), .val (.int p4), .val (.int p5), .val (.int nv), .val (.int w), .val (.int (Int32.ofNat A)), .val (.int (Int32.ofNat B)), .val (.int (Int32.ofNat D)), .val (.int (Int32.ofNat Q)), .val (.ref bo_1), .unset] [(.int nv), (.int ((own_hit (0 : Int32) (Int32.ofNat A) (Int32.ofNat Q)) + (own_hit (1 : Int32) (Int32.ofNat B) (Int32.ofNat Q))))]))
            refine own_lift (fun tz kz => XS.iconst Xk_14.here hx rfl (hb hby at_145) kz) ?_
            show own_Fin p e below _ (Tk_14.setTop (mkF m 146 #[.val (.int p1), .val (.int p2), .val (.int p3), .val (.int p4), .val (.int p5), .val (.int nv), .val (.int w), .val (.int (Int32.ofNat A)), .val (.int (Int32.ofNat B)), .val (.int (Int32.ofNat D)), .val (.int (Int32.ofNat Q)), .val (.ref bo_1), .unset] [(.int (3 : Int32)), (.int nv), (.int ((own_hit (0 : Int32) (Int32.ofNat A) (Int32.ofNat Q)) + (own_hit (1 : Int32) (Int32.ofNat B) (Int32.ofNat Q))))]))
            by_cases hc146_15 : nv < (3 : Int32)
            · refine own_lift (fun tz kz => XS.icmpYes Xk_14.here hx rfl (pc0 := 146) (pc' := 153) rfl (hb hby at_146) rfl (tlt hc146_15).1 (by decide) (by decide) kz) ?_
              show own_Fin p e below _ (Tk_14.setTop (mkF m 153 #[.val (.int p1), .val (.int p2), .val (.int p3), .val (.int p4), .val (.int p5), .val (.int nv), .val (.int w), .val (.int (Int32.ofNat A)), .val (.int (Int32.ofNat B)), .val (.int (Int32.ofNat D)), .val (.int (Int32.ofNat Q)), .val (.ref bo_1), .unset] [(.int ((own_hit (0 : Int32) (Int32.ofNat A) (Int32.ofNat Q)) + (own_hit (1 : Int32) (Int32.ofNat B) (Int32.ofNat Q))))]))
              refine own_lift (fun tz kz => XS.iconst Xk_14.here hx rfl (hb hby at_153) kz) ?_
              show own_Fin p e below _ (Tk_14.setTop (mkF m 154 #[.val (.int p1), .val (.int p2), .val (.int p3), .val (.int p4), .val (.int p5), .val (.int nv), .val (.int w), .val (.int (Int32.ofNat A)), .val (.int (Int32.ofNat B)), .val (.int (Int32.ofNat D)), .val (.int (Int32.ofNat Q)), .val (.ref bo_1), .unset] [(.int (0 : Int32)), (.int ((own_hit (0 : Int32) (Int32.ofNat A) (Int32.ofNat Q)) + (own_hit (1 : Int32) (Int32.ofNat B) (Int32.ofNat Q))))]))
              refine own_lift (fun tz kz => XS.iload Xk_14.here hx rfl (hb hby at_154) rfl kz) ?_
              show own_Fin p e below _ (Tk_14.setTop (mkF m 156 #[.val (.int p1), .val (.int p2), .val (.int p3), .val (.int p4), .val (.int p5), .val (.int nv), .val (.int w), .val (.int (Int32.ofNat A)), .val (.int (Int32.ofNat B)), .val (.int (Int32.ofNat D)), .val (.int (Int32.ofNat Q)), .val (.ref bo_1), .unset] [(.int (Int32.ofNat D)), (.int (0 : Int32)), (.int ((own_hit (0 : Int32) (Int32.ofNat A) (Int32.ofNat Q)) + (own_hit (1 : Int32) (Int32.ofNat B) (Int32.ofNat Q))))]))
              refine own_lift (fun tz kz => XS.iload Xk_14.here hx rfl (hb hby at_156) rfl kz) ?_
              show own_Fin p e below _ (Tk_14.setTop (mkF m 158 #[.val (.int p1), .val (.int p2), .val (.int p3), .val (.int p4), .val (.int p5), .val (.int nv), .val (.int w), .val (.int (Int32.ofNat A)), .val (.int (Int32.ofNat B)), .val (.int (Int32.ofNat D)), .val (.int (Int32.ofNat Q)), .val (.ref bo_1), .unset] [(.int (Int32.ofNat Q)), (.int (Int32.ofNat D)), (.int (0 : Int32)), (.int ((own_hit (0 : Int32) (Int32.ofNat A) (Int32.ofNat Q)) + (own_hit (1 : Int32) (Int32.ofNat B) (Int32.ofNat Q))))]))
              obtain ⟨_, _, ⟨Tk_16, Lk_16, kk_16, nk_16⟩, -, Xk_16, ⟨Lck_16, hQk_16, lk_16, yk_16, zk_16⟩, stk_16⟩ := Jvm.LawKit.callS Xk_14 hx (y := (⟨"com/example/porridge/porridge/engine/VectorClockGetPinLaw", "hit", "(ZII)I"⟩ : MethodName)) hown (mvT hZ (hw _ (List.mem_of_getElem? (i := 12) rfl))) (mvT hZ (hw _ (List.mem_of_getElem? (i := 13) rfl))) (mvT hZ (hw _ (List.mem_of_getElem? (i := 14) rfl))) (mvT hZ (hw _ (List.mem_of_getElem? (i := 15) rfl))) (by decide) (backOf (W := 1) (rm3 l Z a0 hw [] (0 : Int32) (Int32.ofNat D) (Int32.ofNat Q) T106.heap n0 SZ106) hZ (hw _ (List.mem_of_getElem? (i := 15) rfl)) (hw _ (List.mem_of_getElem? (i := 14) rfl)) (by decide) (by decide)) (g := (mkF m 158 #[.val (.int p1), .val (.int p2), .val (.int p3), .val (.int p4), .val (.int p5), .val (.int nv), .val (.int w), .val (.int (Int32.ofNat A)), .val (.int (Int32.ofNat B)), .val (.int (Int32.ofNat D)), .val (.int (Int32.ofNat Q)), .val (.ref bo_1), .unset] [(.int (Int32.ofNat Q)), (.int (Int32.ofNat D)), (.int (0 : Int32)), (.int ((own_hit (0 : Int32) (Int32.ofNat A) (Int32.ofNat Q)) + (own_hit (1 : Int32) (Int32.ofNat B) (Int32.ofNat Q))))])) rfl (by rw [hml]; rfl) (argsL := [(.int (0 : Int32)), (.int (Int32.ofNat D)), (.int (Int32.ofNat Q))]) (rest := [(.int ((own_hit (0 : Int32) (Int32.ofNat A) (Int32.ofNat Q)) + (own_hit (1 : Int32) (Int32.ofNat B) (Int32.ofNat Q))))]) (lenOf pd_3 rfl) rfl (by show 2 * 0 + _ ≤ _; exact Nat.le_of_eq rfl) (hb hby at_158) (fun _ _ => ⟨rfl, ek_14, (by decide : 5 + 0 ≤ _), (by decide : 25 + 0 ≤ _)⟩)
              dsimp only [Pt.U, Pt.locs, Pt.cells, Pt.slots] at Xk_16 lk_16 yk_16 zk_16 stk_16 hQk_16
              subst lk_16 yk_16 zk_16
              obtain ⟨rfl, Nk_16q, ek_16⟩ := hQk_16
              have Nk_16 := Fr.app Nk_14 Nk_16q
              refine own_lift (fun tz kz => stk_16 _ kz) ?_
              show own_Fin p e below _ (Tk_16.setTop (mkF m 161 #[.val (.int p1), .val (.int p2), .val (.int p3), .val (.int p4), .val (.int p5), .val (.int nv), .val (.int w), .val (.int (Int32.ofNat A)), .val (.int (Int32.ofNat B)), .val (.int (Int32.ofNat D)), .val (.int (Int32.ofNat Q)), .val (.ref bo_1), .unset] [(.int (own_hit (0 : Int32) (Int32.ofNat D) (Int32.ofNat Q))), (.int ((own_hit (0 : Int32) (Int32.ofNat A) (Int32.ofNat Q)) + (own_hit (1 : Int32) (Int32.ofNat B) (Int32.ofNat Q))))]))
              refine own_lift (fun tz kz => XS.iadd Xk_16.here hx rfl (hb hby at_161) rfl kz) ?_
              show own_Fin p e below _ (Tk_16.setTop (mkF m 162 #[.val (.int p1), .val (.int p2), .val (.int p3), .val (.int p4), .val (.int p5), .val (.int nv), .val (.int w), .val (.int (Int32.ofNat A)), .val (.int (Int32.ofNat B)), .val (.int (Int32.ofNat D)), .val (.int (Int32.ofNat Q)), .val (.ref bo_1), .unset] [(.int (((own_hit (0 : Int32) (Int32.ofNat A) (Int32.ofNat Q)) + (own_hit (1 : Int32) (Int32.ofNat B) (Int32.ofNat Q))) + (own_hit (0 : Int32) (Int32.ofNat D) (Int32.ofNat Q))))]))
              refine own_lift (fun tz kz => XS.istore Xk_16.here hx rfl (hb hby at_162) rfl (l' := #[.val (.int p1), .val (.int p2), .val (.int p3), .val (.int p4), .val (.int p5), .val (.int nv), .val (.int w), .val (.int (Int32.ofNat A)), .val (.int (Int32.ofNat B)), .val (.int (Int32.ofNat D)), .val (.int (Int32.ofNat Q)), .val (.ref bo_1), .val (.int (((own_hit (0 : Int32) (Int32.ofNat A) (Int32.ofNat Q)) + (own_hit (1 : Int32) (Int32.ofNat B) (Int32.ofNat Q))) + (own_hit (0 : Int32) (Int32.ofNat D) (Int32.ofNat Q))))]) rfl kz) ?_
              show own_Fin p e below _ (Tk_16.setTop (mkF m 164 #[.val (.int p1), .val (.int p2), .val (.int p3), .val (.int p4), .val (.int p5), .val (.int nv), .val (.int w), .val (.int (Int32.ofNat A)), .val (.int (Int32.ofNat B)), .val (.int (Int32.ofNat D)), .val (.int (Int32.ofNat Q)), .val (.ref bo_1), .val (.int (((own_hit (0 : Int32) (Int32.ofNat A) (Int32.ofNat Q)) + (own_hit (1 : Int32) (Int32.ofNat B) (Int32.ofNat Q))) + (own_hit (0 : Int32) (Int32.ofNat D) (Int32.ofNat Q))))] []))
              have hfin : ((own_st (nv < (3 : Int32)) D (own_st (nv < (2 : Int32)) B (own_st (nv < (1 : Int32)) A (fun _ => 0)))) Q) = (((own_hit (0 : Int32) (Int32.ofNat A) (Int32.ofNat Q)) + (own_hit (1 : Int32) (Int32.ofNat B) (Int32.ofNat Q))) + (own_hit (0 : Int32) (Int32.ofNat D) (Int32.ofNat Q))) := by rw [own_fin (nv < (1 : Int32)) (nv < (2 : Int32)) (nv < (3 : Int32)) hA hB hD hQ, if_pos hc109_3, if_neg hc127_5, if_pos hc146_15]
              refine own_lift (fun tz kz => XS.aload Xk_16.here hx rfl (hb hby at_164) rfl rfl kz) ?_
              show own_Fin p e below _ (Tk_16.setTop (mkF m 166 #[.val (.int p1), .val (.int p2), .val (.int p3), .val (.int p4), .val (.int p5), .val (.int nv), .val (.int w), .val (.int (Int32.ofNat A)), .val (.int (Int32.ofNat B)), .val (.int (Int32.ofNat D)), .val (.int (Int32.ofNat Q)), .val (.ref bo_1), .val (.int (((own_hit (0 : Int32) (Int32.ofNat A) (Int32.ofNat Q)) + (own_hit (1 : Int32) (Int32.ofNat B) (Int32.ofNat Q))) + (own_hit (0 : Int32) (Int32.ofNat D) (Int32.ofNat Q))))] [(.ref bo_1)]))
              refine own_lift (fun tz kz => XS.iload Xk_16.here hx rfl (hb hby at_166) rfl kz) ?_
              show own_Fin p e below _ (Tk_16.setTop (mkF m 168 #[.val (.int p1), .val (.int p2), .val (.int p3), .val (.int p4), .val (.int p5), .val (.int nv), .val (.int w), .val (.int (Int32.ofNat A)), .val (.int (Int32.ofNat B)), .val (.int (Int32.ofNat D)), .val (.int (Int32.ofNat Q)), .val (.ref bo_1), .val (.int (((own_hit (0 : Int32) (Int32.ofNat A) (Int32.ofNat Q)) + (own_hit (1 : Int32) (Int32.ofNat B) (Int32.ofNat Q))) + (own_hit (0 : Int32) (Int32.ofNat D) (Int32.ofNat Q))))] [(.int (Int32.ofNat Q)), (.ref bo_1)]))
              obtain ⟨cqk_17, kqk_17, qk_17a, qk_17b, qk_17c⟩ := isOf hZ ek_16 E106
              obtain ⟨_, _, ⟨Tk_17, Lk_17, kk_17, nk_17⟩, -, Xk_17, ⟨Lck_17, hQk_17, lk_17, yk_17, zk_17⟩, stk_17⟩ := Xk_16.virtualBack hx (y := (⟨"com/example/porridge/porridge/engine/VectorClock", "get", "(I)I"⟩ : MethodName)) (z := (⟨"com/example/porridge/porridge/engine/VectorClock", "get", "(I)I"⟩ : MethodName)) hown (mvT hZ (hw _ (List.mem_of_getElem? (i := 16) rfl))) (mvT hZ (hw _ (List.mem_of_getElem? (i := 17) rfl))) (notFace_of_selects (args := #[]) (mvT hZ (hw _ (List.mem_of_getElem? (i := 19) rfl)))) (mvT hZ (hw _ (List.mem_of_getElem? (i := 19) rfl))) (mvT hZ (hw _ (List.mem_of_getElem? (i := 18) rfl))) (by decide) (backOf (W := 0) (rm4 l Z a0 hw [] bo_1 Q n106 (own_st (nv < (3 : Int32)) D (own_st (nv < (2 : Int32)) B (own_st (nv < (1 : Int32)) A (fun _ => 0)))) T106.heap n0 SZ106 hQ H106) hZ (hw _ (List.mem_of_getElem? (i := 20) rfl)) (hw _ (List.mem_of_getElem? (i := 2) rfl)) (by decide) (by decide)) qk_17a qk_17c (g := (mkF m 168 #[.val (.int p1), .val (.int p2), .val (.int p3), .val (.int p4), .val (.int p5), .val (.int nv), .val (.int w), .val (.int (Int32.ofNat A)), .val (.int (Int32.ofNat B)), .val (.int (Int32.ofNat D)), .val (.int (Int32.ofNat Q)), .val (.ref bo_1), .val (.int (((own_hit (0 : Int32) (Int32.ofNat A) (Int32.ofNat Q)) + (own_hit (1 : Int32) (Int32.ofNat B) (Int32.ofNat Q))) + (own_hit (0 : Int32) (Int32.ofNat D) (Int32.ofNat Q))))] [(.int (Int32.ofNat Q)), (.ref bo_1)])) rfl (by rw [hml]; rfl) (Steps.refl _) (argsL := [(.int (Int32.ofNat Q))]) (rest := []) (lenOf pd_4 rfl) rfl (by show 2 * 0 + _ ≤ _; exact Nat.le_of_eq rfl) (hb hby at_168) (fun _ _ => ⟨rfl, ek_16, (by decide : 5 + 0 ≤ _), (by decide : 25 + 0 ≤ _)⟩)
              dsimp only [Pt.U, Pt.locs, Pt.cells, Pt.slots] at Xk_17 lk_17 yk_17 zk_17 stk_17 hQk_17
              subst lk_17 yk_17 zk_17
              obtain ⟨rfl, Nk_17q, ek_17⟩ := hQk_17
              have Nk_17 := Fr.app Nk_16 Nk_17q
              refine own_lift (fun tz kz => stk_17.trans kz) ?_
              show own_Fin p e below _ (Tk_17.setTop (mkF m 171 #[.val (.int p1), .val (.int p2), .val (.int p3), .val (.int p4), .val (.int p5), .val (.int nv), .val (.int w), .val (.int (Int32.ofNat A)), .val (.int (Int32.ofNat B)), .val (.int (Int32.ofNat D)), .val (.int (Int32.ofNat Q)), .val (.ref bo_1), .val (.int (((own_hit (0 : Int32) (Int32.ofNat A) (Int32.ofNat Q)) + (own_hit (1 : Int32) (Int32.ofNat B) (Int32.ofNat Q))) + (own_hit (0 : Int32) (Int32.ofNat D) (Int32.ofNat Q))))] [(.int ((own_st (nv < (3 : Int32)) D (own_st (nv < (2 : Int32)) B (own_st (nv < (1 : Int32)) A (fun _ => 0)))) Q))]))
              refine own_lift (fun tz kz => XS.iload Xk_17.here hx rfl (hb hby at_171) rfl kz) ?_
              show own_Fin p e below _ (Tk_17.setTop (mkF m 173 #[.val (.int p1), .val (.int p2), .val (.int p3), .val (.int p4), .val (.int p5), .val (.int nv), .val (.int w), .val (.int (Int32.ofNat A)), .val (.int (Int32.ofNat B)), .val (.int (Int32.ofNat D)), .val (.int (Int32.ofNat Q)), .val (.ref bo_1), .val (.int (((own_hit (0 : Int32) (Int32.ofNat A) (Int32.ofNat Q)) + (own_hit (1 : Int32) (Int32.ofNat B) (Int32.ofNat Q))) + (own_hit (0 : Int32) (Int32.ofNat D) (Int32.ofNat Q))))] [(.int (((own_hit (0 : Int32) (Int32.ofNat A) (Int32.ofNat Q)) + (own_hit (1 : Int32) (Int32.ofNat B) (Int32.ofNat Q))) + (own_hit (0 : Int32) (Int32.ofNat D) (Int32.ofNat Q)))), (.int ((own_st (nv < (3 : Int32)) D (own_st (nv < (2 : Int32)) B (own_st (nv < (1 : Int32)) A (fun _ => 0)))) Q))]))
              refine own_lift (fun tz kz => XS.icmpNo Xk_17.here hx rfl (hb hby at_173) rfl (teq hfin).2 kz) ?_
              show own_Fin p e below _ (Tk_17.setTop (mkF m 176 #[.val (.int p1), .val (.int p2), .val (.int p3), .val (.int p4), .val (.int p5), .val (.int nv), .val (.int w), .val (.int (Int32.ofNat A)), .val (.int (Int32.ofNat B)), .val (.int (Int32.ofNat D)), .val (.int (Int32.ofNat Q)), .val (.ref bo_1), .val (.int (((own_hit (0 : Int32) (Int32.ofNat A) (Int32.ofNat Q)) + (own_hit (1 : Int32) (Int32.ofNat B) (Int32.ofNat Q))) + (own_hit (0 : Int32) (Int32.ofNat D) (Int32.ofNat Q))))] []))
              refine own_lift (fun tz kz => XS.iconst Xk_17.here hx rfl (hb hby at_176) kz) ?_
              show own_Fin p e below _ (Tk_17.setTop (mkF m 177 #[.val (.int p1), .val (.int p2), .val (.int p3), .val (.int p4), .val (.int p5), .val (.int nv), .val (.int w), .val (.int (Int32.ofNat A)), .val (.int (Int32.ofNat B)), .val (.int (Int32.ofNat D)), .val (.int (Int32.ofNat Q)), .val (.ref bo_1), .val (.int (((own_hit (0 : Int32) (Int32.ofNat A) (Int32.ofNat Q)) + (own_hit (1 : Int32) (Int32.ofNat B) (Int32.ofNat Q))) + (own_hit (0 : Int32) (Int32.ofNat D) (Int32.ofNat Q))))] [(.int (1 : Int32))]))
              refine own_lift (fun tz kz => XS.goto Xk_17.here hx rfl (pc0 := 177) (pc' := 181) rfl (hb hby at_177) (by decide) (by decide) kz) ?_
              show own_Fin p e below _ (Tk_17.setTop (mkF m 181 #[.val (.int p1), .val (.int p2), .val (.int p3), .val (.int p4), .val (.int p5), .val (.int nv), .val (.int w), .val (.int (Int32.ofNat A)), .val (.int (Int32.ofNat B)), .val (.int (Int32.ofNat D)), .val (.int (Int32.ofNat Q)), .val (.ref bo_1), .val (.int (((own_hit (0 : Int32) (Int32.ofNat A) (Int32.ofNat Q)) + (own_hit (1 : Int32) (Int32.ofNat B) (Int32.ofNat Q))) + (own_hit (0 : Int32) (Int32.ofNat D) (Int32.ofNat Q))))] [(.int (1 : Int32))]))
              obtain ⟨fs, hr, hrun, hended, hW, hsame⟩ := Xk_17.leave (v := some (.int (1 : Int32))) (fun h => by rw [Bd.returns] at h; cases h)
              exact ⟨_, _, retN Xk_17 hx (t := .boolean) Bd.returns (by simp) (hb hby at_181) hr, hrun, hended, _, _, rfl, ⟨rfl, Nk_17⟩, ⟨_, rfl⟩, hW, hsame.mono (by decide) (by decide)⟩
            · refine own_lift (fun tz kz => XS.icmpNo Xk_14.here hx rfl (hb hby at_146) rfl (flt hc146_15).1 kz) ?_
              show own_Fin p e below _ (Tk_14.setTop (mkF m 149 #[.val (.int p1), .val (.int p2), .val (.int p3), .val (.int p4), .val (.int p5), .val (.int nv), .val (.int w), .val (.int (Int32.ofNat A)), .val (.int (Int32.ofNat B)), .val (.int (Int32.ofNat D)), .val (.int (Int32.ofNat Q)), .val (.ref bo_1), .unset] [(.int ((own_hit (0 : Int32) (Int32.ofNat A) (Int32.ofNat Q)) + (own_hit (1 : Int32) (Int32.ofNat B) (Int32.ofNat Q))))]))
              refine own_lift (fun tz kz => XS.iconst Xk_14.here hx rfl (hb hby at_149) kz) ?_
              show own_Fin p e below _ (Tk_14.setTop (mkF m 150 #[.val (.int p1), .val (.int p2), .val (.int p3), .val (.int p4), .val (.int p5), .val (.int nv), .val (.int w), .val (.int (Int32.ofNat A)), .val (.int (Int32.ofNat B)), .val (.int (Int32.ofNat D)), .val (.int (Int32.ofNat Q)), .val (.ref bo_1), .unset] [(.int (1 : Int32)), (.int ((own_hit (0 : Int32) (Int32.ofNat A) (Int32.ofNat Q)) + (own_hit (1 : Int32) (Int32.ofNat B) (Int32.ofNat Q))))]))
              refine own_lift (fun tz kz => XS.goto Xk_14.here hx rfl (pc0 := 150) (pc' := 154) rfl (hb hby at_150) (by decide) (by decide) kz) ?_
              show own_Fin p e below _ (Tk_14.setTop (mkF m 154 #[.val (.int p1), .val (.int p2), .val (.int p3), .val (.int p4), .val (.int p5), .val (.int nv), .val (.int w), .val (.int (Int32.ofNat A)), .val (.int (Int32.ofNat B)), .val (.int (Int32.ofNat D)), .val (.int (Int32.ofNat Q)), .val (.ref bo_1), .unset] [(.int (1 : Int32)), (.int ((own_hit (0 : Int32) (Int32.ofNat A) (Int32.ofNat Q)) + (own_hit (1 : Int32) (Int32.ofNat B) (Int32.ofNat Q))))]))
              refine own_lift (fun tz kz => XS.iload Xk_14.here hx rfl (hb hby at_154) rfl kz) ?_
              show own_Fin p e below _ (Tk_14.setTop (mkF m 156 #[.val (.int p1), .val (.int p2), .val (.int p3), .val (.int p4), .val (.int p5), .val (.int nv), .val (.int w), .val (.int (Int32.ofNat A)), .val (.int (Int32.ofNat B)), .val (.int (Int32.ofNat D)), .val (.int (Int32.ofNat Q)), .val (.ref bo_1), .unset] [(.int (Int32.ofNat D)), (.int (1 : Int32)), (.int ((own_hit (0 : Int32) (Int32.ofNat A) (Int32.ofNat Q)) + (own_hit (1 : Int32) (Int32.ofNat B) (Int32.ofNat Q))))]))
              refine own_lift (fun tz kz => XS.iload Xk_14.here hx rfl (hb hby at_156) rfl kz) ?_
              show own_Fin p e below _ (Tk_14.setTop (mkF m 158 #[.val (.int p1), .val (.int p2), .val (.int p3), .val (.int p4), .val (.int p5), .val (.int nv), .val (.int w), .val (.int (Int32.ofNat A)), .val (.int (Int32.ofNat B)), .val (.int (Int32.ofNat D)), .val (.int (Int32.ofNat Q)), .val (.ref bo_1), .unset] [(.int (Int32.ofNat Q)), (.int (Int32.ofNat D)), (.int (1 : Int32)), (.int ((own_hit (0 : Int32) (Int32.ofNat A) (Int32.ofNat Q)) + (own_hit (1 : Int32) (Int32.ofNat B) (Int32.ofNat Q))))]))
              obtain ⟨_, _, ⟨Tk_19, Lk_19, kk_19, nk_19⟩, -, Xk_19, ⟨Lck_19, hQk_19, lk_19, yk_19, zk_19⟩, stk_19⟩ := Jvm.LawKit.callS Xk_14 hx (y := (⟨"com/example/porridge/porridge/engine/VectorClockGetPinLaw", "hit", "(ZII)I"⟩ : MethodName)) hown (mvT hZ (hw _ (List.mem_of_getElem? (i := 12) rfl))) (mvT hZ (hw _ (List.mem_of_getElem? (i := 13) rfl))) (mvT hZ (hw _ (List.mem_of_getElem? (i := 14) rfl))) (mvT hZ (hw _ (List.mem_of_getElem? (i := 15) rfl))) (by decide) (backOf (W := 1) (rm3 l Z a0 hw [] (1 : Int32) (Int32.ofNat D) (Int32.ofNat Q) T106.heap n0 SZ106) hZ (hw _ (List.mem_of_getElem? (i := 15) rfl)) (hw _ (List.mem_of_getElem? (i := 14) rfl)) (by decide) (by decide)) (g := (mkF m 158 #[.val (.int p1), .val (.int p2), .val (.int p3), .val (.int p4), .val (.int p5), .val (.int nv), .val (.int w), .val (.int (Int32.ofNat A)), .val (.int (Int32.ofNat B)), .val (.int (Int32.ofNat D)), .val (.int (Int32.ofNat Q)), .val (.ref bo_1), .unset] [(.int (Int32.ofNat Q)), (.int (Int32.ofNat D)), (.int (1 : Int32)), (.int ((own_hit (0 : Int32) (Int32.ofNat A) (Int32.ofNat Q)) + (own_hit (1 : Int32) (Int32.ofNat B) (Int32.ofNat Q))))])) rfl (by rw [hml]; rfl) (argsL := [(.int (1 : Int32)), (.int (Int32.ofNat D)), (.int (Int32.ofNat Q))]) (rest := [(.int ((own_hit (0 : Int32) (Int32.ofNat A) (Int32.ofNat Q)) + (own_hit (1 : Int32) (Int32.ofNat B) (Int32.ofNat Q))))]) (lenOf pd_3 rfl) rfl (by show 2 * 0 + _ ≤ _; exact Nat.le_of_eq rfl) (hb hby at_158) (fun _ _ => ⟨rfl, ek_14, (by decide : 5 + 0 ≤ _), (by decide : 25 + 0 ≤ _)⟩)
              dsimp only [Pt.U, Pt.locs, Pt.cells, Pt.slots] at Xk_19 lk_19 yk_19 zk_19 stk_19 hQk_19
              subst lk_19 yk_19 zk_19
              obtain ⟨rfl, Nk_19q, ek_19⟩ := hQk_19
              have Nk_19 := Fr.app Nk_14 Nk_19q
              refine own_lift (fun tz kz => stk_19 _ kz) ?_
              show own_Fin p e below _ (Tk_19.setTop (mkF m 161 #[.val (.int p1), .val (.int p2), .val (.int p3), .val (.int p4), .val (.int p5), .val (.int nv), .val (.int w), .val (.int (Int32.ofNat A)), .val (.int (Int32.ofNat B)), .val (.int (Int32.ofNat D)), .val (.int (Int32.ofNat Q)), .val (.ref bo_1), .unset] [(.int (own_hit (1 : Int32) (Int32.ofNat D) (Int32.ofNat Q))), (.int ((own_hit (0 : Int32) (Int32.ofNat A) (Int32.ofNat Q)) + (own_hit (1 : Int32) (Int32.ofNat B) (Int32.ofNat Q))))]))
              refine own_lift (fun tz kz => XS.iadd Xk_19.here hx rfl (hb hby at_161) rfl kz) ?_
              show own_Fin p e below _ (Tk_19.setTop (mkF m 162 #[.val (.int p1), .val (.int p2), .val (.int p3), .val (.int p4), .val (.int p5), .val (.int nv), .val (.int w), .val (.int (Int32.ofNat A)), .val (.int (Int32.ofNat B)), .val (.int (Int32.ofNat D)), .val (.int (Int32.ofNat Q)), .val (.ref bo_1), .unset] [(.int (((own_hit (0 : Int32) (Int32.ofNat A) (Int32.ofNat Q)) + (own_hit (1 : Int32) (Int32.ofNat B) (Int32.ofNat Q))) + (own_hit (1 : Int32) (Int32.ofNat D) (Int32.ofNat Q))))]))
              refine own_lift (fun tz kz => XS.istore Xk_19.here hx rfl (hb hby at_162) rfl (l' := #[.val (.int p1), .val (.int p2), .val (.int p3), .val (.int p4), .val (.int p5), .val (.int nv), .val (.int w), .val (.int (Int32.ofNat A)), .val (.int (Int32.ofNat B)), .val (.int (Int32.ofNat D)), .val (.int (Int32.ofNat Q)), .val (.ref bo_1), .val (.int (((own_hit (0 : Int32) (Int32.ofNat A) (Int32.ofNat Q)) + (own_hit (1 : Int32) (Int32.ofNat B) (Int32.ofNat Q))) + (own_hit (1 : Int32) (Int32.ofNat D) (Int32.ofNat Q))))]) rfl kz) ?_
              show own_Fin p e below _ (Tk_19.setTop (mkF m 164 #[.val (.int p1), .val (.int p2), .val (.int p3), .val (.int p4), .val (.int p5), .val (.int nv), .val (.int w), .val (.int (Int32.ofNat A)), .val (.int (Int32.ofNat B)), .val (.int (Int32.ofNat D)), .val (.int (Int32.ofNat Q)), .val (.ref bo_1), .val (.int (((own_hit (0 : Int32) (Int32.ofNat A) (Int32.ofNat Q)) + (own_hit (1 : Int32) (Int32.ofNat B) (Int32.ofNat Q))) + (own_hit (1 : Int32) (Int32.ofNat D) (Int32.ofNat Q))))] []))
              have hfin : ((own_st (nv < (3 : Int32)) D (own_st (nv < (2 : Int32)) B (own_st (nv < (1 : Int32)) A (fun _ => 0)))) Q) = (((own_hit (0 : Int32) (Int32.ofNat A) (Int32.ofNat Q)) + (own_hit (1 : Int32) (Int32.ofNat B) (Int32.ofNat Q))) + (own_hit (1 : Int32) (Int32.ofNat D) (Int32.ofNat Q))) := by rw [own_fin (nv < (1 : Int32)) (nv < (2 : Int32)) (nv < (3 : Int32)) hA hB hD hQ, if_pos hc109_3, if_neg hc127_5, if_neg hc146_15]
              refine own_lift (fun tz kz => XS.aload Xk_19.here hx rfl (hb hby at_164) rfl rfl kz) ?_
              show own_Fin p e below _ (Tk_19.setTop (mkF m 166 #[.val (.int p1), .val (.int p2), .val (.int p3), .val (.int p4), .val (.int p5), .val (.int nv), .val (.int w), .val (.int (Int32.ofNat A)), .val (.int (Int32.ofNat B)), .val (.int (Int32.ofNat D)), .val (.int (Int32.ofNat Q)), .val (.ref bo_1), .val (.int (((own_hit (0 : Int32) (Int32.ofNat A) (Int32.ofNat Q)) + (own_hit (1 : Int32) (Int32.ofNat B) (Int32.ofNat Q))) + (own_hit (1 : Int32) (Int32.ofNat D) (Int32.ofNat Q))))] [(.ref bo_1)]))
              refine own_lift (fun tz kz => XS.iload Xk_19.here hx rfl (hb hby at_166) rfl kz) ?_
              show own_Fin p e below _ (Tk_19.setTop (mkF m 168 #[.val (.int p1), .val (.int p2), .val (.int p3), .val (.int p4), .val (.int p5), .val (.int nv), .val (.int w), .val (.int (Int32.ofNat A)), .val (.int (Int32.ofNat B)), .val (.int (Int32.ofNat D)), .val (.int (Int32.ofNat Q)), .val (.ref bo_1), .val (.int (((own_hit (0 : Int32) (Int32.ofNat A) (Int32.ofNat Q)) + (own_hit (1 : Int32) (Int32.ofNat B) (Int32.ofNat Q))) + (own_hit (1 : Int32) (Int32.ofNat D) (Int32.ofNat Q))))] [(.int (Int32.ofNat Q)), (.ref bo_1)]))
              obtain ⟨cqk_20, kqk_20, qk_20a, qk_20b, qk_20c⟩ := isOf hZ ek_19 E106
              obtain ⟨_, _, ⟨Tk_20, Lk_20, kk_20, nk_20⟩, -, Xk_20, ⟨Lck_20, hQk_20, lk_20, yk_20, zk_20⟩, stk_20⟩ := Xk_19.virtualBack hx (y := (⟨"com/example/porridge/porridge/engine/VectorClock", "get", "(I)I"⟩ : MethodName)) (z := (⟨"com/example/porridge/porridge/engine/VectorClock", "get", "(I)I"⟩ : MethodName)) hown (mvT hZ (hw _ (List.mem_of_getElem? (i := 16) rfl))) (mvT hZ (hw _ (List.mem_of_getElem? (i := 17) rfl))) (notFace_of_selects (args := #[]) (mvT hZ (hw _ (List.mem_of_getElem? (i := 19) rfl)))) (mvT hZ (hw _ (List.mem_of_getElem? (i := 19) rfl))) (mvT hZ (hw _ (List.mem_of_getElem? (i := 18) rfl))) (by decide) (backOf (W := 0) (rm4 l Z a0 hw [] bo_1 Q n106 (own_st (nv < (3 : Int32)) D (own_st (nv < (2 : Int32)) B (own_st (nv < (1 : Int32)) A (fun _ => 0)))) T106.heap n0 SZ106 hQ H106) hZ (hw _ (List.mem_of_getElem? (i := 20) rfl)) (hw _ (List.mem_of_getElem? (i := 2) rfl)) (by decide) (by decide)) qk_20a qk_20c (g := (mkF m 168 #[.val (.int p1), .val (.int p2), .val (.int p3), .val (.int p4), .val (.int p5), .val (.int nv), .val (.int w), .val (.int (Int32.ofNat A)), .val (.int (Int32.ofNat B)), .val (.int (Int32.ofNat D)), .val (.int (Int32.ofNat Q)), .val (.ref bo_1), .val (.int (((own_hit (0 : Int32) (Int32.ofNat A) (Int32.ofNat Q)) + (own_hit (1 : Int32) (Int32.ofNat B) (Int32.ofNat Q))) + (own_hit (1 : Int32) (Int32.ofNat D) (Int32.ofNat Q))))] [(.int (Int32.ofNat Q)), (.ref bo_1)])) rfl (by rw [hml]; rfl) (Steps.refl _) (argsL := [(.int (Int32.ofNat Q))]) (rest := []) (lenOf pd_4 rfl) rfl (by show 2 * 0 + _ ≤ _; exact Nat.le_of_eq rfl) (hb hby at_168) (fun _ _ => ⟨rfl, ek_19, (by decide : 5 + 0 ≤ _), (by decide : 25 + 0 ≤ _)⟩)
              dsimp only [Pt.U, Pt.locs, Pt.cells, Pt.slots] at Xk_20 lk_20 yk_20 zk_20 stk_20 hQk_20
              subst lk_20 yk_20 zk_20
              obtain ⟨rfl, Nk_20q, ek_20⟩ := hQk_20
              have Nk_20 := Fr.app Nk_19 Nk_20q
              refine own_lift (fun tz kz => stk_20.trans kz) ?_
              show own_Fin p e below _ (Tk_20.setTop (mkF m 171 #[.val (.int p1), .val (.int p2), .val (.int p3), .val (.int p4), .val (.int p5), .val (.int nv), .val (.int w), .val (.int (Int32.ofNat A)), .val (.int (Int32.ofNat B)), .val (.int (Int32.ofNat D)), .val (.int (Int32.ofNat Q)), .val (.ref bo_1), .val (.int (((own_hit (0 : Int32) (Int32.ofNat A) (Int32.ofNat Q)) + (own_hit (1 : Int32) (Int32.ofNat B) (Int32.ofNat Q))) + (own_hit (1 : Int32) (Int32.ofNat D) (Int32.ofNat Q))))] [(.int ((own_st (nv < (3 : Int32)) D (own_st (nv < (2 : Int32)) B (own_st (nv < (1 : Int32)) A (fun _ => 0)))) Q))]))
              refine own_lift (fun tz kz => XS.iload Xk_20.here hx rfl (hb hby at_171) rfl kz) ?_
              show own_Fin p e below _ (Tk_20.setTop (mkF m 173 #[.val (.int p1), .val (.int p2), .val (.int p3), .val (.int p4), .val (.int p5), .val (.int nv), .val (.int w), .val (.int (Int32.ofNat A)), .val (.int (Int32.ofNat B)), .val (.int (Int32.ofNat D)), .val (.int (Int32.ofNat Q)), .val (.ref bo_1), .val (.int (((own_hit (0 : Int32) (Int32.ofNat A) (Int32.ofNat Q)) + (own_hit (1 : Int32) (Int32.ofNat B) (Int32.ofNat Q))) + (own_hit (1 : Int32) (Int32.ofNat D) (Int32.ofNat Q))))] [(.int (((own_hit (0 : Int32) (Int32.ofNat A) (Int32.ofNat Q)) + (own_hit (1 : Int32) (Int32.ofNat B) (Int32.ofNat Q))) + (own_hit (1 : Int32) (Int32.ofNat D) (Int32.ofNat Q)))), (.int ((own_st (nv < (3 : Int32)) D (own_st (nv < (2 : Int32)) B (own_st (nv < (1 : Int32)) A (fun _ => 0)))) Q))]))
              refine own_lift (fun tz kz => XS.icmpNo Xk_20.here hx rfl (hb hby at_173) rfl (teq hfin).2 kz) ?_
              show own_Fin p e below _ (Tk_20.setTop (mkF m 176 #[.val (.int p1), .val (.int p2), .val (.int p3), .val (.int p4), .val (.int p5), .val (.int nv), .val (.int w), .val (.int (Int32.ofNat A)), .val (.int (Int32.ofNat B)), .val (.int (Int32.ofNat D)), .val (.int (Int32.ofNat Q)), .val (.ref bo_1), .val (.int (((own_hit (0 : Int32) (Int32.ofNat A) (Int32.ofNat Q)) + (own_hit (1 : Int32) (Int32.ofNat B) (Int32.ofNat Q))) + (own_hit (1 : Int32) (Int32.ofNat D) (Int32.ofNat Q))))] []))
              refine own_lift (fun tz kz => XS.iconst Xk_20.here hx rfl (hb hby at_176) kz) ?_
              show own_Fin p e below _ (Tk_20.setTop (mkF m 177 #[.val (.int p1), .val (.int p2), .val (.int p3), .val (.int p4), .val (.int p5), .val (.int nv), .val (.int w), .val (.int (Int32.ofNat A)), .val (.int (Int32.ofNat B)), .val (.int (Int32.ofNat D)), .val (.int (Int32.ofNat Q)), .val (.ref bo_1), .val (.int (((own_hit (0 : Int32) (Int32.ofNat A) (Int32.ofNat Q)) + (own_hit (1 : Int32) (Int32.ofNat B) (Int32.ofNat Q))) + (own_hit (1 : Int32) (Int32.ofNat D) (Int32.ofNat Q))))] [(.int (1 : Int32))]))
              refine own_lift (fun tz kz => XS.goto Xk_20.here hx rfl (pc0 := 177) (pc' := 181) rfl (hb hby at_177) (by decide) (by decide) kz) ?_
              show own_Fin p e below _ (Tk_20.setTop (mkF m 181 #[.val (.int p1), .val (.int p2), .val (.int p3), .val (.int p4), .val (.int p5), .val (.int nv), .val (.int w), .val (.int (Int32.ofNat A)), .val (.int (Int32.ofNat B)), .val (.int (Int32.ofNat D)), .val (.int (Int32.ofNat Q)), .val (.ref bo_1), .val (.int (((own_hit (0 : Int32) (Int32.ofNat A) (Int32.ofNat Q)) + (own_hit (1 : Int32) (Int32.ofNat B) (Int32.ofNat Q))) + (own_hit (1 : Int32) (Int32.ofNat D) (Int32.ofNat Q))))] [(.int (1 : Int32))]))
              obtain ⟨fs, hr, hrun, hended, hW, hsame⟩ := Xk_20.leave (v := some (.int (1 : Int32))) (fun h => by rw [Bd.returns] at h; cases h)
              exact ⟨_, _, retN Xk_20 hx (t := .boolean) Bd.returns (by simp) (hb hby at_181) hr, hrun, hended, _, _, rfl, ⟨rfl, Nk_20⟩, ⟨_, rfl⟩, hW, hsame.mono (by decide) (by decide)⟩
        · refine own_lift (fun tz kz => XS.icmpNo X106.here hx rfl (hb hby at_109) rfl (flt hc109_3).1 kz) ?_
          show own_Fin p e below _ (T106.setTop (mkF m 112 #[.val (.int p1), .val (.int p2), .val (.int p3), .val (.int p4), .val (.int p5), .val (.int nv), .val (.int w), .val (.int (Int32.ofNat A)), .val (.int (Int32.ofNat B)), .val (.int (Int32.ofNat D)), .val (.int (Int32.ofNat Q)), .val (.ref bo_1), .unset] []))
          refine own_lift (fun tz kz => XS.iconst X106.here hx rfl (hb hby at_112) kz) ?_
          show own_Fin p e below _ (T106.setTop (mkF m 113 #[.val (.int p1), .val (.int p2), .val (.int p3), .val (.int p4), .val (.int p5), .val (.int nv), .val (.int w), .val (.int (Int32.ofNat A)), .val (.int (Int32.ofNat B)), .val (.int (Int32.ofNat D)), .val (.int (Int32.ofNat Q)), .val (.ref bo_1), .unset] [(.int (1 : Int32))]))
          refine own_lift (fun tz kz => XS.goto X106.here hx rfl (pc0 := 113) (pc' := 117) rfl (hb hby at_113) (by decide) (by decide) kz) ?_
          show own_Fin p e below _ (T106.setTop (mkF m 117 #[.val (.int p1), .val (.int p2), .val (.int p3), .val (.int p4), .val (.int p5), .val (.int nv), .val (.int w), .val (.int (Int32.ofNat A)), .val (.int (Int32.ofNat B)), .val (.int (Int32.ofNat D)), .val (.int (Int32.ofNat Q)), .val (.ref bo_1), .unset] [(.int (1 : Int32))]))
          refine own_lift (fun tz kz => XS.iload X106.here hx rfl (hb hby at_117) rfl kz) ?_
          show own_Fin p e below _ (T106.setTop (mkF m 119 #[.val (.int p1), .val (.int p2), .val (.int p3), .val (.int p4), .val (.int p5), .val (.int nv), .val (.int w), .val (.int (Int32.ofNat A)), .val (.int (Int32.ofNat B)), .val (.int (Int32.ofNat D)), .val (.int (Int32.ofNat Q)), .val (.ref bo_1), .unset] [(.int (Int32.ofNat A)), (.int (1 : Int32))]))
          refine own_lift (fun tz kz => XS.iload X106.here hx rfl (hb hby at_119) rfl kz) ?_
          show own_Fin p e below _ (T106.setTop (mkF m 121 #[.val (.int p1), .val (.int p2), .val (.int p3), .val (.int p4), .val (.int p5), .val (.int nv), .val (.int w), .val (.int (Int32.ofNat A)), .val (.int (Int32.ofNat B)), .val (.int (Int32.ofNat D)), .val (.int (Int32.ofNat Q)), .val (.ref bo_1), .unset] [(.int (Int32.ofNat Q)), (.int (Int32.ofNat A)), (.int (1 : Int32))]))
          obtain ⟨_, _, ⟨Tk_22, Lk_22, kk_22, nk_22⟩, -, Xk_22, ⟨Lck_22, hQk_22, lk_22, yk_22, zk_22⟩, stk_22⟩ := Jvm.LawKit.callS X106 hx (y := (⟨"com/example/porridge/porridge/engine/VectorClockGetPinLaw", "hit", "(ZII)I"⟩ : MethodName)) hown (mvT hZ (hw _ (List.mem_of_getElem? (i := 12) rfl))) (mvT hZ (hw _ (List.mem_of_getElem? (i := 13) rfl))) (mvT hZ (hw _ (List.mem_of_getElem? (i := 14) rfl))) (mvT hZ (hw _ (List.mem_of_getElem? (i := 15) rfl))) (by decide) (backOf (W := 0) (rm3 l Z a0 hw [] (1 : Int32) (Int32.ofNat A) (Int32.ofNat Q) T106.heap n0 SZ106) hZ (hw _ (List.mem_of_getElem? (i := 15) rfl)) (hw _ (List.mem_of_getElem? (i := 14) rfl)) (by decide) (by decide)) (g := (mkF m 121 #[.val (.int p1), .val (.int p2), .val (.int p3), .val (.int p4), .val (.int p5), .val (.int nv), .val (.int w), .val (.int (Int32.ofNat A)), .val (.int (Int32.ofNat B)), .val (.int (Int32.ofNat D)), .val (.int (Int32.ofNat Q)), .val (.ref bo_1), .unset] [(.int (Int32.ofNat Q)), (.int (Int32.ofNat A)), (.int (1 : Int32))])) rfl (by rw [hml]; rfl) (argsL := [(.int (1 : Int32)), (.int (Int32.ofNat A)), (.int (Int32.ofNat Q))]) (rest := []) (lenOf pd_3 rfl) rfl (by show 2 * 0 + _ ≤ _; exact Nat.le_of_eq rfl) (hb hby at_121) (fun _ _ => ⟨rfl, rfl, (by decide : 5 + 0 ≤ _), (by decide : 25 + 0 ≤ _)⟩)
          dsimp only [Pt.U, Pt.locs, Pt.cells, Pt.slots] at Xk_22 lk_22 yk_22 zk_22 stk_22 hQk_22
          subst lk_22 yk_22 zk_22
          obtain ⟨rfl, Nk_22q, ek_22⟩ := hQk_22
          have Nk_22 := Fr.app N106 Nk_22q
          refine own_lift (fun tz kz => stk_22 _ kz) ?_
          show own_Fin p e below _ (Tk_22.setTop (mkF m 124 #[.val (.int p1), .val (.int p2), .val (.int p3), .val (.int p4), .val (.int p5), .val (.int nv), .val (.int w), .val (.int (Int32.ofNat A)), .val (.int (Int32.ofNat B)), .val (.int (Int32.ofNat D)), .val (.int (Int32.ofNat Q)), .val (.ref bo_1), .unset] [(.int (own_hit (1 : Int32) (Int32.ofNat A) (Int32.ofNat Q)))]))
          refine own_lift (fun tz kz => XS.iload Xk_22.here hx rfl (hb hby at_124) rfl kz) ?_
          show own_Fin p e below _ (Tk_22.setTop (mkF m 126 #[.val (.int p1), .val (.int p2), .val (.int p3), .val (.int p4), .val (.int p5), .val (.int nv), .val (.int w), .val (.int (Int32.ofNat A)), .val (.int (Int32.ofNat B)), .val (.int (Int32.ofNat D)), .val (.int (Int32.ofNat Q)), .val (.ref bo_1), .unset] [(.int nv), (.int (own_hit (1 : Int32) (Int32.ofNat A) (Int32.ofNat Q)))]))
          refine own_lift (fun tz kz => XS.iconst Xk_22.here hx rfl (hb hby at_126) kz) ?_
          show own_Fin p e below _ (Tk_22.setTop (mkF m 127 #[.val (.int p1), .val (.int p2), .val (.int p3), .val (.int p4), .val (.int p5), .val (.int nv), .val (.int w), .val (.int (Int32.ofNat A)), .val (.int (Int32.ofNat B)), .val (.int (Int32.ofNat D)), .val (.int (Int32.ofNat Q)), .val (.ref bo_1), .unset] [(.int (2 : Int32)), (.int nv), (.int (own_hit (1 : Int32) (Int32.ofNat A) (Int32.ofNat Q)))]))
          by_cases hc127_23 : nv < (2 : Int32)
          · refine own_lift (fun tz kz => XS.icmpYes Xk_22.here hx rfl (pc0 := 127) (pc' := 134) rfl (hb hby at_127) rfl (tlt hc127_23).1 (by decide) (by decide) kz) ?_
            show own_Fin p e below _ (Tk_22.setTop (mkF m 134 #[.val (.int p1), .val (.int p2), .val (.int p3), .val (.int p4), .val (.int p5), .val (.int nv), .val (.int w), .val (.int (Int32.ofNat A)), .val (.int (Int32.ofNat B)), .val (.int (Int32.ofNat D)), .val (.int (Int32.ofNat Q)), .val (.ref bo_1), .unset] [(.int (own_hit (1 : Int32) (Int32.ofNat A) (Int32.ofNat Q)))]))
            refine own_lift (fun tz kz => XS.iconst Xk_22.here hx rfl (hb hby at_134) kz) ?_
            show own_Fin p e below _ (Tk_22.setTop (mkF m 135 #[.val (.int p1), .val (.int p2), .val (.int p3), .val (.int p4), .val (.int p5), .val (.int nv), .val (.int w), .val (.int (Int32.ofNat A)), .val (.int (Int32.ofNat B)), .val (.int (Int32.ofNat D)), .val (.int (Int32.ofNat Q)), .val (.ref bo_1), .unset] [(.int (0 : Int32)), (.int (own_hit (1 : Int32) (Int32.ofNat A) (Int32.ofNat Q)))]))
            refine own_lift (fun tz kz => XS.iload Xk_22.here hx rfl (hb hby at_135) rfl kz) ?_
            show own_Fin p e below _ (Tk_22.setTop (mkF m 137 #[.val (.int p1), .val (.int p2), .val (.int p3), .val (.int p4), .val (.int p5), .val (.int nv), .val (.int w), .val (.int (Int32.ofNat A)), .val (.int (Int32.ofNat B)), .val (.int (Int32.ofNat D)), .val (.int (Int32.ofNat Q)), .val (.ref bo_1), .unset] [(.int (Int32.ofNat B)), (.int (0 : Int32)), (.int (own_hit (1 : Int32) (Int32.ofNat A) (Int32.ofNat Q)))]))
            refine own_lift (fun tz kz => XS.iload Xk_22.here hx rfl (hb hby at_137) rfl kz) ?_
            show own_Fin p e below _ (Tk_22.setTop (mkF m 139 #[.val (.int p1), .val (.int p2), .val (.int p3), .val (.int p4), .val (.int p5), .val (.int nv), .val (.int w), .val (.int (Int32.ofNat A)), .val (.int (Int32.ofNat B)), .val (.int (Int32.ofNat D)), .val (.int (Int32.ofNat Q)), .val (.ref bo_1), .unset] [(.int (Int32.ofNat Q)), (.int (Int32.ofNat B)), (.int (0 : Int32)), (.int (own_hit (1 : Int32) (Int32.ofNat A) (Int32.ofNat Q)))]))
            obtain ⟨_, _, ⟨Tk_24, Lk_24, kk_24, nk_24⟩, -, Xk_24, ⟨Lck_24, hQk_24, lk_24, yk_24, zk_24⟩, stk_24⟩ := Jvm.LawKit.callS Xk_22 hx (y := (⟨"com/example/porridge/porridge/engine/VectorClockGetPinLaw", "hit", "(ZII)I"⟩ : MethodName)) hown (mvT hZ (hw _ (List.mem_of_getElem? (i := 12) rfl))) (mvT hZ (hw _ (List.mem_of_getElem? (i := 13) rfl))) (mvT hZ (hw _ (List.mem_of_getElem? (i := 14) rfl))) (mvT hZ (hw _ (List.mem_of_getElem? (i := 15) rfl))) (by decide) (backOf (W := 1) (rm3 l Z a0 hw [] (0 : Int32) (Int32.ofNat B) (Int32.ofNat Q) T106.heap n0 SZ106) hZ (hw _ (List.mem_of_getElem? (i := 15) rfl)) (hw _ (List.mem_of_getElem? (i := 14) rfl)) (by decide) (by decide)) (g := (mkF m 139 #[.val (.int p1), .val (.int p2), .val (.int p3), .val (.int p4), .val (.int p5), .val (.int nv), .val (.int w), .val (.int (Int32.ofNat A)), .val (.int (Int32.ofNat B)), .val (.int (Int32.ofNat D)), .val (.int (Int32.ofNat Q)), .val (.ref bo_1), .unset] [(.int (Int32.ofNat Q)), (.int (Int32.ofNat B)), (.int (0 : Int32)), (.int (own_hit (1 : Int32) (Int32.ofNat A) (Int32.ofNat Q)))])) rfl (by rw [hml]; rfl) (argsL := [(.int (0 : Int32)), (.int (Int32.ofNat B)), (.int (Int32.ofNat Q))]) (rest := [(.int (own_hit (1 : Int32) (Int32.ofNat A) (Int32.ofNat Q)))]) (lenOf pd_3 rfl) rfl (by show 2 * 0 + _ ≤ _; exact Nat.le_of_eq rfl) (hb hby at_139) (fun _ _ => ⟨rfl, ek_22, (by decide : 5 + 0 ≤ _), (by decide : 25 + 0 ≤ _)⟩)
            dsimp only [Pt.U, Pt.locs, Pt.cells, Pt.slots] at Xk_24 lk_24 yk_24 zk_24 stk_24 hQk_24
            subst lk_24 yk_24 zk_24
            obtain ⟨rfl, Nk_24q, ek_24⟩ := hQk_24
            have Nk_24 := Fr.app Nk_22 Nk_24q
            refine own_lift (fun tz kz => stk_24 _ kz) ?_
            show own_Fin p e below _ (Tk_24.setTop (mkF m 142 #[.val (.int p1), .val (.int p2), .val (.int p3), .val (.int p4), .val (.int p5), .val (.int nv), .val (.int w), .val (.int (Int32.ofNat A)), .val (.int (Int32.ofNat B)), .val (.int (Int32.ofNat D)), .val (.int (Int32.ofNat Q)), .val (.ref bo_1), .unset] [(.int (own_hit (0 : Int32) (Int32.ofNat B) (Int32.ofNat Q))), (.int (own_hit (1 : Int32) (Int32.ofNat A) (Int32.ofNat Q)))]))
            refine own_lift (fun tz kz => XS.iadd Xk_24.here hx rfl (hb hby at_142) rfl kz) ?_
            show own_Fin p e below _ (Tk_24.setTop (mkF m 143 #[.val (.int p1), .val (.int p2), .val (.int p3), .val (.int p4), .val (.int p5), .val (.int nv), .val (.int w), .val (.int (Int32.ofNat A)), .val (.int (Int32.ofNat B)), .val (.int (Int32.ofNat D)), .val (.int (Int32.ofNat Q)), .val (.ref bo_1), .unset] [(.int ((own_hit (1 : Int32) (Int32.ofNat A) (Int32.ofNat Q)) + (own_hit (0 : Int32) (Int32.ofNat B) (Int32.ofNat Q))))]))
            refine own_lift (fun tz kz => XS.iload Xk_24.here hx rfl (hb hby at_143) rfl kz) ?_
            show own_Fin p e below _ (Tk_24.setTop (mkF m 145 #[.val (.int p1), .val (.int p2), .val (.int p3), .val (.int p4), .val (.int p5), .val (.int nv), .val (.int w), .val (.int (Int32.ofNat A)), .val (.int (Int32.ofNat B)), .val (.int (Int32.ofNat D)), .val (.int (Int32.ofNat Q)), .val (.ref bo_1), .unset] [(.int nv), (.int ((own_hit (1 : Int32) (Int32.ofNat A) (Int32.ofNat Q)) + (own_hit (0 : Int32) (Int32.ofNat B) (Int32.ofNat Q))))]))
            refine own_lift (fun tz kz => XS.iconst Xk_24.here hx rfl (hb hby at_145) kz) ?_
            show own_Fin p e below _ (Tk_24.setTop (mkF m 146 #[.val (.int p1), .val (.int p2), .val (.int p3), .val (.int p4), .val (.int p5), .val (.int nv), .val (.int w), .val (.int (Int32.ofNat A)), .val (.int (Int32.ofNat B)), .val (.int (Int32.ofNat D)), .val (.int (Int32.ofNat Q)), .val (.ref bo_1), .unset] [(.int (3 : Int32)), (.int nv), (.int ((own_hit (1 : Int32) (Int32.ofNat A) (Int32.ofNat Q)) + (own_hit (0 : Int32) (Int32.ofNat B) (Int32.ofNat Q))))]))
            by_cases hc146_25 : nv < (3 : Int32)
            · refine own_lift (fun tz kz => XS.icmpYes Xk_24.here hx rfl (pc0 := 146) (pc' := 153) rfl (hb hby at_146) rfl (tlt hc146_25).1 (by decide) (by decide) kz) ?_
              show own_Fin p e below _ (Tk_24.setTop (mkF m 153 #[.val (.int p1), .val (.int p2), .val (.int p3), .val (.int p4), .val (.int p5), .val (.int nv), .val (.int w), .val (.int (Int32.ofNat A)), .val (.int (Int32.ofNat B)), .val (.int (Int32.ofNat D)), .val (.int (Int32.ofNat Q)), .val (.ref bo_1), .unset] [(.int ((own_hit (1 : Int32) (Int32.ofNat A) (Int32.ofNat Q)) + (own_hit (0 : Int32) (Int32.ofNat B) (Int32.ofNat Q))))]))
              refine own_lift (fun tz kz => XS.iconst Xk_24.here hx rfl (hb hby at_153) kz) ?_
              show own_Fin p e below _ (Tk_24.setTop (mkF m 154 #[.val (.int p1), .val (.int p2), .val (.int p3), .val (.int p4), .val (.int p5), .val (.int nv), .val (.int w), .val (.int (Int32.ofNat A)), .val (.int (Int32.ofNat B)), .val (.int (Int32.ofNat D)), .val (.int (Int32.ofNat Q)), .val (.ref bo_1), .unset] [(.int (0 : Int32)), (.int ((own_hit (1 : Int32) (Int32.ofNat A) (Int32.ofNat Q)) + (own_hit (0 : Int32) (Int32.ofNat B) (Int32.ofNat Q))))]))
              refine own_lift (fun tz kz => XS.iload Xk_24.here hx rfl (hb hby at_154) rfl kz) ?_
              show own_Fin p e below _ (Tk_24.setTop (mkF m 156 #[.val (.int p1), .val (.int p2), .val (.int p3), .val (.int p4), .val (.int p5), .val (.int nv), .val (.int w), .val (.int (Int32.ofNat A)), .val (.int (Int32.ofNat B)), .val (.int (Int32.ofNat D)), .val (.int (Int32.ofNat Q)), .val (.ref bo_1), .unset] [(.int (Int32.ofNat D)), (.int (0 : Int32)), (.int ((own_hit (1 : Int32) (Int32.ofNat A) (Int32.ofNat Q)) + (own_hit (0 : Int32) (Int32.ofNat B) (Int32.ofNat Q))))]))
              refine own_lift (fun tz kz => XS.iload Xk_24.here hx rfl (hb hby at_156) rfl kz) ?_
              show own_Fin p e below _ (Tk_24.setTop (mkF m 158 #[.val (.int p1), .val (.int p2), .val (.int p3), .val (.int p4), .val (.int p5), .val (.int nv), .val (.int w), .val (.int (Int32.ofNat A)), .val (.int (Int32.ofNat B)), .val (.int (Int32.ofNat D)), .val (.int (Int32.ofNat Q)), .val (.ref bo_1), .unset] [(.int (Int32.ofNat Q)), (.int (Int32.ofNat D)), (.int (0 : Int32)), (.int ((own_hit (1 : Int32) (Int32.ofNat A) (Int32.ofNat Q)) + (own_hit (0 : Int32) (Int32.ofNat B) (Int32.ofNat Q))))]))
              obtain ⟨_, _, ⟨Tk_26, Lk_26, kk_26, nk_26⟩, -, Xk_26, ⟨Lck_26, hQk_26, lk_26, yk_26, zk_26⟩, stk_26⟩ := Jvm.LawKit.callS Xk_24 hx (y := (⟨"com/example/porridge/porridge/engine/VectorClockGetPinLaw", "hit", "(ZII)I"⟩ : MethodName)) hown (mvT hZ (hw _ (List.mem_of_getElem? (i := 12) rfl))) (mvT hZ (hw _ (List.mem_of_getElem? (i := 13) rfl))) (mvT hZ (hw _ (List.mem_of_getElem? (i := 14) rfl))) (mvT hZ (hw _ (List.mem_of_getElem? (i := 15) rfl))) (by decide) (backOf (W := 1) (rm3 l Z a0 hw [] (0 : Int32) (Int32.ofNat D) (Int32.ofNat Q) T106.heap n0 SZ106) hZ (hw _ (List.mem_of_getElem? (i := 15) rfl)) (hw _ (List.mem_of_getElem? (i := 14) rfl)) (by decide) (by decide)) (g := (mkF m 158 #[.val (.int p1), .val (.int p2), .val (.int p3), .val (.int p4), .val (.int p5), .val (.int nv), .val (.int w), .val (.int (Int32.ofNat A)), .val (.int (Int32.ofNat B)), .val (.int (Int32.ofNat D)), .val (.int (Int32.ofNat Q)), .val (.ref bo_1), .unset] [(.int (Int32.ofNat Q)), (.int (Int32.ofNat D)), (.int (0 : Int32)), (.int ((own_hit (1 : Int32) (Int32.ofNat A) (Int32.ofNat Q)) + (own_hit (0 : Int32) (Int32.ofNat B) (Int32.ofNat Q))))])) rfl (by rw [hml]; rfl) (argsL := [(.int (0 : Int32)), (.int (Int32.ofNat D)), (.int (Int32.ofNat Q))]) (rest := [(.int ((own_hit (1 : Int32) (Int32.ofNat A) (Int32.ofNat Q)) + (own_hit (0 : Int32) (Int32.ofNat B) (Int32.ofNat Q))))]) (lenOf pd_3 rfl) rfl (by show 2 * 0 + _ ≤ _; exact Nat.le_of_eq rfl) (hb hby at_158) (fun _ _ => ⟨rfl, ek_24, (by decide : 5 + 0 ≤ _), (by decide : 25 + 0 ≤ _)⟩)
              dsimp only [Pt.U, Pt.locs, Pt.cells, Pt.slots] at Xk_26 lk_26 yk_26 zk_26 stk_26 hQk_26
              subst lk_26 yk_26 zk_26
              obtain ⟨rfl, Nk_26q, ek_26⟩ := hQk_26
              have Nk_26 := Fr.app Nk_24 Nk_26q
              refine own_lift (fun tz kz => stk_26 _ kz) ?_
              show own_Fin p e below _ (Tk_26.setTop (mkF m 161 #[.val (.int p1), .val (.int p2), .val (.int p3), .val (.int p4), .val (.int p5), .val (.int nv), .val (.int w), .val (.int (Int32.ofNat A)), .val (.int (Int32.ofNat B)), .val (.int (Int32.ofNat D)), .val (.int (Int32.ofNat Q)), .val (.ref bo_1), .unset] [(.int (own_hit (0 : Int32) (Int32.ofNat D) (Int32.ofNat Q))), (.int ((own_hit (1 : Int32) (Int32.ofNat A) (Int32.ofNat Q)) + (own_hit (0 : Int32) (Int32.ofNat B) (Int32.ofNat Q))))]))
              refine own_lift (fun tz kz => XS.iadd Xk_26.here hx rfl (hb hby at_161) rfl kz) ?_
              show own_Fin p e below _ (Tk_26.setTop (mkF m 162 #[.val (.int p1), .val (.int p2), .val (.int p3), .val (.int p4), .val (.int p5), .val (.int nv), .val (.int w), .val (.int (Int32.ofNat A)), .val (.int (Int32.ofNat B)), .val (.int (Int32.ofNat D)), .val (.int (Int32.ofNat Q)), .val (.ref bo_1), .unset] [(.int (((own_hit (1 : Int32) (Int32.ofNat A) (Int32.ofNat Q)) + (own_hit (0 : Int32) (Int32.ofNat B) (Int32.ofNat Q))) + (own_hit (0 : Int32) (Int32.ofNat D) (Int32.ofNat Q))))]))
              refine own_lift (fun tz kz => XS.istore Xk_26.here hx rfl (hb hby at_162) rfl (l' := #[.val (.int p1), .val (.int p2), .val (.int p3), .val (.int p4), .val (.int p5), .val (.int nv), .val (.int w), .val (.int (Int32.ofNat A)), .val (.int (Int32.ofNat B)), .val (.int (Int32.ofNat D)), .val (.int (Int32.ofNat Q)), .val (.ref bo_1), .val (.int (((own_hit (1 : Int32) (Int32.ofNat A) (Int32.ofNat Q)) + (own_hit (0 : Int32) (Int32.ofNat B) (Int32.ofNat Q))) + (own_hit (0 : Int32) (Int32.ofNat D) (Int32.ofNat Q))))]) rfl kz) ?_
              show own_Fin p e below _ (Tk_26.setTop (mkF m 164 #[.val (.int p1), .val (.int p2), .val (.int p3), .val (.int p4), .val (.int p5), .val (.int nv), .val (.int w), .val (.int (Int32.ofNat A)), .val (.int (Int32.ofNat B)), .val (.int (Int32.ofNat D)), .val (.int (Int32.ofNat Q)), .val (.ref bo_1), .val (.int (((own_hit (1 : Int32) (Int32.ofNat A) (Int32.ofNat Q)) + (own_hit (0 : Int32) (Int32.ofNat B) (Int32.ofNat Q))) + (own_hit (0 : Int32) (Int32.ofNat D) (Int32.ofNat Q))))] []))
              have hfin : ((own_st (nv < (3 : Int32)) D (own_st (nv < (2 : Int32)) B (own_st (nv < (1 : Int32)) A (fun _ => 0)))) Q) = (((own_hit (1 : Int32) (Int32.ofNat A) (Int32.ofNat Q)) + (own_hit (0 : Int32) (Int32.ofNat B) (Int32.ofNat Q))) + (own_hit (0 : Int32) (Int32.ofNat D) (Int32.ofNat Q))) := by rw [own_fin (nv < (1 : Int32)) (nv < (2 : Int32)) (nv < (3 : Int32)) hA hB hD hQ, if_neg hc109_3, if_pos hc127_23, if_pos hc146_25]
              refine own_lift (fun tz kz => XS.aload Xk_26.here hx rfl (hb hby at_164) rfl rfl kz) ?_
              show own_Fin p e below _ (Tk_26.setTop (mkF m 166 #[.val (.int p1), .val (.int p2), .val (.int p3), .val (.int p4), .val (.int p5), .val (.int nv), .val (.int w), .val (.int (Int32.ofNat A)), .val (.int (Int32.ofNat B)), .val (.int (Int32.ofNat D)), .val (.int (Int32.ofNat Q)), .val (.ref bo_1), .val (.int (((own_hit (1 : Int32) (Int32.ofNat A) (Int32.ofNat Q)) + (own_hit (0 : Int32) (Int32.ofNat B) (Int32.ofNat Q))) + (own_hit (0 : Int32) (Int32.ofNat D) (Int32.ofNat Q))))] [(.ref bo_1)]))
              refine own_lift (fun tz kz => XS.iload Xk_26.here hx rfl (hb hby at_166) rfl kz) ?_
              show own_Fin p e below _ (Tk_26.setTop (mkF m 168 #[.val (.int p1), .val (.int p2), .val (.int p3), .val (.int p4), .val (.int p5), .val (.int nv), .val (.int w), .val (.int (Int32.ofNat A)), .val (.int (Int32.ofNat B)), .val (.int (Int32.ofNat D)), .val (.int (Int32.ofNat Q)), .val (.ref bo_1), .val (.int (((own_hit (1 : Int32) (Int32.ofNat A) (Int32.ofNat Q)) + (own_hit (0 : Int32) (Int32.ofNat B) (Int32.ofNat Q))) + (own_hit (0 : Int32) (Int32.ofNat D) (Int32.ofNat Q))))] [(.int (Int32.ofNat Q)), (.ref bo_1)]))
              obtain ⟨cqk_27, kqk_27, qk_27a, qk_27b, qk_27c⟩ := isOf hZ ek_26 E106
              obtain ⟨_, _, ⟨Tk_27, Lk_27, kk_27, nk_27⟩, -, Xk_27, ⟨Lck_27, hQk_27, lk_27, yk_27, zk_27⟩, stk_27⟩ := Xk_26.virtualBack hx (y := (⟨"com/example/porridge/porridge/engine/VectorClock", "get", "(I)I"⟩ : MethodName)) (z := (⟨"com/example/porridge/porridge/engine/VectorClock", "get", "(I)I"⟩ : MethodName)) hown (mvT hZ (hw _ (List.mem_of_getElem? (i := 16) rfl))) (mvT hZ (hw _ (List.mem_of_getElem? (i := 17) rfl))) (notFace_of_selects (args := #[]) (mvT hZ (hw _ (List.mem_of_getElem? (i := 19) rfl)))) (mvT hZ (hw _ (List.mem_of_getElem? (i := 19) rfl))) (mvT hZ (hw _ (List.mem_of_getElem? (i := 18) rfl))) (by decide) (backOf (W := 0) (rm4 l Z a0 hw [] bo_1 Q n106 (own_st (nv < (3 : Int32)) D (own_st (nv < (2 : Int32)) B (own_st (nv < (1 : Int32)) A (fun _ => 0)))) T106.heap n0 SZ106 hQ H106) hZ (hw _ (List.mem_of_getElem? (i := 20) rfl)) (hw _ (List.mem_of_getElem? (i := 2) rfl)) (by decide) (by decide)) qk_27a qk_27c (g := (mkF m 168 #[.val (.int p1), .val (.int p2), .val (.int p3), .val (.int p4), .val (.int p5), .val (.int nv), .val (.int w), .val (.int (Int32.ofNat A)), .val (.int (Int32.ofNat B)), .val (.int (Int32.ofNat D)), .val (.int (Int32.ofNat Q)), .val (.ref bo_1), .val (.int (((own_hit (1 : Int32) (Int32.ofNat A) (Int32.ofNat Q)) + (own_hit (0 : Int32) (Int32.ofNat B) (Int32.ofNat Q))) + (own_hit (0 : Int32) (Int32.ofNat D) (Int32.ofNat Q))))] [(.int (Int32.ofNat Q)), (.ref bo_1)])) rfl (by rw [hml]; rfl) (Steps.refl _) (argsL := [(.int (Int32.ofNat Q))]) (rest := []) (lenOf pd_4 rfl) rfl (by show 2 * 0 + _ ≤ _; exact Nat.le_of_eq rfl) (hb hby at_168) (fun _ _ => ⟨rfl, ek_26, (by decide : 5 + 0 ≤ _), (by decide : 25 + 0 ≤ _)⟩)
              dsimp only [Pt.U, Pt.locs, Pt.cells, Pt.slots] at Xk_27 lk_27 yk_27 zk_27 stk_27 hQk_27
              subst lk_27 yk_27 zk_27
              obtain ⟨rfl, Nk_27q, ek_27⟩ := hQk_27
              have Nk_27 := Fr.app Nk_26 Nk_27q
              refine own_lift (fun tz kz => stk_27.trans kz) ?_
              show own_Fin p e below _ (Tk_27.setTop (mkF m 171 #[.val (.int p1), .val (.int p2), .val (.int p3), .val (.int p4), .val (.int p5), .val (.int nv), .val (.int w), .val (.int (Int32.ofNat A)), .val (.int (Int32.ofNat B)), .val (.int (Int32.ofNat D)), .val (.int (Int32.ofNat Q)), .val (.ref bo_1), .val (.int (((own_hit (1 : Int32) (Int32.ofNat A) (Int32.ofNat Q)) + (own_hit (0 : Int32) (Int32.ofNat B) (Int32.ofNat Q))) + (own_hit (0 : Int32) (Int32.ofNat D) (Int32.ofNat Q))))] [(.int ((own_st (nv < (3 : Int32)) D (own_st (nv < (2 : Int32)) B (own_st (nv < (1 : Int32)) A (fun _ => 0)))) Q))]))
              refine own_lift (fun tz kz => XS.iload Xk_27.here hx rfl (hb hby at_171) rfl kz) ?_
              show own_Fin p e below _ (Tk_27.setTop (mkF m 173 #[.val (.int p1), .val (.int p2), .val (.int p3), .val (.int p4), .val (.int p5), .val (.int nv), .val (.int w), .val (.int (Int32.ofNat A)), .val (.int (Int32.ofNat B)), .val (.int (Int32.ofNat D)), .val (.int (Int32.ofNat Q)), .val (.ref bo_1), .val (.int (((own_hit (1 : Int32) (Int32.ofNat A) (Int32.ofNat Q)) + (own_hit (0 : Int32) (Int32.ofNat B) (Int32.ofNat Q))) + (own_hit (0 : Int32) (Int32.ofNat D) (Int32.ofNat Q))))] [(.int (((own_hit (1 : Int32) (Int32.ofNat A) (Int32.ofNat Q)) + (own_hit (0 : Int32) (Int32.ofNat B) (Int32.ofNat Q))) + (own_hit (0 : Int32) (Int32.ofNat D) (Int32.ofNat Q)))), (.int ((own_st (nv < (3 : Int32)) D (own_st (nv < (2 : Int32)) B (own_st (nv < (1 : Int32)) A (fun _ => 0)))) Q))]))
              refine own_lift (fun tz kz => XS.icmpNo Xk_27.here hx rfl (hb hby at_173) rfl (teq hfin).2 kz) ?_
              show own_Fin p e below _ (Tk_27.setTop (mkF m 176 #[.val (.int p1), .val (.int p2), .val (.int p3), .val (.int p4), .val (.int p5), .val (.int nv), .val (.int w), .val (.int (Int32.ofNat A)), .val (.int (Int32.ofNat B)), .val (.int (Int32.ofNat D)), .val (.int (Int32.ofNat Q)), .val (.ref bo_1), .val (.int (((own_hit (1 : Int32) (Int32.ofNat A) (Int32.ofNat Q)) + (own_hit (0 : Int32) (Int32.ofNat B) (Int32.ofNat Q))) + (own_hit (0 : Int32) (Int32.ofNat D) (Int32.ofNat Q))))] []))
              refine own_lift (fun tz kz => XS.iconst Xk_27.here hx rfl (hb hby at_176) kz) ?_
              show own_Fin p e below _ (Tk_27.setTop (mkF m 177 #[.val (.int p1), .val (.int p2), .val (.int p3), .val (.int p4), .val (.int p5), .val (.int nv), .val (.int w), .val (.int (Int32.ofNat A)), .val (.int (Int32.ofNat B)), .val (.int (Int32.ofNat D)), .val (.int (Int32.ofNat Q)), .val (.ref bo_1), .val (.int (((own_hit (1 : Int32) (Int32.ofNat A) (Int32.ofNat Q)) + (own_hit (0 : Int32) (Int32.ofNat B) (Int32.ofNat Q))) + (own_hit (0 : Int32) (Int32.ofNat D) (Int32.ofNat Q))))] [(.int (1 : Int32))]))
              refine own_lift (fun tz kz => XS.goto Xk_27.here hx rfl (pc0 := 177) (pc' := 181) rfl (hb hby at_177) (by decide) (by decide) kz) ?_
              show own_Fin p e below _ (Tk_27.setTop (mkF m 181 #[.val (.int p1), .val (.int p2), .val (.int p3), .val (.int p4), .val (.int p5), .val (.int nv), .val (.int w), .val (.int (Int32.ofNat A)), .val (.int (Int32.ofNat B)), .val (.int (Int32.ofNat D)), .val (.int (Int32.ofNat Q)), .val (.ref bo_1), .val (.int (((own_hit (1 : Int32) (Int32.ofNat A) (Int32.ofNat Q)) + (own_hit (0 : Int32) (Int32.ofNat B) (Int32.ofNat Q))) + (own_hit (0 : Int32) (Int32.ofNat D) (Int32.ofNat Q))))] [(.int (1 : Int32))]))
              obtain ⟨fs, hr, hrun, hended, hW, hsame⟩ := Xk_27.leave (v := some (.int (1 : Int32))) (fun h => by rw [Bd.returns] at h; cases h)
              exact ⟨_, _, retN Xk_27 hx (t := .boolean) Bd.returns (by simp) (hb hby at_181) hr, hrun, hended, _, _, rfl, ⟨rfl, Nk_27⟩, ⟨_, rfl⟩, hW, hsame.mono (by decide) (by decide)⟩
            · refine own_lift (fun tz kz => XS.icmpNo Xk_24.here hx rfl (hb hby at_146) rfl (flt hc146_25).1 kz) ?_
              show own_Fin p e below _ (Tk_24.setTop (mkF m 149 #[.val (.int p1), .val (.int p2), .val (.int p3), .val (.int p4), .val (.int p5), .val (.int nv), .val (.int w), .val (.int (Int32.ofNat A)), .val (.int (Int32.ofNat B)), .val (.int (Int32.ofNat D)), .val (.int (Int32.ofNat Q)), .val (.ref bo_1), .unset] [(.int ((own_hit (1 : Int32) (Int32.ofNat A) (Int32.ofNat Q)) + (own_hit (0 : Int32) (Int32.ofNat B) (Int32.ofNat Q))))]))
              refine own_lift (fun tz kz => XS.iconst Xk_24.here hx rfl (hb hby at_149) kz) ?_
              show own_Fin p e below _ (Tk_24.setTop (mkF m 150 #[.val (.int p1), .val (.int p2), .val (.int p3), .val (.int p4), .val (.int p5), .val (.int nv), .val (.int w), .val (.int (Int32.ofNat A)), .val (.int (Int32.ofNat B)), .val (.int (Int32.ofNat D)), .val (.int (Int32.ofNat Q)), .val (.ref bo_1), .unset] [(.int (1 : Int32)), (.int ((own_hit (1 : Int32) (Int32.ofNat A) (Int32.ofNat Q)) + (own_hit (0 : Int32) (Int32.ofNat B) (Int32.ofNat Q))))]))
              refine own_lift (fun tz kz => XS.goto Xk_24.here hx rfl (pc0 := 150) (pc' := 154) rfl (hb hby at_150) (by decide) (by decide) kz) ?_
              show own_Fin p e below _ (Tk_24.setTop (mkF m 154 #[.val (.int p1), .val (.int p2), .val (.int p3), .val (.int p4), .val (.int p5), .val (.int nv), .val (.int w), .val (.int (Int32.ofNat A)), .val (.int (Int32.ofNat B)), .val (.int (Int32.ofNat D)), .val (.int (Int32.ofNat Q)), .val (.ref bo_1), .unset] [(.int (1 : Int32)), (.int ((own_hit (1 : Int32) (Int32.ofNat A) (Int32.ofNat Q)) + (own_hit (0 : Int32) (Int32.ofNat B) (Int32.ofNat Q))))]))
              refine own_lift (fun tz kz => XS.iload Xk_24.here hx rfl (hb hby at_154) rfl kz) ?_
              show own_Fin p e below _ (Tk_24.setTop (mkF m 156 #[.val (.int p1), .val (.int p2), .val (.int p3), .val (.int p4), .val (.int p5), .val (.int nv), .val (.int w), .val (.int (Int32.ofNat A)), .val (.int (Int32.ofNat B)), .val (.int (Int32.ofNat D)), .val (.int (Int32.ofNat Q)), .val (.ref bo_1), .unset] [(.int (Int32.ofNat D)), (.int (1 : Int32)), (.int ((own_hit (1 : Int32) (Int32.ofNat A) (Int32.ofNat Q)) + (own_hit (0 : Int32) (Int32.ofNat B) (Int32.ofNat Q))))]))
              refine own_lift (fun tz kz => XS.iload Xk_24.here hx rfl (hb hby at_156) rfl kz) ?_
              show own_Fin p e below _ (Tk_24.setTop (mkF m 158 #[.val (.int p1), .val (.int p2), .val (.int p3), .val (.int p4), .val (.int p5), .val (.int nv), .val (.int w), .val (.int (Int32.ofNat A)), .val (.int (Int32.ofNat B)), .val (.int (Int32.ofNat D)), .val (.int (Int32.ofNat Q)), .val (.ref bo_1), .unset] [(.int (Int32.ofNat Q)), (.int (Int32.ofNat D)), (.int (1 : Int32)), (.int ((own_hit (1 : Int32) (Int32.ofNat A) (Int32.ofNat Q)) + (own_hit (0 : Int32) (Int32.ofNat B) (Int32.ofNat Q))))]))
              obtain ⟨_, _, ⟨Tk_29, Lk_29, kk_29, nk_29⟩, -, Xk_29, ⟨Lck_29, hQk_29, lk_29, yk_29, zk_29⟩, stk_29⟩ := Jvm.LawKit.callS Xk_24 hx (y := (⟨"com/example/porridge/porridge/engine/VectorClockGetPinLaw", "hit", "(ZII)I"⟩ : MethodName)) hown (mvT hZ (hw _ (List.mem_of_getElem? (i := 12) rfl))) (mvT hZ (hw _ (List.mem_of_getElem? (i := 13) rfl))) (mvT hZ (hw _ (List.mem_of_getElem? (i := 14) rfl))) (mvT hZ (hw _ (List.mem_of_getElem? (i := 15) rfl))) (by decide) (backOf (W := 1) (rm3 l Z a0 hw [] (1 : Int32) (Int32.ofNat D) (Int32.ofNat Q) T106.heap n0 SZ106) hZ (hw _ (List.mem_of_getElem? (i := 15) rfl)) (hw _ (List.mem_of_getElem? (i := 14) rfl)) (by decide) (by decide)) (g := (mkF m 158 #[.val (.int p1), .val (.int p2), .val (.int p3), .val (.int p4), .val (.int p5), .val (.int nv), .val (.int w), .val (.int (Int32.ofNat A)), .val (.int (Int32.ofNat B)), .val (.int (Int32.ofNat D)), .val (.int (Int32.ofNat Q)), .val (.ref bo_1), .unset] [(.int (Int32.ofNat Q)), (.int (Int32.ofNat D)), (.int (1 : Int32)), (.int ((own_hit (1 : Int32) (Int32.ofNat A) (Int32.ofNat Q)) + (own_hit (0 : Int32) (Int32.ofNat B) (Int32.ofNat Q))))])) rfl (by rw [hml]; rfl) (argsL := [(.int (1 : Int32)), (.int (Int32.ofNat D)), (.int (Int32.ofNat Q))]) (rest := [(.int ((own_hit (1 : Int32) (Int32.ofNat A) (Int32.ofNat Q)) + (own_hit (0 : Int32) (Int32.ofNat B) (Int32.ofNat Q))))]) (lenOf pd_3 rfl) rfl (by show 2 * 0 + _ ≤ _; exact Nat.le_of_eq rfl) (hb hby at_158) (fun _ _ => ⟨rfl, ek_24, (by decide : 5 + 0 ≤ _), (by decide : 25 + 0 ≤ _)⟩)
              dsimp only [Pt.U, Pt.locs, Pt.cells, Pt.slots] at Xk_29 lk_29 yk_29 zk_29 stk_29 hQk_29
              subst lk_29 yk_29 zk_29
              obtain ⟨rfl, Nk_29q, ek_29⟩ := hQk_29
              have Nk_29 := Fr.app Nk_24 Nk_29q
              refine own_lift (fun tz kz => stk_29 _ kz) ?_
              show own_Fin p e below _ (Tk_29.setTop (mkF m 161 #[.val (.int p1), .val (.int p2), .val (.int p3), .val (.int p4), .val (.int p5), .val (.int nv), .val (.int w), .val (.int (Int32.ofNat A)), .val (.int (Int32.ofNat B)), .val (.int (Int32.ofNat D)), .val (.int (Int32.ofNat Q)), .val (.ref bo_1), .unset] [(.int (own_hit (1 : Int32) (Int32.ofNat D) (Int32.ofNat Q))), (.int ((own_hit (1 : Int32) (Int32.ofNat A) (Int32.ofNat Q)) + (own_hit (0 : Int32) (Int32.ofNat B) (Int32.ofNat Q))))]))
              refine own_lift (fun tz kz => XS.iadd Xk_29.here hx rfl (hb hby at_161) rfl kz) ?_
              show own_Fin p e below _ (Tk_29.setTop (mkF m 162 #[.val (.int p1), .val (.int p2), .val (.int p3), .val (.int p4), .val (.int p5), .val (.int nv), .val (.int w), .val (.int (Int32.ofNat A)), .val (.int (Int32.ofNat B)), .val (.int (Int32.ofNat D)), .val (.int (Int32.ofNat Q)), .val (.ref bo_1), .unset] [(.int (((own_hit (1 : Int32) (Int32.ofNat A) (Int32.ofNat Q)) + (own_hit (0 : Int32) (Int32.ofNat B) (Int32.ofNat Q))) + (own_hit (1 : Int32) (Int32.ofNat D) (Int32.ofNat Q))))]))
              refine own_lift (fun tz kz => XS.istore Xk_29.here hx rfl (hb hby at_162) rfl (l' := #[.val (.int p1), .val (.int p2), .val (.int p3), .val (.int p4), .val (.int p5), .val (.int nv), .val (.int w), .val (.int (Int32.ofNat A)), .val (.int (Int32.ofNat B)), .val (.int (Int32.ofNat D)), .val (.int (Int32.ofNat Q)), .val (.ref bo_1), .val (.int (((own_hit (1 : Int32) (Int32.ofNat A) (Int32.ofNat Q)) + (own_hit (0 : Int32) (Int32.ofNat B) (Int32.ofNat Q))) + (own_hit (1 : Int32) (Int32.ofNat D) (Int32.ofNat Q))))]) rfl kz) ?_
              show own_Fin p e below _ (Tk_29.setTop (mkF m 164 #[.val (.int p1), .val (.int p2), .val (.int p3), .val (.int p4), .val (.int p5), .val (.int nv), .val (.int w), .val (.int (Int32.ofNat A)), .val (.int (Int32.ofNat B)), .val (.int (Int32.ofNat D)), .val (.int (Int32.ofNat Q)), .val (.ref bo_1), .val (.int (((own_hit (1 : Int32) (Int32.ofNat A) (Int32.ofNat Q)) + (own_hit (0 : Int32) (Int32.ofNat B) (Int32.ofNat Q))) + (own_hit (1 : Int32) (Int32.ofNat D) (Int32.ofNat Q))))] []))
              have hfin : ((own_st (nv < (3 : Int32)) D (own_st (nv < (2 : Int32)) B (own_st (nv < (1 : Int32)) A (fun _ => 0)))) Q) = (((own_hit (1 : Int32) (Int32.ofNat A) (Int32.ofNat Q)) + (own_hit (0 : Int32) (Int32.ofNat B) (Int32.ofNat Q))) + (own_hit (1 : Int32) (Int32.ofNat D) (Int32.ofNat Q))) := by rw [own_fin (nv < (1 : Int32)) (nv < (2 : Int32)) (nv < (3 : Int32)) hA hB hD hQ, if_neg hc109_3, if_pos hc127_23, if_neg hc146_25]
              refine own_lift (fun tz kz => XS.aload Xk_29.here hx rfl (hb hby at_164) rfl rfl kz) ?_
              show own_Fin p e below _ (Tk_29.setTop (mkF m 166 #[.val (.int p1), .val (.int p2), .val (.int p3), .val (.int p4), .val (.int p5), .val (.int nv), .val (.int w), .val (.int (Int32.ofNat A)), .val (.int (Int32.ofNat B)), .val (.int (Int32.ofNat D)), .val (.int (Int32.ofNat Q)), .val (.ref bo_1), .val (.int (((own_hit (1 : Int32) (Int32.ofNat A) (Int32.ofNat Q)) + (own_hit (0 : Int32) (Int32.ofNat B) (Int32.ofNat Q))) + (own_hit (1 : Int32) (Int32.ofNat D) (Int32.ofNat Q))))] [(.ref bo_1)]))
              refine own_lift (fun tz kz => XS.iload Xk_29.here hx rfl (hb hby at_166) rfl kz) ?_
              show own_Fin p e below _ (Tk_29.setTop (mkF m 168 #[.val (.int p1), .val (.int p2), .val (.int p3), .val (.int p4), .val (.int p5), .val (.int nv), .val (.int w), .val (.int (Int32.ofNat A)), .val (.int (Int32.ofNat B)), .val (.int (Int32.ofNat D)), .val (.int (Int32.ofNat Q)), .val (.ref bo_1), .val (.int (((own_hit (1 : Int32) (Int32.ofNat A) (Int32.ofNat Q)) + (own_hit (0 : Int32) (Int32.ofNat B) (Int32.ofNat Q))) + (own_hit (1 : Int32) (Int32.ofNat D) (Int32.ofNat Q))))] [(.int (Int32.ofNat Q)), (.ref bo_1)]))
              obtain ⟨cqk_30, kqk_30, qk_30a, qk_30b, qk_30c⟩ := isOf hZ ek_29 E106
              obtain ⟨_, _, ⟨Tk_30, Lk_30, kk_30, nk_30⟩, -, Xk_30, ⟨Lck_30, hQk_30, lk_30, yk_30, zk_30⟩, stk_30⟩ := Xk_29.virtualBack hx (y := (⟨"com/example/porridge/porridge/engine/VectorClock", "get", "(I)I"⟩ : MethodName)) (z := (⟨"com/example/porridge/porridge/engine/VectorClock", "get", "(I)I"⟩ : MethodName)) hown (mvT hZ (hw _ (List.mem_of_getElem? (i := 16) rfl))) (mvT hZ (hw _ (List.mem_of_getElem? (i := 17) rfl))) (notFace_of_selects (args := #[]) (mvT hZ (hw _ (List.mem_of_getElem? (i := 19) rfl)))) (mvT hZ (hw _ (List.mem_of_getElem? (i := 19) rfl))) (mvT hZ (hw _ (List.mem_of_getElem? (i := 18) rfl))) (by decide) (backOf (W := 0) (rm4 l Z a0 hw [] bo_1 Q n106 (own_st (nv < (3 : Int32)) D (own_st (nv < (2 : Int32)) B (own_st (nv < (1 : Int32)) A (fun _ => 0)))) T106.heap n0 SZ106 hQ H106) hZ (hw _ (List.mem_of_getElem? (i := 20) rfl)) (hw _ (List.mem_of_getElem? (i := 2) rfl)) (by decide) (by decide)) qk_30a qk_30c (g := (mkF m 168 #[.val (.int p1), .val (.int p2), .val (.int p3), .val (.int p4), .val (.int p5), .val (.int nv), .val (.int w), .val (.int (Int32.ofNat A)), .val (.int (Int32.ofNat B)), .val (.int (Int32.ofNat D)), .val (.int (Int32.ofNat Q)), .val (.ref bo_1), .val (.int (((own_hit (1 : Int32) (Int32.ofNat A) (Int32.ofNat Q)) + (own_hit (0 : Int32) (Int32.ofNat B) (Int32.ofNat Q))) + (own_hit (1 : Int32) (Int32.ofNat D) (Int32.ofNat Q))))] [(.int (Int32.ofNat Q)), (.ref bo_1)])) rfl (by rw [hml]; rfl) (Steps.refl _) (argsL := [(.int (Int32.ofNat Q))]) (rest := []) (lenOf pd_4 rfl) rfl (by show 2 * 0 + _ ≤ _; exact Nat.le_of_eq rfl) (hb hby at_168) (fun _ _ => ⟨rfl, ek_29, (by decide : 5 + 0 ≤ _), (by decide : 25 + 0 ≤ _)⟩)
              dsimp only [Pt.U, Pt.locs, Pt.cells, Pt.slots] at Xk_30 lk_30 yk_30 zk_30 stk_30 hQk_30
              subst lk_30 yk_30 zk_30
              obtain ⟨rfl, Nk_30q, ek_30⟩ := hQk_30
              have Nk_30 := Fr.app Nk_29 Nk_30q
              refine own_lift (fun tz kz => stk_30.trans kz) ?_
              show own_Fin p e below _ (Tk_30.setTop (mkF m 171 #[.val (.int p1), .val (.int p2), .val (.int p3), .val (.int p4), .val (.int p5), .val (.int nv), .val (.int w), .val (.int (Int32.ofNat A)), .val (.int (Int32.ofNat B)), .val (.int (Int32.ofNat D)), .val (.int (Int32.ofNat Q)), .val (.ref bo_1), .val (.int (((own_hit (1 : Int32) (Int32.ofNat A) (Int32.ofNat Q)) + (own_hit (0 : Int32) (Int32.ofNat B) (Int32.ofNat Q))) + (own_hit (1 : Int32) (Int32.ofNat D) (Int32.ofNat Q))))] [(.int ((own_st (nv < (3 : Int32)) D (own_st (nv < (2 : Int32)) B (own_st (nv < (1 : Int32)) A (fun _ => 0)))) Q))]))
              refine own_lift (fun tz kz => XS.iload Xk_30.here hx rfl (hb hby at_171) rfl kz) ?_
              show own_Fin p e below _ (Tk_30.setTop (mkF m 173 #[.val (.int p1), .val (.int p2), .val (.int p3), .val (.int p4), .val (.int p5), .val (.int nv), .val (.int w), .val (.int (Int32.ofNat A)), .val (.int (Int32.ofNat B)), .val (.int (Int32.ofNat D)), .val (.int (Int32.ofNat Q)), .val (.ref bo_1), .val (.int (((own_hit (1 : Int32) (Int32.ofNat A) (Int32.ofNat Q)) + (own_hit (0 : Int32) (Int32.ofNat B) (Int32.ofNat Q))) + (own_hit (1 : Int32) (Int32.ofNat D) (Int32.ofNat Q))))] [(.int (((own_hit (1 : Int32) (Int32.ofNat A) (Int32.ofNat Q)) + (own_hit (0 : Int32) (Int32.ofNat B) (Int32.ofNat Q))) + (own_hit (1 : Int32) (Int32.ofNat D) (Int32.ofNat Q)))), (.int ((own_st (nv < (3 : Int32)) D (own_st (nv < (2 : Int32)) B (own_st (nv < (1 : Int32)) A (fun _ => 0)))) Q))]))
              refine own_lift (fun tz kz => XS.icmpNo Xk_30.here hx rfl (hb hby at_173) rfl (teq hfin).2 kz) ?_
              show own_Fin p e below _ (Tk_30.setTop (mkF m 176 #[.val (.int p1), .val (.int p2), .val (.int p3), .val (.int p4), .val (.int p5), .val (.int nv), .val (.int w), .val (.int (Int32.ofNat A)), .val (.int (Int32.ofNat B)), .val (.int (Int32.ofNat D)), .val (.int (Int32.ofNat Q)), .val (.ref bo_1), .val (.int (((own_hit (1 : Int32) (Int32.ofNat A) (Int32.ofNat Q)) + (own_hit (0 : Int32) (Int32.ofNat B) (Int32.ofNat Q))) + (own_hit (1 : Int32) (Int32.ofNat D) (Int32.ofNat Q))))] []))
              refine own_lift (fun tz kz => XS.iconst Xk_30.here hx rfl (hb hby at_176) kz) ?_
              show own_Fin p e below _ (Tk_30.setTop (mkF m 177 #[.val (.int p1), .val (.int p2), .val (.int p3), .val (.int p4), .val (.int p5), .val (.int nv), .val (.int w), .val (.int (Int32.ofNat A)), .val (.int (Int32.ofNat B)), .val (.int (Int32.ofNat D)), .val (.int (Int32.ofNat Q)), .val (.ref bo_1), .val (.int (((own_hit (1 : Int32) (Int32.ofNat A) (Int32.ofNat Q)) + (own_hit (0 : Int32) (Int32.ofNat B) (Int32.ofNat Q))) + (own_hit (1 : Int32) (Int32.ofNat D) (Int32.ofNat Q))))] [(.int (1 : Int32))]))
              refine own_lift (fun tz kz => XS.goto Xk_30.here hx rfl (pc0 := 177) (pc' := 181) rfl (hb hby at_177) (by decide) (by decide) kz) ?_
              show own_Fin p e below _ (Tk_30.setTop (mkF m 181 #[.val (.int p1), .val (.int p2), .val (.int p3), .val (.int p4), .val (.int p5), .val (.int nv), .val (.int w), .val (.int (Int32.ofNat A)), .val (.int (Int32.ofNat B)), .val (.int (Int32.ofNat D)), .val (.int (Int32.ofNat Q)), .val (.ref bo_1), .val (.int (((own_hit (1 : Int32) (Int32.ofNat A) (Int32.ofNat Q)) + (own_hit (0 : Int32) (Int32.ofNat B) (Int32.ofNat Q))) + (own_hit (1 : Int32) (Int32.ofNat D) (Int32.ofNat Q))))] [(.int (1 : Int32))]))
              obtain ⟨fs, hr, hrun, hended, hW, hsame⟩ := Xk_30.leave (v := some (.int (1 : Int32))) (fun h => by rw [Bd.returns] at h; cases h)
              exact ⟨_, _, retN Xk_30 hx (t := .boolean) Bd.returns (by simp) (hb hby at_181) hr, hrun, hended, _, _, rfl, ⟨rfl, Nk_30⟩, ⟨_, rfl⟩, hW, hsame.mono (by decide) (by decide)⟩
          · refine own_lift (fun tz kz => XS.icmpNo Xk_22.here hx rfl (hb hby at_127) rfl (flt hc127_23).1 kz) ?_
            show own_Fin p e below _ (Tk_22.setTop (mkF m 130 #[.val (.int p1), .val (.int p2), .val (.int p3), .val (.int p4), .val (.int p5), .val (.int nv), .val (.int w), .val (.int (Int32.ofNat A)), .val (.int (Int32.ofNat B)), .val (.int (Int32.ofNat D)), .val (.int (Int32.ofNat Q)), .val (.ref bo_1), .unset] [(.int (own_hit (1 : Int32) (Int32.ofNat A) (Int32.ofNat Q)))]))
            refine own_lift (fun tz kz => XS.iconst Xk_22.here hx rfl (hb hby at_130) kz) ?_
            show own_Fin p e below _ (Tk_22.setTop (mkF m 131 #[.val (.int p1), .val (.int p2), .val (.int p3), .val (.int p4), .val (.int p5), .val (.int nv), .val (.int w), .val (.int (Int32.ofNat A)), .val (.int (Int32.ofNat B)), .val (.int (Int32.ofNat D)), .val (.int (Int32.ofNat Q)), .val (.ref bo_1), .unset] [(.int (1 : Int32)), (.int (own_hit (1 : Int32) (Int32.ofNat A) (Int32.ofNat Q)))]))
            refine own_lift (fun tz kz => XS.goto Xk_22.here hx rfl (pc0 := 131) (pc' := 135) rfl (hb hby at_131) (by decide) (by decide) kz) ?_
            show own_Fin p e below _ (Tk_22.setTop (mkF m 135 #[.val (.int p1), .val (.int p2), .val (.int p3), .val (.int p4), .val (.int p5), .val (.int nv), .val (.int w), .val (.int (Int32.ofNat A)), .val (.int (Int32.ofNat B)), .val (.int (Int32.ofNat D)), .val (.int (Int32.ofNat Q)), .val (.ref bo_1), .unset] [(.int (1 : Int32)), (.int (own_hit (1 : Int32) (Int32.ofNat A) (Int32.ofNat Q)))]))
            refine own_lift (fun tz kz => XS.iload Xk_22.here hx rfl (hb hby at_135) rfl kz) ?_
            show own_Fin p e below _ (Tk_22.setTop (mkF m 137 #[.val (.int p1), .val (.int p2), .val (.int p3), .val (.int p4), .val (.int p5), .val (.int nv), .val (.int w), .val (.int (Int32.ofNat A)), .val (.int (Int32.ofNat B)), .val (.int (Int32.ofNat D)), .val (.int (Int32.ofNat Q)), .val (.ref bo_1), .unset] [(.int (Int32.ofNat B)), (.int (1 : Int32)), (.int (own_hit (1 : Int32) (Int32.ofNat A) (Int32.ofNat Q)))]))
            refine own_lift (fun tz kz => XS.iload Xk_22.here hx rfl (hb hby at_137) rfl kz) ?_
            show own_Fin p e below _ (Tk_22.setTop (mkF m 139 #[.val (.int p1), .val (.int p2), .val (.int p3), .val (.int p4), .val (.int p5), .val (.int nv), .val (.int w), .val (.int (Int32.ofNat A)), .val (.int (Int32.ofNat B)), .val (.int (Int32.ofNat D)), .val (.int (Int32.ofNat Q)), .val (.ref bo_1), .unset] [(.int (Int32.ofNat Q)), (.int (Int32.ofNat B)), (.int (1 : Int32)), (.int (own_hit (1 : Int32) (Int32.ofNat A) (Int32.ofNat Q)))]))
            obtain ⟨_, _, ⟨Tk_32, Lk_32, kk_32, nk_32⟩, -, Xk_32, ⟨Lck_32, hQk_32, lk_32, yk_32, zk_32⟩, stk_32⟩ := Jvm.LawKit.callS Xk_22 hx (y := (⟨"com/example/porridge/porridge/engine/VectorClockGetPinLaw", "hit", "(ZII)I"⟩ : MethodName)) hown (mvT hZ (hw _ (List.mem_of_getElem? (i := 12) rfl))) (mvT hZ (hw _ (List.mem_of_getElem? (i := 13) rfl))) (mvT hZ (hw _ (List.mem_of_getElem? (i := 14) rfl))) (mvT hZ (hw _ (List.mem_of_getElem? (i := 15) rfl))) (by decide) (backOf (W := 1) (rm3 l Z a0 hw [] (1 : Int32) (Int32.ofNat B) (Int32.ofNat Q) T106.heap n0 SZ106) hZ (hw _ (List.mem_of_getElem? (i := 15) rfl)) (hw _ (List.mem_of_getElem? (i := 14) rfl)) (by decide) (by decide)) (g := (mkF m 139 #[.val (.int p1), .val (.int p2), .val (.int p3), .val (.int p4), .val (.int p5), .val (.int nv), .val (.int w), .val (.int (Int32.ofNat A)), .val (.int (Int32.ofNat B)), .val (.int (Int32.ofNat D)), .val (.int (Int32.ofNat Q)), .val (.ref bo_1), .unset] [(.int (Int32.ofNat Q)), (.int (Int32.ofNat B)), (.int (1 : Int32)), (.int (own_hit (1 : Int32) (Int32.ofNat A) (Int32.ofNat Q)))])) rfl (by rw [hml]; rfl) (argsL := [(.int (1 : Int32)), (.int (Int32.ofNat B)), (.int (Int32.ofNat Q))]) (rest := [(.int (own_hit (1 : Int32) (Int32.ofNat A) (Int32.ofNat Q)))]) (lenOf pd_3 rfl) rfl (by show 2 * 0 + _ ≤ _; exact Nat.le_of_eq rfl) (hb hby at_139) (fun _ _ => ⟨rfl, ek_22, (by decide : 5 + 0 ≤ _), (by decide : 25 + 0 ≤ _)⟩)
            dsimp only [Pt.U, Pt.locs, Pt.cells, Pt.slots] at Xk_32 lk_32 yk_32 zk_32 stk_32 hQk_32
            subst lk_32 yk_32 zk_32
            obtain ⟨rfl, Nk_32q, ek_32⟩ := hQk_32
            have Nk_32 := Fr.app Nk_22 Nk_32q
            refine own_lift (fun tz kz => stk_32 _ kz) ?_
            show own_Fin p e below _ (Tk_32.setTop (mkF m 142 #[.val (.int p1), .val (.int p2), .val (.int p3), .val (.int p4), .val (.int p5), .val (.int nv), .val (.int w), .val (.int (Int32.ofNat A)), .val (.int (Int32.ofNat B)), .val (.int (Int32.ofNat D)), .val (.int (Int32.ofNat Q)), .val (.ref bo_1), .unset] [(.int (own_hit (1 : Int32) (Int32.ofNat B) (Int32.ofNat Q))), (.int (own_hit (1 : Int32) (Int32.ofNat A) (Int32.ofNat Q)))]))
            refine own_lift (fun tz kz => XS.iadd Xk_32.here hx rfl (hb hby at_142) rfl kz) ?_
            show own_Fin p e below _ (Tk_32.setTop (mkF m 143 #[.val (.int p1), .val (.int p2), .val (.int p3), .val (.int p4), .val (.int p5), .val (.int nv), .val (.int w), .val (.int (Int32.ofNat A)), .val (.int (Int32.ofNat B)), .val (.int (Int32.ofNat D)), .val (.int (Int32.ofNat Q)), .val (.ref bo_1), .unset] [(.int ((own_hit (1 : Int32) (Int32.ofNat A) (Int32.ofNat Q)) + (own_hit (1 : Int32) (Int32.ofNat B) (Int32.ofNat Q))))]))
            refine own_lift (fun tz kz => XS.iload Xk_32.here hx rfl (hb hby at_143) rfl kz) ?_
            show own_Fin p e below _ (Tk_32.setTop (mkF m 145 #[.val (.int p1), .val (.int p2), .val (.int p3), .val (.int p4), .val (.int p5), .val (.int nv), .val (.int w), .val (.int (Int32.ofNat A)), .val (.int (Int32.ofNat B)), .val (.int (Int32.ofNat D)), .val (.int (Int32.ofNat Q)), .val (.ref bo_1), .unset] [(.int nv), (.int ((own_hit (1 : Int32) (Int32.ofNat A) (Int32.ofNat Q)) + (own_hit (1 : Int32) (Int32.ofNat B) (Int32.ofNat Q))))]))
            refine own_lift (fun tz kz => XS.iconst Xk_32.here hx rfl (hb hby at_145) kz) ?_
            show own_Fin p e below _ (Tk_32.setTop (mkF m 146 #[.val (.int p1), .val (.int p2), .val (.int p3), .val (.int p4), .val (.int p5), .val (.int nv), .val (.int w), .val (.int (Int32.ofNat A)), .val (.int (Int32.ofNat B)), .val (.int (Int32.ofNat D)), .val (.int (Int32.ofNat Q)), .val (.ref bo_1), .unset] [(.int (3 : Int32)), (.int nv), (.int ((own_hit (1 : Int32) (Int32.ofNat A) (Int32.ofNat Q)) + (own_hit (1 : Int32) (Int32.ofNat B) (Int32.ofNat Q))))]))
            by_cases hc146_33 : nv < (3 : Int32)
            · refine own_lift (fun tz kz => XS.icmpYes Xk_32.here hx rfl (pc0 := 146) (pc' := 153) rfl (hb hby at_146) rfl (tlt hc146_33).1 (by decide) (by decide) kz) ?_
              show own_Fin p e below _ (Tk_32.setTop (mkF m 153 #[.val (.int p1), .val (.int p2), .val (.int p3), .val (.int p4), .val (.int p5), .val (.int nv), .val (.int w), .val (.int (Int32.ofNat A)), .val (.int (Int32.ofNat B)), .val (.int (Int32.ofNat D)), .val (.int (Int32.ofNat Q)), .val (.ref bo_1), .unset] [(.int ((own_hit (1 : Int32) (Int32.ofNat A) (Int32.ofNat Q)) + (own_hit (1 : Int32) (Int32.ofNat B) (Int32.ofNat Q))))]))
              refine own_lift (fun tz kz => XS.iconst Xk_32.here hx rfl (hb hby at_153) kz) ?_
              show own_Fin p e below _ (Tk_32.setTop (mkF m 154 #[.val (.int p1), .val (.int p2), .val (.int p3), .val (.int p4), .val (.int p5), .val (.int nv), .val (.int w), .val (.int (Int32.ofNat A)), .val (.int (Int32.ofNat B)), .val (.int (Int32.ofNat D)), .val (.int (Int32.ofNat Q)), .val (.ref bo_1), .unset] [(.int (0 : Int32)), (.int ((own_hit (1 : Int32) (Int32.ofNat A) (Int32.ofNat Q)) + (own_hit (1 : Int32) (Int32.ofNat B) (Int32.ofNat Q))))]))
              refine own_lift (fun tz kz => XS.iload Xk_32.here hx rfl (hb hby at_154) rfl kz) ?_
              show own_Fin p e below _ (Tk_32.setTop (mkF m 156 #[.val (.int p1), .val (.int p2), .val (.int p3), .val (.int p4), .val (.int p5), .val (.int nv), .val (.int w), .val (.int (Int32.ofNat A)), .val (.int (Int32.ofNat B)), .val (.int (Int32.ofNat D)), .val (.int (Int32.ofNat Q)), .val (.ref bo_1), .unset] [(.int (Int32.ofNat D)), (.int (0 : Int32)), (.int ((own_hit (1 : Int32) (Int32.ofNat A) (Int32.ofNat Q)) + (own_hit (1 : Int32) (Int32.ofNat B) (Int32.ofNat Q))))]))
              refine own_lift (fun tz kz => XS.iload Xk_32.here hx rfl (hb hby at_156) rfl kz) ?_
              show own_Fin p e below _ (Tk_32.setTop (mkF m 158 #[.val (.int p1), .val (.int p2), .val (.int p3), .val (.int p4), .val (.int p5), .val (.int nv), .val (.int w), .val (.int (Int32.ofNat A)), .val (.int (Int32.ofNat B)), .val (.int (Int32.ofNat D)), .val (.int (Int32.ofNat Q)), .val (.ref bo_1), .unset] [(.int (Int32.ofNat Q)), (.int (Int32.ofNat D)), (.int (0 : Int32)), (.int ((own_hit (1 : Int32) (Int32.ofNat A) (Int32.ofNat Q)) + (own_hit (1 : Int32) (Int32.ofNat B) (Int32.ofNat Q))))]))
              obtain ⟨_, _, ⟨Tk_34, Lk_34, kk_34, nk_34⟩, -, Xk_34, ⟨Lck_34, hQk_34, lk_34, yk_34, zk_34⟩, stk_34⟩ := Jvm.LawKit.callS Xk_32 hx (y := (⟨"com/example/porridge/porridge/engine/VectorClockGetPinLaw", "hit", "(ZII)I"⟩ : MethodName)) hown (mvT hZ (hw _ (List.mem_of_getElem? (i := 12) rfl))) (mvT hZ (hw _ (List.mem_of_getElem? (i := 13) rfl))) (mvT hZ (hw _ (List.mem_of_getElem? (i := 14) rfl))) (mvT hZ (hw _ (List.mem_of_getElem? (i := 15) rfl))) (by decide) (backOf (W := 1) (rm3 l Z a0 hw [] (0 : Int32) (Int32.ofNat D) (Int32.ofNat Q) T106.heap n0 SZ106) hZ (hw _ (List.mem_of_getElem? (i := 15) rfl)) (hw _ (List.mem_of_getElem? (i := 14) rfl)) (by decide) (by decide)) (g := (mkF m 158 #[.val (.int p1), .val (.int p2), .val (.int p3), .val (.int p4), .val (.int p5), .val (.int nv), .val (.int w), .val (.int (Int32.ofNat A)), .val (.int (Int32.ofNat B)), .val (.int (Int32.ofNat D)), .val (.int (Int32.ofNat Q)), .val (.ref bo_1), .unset] [(.int (Int32.ofNat Q)), (.int (Int32.ofNat D)), (.int (0 : Int32)), (.int ((own_hit (1 : Int32) (Int32.ofNat A) (Int32.ofNat Q)) + (own_hit (1 : Int32) (Int32.ofNat B) (Int32.ofNat Q))))])) rfl (by rw [hml]; rfl) (argsL := [(.int (0 : Int32)), (.int (Int32.ofNat D)), (.int (Int32.ofNat Q))]) (rest := [(.int ((own_hit (1 : Int32) (Int32.ofNat A) (Int32.ofNat Q)) + (own_hit (1 : Int32) (Int32.ofNat B) (Int32.ofNat Q))))]) (lenOf pd_3 rfl) rfl (by show 2 * 0 + _ ≤ _; exact Nat.le_of_eq rfl) (hb hby at_158) (fun _ _ => ⟨rfl, ek_32, (by decide : 5 + 0 ≤ _), (by decide : 25 + 0 ≤ _)⟩)
              dsimp only [Pt.U, Pt.locs, Pt.cells, Pt.slots] at Xk_34 lk_34 yk_34 zk_34 stk_34 hQk_34
              subst lk_34 yk_34 zk_34
              obtain ⟨rfl, Nk_34q, ek_34⟩ := hQk_34
              have Nk_34 := Fr.app Nk_32 Nk_34q
              refine own_lift (fun tz kz => stk_34 _ kz) ?_
              show own_Fin p e below _ (Tk_34.setTop (mkF m 161 #[.val (.int p1), .val (.int p2), .val (.int p3), .val (.int p4), .val (.int p5), .val (.int nv), .val (.int w), .val (.int (Int32.ofNat A)), .val (.int (Int32.ofNat B)), .val (.int (Int32.ofNat D)), .val (.int (Int32.ofNat Q)), .val (.ref bo_1), .unset] [(.int (own_hit (0 : Int32) (Int32.ofNat D) (Int32.ofNat Q))), (.int ((own_hit (1 : Int32) (Int32.ofNat A) (Int32.ofNat Q)) + (own_hit (1 : Int32) (Int32.ofNat B) (Int32.ofNat Q))))]))
              refine own_lift (fun tz kz => XS.iadd Xk_34.here hx rfl (hb hby at_161) rfl kz) ?_
              show own_Fin p e below _ (Tk_34.setTop (mkF m 162 #[.val (.int p1), .val (.int p2), .val (.int p3), .val (.int p4), .val (.int p5), .val (.int nv), .val (.int w), .val (.int (Int32.ofNat A)), .val (.int (Int32.ofNat B)), .val (.int (Int32.ofNat D)), .val (.int (Int32.ofNat Q)), .val (.ref bo_1), .unset] [(.int (((own_hit (1 : Int32) (Int32.ofNat A) (Int32.ofNat Q)) + (own_hit (1 : Int32) (Int32.ofNat B) (Int32.ofNat Q))) + (own_hit (0 : Int32) (Int32.ofNat D) (Int32.ofNat Q))))]))
              refine own_lift (fun tz kz => XS.istore Xk_34.here hx rfl (hb hby at_162) rfl (l' := #[.val (.int p1), .val (.int p2), .val (.int p3), .val (.int p4), .val (.int p5), .val (.int nv), .val (.int w), .val (.int (Int32.ofNat A)), .val (.int (Int32.ofNat B)), .val (.int (Int32.ofNat D)), .val (.int (Int32.ofNat Q)), .val (.ref bo_1), .val (.int (((own_hit (1 : Int32) (Int32.ofNat A) (Int32.ofNat Q)) + (own_hit (1 : Int32) (Int32.ofNat B) (Int32.ofNat Q))) + (own_hit (0 : Int32) (Int32.ofNat D) (Int32.ofNat Q))))]) rfl kz) ?_
              show own_Fin p e below _ (Tk_34.setTop (mkF m 164 #[.val (.int p1), .val (.int p2), .val (.int p3), .val (.int p4), .val (.int p5), .val (.int nv), .val (.int w), .val (.int (Int32.ofNat A)), .val (.int (Int32.ofNat B)), .val (.int (Int32.ofNat D)), .val (.int (Int32.ofNat Q)), .val (.ref bo_1), .val (.int (((own_hit (1 : Int32) (Int32.ofNat A) (Int32.ofNat Q)) + (own_hit (1 : Int32) (Int32.ofNat B) (Int32.ofNat Q))) + (own_hit (0 : Int32) (Int32.ofNat D) (Int32.ofNat Q))))] []))
              have hfin : ((own_st (nv < (3 : Int32)) D (own_st (nv < (2 : Int32)) B (own_st (nv < (1 : Int32)) A (fun _ => 0)))) Q) = (((own_hit (1 : Int32) (Int32.ofNat A) (Int32.ofNat Q)) + (own_hit (1 : Int32) (Int32.ofNat B) (Int32.ofNat Q))) + (own_hit (0 : Int32) (Int32.ofNat D) (Int32.ofNat Q))) := by rw [own_fin (nv < (1 : Int32)) (nv < (2 : Int32)) (nv < (3 : Int32)) hA hB hD hQ, if_neg hc109_3, if_neg hc127_23, if_pos hc146_33]
              refine own_lift (fun tz kz => XS.aload Xk_34.here hx rfl (hb hby at_164) rfl rfl kz) ?_
              show own_Fin p e below _ (Tk_34.setTop (mkF m 166 #[.val (.int p1), .val (.int p2), .val (.int p3), .val (.int p4), .val (.int p5), .val (.int nv), .val (.int w), .val (.int (Int32.ofNat A)), .val (.int (Int32.ofNat B)), .val (.int (Int32.ofNat D)), .val (.int (Int32.ofNat Q)), .val (.ref bo_1), .val (.int (((own_hit (1 : Int32) (Int32.ofNat A) (Int32.ofNat Q)) + (own_hit (1 : Int32) (Int32.ofNat B) (Int32.ofNat Q))) + (own_hit (0 : Int32) (Int32.ofNat D) (Int32.ofNat Q))))] [(.ref bo_1)]))
              refine own_lift (fun tz kz => XS.iload Xk_34.here hx rfl (hb hby at_166) rfl kz) ?_
              show own_Fin p e below _ (Tk_34.setTop (mkF m 168 #[.val (.int p1), .val (.int p2), .val (.int p3), .val (.int p4), .val (.int p5), .val (.int nv), .val (.int w), .val (.int (Int32.ofNat A)), .val (.int (Int32.ofNat B)), .val (.int (Int32.ofNat D)), .val (.int (Int32.ofNat Q)), .val (.ref bo_1), .val (.int (((own_hit (1 : Int32) (Int32.ofNat A) (Int32.ofNat Q)) + (own_hit (1 : Int32) (Int32.ofNat B) (Int32.ofNat Q))) + (own_hit (0 : Int32) (Int32.ofNat D) (Int32.ofNat Q))))] [(.int (Int32.ofNat Q)), (.ref bo_1)]))
              obtain ⟨cqk_35, kqk_35, qk_35a, qk_35b, qk_35c⟩ := isOf hZ ek_34 E106
              obtain ⟨_, _, ⟨Tk_35, Lk_35, kk_35, nk_35⟩, -, Xk_35, ⟨Lck_35, hQk_35, lk_35, yk_35, zk_35⟩, stk_35⟩ := Xk_34.virtualBack hx (y := (⟨"com/example/porridge/porridge/engine/VectorClock", "get", "(I)I"⟩ : MethodName)) (z := (⟨"com/example/porridge/porridge/engine/VectorClock", "get", "(I)I"⟩ : MethodName)) hown (mvT hZ (hw _ (List.mem_of_getElem? (i := 16) rfl))) (mvT hZ (hw _ (List.mem_of_getElem? (i := 17) rfl))) (notFace_of_selects (args := #[]) (mvT hZ (hw _ (List.mem_of_getElem? (i := 19) rfl)))) (mvT hZ (hw _ (List.mem_of_getElem? (i := 19) rfl))) (mvT hZ (hw _ (List.mem_of_getElem? (i := 18) rfl))) (by decide) (backOf (W := 0) (rm4 l Z a0 hw [] bo_1 Q n106 (own_st (nv < (3 : Int32)) D (own_st (nv < (2 : Int32)) B (own_st (nv < (1 : Int32)) A (fun _ => 0)))) T106.heap n0 SZ106 hQ H106) hZ (hw _ (List.mem_of_getElem? (i := 20) rfl)) (hw _ (List.mem_of_getElem? (i := 2) rfl)) (by decide) (by decide)) qk_35a qk_35c (g := (mkF m 168 #[.val (.int p1), .val (.int p2), .val (.int p3), .val (.int p4), .val (.int p5), .val (.int nv), .val (.int w), .val (.int (Int32.ofNat A)), .val (.int (Int32.ofNat B)), .val (.int (Int32.ofNat D)), .val (.int (Int32.ofNat Q)), .val (.ref bo_1), .val (.int (((own_hit (1 : Int32) (Int32.ofNat A) (Int32.ofNat Q)) + (own_hit (1 : Int32) (Int32.ofNat B) (Int32.ofNat Q))) + (own_hit (0 : Int32) (Int32.ofNat D) (Int32.ofNat Q))))] [(.int (Int32.ofNat Q)), (.ref bo_1)])) rfl (by rw [hml]; rfl) (Steps.refl _) (argsL := [(.int (Int32.ofNat Q))]) (rest := []) (lenOf pd_4 rfl) rfl (by show 2 * 0 + _ ≤ _; exact Nat.le_of_eq rfl) (hb hby at_168) (fun _ _ => ⟨rfl, ek_34, (by decide : 5 + 0 ≤ _), (by decide : 25 + 0 ≤ _)⟩)
              dsimp only [Pt.U, Pt.locs, Pt.cells, Pt.slots] at Xk_35 lk_35 yk_35 zk_35 stk_35 hQk_35
              subst lk_35 yk_35 zk_35
              obtain ⟨rfl, Nk_35q, ek_35⟩ := hQk_35
              have Nk_35 := Fr.app Nk_34 Nk_35q
              refine own_lift (fun tz kz => stk_35.trans kz) ?_
              show own_Fin p e below _ (Tk_35.setTop (mkF m 171 #[.val (.int p1), .val (.int p2), .val (.int p3), .val (.int p4), .val (.int p5), .val (.int nv), .val (.int w), .val (.int (Int32.ofNat A)), .val (.int (Int32.ofNat B)), .val (.int (Int32.ofNat D)), .val (.int (Int32.ofNat Q)), .val (.ref bo_1), .val (.int (((own_hit (1 : Int32) (Int32.ofNat A) (Int32.ofNat Q)) + (own_hit (1 : Int32) (Int32.ofNat B) (Int32.ofNat Q))) + (own_hit (0 : Int32) (Int32.ofNat D) (Int32.ofNat Q))))] [(.int ((own_st (nv < (3 : Int32)) D (own_st (nv < (2 : Int32)) B (own_st (nv < (1 : Int32)) A (fun _ => 0)))) Q))]))
              refine own_lift (fun tz kz => XS.iload Xk_35.here hx rfl (hb hby at_171) rfl kz) ?_
              show own_Fin p e below _ (Tk_35.setTop (mkF m 173 #[.val (.int p1), .val (.int p2), .val (.int p3), .val (.int p4), .val (.int p5), .val (.int nv), .val (.int w), .val (.int (Int32.ofNat A)), .val (.int (Int32.ofNat B)), .val (.int (Int32.ofNat D)), .val (.int (Int32.ofNat Q)), .val (.ref bo_1), .val (.int (((own_hit (1 : Int32) (Int32.ofNat A) (Int32.ofNat Q)) + (own_hit (1 : Int32) (Int32.ofNat B) (Int32.ofNat Q))) + (own_hit (0 : Int32) (Int32.ofNat D) (Int32.ofNat Q))))] [(.int (((own_hit (1 : Int32) (Int32.ofNat A) (Int32.ofNat Q)) + (own_hit (1 : Int32) (Int32.ofNat B) (Int32.ofNat Q))) + (own_hit (0 : Int32) (Int32.ofNat D) (Int32.ofNat Q)))), (.int ((own_st (nv < (3 : Int32)) D (own_st (nv < (2 : Int32)) B (own_st (nv < (1 : Int32)) A (fun _ => 0)))) Q))]))
              refine own_lift (fun tz kz => XS.icmpNo Xk_35.here hx rfl (hb hby at_173) rfl (teq hfin).2 kz) ?_
              show own_Fin p e below _ (Tk_35.setTop (mkF m 176 #[.val (.int p1), .val (.int p2), .val (.int p3), .val (.int p4), .val (.int p5), .val (.int nv), .val (.int w), .val (.int (Int32.ofNat A)), .val (.int (Int32.ofNat B)), .val (.int (Int32.ofNat D)), .val (.int (Int32.ofNat Q)), .val (.ref bo_1), .val (.int (((own_hit (1 : Int32) (Int32.ofNat A) (Int32.ofNat Q)) + (own_hit (1 : Int32) (Int32.ofNat B) (Int32.ofNat Q))) + (own_hit (0 : Int32) (Int32.ofNat D) (Int32.ofNat Q))))] []))
              refine own_lift (fun tz kz => XS.iconst Xk_35.here hx rfl (hb hby at_176) kz) ?_
              show own_Fin p e below _ (Tk_35.setTop (mkF m 177 #[.val (.int p1), .val (.int p2), .val (.int p3), .val (.int p4), .val (.int p5), .val (.int nv), .val (.int w), .val (.int (Int32.ofNat A)), .val (.int (Int32.ofNat B)), .val (.int (Int32.ofNat D)), .val (.int (Int32.ofNat Q)), .val (.ref bo_1), .val (.int (((own_hit (1 : Int32) (Int32.ofNat A) (Int32.ofNat Q)) + (own_hit (1 : Int32) (Int32.ofNat B) (Int32.ofNat Q))) + (own_hit (0 : Int32) (Int32.ofNat D) (Int32.ofNat Q))))] [(.int (1 : Int32))]))
              refine own_lift (fun tz kz => XS.goto Xk_35.here hx rfl (pc0 := 177) (pc' := 181) rfl (hb hby at_177) (by decide) (by decide) kz) ?_
              show own_Fin p e below _ (Tk_35.setTop (mkF m 181 #[.val (.int p1), .val (.int p2), .val (.int p3), .val (.int p4), .val (.int p5), .val (.int nv), .val (.int w), .val (.int (Int32.ofNat A)), .val (.int (Int32.ofNat B)), .val (.int (Int32.ofNat D)), .val (.int (Int32.ofNat Q)), .val (.ref bo_1), .val (.int (((own_hit (1 : Int32) (Int32.ofNat A) (Int32.ofNat Q)) + (own_hit (1 : Int32) (Int32.ofNat B) (Int32.ofNat Q))) + (own_hit (0 : Int32) (Int32.ofNat D) (Int32.ofNat Q))))] [(.int (1 : Int32))]))
              obtain ⟨fs, hr, hrun, hended, hW, hsame⟩ := Xk_35.leave (v := some (.int (1 : Int32))) (fun h => by rw [Bd.returns] at h; cases h)
              exact ⟨_, _, retN Xk_35 hx (t := .boolean) Bd.returns (by simp) (hb hby at_181) hr, hrun, hended, _, _, rfl, ⟨rfl, Nk_35⟩, ⟨_, rfl⟩, hW, hsame.mono (by decide) (by decide)⟩
            · refine own_lift (fun tz kz => XS.icmpNo Xk_32.here hx rfl (hb hby at_146) rfl (flt hc146_33).1 kz) ?_
              show own_Fin p e below _ (Tk_32.setTop (mkF m 149 #[.val (.int p1), .val (.int p2), .val (.int p3), .val (.int p4), .val (.int p5), .val (.int nv), .val (.int w), .val (.int (Int32.ofNat A)), .val (.int (Int32.ofNat B)), .val (.int (Int32.ofNat D)), .val (.int (Int32.ofNat Q)), .val (.ref bo_1), .unset] [(.int ((own_hit (1 : Int32) (Int32.ofNat A) (Int32.ofNat Q)) + (own_hit (1 : Int32) (Int32.ofNat B) (Int32.ofNat Q))))]))
              refine own_lift (fun tz kz => XS.iconst Xk_32.here hx rfl (hb hby at_149) kz) ?_
              show own_Fin p e below _ (Tk_32.setTop (mkF m 150 #[.val (.int p1), .val (.int p2), .val (.int p3), .val (.int p4), .val (.int p5), .val (.int nv), .val (.int w), .val (.int (Int32.ofNat A)), .val (.int (Int32.ofNat B)), .val (.int (Int32.ofNat D)), .val (.int (Int32.ofNat Q)), .val (.ref bo_1), .unset] [(.int (1 : Int32)), (.int ((own_hit (1 : Int32) (Int32.ofNat A) (Int32.ofNat Q)) + (own_hit (1 : Int32) (Int32.ofNat B) (Int32.ofNat Q))))]))
              refine own_lift (fun tz kz => XS.goto Xk_32.here hx rfl (pc0 := 150) (pc' := 154) rfl (hb hby at_150) (by decide) (by decide) kz) ?_
              show own_Fin p e below _ (Tk_32.setTop (mkF m 154 #[.val (.int p1), .val (.int p2), .val (.int p3), .val (.int p4), .val (.int p5), .val (.int nv), .val (.int w), .val (.int (Int32.ofNat A)), .val (.int (Int32.ofNat B)), .val (.int (Int32.ofNat D)), .val (.int (Int32.ofNat Q)), .val (.ref bo_1), .unset] [(.int (1 : Int32)), (.int ((own_hit (1 : Int32) (Int32.ofNat A) (Int32.ofNat Q)) + (own_hit (1 : Int32) (Int32.ofNat B) (Int32.ofNat Q))))]))
              refine own_lift (fun tz kz => XS.iload Xk_32.here hx rfl (hb hby at_154) rfl kz) ?_
              show own_Fin p e below _ (Tk_32.setTop (mkF m 156 #[.val (.int p1), .val (.int p2), .val (.int p3), .val (.int p4), .val (.int p5), .val (.int nv), .val (.int w), .val (.int (Int32.ofNat A)), .val (.int (Int32.ofNat B)), .val (.int (Int32.ofNat D)), .val (.int (Int32.ofNat Q)), .val (.ref bo_1), .unset] [(.int (Int32.ofNat D)), (.int (1 : Int32)), (.int ((own_hit (1 : Int32) (Int32.ofNat A) (Int32.ofNat Q)) + (own_hit (1 : Int32) (Int32.ofNat B) (Int32.ofNat Q))))]))
              refine own_lift (fun tz kz => XS.iload Xk_32.here hx rfl (hb hby at_156) rfl kz) ?_
              show own_Fin p e below _ (Tk_32.setTop (mkF m 158 #[.val (.int p1), .val (.int p2), .val (.int p3), .val (.int p4), .val (.int p5), .val (.int nv), .val (.int w), .val (.int (Int32.ofNat A)), .val (.int (Int32.ofNat B)), .val (.int (Int32.ofNat D)), .val (.int (Int32.ofNat Q)), .val (.ref bo_1), .unset] [(.int (Int32.ofNat Q)), (.int (Int32.ofNat D)), (.int (1 : Int32)), (.int ((own_hit (1 : Int32) (Int32.ofNat A) (Int32.ofNat Q)) + (own_hit (1 : Int32) (Int32.ofNat B) (Int32.ofNat Q))))]))
              obtain ⟨_, _, ⟨Tk_37, Lk_37, kk_37, nk_37⟩, -, Xk_37, ⟨Lck_37, hQk_37, lk_37, yk_37, zk_37⟩, stk_37⟩ := Jvm.LawKit.callS Xk_32 hx (y := (⟨"com/example/porridge/porridge/engine/VectorClockGetPinLaw", "hit", "(ZII)I"⟩ : MethodName)) hown (mvT hZ (hw _ (List.mem_of_getElem? (i := 12) rfl))) (mvT hZ (hw _ (List.mem_of_getElem? (i := 13) rfl))) (mvT hZ (hw _ (List.mem_of_getElem? (i := 14) rfl))) (mvT hZ (hw _ (List.mem_of_getElem? (i := 15) rfl))) (by decide) (backOf (W := 1) (rm3 l Z a0 hw [] (1 : Int32) (Int32.ofNat D) (Int32.ofNat Q) T106.heap n0 SZ106) hZ (hw _ (List.mem_of_getElem? (i := 15) rfl)) (hw _ (List.mem_of_getElem? (i := 14) rfl)) (by decide) (by decide)) (g := (mkF m 158 #[.val (.int p1), .val (.int p2), .val (.int p3), .val (.int p4), .val (.int p5), .val (.int nv), .val (.int w), .val (.int (Int32.ofNat A)), .val (.int (Int32.ofNat B)), .val (.int (Int32.ofNat D)), .val (.int (Int32.ofNat Q)), .val (.ref bo_1), .unset] [(.int (Int32.ofNat Q)), (.int (Int32.ofNat D)), (.int (1 : Int32)), (.int ((own_hit (1 : Int32) (Int32.ofNat A) (Int32.ofNat Q)) + (own_hit (1 : Int32) (Int32.ofNat B) (Int32.ofNat Q))))])) rfl (by rw [hml]; rfl) (argsL := [(.int (1 : Int32)), (.int (Int32.ofNat D)), (.int (Int32.ofNat Q))]) (rest := [(.int ((own_hit (1 : Int32) (Int32.ofNat A) (Int32.ofNat Q)) + (own_hit (1 : Int32) (Int32.ofNat B) (Int32.ofNat Q))))]) (lenOf pd_3 rfl) rfl (by show 2 * 0 + _ ≤ _; exact Nat.le_of_eq rfl) (hb hby at_158) (fun _ _ => ⟨rfl, ek_32, (by decide : 5 + 0 ≤ _), (by decide : 25 + 0 ≤ _)⟩)
              dsimp only [Pt.U, Pt.locs, Pt.cells, Pt.slots] at Xk_37 lk_37 yk_37 zk_37 stk_37 hQk_37
              subst lk_37 yk_37 zk_37
              obtain ⟨rfl, Nk_37q, ek_37⟩ := hQk_37
              have Nk_37 := Fr.app Nk_32 Nk_37q
              refine own_lift (fun tz kz => stk_37 _ kz) ?_
              show own_Fin p e below _ (Tk_37.setTop (mkF m 161 #[.val (.int p1), .val (.int p2), .val (.int p3), .val (.int p4), .val (.int p5), .val (.int nv), .val (.int w), .val (.int (Int32.ofNat A)), .val (.int (Int32.ofNat B)), .val (.int (Int32.ofNat D)), .val (.int (Int32.ofNat Q)), .val (.ref bo_1), .unset] [(.int (own_hit (1 : Int32) (Int32.ofNat D) (Int32.ofNat Q))), (.int ((own_hit (1 : Int32) (Int32.ofNat A) (Int32.ofNat Q)) + (own_hit (1 : Int32) (Int32.ofNat B) (Int32.ofNat Q))))]))
              refine own_lift (fun tz kz => XS.iadd Xk_37.here hx rfl (hb hby at_161) rfl kz) ?_
              show own_Fin p e below _ (Tk_37.setTop (mkF m 162 #[.val (.int p1), .val (.int p2), .val (.int p3), .val (.int p4), .val (.int p5), .val (.int nv), .val (.int w), .val (.int (Int32.ofNat A)), .val (.int (Int32.ofNat B)), .val (.int (Int32.ofNat D)), .val (.int (Int32.ofNat Q)), .val (.ref bo_1), .unset] [(.int (((own_hit (1 : Int32) (Int32.ofNat A) (Int32.ofNat Q)) + (own_hit (1 : Int32) (Int32.ofNat B) (Int32.ofNat Q))) + (own_hit (1 : Int32) (Int32.ofNat D) (Int32.ofNat Q))))]))
              refine own_lift (fun tz kz => XS.istore Xk_37.here hx rfl (hb hby at_162) rfl (l' := #[.val (.int p1), .val (.int p2), .val (.int p3), .val (.int p4), .val (.int p5), .val (.int nv), .val (.int w), .val (.int (Int32.ofNat A)), .val (.int (Int32.ofNat B)), .val (.int (Int32.ofNat D)), .val (.int (Int32.ofNat Q)), .val (.ref bo_1), .val (.int (((own_hit (1 : Int32) (Int32.ofNat A) (Int32.ofNat Q)) + (own_hit (1 : Int32) (Int32.ofNat B) (Int32.ofNat Q))) + (own_hit (1 : Int32) (Int32.ofNat D) (Int32.ofNat Q))))]) rfl kz) ?_
              show own_Fin p e below _ (Tk_37.setTop (mkF m 164 #[.val (.int p1), .val (.int p2), .val (.int p3), .val (.int p4), .val (.int p5), .val (.int nv), .val (.int w), .val (.int (Int32.ofNat A)), .val (.int (Int32.ofNat B)), .val (.int (Int32.ofNat D)), .val (.int (Int32.ofNat Q)), .val (.ref bo_1), .val (.int (((own_hit (1 : Int32) (Int32.ofNat A) (Int32.ofNat Q)) + (own_hit (1 : Int32) (Int32.ofNat B) (Int32.ofNat Q))) + (own_hit (1 : Int32) (Int32.ofNat D) (Int32.ofNat Q))))] []))
              have hfin : ((own_st (nv < (3 : Int32)) D (own_st (nv < (2 : Int32)) B (own_st (nv < (1 : Int32)) A (fun _ => 0)))) Q) = (((own_hit (1 : Int32) (Int32.ofNat A) (Int32.ofNat Q)) + (own_hit (1 : Int32) (Int32.ofNat B) (Int32.ofNat Q))) + (own_hit (1 : Int32) (Int32.ofNat D) (Int32.ofNat Q))) := by rw [own_fin (nv < (1 : Int32)) (nv < (2 : Int32)) (nv < (3 : Int32)) hA hB hD hQ, if_neg hc109_3, if_neg hc127_23, if_neg hc146_33]
              refine own_lift (fun tz kz => XS.aload Xk_37.here hx rfl (hb hby at_164) rfl rfl kz) ?_
              show own_Fin p e below _ (Tk_37.setTop (mkF m 166 #[.val (.int p1), .val (.int p2), .val (.int p3), .val (.int p4), .val (.int p5), .val (.int nv), .val (.int w), .val (.int (Int32.ofNat A)), .val (.int (Int32.ofNat B)), .val (.int (Int32.ofNat D)), .val (.int (Int32.ofNat Q)), .val (.ref bo_1), .val (.int (((own_hit (1 : Int32) (Int32.ofNat A) (Int32.ofNat Q)) + (own_hit (1 : Int32) (Int32.ofNat B) (Int32.ofNat Q))) + (own_hit (1 : Int32) (Int32.ofNat D) (Int32.ofNat Q))))] [(.ref bo_1)]))
              refine own_lift (fun tz kz => XS.iload Xk_37.here hx rfl (hb hby at_166) rfl kz) ?_
              show own_Fin p e below _ (Tk_37.setTop (mkF m 168 #[.val (.int p1), .val (.int p2), .val (.int p3), .val (.int p4), .val (.int p5), .val (.int nv), .val (.int w), .val (.int (Int32.ofNat A)), .val (.int (Int32.ofNat B)), .val (.int (Int32.ofNat D)), .val (.int (Int32.ofNat Q)), .val (.ref bo_1), .val (.int (((own_hit (1 : Int32) (Int32.ofNat A) (Int32.ofNat Q)) + (own_hit (1 : Int32) (Int32.ofNat B) (Int32.ofNat Q))) + (own_hit (1 : Int32) (Int32.ofNat D) (Int32.ofNat Q))))] [(.int (Int32.ofNat Q)), (.ref bo_1)]))
              obtain ⟨cqk_38, kqk_38, qk_38a, qk_38b, qk_38c⟩ := isOf hZ ek_37 E106
              obtain ⟨_, _, ⟨Tk_38, Lk_38, kk_38, nk_38⟩, -, Xk_38, ⟨Lck_38, hQk_38, lk_38, yk_38, zk_38⟩, stk_38⟩ := Xk_37.virtualBack hx (y := (⟨"com/example/porridge/porridge/engine/VectorClock", "get", "(I)I"⟩ : MethodName)) (z := (⟨"com/example/porridge/porridge/engine/VectorClock", "get", "(I)I"⟩ : MethodName)) hown (mvT hZ (hw _ (List.mem_of_getElem? (i := 16) rfl))) (mvT hZ (hw _ (List.mem_of_getElem? (i := 17) rfl))) (notFace_of_selects (args := #[]) (mvT hZ (hw _ (List.mem_of_getElem? (i := 19) rfl)))) (mvT hZ (hw _ (List.mem_of_getElem? (i := 19) rfl))) (mvT hZ (hw _ (List.mem_of_getElem? (i := 18) rfl))) (by decide) (backOf (W := 0) (rm4 l Z a0 hw [] bo_1 Q n106 (own_st (nv < (3 : Int32)) D (own_st (nv < (2 : Int32)) B (own_st (nv < (1 : Int32)) A (fun _ => 0)))) T106.heap n0 SZ106 hQ H106) hZ (hw _ (List.mem_of_getElem? (i := 20) rfl)) (hw _ (List.mem_of_getElem? (i := 2) rfl)) (by decide) (by decide)) qk_38a qk_38c (g := (mkF m 168 #[.val (.int p1), .val (.int p2), .val (.int p3), .val (.int p4), .val (.int p5), .val (.int nv), .val (.int w), .val (.int (Int32.ofNat A)), .val (.int (Int32.ofNat B)), .val (.int (Int32.ofNat D)), .val (.int (Int32.ofNat Q)), .val (.ref bo_1), .val (.int (((own_hit (1 : Int32) (Int32.ofNat A) (Int32.ofNat Q)) + (own_hit (1 : Int32) (Int32.ofNat B) (Int32.ofNat Q))) + (own_hit (1 : Int32) (Int32.ofNat D) (Int32.ofNat Q))))] [(.int (Int32.ofNat Q)), (.ref bo_1)])) rfl (by rw [hml]; rfl) (Steps.refl _) (argsL := [(.int (Int32.ofNat Q))]) (rest := []) (lenOf pd_4 rfl) rfl (by show 2 * 0 + _ ≤ _; exact Nat.le_of_eq rfl) (hb hby at_168) (fun _ _ => ⟨rfl, ek_37, (by decide : 5 + 0 ≤ _), (by decide : 25 + 0 ≤ _)⟩)
              dsimp only [Pt.U, Pt.locs, Pt.cells, Pt.slots] at Xk_38 lk_38 yk_38 zk_38 stk_38 hQk_38
              subst lk_38 yk_38 zk_38
              obtain ⟨rfl, Nk_38q, ek_38⟩ := hQk_38
              have Nk_38 := Fr.app Nk_37 Nk_38q
              refine own_lift (fun tz kz => stk_38.trans kz) ?_
              show own_Fin p e below _ (Tk_38.setTop (mkF m 171 #[.val (.int p1), .val (.int p2), .val (.int p3), .val (.int p4), .val (.int p5), .val (.int nv), .val (.int w), .val (.int (Int32.ofNat A)), .val (.int (Int32.ofNat B)), .val (.int (Int32.ofNat D)), .val (.int (Int32.ofNat Q)), .val (.ref bo_1), .val (.int (((own_hit (1 : Int32) (Int32.ofNat A) (Int32.ofNat Q)) + (own_hit (1 : Int32) (Int32.ofNat B) (Int32.ofNat Q))) + (own_hit (1 : Int32) (Int32.ofNat D) (Int32.ofNat Q))))] [(.int ((own_st (nv < (3 : Int32)) D (own_st (nv < (2 : Int32)) B (own_st (nv < (1 : Int32)) A (fun _ => 0)))) Q))]))
              refine own_lift (fun tz kz => XS.iload Xk_38.here hx rfl (hb hby at_171) rfl kz) ?_
              show own_Fin p e below _ (Tk_38.setTop (mkF m 173 #[.val (.int p1), .val (.int p2), .val (.int p3), .val (.int p4), .val (.int p5), .val (.int nv), .val (.int w), .val (.int (Int32.ofNat A)), .val (.int (Int32.ofNat B)), .val (.int (Int32.ofNat D)), .val (.int (Int32.ofNat Q)), .val (.ref bo_1), .val (.int (((own_hit (1 : Int32) (Int32.ofNat A) (Int32.ofNat Q)) + (own_hit (1 : Int32) (Int32.ofNat B) (Int32.ofNat Q))) + (own_hit (1 : Int32) (Int32.ofNat D) (Int32.ofNat Q))))] [(.int (((own_hit (1 : Int32) (Int32.ofNat A) (Int32.ofNat Q)) + (own_hit (1 : Int32) (Int32.ofNat B) (Int32.ofNat Q))) + (own_hit (1 : Int32) (Int32.ofNat D) (Int32.ofNat Q)))), (.int ((own_st (nv < (3 : Int32)) D (own_st (nv < (2 : Int32)) B (own_st (nv < (1 : Int32)) A (fun _ => 0)))) Q))]))
              refine own_lift (fun tz kz => XS.icmpNo Xk_38.here hx rfl (hb hby at_173) rfl (teq hfin).2 kz) ?_
              show own_Fin p e below _ (Tk_38.setTop (mkF m 176 #[.val (.int p1), .val (.int p2), .val (.int p3), .val (.int p4), .val (.int p5), .val (.int nv), .val (.int w), .val (.int (Int32.ofNat A)), .val (.int (Int32.ofNat B)), .val (.int (Int32.ofNat D)), .val (.int (Int32.ofNat Q)), .val (.ref bo_1), .val (.int (((own_hit (1 : Int32) (Int32.ofNat A) (Int32.ofNat Q)) + (own_hit (1 : Int32) (Int32.ofNat B) (Int32.ofNat Q))) + (own_hit (1 : Int32) (Int32.ofNat D) (Int32.ofNat Q))))] []))
              refine own_lift (fun tz kz => XS.iconst Xk_38.here hx rfl (hb hby at_176) kz) ?_
              show own_Fin p e below _ (Tk_38.setTop (mkF m 177 #[.val (.int p1), .val (.int p2), .val (.int p3), .val (.int p4), .val (.int p5), .val (.int nv), .val (.int w), .val (.int (Int32.ofNat A)), .val (.int (Int32.ofNat B)), .val (.int (Int32.ofNat D)), .val (.int (Int32.ofNat Q)), .val (.ref bo_1), .val (.int (((own_hit (1 : Int32) (Int32.ofNat A) (Int32.ofNat Q)) + (own_hit (1 : Int32) (Int32.ofNat B) (Int32.ofNat Q))) + (own_hit (1 : Int32) (Int32.ofNat D) (Int32.ofNat Q))))] [(.int (1 : Int32))]))
              refine own_lift (fun tz kz => XS.goto Xk_38.here hx rfl (pc0 := 177) (pc' := 181) rfl (hb hby at_177) (by decide) (by decide) kz) ?_
              show own_Fin p e below _ (Tk_38.setTop (mkF m 181 #[.val (.int p1), .val (.int p2), .val (.int p3), .val (.int p4), .val (.int p5), .val (.int nv), .val (.int w), .val (.int (Int32.ofNat A)), .val (.int (Int32.ofNat B)), .val (.int (Int32.ofNat D)), .val (.int (Int32.ofNat Q)), .val (.ref bo_1), .val (.int (((own_hit (1 : Int32) (Int32.ofNat A) (Int32.ofNat Q)) + (own_hit (1 : Int32) (Int32.ofNat B) (Int32.ofNat Q))) + (own_hit (1 : Int32) (Int32.ofNat D) (Int32.ofNat Q))))] [(.int (1 : Int32))]))
              obtain ⟨fs, hr, hrun, hended, hW, hsame⟩ := Xk_38.leave (v := some (.int (1 : Int32))) (fun h => by rw [Bd.returns] at h; cases h)
              exact ⟨_, _, retN Xk_38 hx (t := .boolean) Bd.returns (by simp) (hb hby at_181) hr, hrun, hended, _, _, rfl, ⟨rfl, Nk_38⟩, ⟨_, rfl⟩, hW, hsame.mono (by decide) (by decide)⟩
      have j93 : ∀ (T93 : State) (locs93 : List Loc) (n93 : Nat), Stand p l e room_1 s m #[(.int p1), (.int p2), (.int p3), (.int p4), (.int p5)] below meth c T93 locs93 4 17 → Fr n0 locs93 → n0 ≤ T93.heap.size → own_clk Z T93.heap n0 bo_1 n93 (own_st (nv < (2 : Int32)) B (own_st (nv < (1 : Int32)) A (fun _ => 0))) → own_Fin p e below (fun o U' => ∃ v L, o = .returned v ∧ Q0 Z p1 p2 p3 p4 p5 h0 n0 v U'.heap L ∧ FrameEnd s o U' L room_1.cells room_1.slots) (T93.setTop (mkF m 93 #[.val (.int p1), .val (.int p2), .val (.int p3), .val (.int p4), .val (.int p5), .val (.int nv), .val (.int w), .val (.int (Int32.ofNat A)), .val (.int (Int32.ofNat B)), .val (.int (Int32.ofNat D)), .val (.int (Int32.ofNat Q)), .val (.ref bo_1), .unset] [])) := by
        intro T93 locs93 n93 X93 N93 SZ93 H93
        have E93 := H93.2.2.1
        refine own_lift (fun tz kz => XS.iload X93.here hx rfl (hb hby at_93) rfl kz) ?_
        show own_Fin p e below _ (T93.setTop (mkF m 95 #[.val (.int p1), .val (.int p2), .val (.int p3), .val (.int p4), .val (.int p5), .val (.int nv), .val (.int w), .val (.int (Int32.ofNat A)), .val (.int (Int32.ofNat B)), .val (.int (Int32.ofNat D)), .val (.int (Int32.ofNat Q)), .val (.ref bo_1), .unset] [(.int nv)]))
        refine own_lift (fun tz kz => XS.iconst X93.here hx rfl (hb hby at_95) kz) ?_
        show own_Fin p e below _ (T93.setTop (mkF m 96 #[.val (.int p1), .val (.int p2), .val (.int p3), .val (.int p4), .val (.int p5), .val (.int nv), .val (.int w), .val (.int (Int32.ofNat A)), .val (.int (Int32.ofNat B)), .val (.int (Int32.ofNat D)), .val (.int (Int32.ofNat Q)), .val (.ref bo_1), .unset] [(.int (3 : Int32)), (.int nv)]))
        by_cases hc96_40 : nv < (3 : Int32)
        · refine own_lift (fun tz kz => XS.icmpYes X93.here hx rfl (pc0 := 96) (pc' := 106) rfl (hb hby at_96) rfl (tlt hc96_40).1 (by decide) (by decide) kz) ?_
          show own_Fin p e below _ (T93.setTop (mkF m 106 #[.val (.int p1), .val (.int p2), .val (.int p3), .val (.int p4), .val (.int p5), .val (.int nv), .val (.int w), .val (.int (Int32.ofNat A)), .val (.int (Int32.ofNat B)), .val (.int (Int32.ofNat D)), .val (.int (Int32.ofNat Q)), .val (.ref bo_1), .unset] []))
          exact j106 _ _ _ (X93.more (by decide) (by decide)) N93 SZ93 (by rw [show (own_st (nv < (3 : Int32)) D (own_st (nv < (2 : Int32)) B (own_st (nv < (1 : Int32)) A (fun _ => 0)))) = (own_st (nv < (2 : Int32)) B (own_st (nv < (1 : Int32)) A (fun _ => 0))) from by unfold own_st; rw [if_pos hc96_40]]; exact H93)
        · refine own_lift (fun tz kz => XS.icmpNo X93.here hx rfl (hb hby at_96) rfl (flt hc96_40).1 kz) ?_
          show own_Fin p e below _ (T93.setTop (mkF m 99 #[.val (.int p1), .val (.int p2), .val (.int p3), .val (.int p4), .val (.int p5), .val (.int nv), .val (.int w), .val (.int (Int32.ofNat A)), .val (.int (Int32.ofNat B)), .val (.int (Int32.ofNat D)), .val (.int (Int32.ofNat Q)), .val (.ref bo_1), .unset] []))
          refine own_lift (fun tz kz => XS.aload X93.here hx rfl (hb hby at_99) rfl rfl kz) ?_
          show own_Fin p e below _ (T93.setTop (mkF m 101 #[.val (.int p1), .val (.int p2), .val (.int p3), .val (.int p4), .val (.int p5), .val (.int nv), .val (.int w), .val (.int (Int32.ofNat A)), .val (.int (Int32.ofNat B)), .val (.int (Int32.ofNat D)), .val (.int (Int32.ofNat Q)), .val (.ref bo_1), .unset] [(.ref bo_1)]))
          refine own_lift (fun tz kz => XS.iload X93.here hx rfl (hb hby at_101) rfl kz) ?_
          show own_Fin p e below _ (T93.setTop (mkF m 103 #[.val (.int p1), .val (.int p2), .val (.int p3), .val (.int p4), .val (.int p5), .val (.int nv), .val (.int w), .val (.int (Int32.ofNat A)), .val (.int (Int32.ofNat B)), .val (.int (Int32.ofNat D)), .val (.int (Int32.ofNat Q)), .val (.ref bo_1), .unset] [(.int (Int32.ofNat D)), (.ref bo_1)]))
          obtain ⟨cqk_41, kqk_41, qk_41a, qk_41b, qk_41c⟩ := isOf hZ rfl E93
          obtain ⟨_, _, ⟨Tk_41, Lk_41, kk_41, nk_41⟩, -, Xk_41, ⟨Lck_41, hQk_41, lk_41, yk_41, zk_41⟩, stk_41⟩ := X93.virtualBack hx (y := (⟨"com/example/porridge/porridge/engine/VectorClock", "increment", "(I)V"⟩ : MethodName)) (z := (⟨"com/example/porridge/porridge/engine/VectorClock", "increment", "(I)V"⟩ : MethodName)) hown (mvT hZ (hw _ (List.mem_of_getElem? (i := 21) rfl))) (mvT hZ (hw _ (List.mem_of_getElem? (i := 22) rfl))) (notFace_of_selects (args := #[]) (mvT hZ (hw _ (List.mem_of_getElem? (i := 24) rfl)))) (mvT hZ (hw _ (List.mem_of_getElem? (i := 24) rfl))) (mvT hZ (hw _ (List.mem_of_getElem? (i := 23) rfl))) (by decide) (backOf (W := 0) (rm5 l Z a0 hw [] bo_1 D n93 (own_st (nv < (2 : Int32)) B (own_st (nv < (1 : Int32)) A (fun _ => 0))) T93.heap n0 SZ93 hD H93) hZ (hw _ (List.mem_of_getElem? (i := 25) rfl)) (hw _ (List.mem_of_getElem? (i := 2) rfl)) (by decide) (by decide)) qk_41a qk_41c (g := (mkF m 103 #[.val (.int p1), .val (.int p2), .val (.int p3), .val (.int p4), .val (.int p5), .val (.int nv), .val (.int w), .val (.int (Int32.ofNat A)), .val (.int (Int32.ofNat B)), .val (.int (Int32.ofNat D)), .val (.int (Int32.ofNat Q)), .val (.ref bo_1), .unset] [(.int (Int32.ofNat D)), (.ref bo_1)])) rfl (by rw [hml]; rfl) (Steps.refl _) (argsL := [(.int (Int32.ofNat D))]) (rest := []) (lenOf pd_5 rfl) rfl (by show 2 * 0 + _ ≤ _; exact Nat.le_of_eq rfl) (hb hby at_103) (fun _ _ => ⟨rfl, rfl, (by decide : 4 + 1 ≤ _), (by decide : 17 + 8 ≤ _)⟩)
          dsimp only [Pt.U, Pt.locs, Pt.cells, Pt.slots] at Xk_41 lk_41 yk_41 zk_41 stk_41 hQk_41
          subst lk_41 yk_41 zk_41
          obtain ⟨rfl, Nk_41q, hsk_41, nk_41, Hk_41⟩ := hQk_41
          have Nk_41 := Fr.app N93 Nk_41q
          refine own_lift (fun tz kz => stk_41.trans kz) ?_
          have SZk_41 : n0 ≤ Tk_41.heap.size := Nat.le_trans SZ93 hsk_41
          have Ek_41 := Hk_41.2.2.1
          show own_Fin p e below _ (Tk_41.setTop (mkF m 106 #[.val (.int p1), .val (.int p2), .val (.int p3), .val (.int p4), .val (.int p5), .val (.int nv), .val (.int w), .val (.int (Int32.ofNat A)), .val (.int (Int32.ofNat B)), .val (.int (Int32.ofNat D)), .val (.int (Int32.ofNat Q)), .val (.ref bo_1), .unset] []))
          exact j106 _ _ _ (Xk_41.more (by decide) (by decide)) Nk_41 SZk_41 (by rw [show (own_st (nv < (3 : Int32)) D (own_st (nv < (2 : Int32)) B (own_st (nv < (1 : Int32)) A (fun _ => 0)))) = (own_upd (own_st (nv < (2 : Int32)) B (own_st (nv < (1 : Int32)) A (fun _ => 0))) D) from by unfold own_st; rw [if_neg hc96_40]]; exact Hk_41)
      have j80 : ∀ (T80 : State) (locs80 : List Loc) (n80 : Nat), Stand p l e room_1 s m #[(.int p1), (.int p2), (.int p3), (.int p4), (.int p5)] below meth c T80 locs80 3 9 → Fr n0 locs80 → n0 ≤ T80.heap.size → own_clk Z T80.heap n0 bo_1 n80 (own_st (nv < (1 : Int32)) A (fun _ => 0)) → own_Fin p e below (fun o U' => ∃ v L, o = .returned v ∧ Q0 Z p1 p2 p3 p4 p5 h0 n0 v U'.heap L ∧ FrameEnd s o U' L room_1.cells room_1.slots) (T80.setTop (mkF m 80 #[.val (.int p1), .val (.int p2), .val (.int p3), .val (.int p4), .val (.int p5), .val (.int nv), .val (.int w), .val (.int (Int32.ofNat A)), .val (.int (Int32.ofNat B)), .val (.int (Int32.ofNat D)), .val (.int (Int32.ofNat Q)), .val (.ref bo_1), .unset] [])) := by
        intro T80 locs80 n80 X80 N80 SZ80 H80
        have E80 := H80.2.2.1
        refine own_lift (fun tz kz => XS.iload X80.here hx rfl (hb hby at_80) rfl kz) ?_
        show own_Fin p e below _ (T80.setTop (mkF m 82 #[.val (.int p1), .val (.int p2), .val (.int p3), .val (.int p4), .val (.int p5), .val (.int nv), .val (.int w), .val (.int (Int32.ofNat A)), .val (.int (Int32.ofNat B)), .val (.int (Int32.ofNat D)), .val (.int (Int32.ofNat Q)), .val (.ref bo_1), .unset] [(.int nv)]))
        refine own_lift (fun tz kz => XS.iconst X80.here hx rfl (hb hby at_82) kz) ?_
        show own_Fin p e below _ (T80.setTop (mkF m 83 #[.val (.int p1), .val (.int p2), .val (.int p3), .val (.int p4), .val (.int p5), .val (.int nv), .val (.int w), .val (.int (Int32.ofNat A)), .val (.int (Int32.ofNat B)), .val (.int (Int32.ofNat D)), .val (.int (Int32.ofNat Q)), .val (.ref bo_1), .unset] [(.int (2 : Int32)), (.int nv)]))
        by_cases hc83_42 : nv < (2 : Int32)
        · refine own_lift (fun tz kz => XS.icmpYes X80.here hx rfl (pc0 := 83) (pc' := 93) rfl (hb hby at_83) rfl (tlt hc83_42).1 (by decide) (by decide) kz) ?_
          show own_Fin p e below _ (T80.setTop (mkF m 93 #[.val (.int p1), .val (.int p2), .val (.int p3), .val (.int p4), .val (.int p5), .val (.int nv), .val (.int w), .val (.int (Int32.ofNat A)), .val (.int (Int32.ofNat B)), .val (.int (Int32.ofNat D)), .val (.int (Int32.ofNat Q)), .val (.ref bo_1), .unset] []))
          exact j93 _ _ _ (X80.more (by decide) (by decide)) N80 SZ80 (by rw [show (own_st (nv < (2 : Int32)) B (own_st (nv < (1 : Int32)) A (fun _ => 0))) = (own_st (nv < (1 : Int32)) A (fun _ => 0)) from by unfold own_st; rw [if_pos hc83_42]]; exact H80)
        · refine own_lift (fun tz kz => XS.icmpNo X80.here hx rfl (hb hby at_83) rfl (flt hc83_42).1 kz) ?_
          show own_Fin p e below _ (T80.setTop (mkF m 86 #[.val (.int p1), .val (.int p2), .val (.int p3), .val (.int p4), .val (.int p5), .val (.int nv), .val (.int w), .val (.int (Int32.ofNat A)), .val (.int (Int32.ofNat B)), .val (.int (Int32.ofNat D)), .val (.int (Int32.ofNat Q)), .val (.ref bo_1), .unset] []))
          refine own_lift (fun tz kz => XS.aload X80.here hx rfl (hb hby at_86) rfl rfl kz) ?_
          show own_Fin p e below _ (T80.setTop (mkF m 88 #[.val (.int p1), .val (.int p2), .val (.int p3), .val (.int p4), .val (.int p5), .val (.int nv), .val (.int w), .val (.int (Int32.ofNat A)), .val (.int (Int32.ofNat B)), .val (.int (Int32.ofNat D)), .val (.int (Int32.ofNat Q)), .val (.ref bo_1), .unset] [(.ref bo_1)]))
          refine own_lift (fun tz kz => XS.iload X80.here hx rfl (hb hby at_88) rfl kz) ?_
          show own_Fin p e below _ (T80.setTop (mkF m 90 #[.val (.int p1), .val (.int p2), .val (.int p3), .val (.int p4), .val (.int p5), .val (.int nv), .val (.int w), .val (.int (Int32.ofNat A)), .val (.int (Int32.ofNat B)), .val (.int (Int32.ofNat D)), .val (.int (Int32.ofNat Q)), .val (.ref bo_1), .unset] [(.int (Int32.ofNat B)), (.ref bo_1)]))
          obtain ⟨cqk_43, kqk_43, qk_43a, qk_43b, qk_43c⟩ := isOf hZ rfl E80
          obtain ⟨_, _, ⟨Tk_43, Lk_43, kk_43, nk_43⟩, -, Xk_43, ⟨Lck_43, hQk_43, lk_43, yk_43, zk_43⟩, stk_43⟩ := X80.virtualBack hx (y := (⟨"com/example/porridge/porridge/engine/VectorClock", "increment", "(I)V"⟩ : MethodName)) (z := (⟨"com/example/porridge/porridge/engine/VectorClock", "increment", "(I)V"⟩ : MethodName)) hown (mvT hZ (hw _ (List.mem_of_getElem? (i := 21) rfl))) (mvT hZ (hw _ (List.mem_of_getElem? (i := 22) rfl))) (notFace_of_selects (args := #[]) (mvT hZ (hw _ (List.mem_of_getElem? (i := 24) rfl)))) (mvT hZ (hw _ (List.mem_of_getElem? (i := 24) rfl))) (mvT hZ (hw _ (List.mem_of_getElem? (i := 23) rfl))) (by decide) (backOf (W := 0) (rm5 l Z a0 hw [] bo_1 B n80 (own_st (nv < (1 : Int32)) A (fun _ => 0)) T80.heap n0 SZ80 hB H80) hZ (hw _ (List.mem_of_getElem? (i := 25) rfl)) (hw _ (List.mem_of_getElem? (i := 2) rfl)) (by decide) (by decide)) qk_43a qk_43c (g := (mkF m 90 #[.val (.int p1), .val (.int p2), .val (.int p3), .val (.int p4), .val (.int p5), .val (.int nv), .val (.int w), .val (.int (Int32.ofNat A)), .val (.int (Int32.ofNat B)), .val (.int (Int32.ofNat D)), .val (.int (Int32.ofNat Q)), .val (.ref bo_1), .unset] [(.int (Int32.ofNat B)), (.ref bo_1)])) rfl (by rw [hml]; rfl) (Steps.refl _) (argsL := [(.int (Int32.ofNat B))]) (rest := []) (lenOf pd_5 rfl) rfl (by show 2 * 0 + _ ≤ _; exact Nat.le_of_eq rfl) (hb hby at_90) (fun _ _ => ⟨rfl, rfl, (by decide : 3 + 1 ≤ _), (by decide : 9 + 8 ≤ _)⟩)
          dsimp only [Pt.U, Pt.locs, Pt.cells, Pt.slots] at Xk_43 lk_43 yk_43 zk_43 stk_43 hQk_43
          subst lk_43 yk_43 zk_43
          obtain ⟨rfl, Nk_43q, hsk_43, nk_43, Hk_43⟩ := hQk_43
          have Nk_43 := Fr.app N80 Nk_43q
          refine own_lift (fun tz kz => stk_43.trans kz) ?_
          have SZk_43 : n0 ≤ Tk_43.heap.size := Nat.le_trans SZ80 hsk_43
          have Ek_43 := Hk_43.2.2.1
          show own_Fin p e below _ (Tk_43.setTop (mkF m 93 #[.val (.int p1), .val (.int p2), .val (.int p3), .val (.int p4), .val (.int p5), .val (.int nv), .val (.int w), .val (.int (Int32.ofNat A)), .val (.int (Int32.ofNat B)), .val (.int (Int32.ofNat D)), .val (.int (Int32.ofNat Q)), .val (.ref bo_1), .unset] []))
          exact j93 _ _ _ (Xk_43.more (by decide) (by decide)) Nk_43 SZk_43 (by rw [show (own_st (nv < (2 : Int32)) B (own_st (nv < (1 : Int32)) A (fun _ => 0))) = (own_upd (own_st (nv < (1 : Int32)) A (fun _ => 0)) B) from by unfold own_st; rw [if_neg hc83_42]]; exact Hk_43)
      refine own_lift (fun tz kz => XS.iload Xk_2.here hx rfl (hb hby at_67) rfl kz) ?_
      show own_Fin p e below _ (Tk_2.setTop (mkF m 69 #[.val (.int p1), .val (.int p2), .val (.int p3), .val (.int p4), .val (.int p5), .val (.int nv), .val (.int w), .val (.int (Int32.ofNat A)), .val (.int (Int32.ofNat B)), .val (.int (Int32.ofNat D)), .val (.int (Int32.ofNat Q)), .val (.ref bo_1), .unset] [(.int nv)]))
      refine own_lift (fun tz kz => XS.iconst Xk_2.here hx rfl (hb hby at_69) kz) ?_
      show own_Fin p e below _ (Tk_2.setTop (mkF m 70 #[.val (.int p1), .val (.int p2), .val (.int p3), .val (.int p4), .val (.int p5), .val (.int nv), .val (.int w), .val (.int (Int32.ofNat A)), .val (.int (Int32.ofNat B)), .val (.int (Int32.ofNat D)), .val (.int (Int32.ofNat Q)), .val (.ref bo_1), .unset] [(.int (1 : Int32)), (.int nv)]))
      by_cases hc70_44 : nv < (1 : Int32)
      · refine own_lift (fun tz kz => XS.icmpYes Xk_2.here hx rfl (pc0 := 70) (pc' := 80) rfl (hb hby at_70) rfl (tlt hc70_44).1 (by decide) (by decide) kz) ?_
        show own_Fin p e below _ (Tk_2.setTop (mkF m 80 #[.val (.int p1), .val (.int p2), .val (.int p3), .val (.int p4), .val (.int p5), .val (.int nv), .val (.int w), .val (.int (Int32.ofNat A)), .val (.int (Int32.ofNat B)), .val (.int (Int32.ofNat D)), .val (.int (Int32.ofNat Q)), .val (.ref bo_1), .unset] []))
        exact j80 _ _ _ (Xk_2.more (by decide) (by decide)) Nk_2 SZk_2 (by rw [show (own_st (nv < (1 : Int32)) A (fun _ => 0)) = (fun _ => 0) from by unfold own_st; rw [if_pos hc70_44]]; exact Hk_2)
      · refine own_lift (fun tz kz => XS.icmpNo Xk_2.here hx rfl (hb hby at_70) rfl (flt hc70_44).1 kz) ?_
        show own_Fin p e below _ (Tk_2.setTop (mkF m 73 #[.val (.int p1), .val (.int p2), .val (.int p3), .val (.int p4), .val (.int p5), .val (.int nv), .val (.int w), .val (.int (Int32.ofNat A)), .val (.int (Int32.ofNat B)), .val (.int (Int32.ofNat D)), .val (.int (Int32.ofNat Q)), .val (.ref bo_1), .unset] []))
        refine own_lift (fun tz kz => XS.aload Xk_2.here hx rfl (hb hby at_73) rfl rfl kz) ?_
        show own_Fin p e below _ (Tk_2.setTop (mkF m 75 #[.val (.int p1), .val (.int p2), .val (.int p3), .val (.int p4), .val (.int p5), .val (.int nv), .val (.int w), .val (.int (Int32.ofNat A)), .val (.int (Int32.ofNat B)), .val (.int (Int32.ofNat D)), .val (.int (Int32.ofNat Q)), .val (.ref bo_1), .unset] [(.ref bo_1)]))
        refine own_lift (fun tz kz => XS.iload Xk_2.here hx rfl (hb hby at_75) rfl kz) ?_
        show own_Fin p e below _ (Tk_2.setTop (mkF m 77 #[.val (.int p1), .val (.int p2), .val (.int p3), .val (.int p4), .val (.int p5), .val (.int nv), .val (.int w), .val (.int (Int32.ofNat A)), .val (.int (Int32.ofNat B)), .val (.int (Int32.ofNat D)), .val (.int (Int32.ofNat Q)), .val (.ref bo_1), .unset] [(.int (Int32.ofNat A)), (.ref bo_1)]))
        obtain ⟨cqk_45, kqk_45, qk_45a, qk_45b, qk_45c⟩ := isOf hZ rfl Ek_2
        obtain ⟨_, _, ⟨Tk_45, Lk_45, kk_45, nk_45⟩, -, Xk_45, ⟨Lck_45, hQk_45, lk_45, yk_45, zk_45⟩, stk_45⟩ := Xk_2.virtualBack hx (y := (⟨"com/example/porridge/porridge/engine/VectorClock", "increment", "(I)V"⟩ : MethodName)) (z := (⟨"com/example/porridge/porridge/engine/VectorClock", "increment", "(I)V"⟩ : MethodName)) hown (mvT hZ (hw _ (List.mem_of_getElem? (i := 21) rfl))) (mvT hZ (hw _ (List.mem_of_getElem? (i := 22) rfl))) (notFace_of_selects (args := #[]) (mvT hZ (hw _ (List.mem_of_getElem? (i := 24) rfl)))) (mvT hZ (hw _ (List.mem_of_getElem? (i := 24) rfl))) (mvT hZ (hw _ (List.mem_of_getElem? (i := 23) rfl))) (by decide) (backOf (W := 0) (rm5 l Z a0 hw [] bo_1 A 0 (fun _ => 0) Tk_2.heap n0 SZk_2 hA Hk_2) hZ (hw _ (List.mem_of_getElem? (i := 25) rfl)) (hw _ (List.mem_of_getElem? (i := 2) rfl)) (by decide) (by decide)) qk_45a qk_45c (g := (mkF m 77 #[.val (.int p1), .val (.int p2), .val (.int p3), .val (.int p4), .val (.int p5), .val (.int nv), .val (.int w), .val (.int (Int32.ofNat A)), .val (.int (Int32.ofNat B)), .val (.int (Int32.ofNat D)), .val (.int (Int32.ofNat Q)), .val (.ref bo_1), .unset] [(.int (Int32.ofNat A)), (.ref bo_1)])) rfl (by rw [hml]; rfl) (Steps.refl _) (argsL := [(.int (Int32.ofNat A))]) (rest := []) (lenOf pd_5 rfl) rfl (by show 2 * 0 + _ ≤ _; exact Nat.le_of_eq rfl) (hb hby at_77) (fun _ _ => ⟨rfl, rfl, (by decide : 2 + 1 ≤ _), (by decide : 1 + 8 ≤ _)⟩)
        dsimp only [Pt.U, Pt.locs, Pt.cells, Pt.slots] at Xk_45 lk_45 yk_45 zk_45 stk_45 hQk_45
        subst lk_45 yk_45 zk_45
        obtain ⟨rfl, Nk_45q, hsk_45, nk_45, Hk_45⟩ := hQk_45
        have Nk_45 := Fr.app Nk_2 Nk_45q
        refine own_lift (fun tz kz => stk_45.trans kz) ?_
        have SZk_45 : n0 ≤ Tk_45.heap.size := Nat.le_trans SZk_2 hsk_45
        have Ek_45 := Hk_45.2.2.1
        show own_Fin p e below _ (Tk_45.setTop (mkF m 80 #[.val (.int p1), .val (.int p2), .val (.int p3), .val (.int p4), .val (.int p5), .val (.int nv), .val (.int w), .val (.int (Int32.ofNat A)), .val (.int (Int32.ofNat B)), .val (.int (Int32.ofNat D)), .val (.int (Int32.ofNat Q)), .val (.ref bo_1), .unset] []))
        exact j80 _ _ _ (Xk_45.more (by decide) (by decide)) Nk_45 SZk_45 (by rw [show (own_st (nv < (1 : Int32)) A (fun _ => 0)) = (own_upd (fun _ => 0) A) from by unfold own_st; rw [if_neg hc70_44]]; exact Hk_45)
    refine own_lift (fun tz kz => XS.iload X1.here hx rfl (hb hby at_38) rfl kz) ?_
    show own_Fin p e below _ (T1.setTop (mkF m 40 #[.val (.int p1), .val (.int p2), .val (.int p3), .val (.int p4), .val (.int p5), .val (.int nv), .val (.int w), .val (.int (Int32.ofNat A)), .val (.int (Int32.ofNat B)), .val (.int (Int32.ofNat D)), .unset, .unset, .unset] [(.int w)]))
    by_cases hc40_46 : w = (0 : Int32)
    · refine own_lift (fun tz kz => XS.ifYes X1.here hx rfl (pc0 := 40) (pc' := 51) rfl (hb hby at_40) rfl ((if0 _ _).trans (teq hc40_46).1) (by decide) (by decide) kz) ?_
      show own_Fin p e below _ (T1.setTop (mkF m 51 #[.val (.int p1), .val (.int p2), .val (.int p3), .val (.int p4), .val (.int p5), .val (.int nv), .val (.int w), .val (.int (Int32.ofNat A)), .val (.int (Int32.ofNat B)), .val (.int (Int32.ofNat D)), .unset, .unset, .unset] []))
      refine own_lift (fun tz kz => XS.iload X1.here hx rfl (hb hby at_51) rfl kz) ?_
      show own_Fin p e below _ (T1.setTop (mkF m 53 #[.val (.int p1), .val (.int p2), .val (.int p3), .val (.int p4), .val (.int p5), .val (.int nv), .val (.int w), .val (.int (Int32.ofNat A)), .val (.int (Int32.ofNat B)), .val (.int (Int32.ofNat D)), .unset, .unset, .unset] [(.int p5)]))
      refine own_lift (fun tz kz => XS.bipush X1.here hx rfl (hb hby at_53) kz) ?_
      show own_Fin p e below _ (T1.setTop (mkF m 55 #[.val (.int p1), .val (.int p2), .val (.int p3), .val (.int p4), .val (.int p5), .val (.int nv), .val (.int w), .val (.int (Int32.ofNat A)), .val (.int (Int32.ofNat B)), .val (.int (Int32.ofNat D)), .unset, .unset, .unset] [(.int (15 : Int32)), (.int p5)]))
      refine own_lift (fun tz kz => XS.iand X1.here hx rfl (hb hby at_55) rfl kz) ?_
      show own_Fin p e below _ (T1.setTop (mkF m 56 #[.val (.int p1), .val (.int p2), .val (.int p3), .val (.int p4), .val (.int p5), .val (.int nv), .val (.int w), .val (.int (Int32.ofNat A)), .val (.int (Int32.ofNat B)), .val (.int (Int32.ofNat D)), .unset, .unset, .unset] [(.int (p5 &&& (15 : Int32)))]))
      obtain ⟨Q, hQ, eQ⟩ := own_and15 p5
      rw [eQ]
      exact j56 _ _ Q X1 e1 N1 hQ
    · refine own_lift (fun tz kz => XS.ifNo X1.here hx rfl (hb hby at_40) rfl ((if0 _ _).trans (feq hc40_46).1) kz) ?_
      show own_Fin p e below _ (T1.setTop (mkF m 43 #[.val (.int p1), .val (.int p2), .val (.int p3), .val (.int p4), .val (.int p5), .val (.int nv), .val (.int w), .val (.int (Int32.ofNat A)), .val (.int (Int32.ofNat B)), .val (.int (Int32.ofNat D)), .unset, .unset, .unset] []))
      refine own_lift (fun tz kz => XS.iload X1.here hx rfl (hb hby at_43) rfl kz) ?_
      show own_Fin p e below _ (T1.setTop (mkF m 45 #[.val (.int p1), .val (.int p2), .val (.int p3), .val (.int p4), .val (.int p5), .val (.int nv), .val (.int w), .val (.int (Int32.ofNat A)), .val (.int (Int32.ofNat B)), .val (.int (Int32.ofNat D)), .unset, .unset, .unset] [(.int p5)]))
      refine own_lift (fun tz kz => X1.ldcI hx hown (mvT hZ (hw _ (List.mem_of_getElem? (i := 38) rfl))) rfl (hb hby at_45) kz) ?_
      show own_Fin p e below _ (T1.setTop (mkF m 47 #[.val (.int p1), .val (.int p2), .val (.int p3), .val (.int p4), .val (.int p5), .val (.int nv), .val (.int w), .val (.int (Int32.ofNat A)), .val (.int (Int32.ofNat B)), .val (.int (Int32.ofNat D)), .unset, .unset, .unset] [(.int (2147483647 : Int32)), (.int p5)]))
      refine own_lift (fun tz kz => XS.iand X1.here hx rfl (hb hby at_47) rfl kz) ?_
      show own_Fin p e below _ (T1.setTop (mkF m 48 #[.val (.int p1), .val (.int p2), .val (.int p3), .val (.int p4), .val (.int p5), .val (.int nv), .val (.int w), .val (.int (Int32.ofNat A)), .val (.int (Int32.ofNat B)), .val (.int (Int32.ofNat D)), .unset, .unset, .unset] [(.int (p5 &&& (2147483647 : Int32)))]))
      refine own_lift (fun tz kz => XS.goto X1.here hx rfl (pc0 := 48) (pc' := 56) rfl (hb hby at_48) (by decide) (by decide) kz) ?_
      show own_Fin p e below _ (T1.setTop (mkF m 56 #[.val (.int p1), .val (.int p2), .val (.int p3), .val (.int p4), .val (.int p5), .val (.int nv), .val (.int w), .val (.int (Int32.ofNat A)), .val (.int (Int32.ofNat B)), .val (.int (Int32.ofNat D)), .unset, .unset, .unset] [(.int (p5 &&& (2147483647 : Int32)))]))
      obtain ⟨Q, hQ, eQ⟩ := own_andM p5
      rw [eQ]
      exact j56 _ _ Q X1 e1 N1 hQ
  refine own_lift (fun tz kz => XS.iloadN X0.here hx rfl (hb hby at_5) rfl kz) ?_
  show own_Fin p e below _ (s₁.setTop (mkF m 6 #[.val (.int p1), .val (.int p2), .val (.int p3), .val (.int p4), .val (.int p5), .val (.int nv), .unset, .unset, .unset, .unset, .unset, .unset, .unset] [(.int p1)]))
  refine own_lift (fun tz kz => XS.iconst X0.here hx rfl (hb hby at_6) kz) ?_
  show own_Fin p e below _ (s₁.setTop (mkF m 7 #[.val (.int p1), .val (.int p2), .val (.int p3), .val (.int p4), .val (.int p5), .val (.int nv), .unset, .unset, .unset, .unset, .unset, .unset, .unset] [(.int (2 : Int32)), (.int p1)]))
  refine own_lift (fun tz kz => XS.ishr X0.here hx rfl (hb hby at_7) rfl kz) ?_
  show own_Fin p e below _ (s₁.setTop (mkF m 8 #[.val (.int p1), .val (.int p2), .val (.int p3), .val (.int p4), .val (.int p5), .val (.int nv), .unset, .unset, .unset, .unset, .unset, .unset, .unset] [(.int (p1 >>> ((2 : Int32) &&& 31)))]))
  refine own_lift (fun tz kz => XS.iconst X0.here hx rfl (hb hby at_8) kz) ?_
  show own_Fin p e below _ (s₁.setTop (mkF m 9 #[.val (.int p1), .val (.int p2), .val (.int p3), .val (.int p4), .val (.int p5), .val (.int nv), .unset, .unset, .unset, .unset, .unset, .unset, .unset] [(.int (1 : Int32)), (.int (p1 >>> ((2 : Int32) &&& 31)))]))
  refine own_lift (fun tz kz => XS.iand X0.here hx rfl (hb hby at_9) rfl kz) ?_
  show own_Fin p e below _ (s₁.setTop (mkF m 10 #[.val (.int p1), .val (.int p2), .val (.int p3), .val (.int p4), .val (.int p5), .val (.int nv), .unset, .unset, .unset, .unset, .unset, .unset, .unset] [(.int ((p1 >>> ((2 : Int32) &&& 31)) &&& (1 : Int32)))]))
  by_cases hc10_47 : ((p1 >>> ((2 : Int32) &&& 31)) &&& (1 : Int32)) = (0 : Int32)
  · refine own_lift (fun tz kz => XS.ifYes X0.here hx rfl (pc0 := 10) (pc' := 17) rfl (hb hby at_10) rfl ((if0 _ _).trans (teq hc10_47).1) (by decide) (by decide) kz) ?_
    show own_Fin p e below _ (s₁.setTop (mkF m 17 #[.val (.int p1), .val (.int p2), .val (.int p3), .val (.int p4), .val (.int p5), .val (.int nv), .unset, .unset, .unset, .unset, .unset, .unset, .unset] []))
    refine own_lift (fun tz kz => XS.iconst X0.here hx rfl (hb hby at_17) kz) ?_
    show own_Fin p e below _ (s₁.setTop (mkF m 18 #[.val (.int p1), .val (.int p2), .val (.int p3), .val (.int p4), .val (.int p5), .val (.int nv), .unset, .unset, .unset, .unset, .unset, .unset, .unset] [(.int (0 : Int32))]))
    exact j18 _ _ _ X0 e0 N0
  · refine own_lift (fun tz kz => XS.ifNo X0.here hx rfl (hb hby at_10) rfl ((if0 _ _).trans (feq hc10_47).1) kz) ?_
    show own_Fin p e below _ (s₁.setTop (mkF m 13 #[.val (.int p1), .val (.int p2), .val (.int p3), .val (.int p4), .val (.int p5), .val (.int nv), .unset, .unset, .unset, .unset, .unset, .unset, .unset] []))
    refine own_lift (fun tz kz => XS.iconst X0.here hx rfl (hb hby at_13) kz) ?_
    show own_Fin p e below _ (s₁.setTop (mkF m 14 #[.val (.int p1), .val (.int p2), .val (.int p3), .val (.int p4), .val (.int p5), .val (.int nv), .unset, .unset, .unset, .unset, .unset, .unset, .unset] [(.int (1 : Int32))]))
    refine own_lift (fun tz kz => XS.goto X0.here hx rfl (pc0 := 14) (pc' := 18) rfl (hb hby at_14) (by decide) (by decide) kz) ?_
    show own_Fin p e below _ (s₁.setTop (mkF m 18 #[.val (.int p1), .val (.int p2), .val (.int p3), .val (.int p4), .val (.int p5), .val (.int nv), .unset, .unset, .unset, .unset, .unset, .unset, .unset] [(.int (1 : Int32))]))
    exact j18 _ _ _ X0 e0 N0
set_option maxRecDepth 65536 in
set_option maxHeartbeats 40000000 in
theorem comes_1 {Post : Tables → Env → Array Value → State → Outcome → State → Prop} (hpost : ∀ tb e args s v u, (limb_1_1.after args s (.returned v) u = true ∧ limb_1_2.after args s (.returned v) u = true ∧ True) → FrameEnd s (.returned v) u (Jvm.fieldLocs frame_1_writes args s ++ Jvm.arrayLocs frame_1_arrays args s ++ Jvm.staticLocs frame_1_statics s) 24 128 → Post tb e args s (.returned v) u) :
    ArmFor flags0 classFile x code maxLocals ret World_1 tables_1 room_1 Calls_1 rest_1 Pre_1 Post := by
  intro l hfl _ _ p e ha hc hk s m args below hf hA hF happ hP
  obtain ⟨hcalls, hrest, hpre⟩ := hP
  obtain ⟨-, -, -, hnamed, -, -, -, hat⟩ := (Spec.applies_iff hf).mp happ
  obtain ⟨hg, hn⟩ := and_e (Cond.before_iff.mp (show (Jvm.Cond.and given_1 narrow_1).before args s = true from hpre))
  obtain ⟨gc, g0⟩ := and_e hg
  obtain ⟨c0, g1⟩ := and_e g0
  obtain ⟨c1, g2⟩ := and_e g1
  obtain ⟨c2, g3⟩ := and_e g2
  obtain ⟨c3, g4⟩ := and_e g3
  obtain ⟨w0, w1, w2, w3, w4, rfl⟩ : ∃ w0 w1 w2 w3 w4 : Value, args = #[w0, w1, w2, w3, w4] := by
    have hs : args.size = 5 := by simpa [Cond.value, given_1] using gc
    obtain ⟨L⟩ := args
    match L, hs with
    | [w0, w1, w2, w3, w4], _ => exact ⟨w0, w1, w2, w3, w4, rfl⟩
  have hw := fun d (hd : d ∈ tables_1) => atoms_spec (ws := Jvm.Cond.code x code maxLocals ret :: tables_1) hat d (List.mem_cons_of_mem _ hd)
  obtain ⟨i0, ei0⟩ := is_v c0
  obtain rfl : w0 = (.int i0) := Option.some.inj ei0
  obtain ⟨i1, ei1⟩ := is_v c1
  obtain rfl : w1 = (.int i1) := Option.some.inj ei1
  obtain ⟨i2, ei2⟩ := is_v c2
  obtain rfl : w2 = (.int i2) := Option.some.inj ei2
  obtain ⟨i3, ei3⟩ := is_v c3
  obtain rfl : w3 = (.int i3) := Option.some.inj ei3
  obtain ⟨i4, ei4⟩ := is_v g4
  obtain rfl : w4 = (.int i4) := Option.some.inj ei4
  obtain ⟨n, o, h1, h2, h3, _, L, rfl, ⟨rfl, N⟩, hq⟩ := rm0 l s _ hw tables_1 i0 i1 i2 i3 i4 s.heap s.heap.size (Nat.le_refl _) p e ha hc hk s m _ below hf ((Spec.applies_iff_loose hf).mp happ).1 ⟨rfl, State.Warmed39.refl s, rfl⟩ trivial
  refine ⟨n, _, h1, h2, h3, hpost _ _ _ _ _ _ ⟨Cond.after_iff.mpr rfl, Cond.after_iff.mpr (eq_i res_at (Term.int_eval (1)) rfl), trivial⟩ ⟨hq.1, hq.2.1, (hq.2.2.sift fun y hy => Or.inr (N y hy)).mono (by decide) (by decide)⟩⟩
theorem main_1_1 : Claimed_1_1 := comes_1 fun _ _ _ _ _ _ h hF => ⟨h.1, hF⟩
theorem main_1_2 : Claimed_1_2 := comes_1 fun _ _ _ _ _ _ h hF => ⟨h.2.1, hF⟩
end Jvm.Pilot.@@N@@
namespace Jvm.Pilot.@@N@@
open Jvm Jvm.ClassFile Sem Op Lib Jvm.Free Jvm.Stand Jvm.Pilot.@@N@@.Jvm.D
/-! MADE BY PROGRAM (witnessworld.py) out of the Statement's table words and the real class files: 12 classes; the members and pool entries that the words name. The judged class is class 1, her method 2. -/
namespace start1
open Jvm.ClassFile
def u (s : String) : CpInfo := .utf8 (stringToUtf16 s)
/-- a pool by its gaps: so many unusable entries, then the entry; so many at the end -/
def gap : Nat → List CpInfo → List CpInfo
  | 0, r => r
  | n + 1, r => .unusable :: gap n r
def poolList (es : List (Nat × CpInfo)) (last : Nat) : List CpInfo := es.foldr (fun e r => gap e.1 (e.2 :: r)) (gap last [])
def pool (es : List (Nat × CpInfo)) (last : Nat) : Array CpInfo := ⟨poolList es last⟩
def fileOf (pool : Array CpInfo) (this : Nat) (attrs : Array Attribute := #[]) (ms : Array MethodInfo := #[]) (fl : Nat := 33) (sup : Nat := 0) (ifs : Array Nat := #[]) (fds : Array FieldInfo := #[]) : ClassFile where
  minorVersion := 0
  majorVersion := 65
  constantPool := pool
  accessFlags := fl
  thisClass := this
  superClass := sup
  interfaces := ifs
  fields := fds
  methods := ms
  attributes := attrs
def plain (name : String) (sup : Option ClassId) : Class where
  name := name
  kind := .ordinary
  loader := none
  accessFlags := 33
  super := sup
  interfaces := #[]
  cf := none
  fields := #[]
  methods := #[]
  instanceTypes := #[]
  staticTypes := #[]
  resolved := #[]
  callSites := []
  init := .initialized
  statics := none
  mirror := none

def pool0 : Array CpInfo := pool [(5, u "<init>"), (0, u "()V"), (1, .class_ 10), (1, u "java/lang/Object")] 113

def k0c0 : Code := { maxStack := 0, maxLocals := 1, code := object_method_1_code, exceptionTable := #[], attributes := #[] }
def k0m0 : Method := { name := "<init>", desc := "()V", sig := { parameters := [], returnType := none }, accessFlags := 1, code := some k0c0 }
/-- java/lang/Object -/
def k0 : Class := { plain "java/lang/Object" none with
  accessFlags := 33
  interfaces := #[]
  cf := some (fileOf pool0 8 #[] #[{ accessFlags := 1, nameIndex := 5, descriptorIndex := 6, attributes := #[] }] 33 0 #[] #[])
  fields := #[]
  methods := #[k0m0]
  instanceTypes := #[]
  staticTypes := #[]
  resolved := Array.replicate 124 none
  statics := none }

def pool1 : Array CpInfo := pool [(2, .class_ 4), (0, .nameAndType 5 6), (0, u "java/lang/Object"), (0, u "<init>"), (0, u "()V"), (0, .integer 2147483647), (0, .class_ 9), (0, u "com/example/porridge/porridge/engine/VectorClock"), (0, .methodref 8 3), (0, .methodref 8 12), (0, .nameAndType 13 14), (0, u "increment"), (0, u "(I)V"), (0, .methodref 16 17), (0, .class_ 18), (0, .nameAndType 19 20), (0, u "com/example/porridge/porridge/engine/VectorClockGetPinLaw"), (0, u "hit"), (0, u "(ZII)I"), (0, .methodref 8 22), (0, .nameAndType 23 24), (0, u "get"), (0, u "(I)I"), (3, u "law"), (0, u "(IIIII)Z")] 2

def k1m0 : Method := { name := "<init>", desc := "()V", sig := { parameters := [], returnType := none }, accessFlags := 2, code := none }
def k1c1 : Code := { maxStack := 2, maxLocals := 3, code := method_2_code, exceptionTable := #[], attributes := #[] }
def k1m1 : Method := { name := "hit", desc := "(ZII)I", sig := { parameters := [.boolean, .int, .int], returnType := some .int }, accessFlags := 10, code := some k1c1 }
def k1c2 : Code := { maxStack := 4, maxLocals := 13, code := code, exceptionTable := #[], attributes := #[] }
def k1m2 : Method := { name := "law", desc := "(IIIII)Z", sig := { parameters := [.int, .int, .int, .int, .int], returnType := some .boolean }, accessFlags := 9, code := some k1c2 }
/-- com/example/porridge/porridge/engine/VectorClockGetPinLaw -/
def k1 : Class := { plain "com/example/porridge/porridge/engine/VectorClockGetPinLaw" (some 0) with
  accessFlags := 49
  interfaces := #[]
  cf := some (fileOf pool1 16 #[] #[{ accessFlags := 2, nameIndex := 5, descriptorIndex := 6, attributes := #[] }, { accessFlags := 10, nameIndex := 19, descriptorIndex := 20, attributes := #[] }, { accessFlags := 9, nameIndex := 28, descriptorIndex := 29, attributes := #[] }] 49 2 #[] #[])
  fields := #[]
  methods := #[k1m0, k1m1, k1m2]
  instanceTypes := #[]
  staticTypes := #[]
  resolved := Array.replicate 32 none
  statics := none }

def pool2 : Array CpInfo := pool [(1, .methodref 2 3), (0, .class_ 4), (0, .nameAndType 5 6), (0, u "java/lang/Object"), (0, u "<init>"), (0, u "()V"), (0, .fieldref 8 9), (0, .class_ 10), (0, .nameAndType 11 12), (0, u "com/example/porridge/porridge/engine/VectorClock"), (0, u "counts"), (0, u "[I"), (0, .methodref 14 15), (0, .class_ 16), (0, .nameAndType 17 18), (0, u "java/util/Arrays"), (0, u "copyOf"), (0, u "([II)[I"), (16, u "get"), (0, u "(I)I"), (1, u "increment"), (0, u "(I)V")] 6

def k2c0 : Code := { maxStack := 2, maxLocals := 1, code := prog_21_method_1_code, exceptionTable := #[], attributes := #[] }
def k2m0 : Method := { name := "<init>", desc := "()V", sig := { parameters := [], returnType := none }, accessFlags := 0, code := some k2c0 }
def k2c1 : Code := { maxStack := 2, maxLocals := 2, code := prog_21_method_3_code, exceptionTable := #[], attributes := #[] }
def k2m1 : Method := { name := "get", desc := "(I)I", sig := { parameters := [.int], returnType := some .int }, accessFlags := 0, code := some k2c1 }
def k2c2 : Code := { maxStack := 4, maxLocals := 2, code := prog_21_method_4_code, exceptionTable := #[], attributes := #[] }
def k2m2 : Method := { name := "increment", desc := "(I)V", sig := { parameters := [.int], returnType := none }, accessFlags := 0, code := some k2c2 }
/-- com/example/porridge/porridge/engine/VectorClock -/
def k2 : Class := { plain "com/example/porridge/porridge/engine/VectorClock" (some 0) with
  accessFlags := 32
  interfaces := #[]
  cf := some (fileOf pool2 8 #[] #[{ accessFlags := 0, nameIndex := 5, descriptorIndex := 6, attributes := #[] }, { accessFlags := 0, nameIndex := 35, descriptorIndex := 36, attributes := #[] }, { accessFlags := 0, nameIndex := 38, descriptorIndex := 39, attributes := #[] }] 32 2 #[] #[{ accessFlags := 2, nameIndex := 11, descriptorIndex := 12, attributes := #[] }])
  fields := #[{ name := "counts", type := (.array .int), accessFlags := 2, slot := 0, constantValue := 0 }]
  methods := #[k2m0, k2m1, k2m2]
  instanceTypes := #[(.array .int)]
  staticTypes := #[]
  resolved := Array.replicate 46 none
  statics := none }

def pool3 : Array CpInfo := pool [(2, .class_ 4), (1, u "java/lang/Object"), (0, u "<init>"), (0, u "()V"), (7, .class_ 16), (1, u "java/util/Arrays"), (57, .class_ 76), (1, u "java/util/Arrays$NaturalOrder"), (36, .class_ 115), (1, u "java/util/Arrays$LegacyMergeSort"), (1, u "Z"), (32, .methodref 151 152), (0, .class_ 153), (0, .nameAndType 154 155), (0, u "java/lang/System"), (0, u "arraycopy"), (0, u "(Ljava/lang/Object;ILjava/lang/Object;II)V"), (146, u "copyOf"), (1, .methodref 305 306), (0, .class_ 307), (0, .nameAndType 308 309), (0, u "java/lang/Math"), (0, u "min"), (0, u "(II)I"), (65, .class_ 376), (0, u "java/util/Arrays$ArrayList"), (68, u "$assertionsDisabled"), (269, u "MIN_ARRAY_SORT_GRAN"), (0, u "I"), (2, u "INSERTIONSORT_THRESHOLD"), (151, u "([II)[I"), (103, .class_ 976), (0, u "java/util/Arrays$ArrayItr")] 52

def k3m0 : Method := { name := "<init>", desc := "()V", sig := { parameters := [], returnType := none }, accessFlags := 2, code := none }
def k3c1 : Code := { maxStack := 6, maxLocals := 3, code := jdk_65_method_123_code, exceptionTable := #[], attributes := #[] }
def k3m1 : Method := { name := "copyOf", desc := "([II)[I", sig := { parameters := [(.array .int), .int], returnType := some (.array .int) }, accessFlags := 9, code := some k3c1 }
/-- java/util/Arrays -/
def k3 : Class := { plain "java/util/Arrays" (some 0) with
  accessFlags := 49
  interfaces := #[]
  cf := some (fileOf pool3 14 #[.nestMembers #[975, 375, 113, 74]] #[{ accessFlags := 2, nameIndex := 5, descriptorIndex := 6, attributes := #[] }, { accessFlags := 9, nameIndex := 302, descriptorIndex := 871, attributes := #[] }] 49 2 #[] #[{ accessFlags := 26, nameIndex := 715, descriptorIndex := 716, attributes := #[] }, { accessFlags := 26, nameIndex := 719, descriptorIndex := 716, attributes := #[] }, { accessFlags := 4120, nameIndex := 445, descriptorIndex := 117, attributes := #[] }])
  fields := #[{ name := "MIN_ARRAY_SORT_GRAN", type := .int, accessFlags := 26, slot := 0, constantValue := 0 }, { name := "INSERTIONSORT_THRESHOLD", type := .int, accessFlags := 26, slot := 1, constantValue := 0 }, { name := "$assertionsDisabled", type := .boolean, accessFlags := 4120, slot := 2, constantValue := 0 }]
  methods := #[k3m0, k3m1]
  instanceTypes := #[]
  staticTypes := #[.int, .int, .boolean]
  resolved := Array.replicate 1029 none
  statics := none }

def pool4 : Array CpInfo := pool [(1, .class_ 2), (0, u "java/lang/Math"), (1, .class_ 6), (1, u "java/lang/Object"), (0, u "<init>"), (0, u "()V"), (89, .class_ 100), (1, u "java/lang/Math$RandomNumberGeneratorHolder"), (71, u "negativeZeroFloatBits"), (0, u "J"), (2, u "negativeZeroDoubleBits"), (24, u "min"), (43, u "$assertionsDisabled"), (0, u "Z"), (88, u "(II)I"), (2, u "twoToTheDoubleScaleDown"), (0, u "D"), (4, u "twoToTheDoubleScaleUp"), (9, u "E"), (3, u "PI"), (2, u "TAU"), (2, u "DEGREES_TO_RADIANS"), (0, u "RADIANS_TO_DEGREES")] 94

def k4m0 : Method := { name := "<init>", desc := "()V", sig := { parameters := [], returnType := none }, accessFlags := 2, code := none }
def k4c1 : Code := { maxStack := 2, maxLocals := 2, code := jdk_29_method_69_code, exceptionTable := #[], attributes := #[] }
def k4m1 : Method := { name := "min", desc := "(II)I", sig := { parameters := [.int, .int], returnType := some .int }, accessFlags := 9, code := some k4c1 }
/-- java/lang/Math -/
def k4 : Class := { plain "java/lang/Math" (some 0) with
  accessFlags := 49
  interfaces := #[]
  cf := some (fileOf pool4 1 #[.nestMembers #[98]] #[{ accessFlags := 2, nameIndex := 7, descriptorIndex := 8, attributes := #[] }, { accessFlags := 9, nameIndex := 201, descriptorIndex := 335, attributes := #[] }] 49 4 #[] #[{ accessFlags := 25, nameIndex := 354, descriptorIndex := 339, attributes := #[] }, { accessFlags := 25, nameIndex := 358, descriptorIndex := 339, attributes := #[] }, { accessFlags := 25, nameIndex := 361, descriptorIndex := 339, attributes := #[] }, { accessFlags := 26, nameIndex := 364, descriptorIndex := 339, attributes := #[] }, { accessFlags := 26, nameIndex := 365, descriptorIndex := 339, attributes := #[] }, { accessFlags := 26, nameIndex := 172, descriptorIndex := 173, attributes := #[] }, { accessFlags := 26, nameIndex := 176, descriptorIndex := 173, attributes := #[] }, { accessFlags := 8, nameIndex := 344, descriptorIndex := 339, attributes := #[] }, { accessFlags := 8, nameIndex := 338, descriptorIndex := 339, attributes := #[] }, { accessFlags := 4120, nameIndex := 245, descriptorIndex := 246, attributes := #[] }])
  fields := #[{ name := "E", type := .double, accessFlags := 25, slot := 0, constantValue := 0 }, { name := "PI", type := .double, accessFlags := 25, slot := 1, constantValue := 0 }, { name := "TAU", type := .double, accessFlags := 25, slot := 2, constantValue := 0 }, { name := "DEGREES_TO_RADIANS", type := .double, accessFlags := 26, slot := 3, constantValue := 0 }, { name := "RADIANS_TO_DEGREES", type := .double, accessFlags := 26, slot := 4, constantValue := 0 }, { name := "negativeZeroFloatBits", type := .long, accessFlags := 26, slot := 5, constantValue := 0 }, { name := "negativeZeroDoubleBits", type := .long, accessFlags := 26, slot := 6, constantValue := 0 }, { name := "twoToTheDoubleScaleUp", type := .double, accessFlags := 8, slot := 7, constantValue := 0 }, { name := "twoToTheDoubleScaleDown", type := .double, accessFlags := 8, slot := 8, constantValue := 0 }, { name := "$assertionsDisabled", type := .boolean, accessFlags := 4120, slot := 9, constantValue := 0 }]
  methods := #[k4m0, k4m1]
  instanceTypes := #[]
  staticTypes := #[.double, .double, .double, .double, .double, .long, .long, .double, .double, .boolean]
  resolved := Array.replicate 460 none
  statics := none }

def pool5 : Array CpInfo := pool [(2, .class_ 4), (1, u "java/lang/Object"), (0, u "<init>"), (0, u "()V"), (1, .class_ 10), (1, u "java/lang/System"), (0, u "allowSecurityManager"), (0, u "I"), (16, u "cons"), (0, u "Ljava/io/Console;"), (77, .class_ 110), (1, u "java/lang/System$CallersHolder"), (43, u "initialErrStream"), (0, u "Ljava/io/PrintStream;"), (19, u "security"), (0, u "Ljava/lang/SecurityManager;"), (31, .class_ 209), (0, u "java/lang/System$1"), (7, u "props"), (0, u "Ljava/util/Properties;"), (2, u "lineSeparator"), (0, u "Ljava/lang/String;"), (96, .class_ 321), (1, u "java/lang/System$LoggerFinder"), (5, .class_ 328), (0, u "java/lang/System$Logger"), (67, u "err"), (2, u "out"), (91, u "notSupportedJnuEncoding"), (15, u "in"), (17, u "initialIn"), (0, u "Ljava/io/InputStream;"), (35, u "bootLayer"), (0, u "Ljava/lang/ModuleLayer;"), (99, .class_ 664), (0, u "java/lang/System$2"), (9, u "NEVER"), (2, u "MAYBE"), (49, u "arraycopy"), (0, u "(Ljava/lang/Object;ILjava/lang/Object;II)V"), (72, .class_ 802), (0, u "java/lang/System$Logger$Level")] 31

def k5m0 : Method := { name := "<init>", desc := "()V", sig := { parameters := [], returnType := none }, accessFlags := 2, code := none }
def k5m1 : Method := { name := "arraycopy", desc := "(Ljava/lang/Object;ILjava/lang/Object;II)V", sig := { parameters := [(.object "java/lang/Object"), .int, (.object "java/lang/Object"), .int, .int], returnType := none }, accessFlags := 265, code := none }
/-- java/lang/System -/
def k5 : Class := { plain "java/lang/System" (some 0) with
  accessFlags := 49
  interfaces := #[]
  cf := some (fileOf pool5 8 #[.nestMembers #[319, 327, 801, 108, 663, 208]] #[{ accessFlags := 2, nameIndex := 5, descriptorIndex := 6, attributes := #[] }, { accessFlags := 265, nameIndex := 727, descriptorIndex := 728, attributes := #[] }] 49 2 #[] #[{ accessFlags := 25, nameIndex := 507, descriptorIndex := 526, attributes := #[] }, { accessFlags := 25, nameIndex := 399, descriptorIndex := 155, attributes := #[] }, { accessFlags := 25, nameIndex := 396, descriptorIndex := 155, attributes := #[] }, { accessFlags := 10, nameIndex := 525, descriptorIndex := 526, attributes := #[] }, { accessFlags := 26, nameIndex := 674, descriptorIndex := 12, attributes := #[] }, { accessFlags := 26, nameIndex := 677, descriptorIndex := 12, attributes := #[] }, { accessFlags := 10, nameIndex := 11, descriptorIndex := 12, attributes := #[] }, { accessFlags := 74, nameIndex := 175, descriptorIndex := 176, attributes := #[] }, { accessFlags := 10, nameIndex := 491, descriptorIndex := 222, attributes := #[] }, { accessFlags := 74, nameIndex := 29, descriptorIndex := 30, attributes := #[] }, { accessFlags := 74, nameIndex := 154, descriptorIndex := 155, attributes := #[] }, { accessFlags := 10, nameIndex := 217, descriptorIndex := 218, attributes := #[] }, { accessFlags := 10, nameIndex := 221, descriptorIndex := 222, attributes := #[] }, { accessFlags := 8, nameIndex := 562, descriptorIndex := 563, attributes := #[] }])
  fields := #[{ name := "in", type := (.object "java/io/InputStream"), accessFlags := 25, slot := 0, constantValue := 0 }, { name := "out", type := (.object "java/io/PrintStream"), accessFlags := 25, slot := 1, constantValue := 0 }, { name := "err", type := (.object "java/io/PrintStream"), accessFlags := 25, slot := 2, constantValue := 0 }, { name := "initialIn", type := (.object "java/io/InputStream"), accessFlags := 10, slot := 3, constantValue := 0 }, { name := "NEVER", type := .int, accessFlags := 26, slot := 4, constantValue := 0 }, { name := "MAYBE", type := .int, accessFlags := 26, slot := 5, constantValue := 0 }, { name := "allowSecurityManager", type := .int, accessFlags := 10, slot := 6, constantValue := 0 }, { name := "security", type := (.object "java/lang/SecurityManager"), accessFlags := 74, slot := 7, constantValue := 0 }, { name := "notSupportedJnuEncoding", type := (.object "java/lang/String"), accessFlags := 10, slot := 8, constantValue := 0 }, { name := "cons", type := (.object "java/io/Console"), accessFlags := 74, slot := 9, constantValue := 0 }, { name := "initialErrStream", type := (.object "java/io/PrintStream"), accessFlags := 74, slot := 10, constantValue := 0 }, { name := "props", type := (.object "java/util/Properties"), accessFlags := 10, slot := 11, constantValue := 0 }, { name := "lineSeparator", type := (.object "java/lang/String"), accessFlags := 10, slot := 12, constantValue := 0 }, { name := "bootLayer", type := (.object "java/lang/ModuleLayer"), accessFlags := 8, slot := 13, constantValue := 0 }]
  methods := #[k5m0, k5m1]
  instanceTypes := #[]
  staticTypes := #[(.object "java/io/InputStream"), (.object "java/io/PrintStream"), (.object "java/io/PrintStream"), (.object "java/io/InputStream"), .int, .int, .int, (.object "java/lang/SecurityManager"), (.object "java/lang/String"), (.object "java/io/Console"), (.object "java/io/PrintStream"), (.object "java/util/Properties"), (.object "java/lang/String"), (.object "java/lang/ModuleLayer")]
  resolved := Array.replicate 834 none
  statics := none }

def pool6 : Array CpInfo := pool [(1, u "java/lang/Cloneable"), (0, .class_ 1), (0, u "java/lang/Object"), (0, .class_ 3)] 3

/-- java/lang/Cloneable -/
def k6 : Class := { plain "java/lang/Cloneable" (some 0) with
  accessFlags := 1537
  interfaces := #[]
  cf := some (fileOf pool6 2 #[] #[] 1537 4 #[] #[])
  fields := #[]
  methods := #[]
  instanceTypes := #[]
  staticTypes := #[]
  resolved := Array.replicate 8 none
  statics := none }

def pool7 : Array CpInfo := pool [(1, u "java/io/Serializable"), (0, .class_ 1), (0, u "java/lang/Object"), (0, .class_ 3)] 3

/-- java/io/Serializable -/
def k7 : Class := { plain "java/io/Serializable" (some 0) with
  accessFlags := 1537
  interfaces := #[]
  cf := some (fileOf pool7 2 #[] #[] 1537 4 #[] #[])
  fields := #[]
  methods := #[]
  instanceTypes := #[]
  staticTypes := #[]
  resolved := Array.replicate 8 none
  statics := none }

/-- the primitive byte -/
def k8 : Class := { plain "byte" none with kind := .primitive 'B', accessFlags := 0x411 }
/-- [B -/
def k9 : Class := { plain "[B" (some 0) with kind := .array 8 .byte, interfaces := #[6, 7], accessFlags := 1041 }

/-- the primitive int -/
def k10 : Class := { plain "int" none with kind := .primitive 'I', accessFlags := 0x411 }
/-- [I -/
def k11 : Class := { plain "[I" (some 0) with kind := .array 10 .int, interfaces := #[6, 7], accessFlags := 1041 }

def heap : Heap := #[]
def classes : Array Class := #[k0, k1, k2, k3, k4, k5, k6, k7, k8, k9, k10, k11]
def interned : List (Array UInt16 × Addr) := []
def slotsUsed : Nat := 0
def theMethod : MethodId := ⟨1, 2⟩
def args0 : Array Value := #[.int 2, .int 1, .int 3, .int 4, .int 3]
def aboutOver (below : List Frame) : State where
  vm := { classes := classes, interned := interned.toArray }
  heap := heap
  slotsUsed := slotsUsed
  threads := #[{ frames := .invoking theMethod args0 :: below }]
def below0 : List Frame := [.native { method := ⟨0, 0⟩, args := #[] }]
def about1 : State := aboutOver below0
def p0 : Program := .bare "" "" ""
def e0 : Env := launch0.env 0 0 0
theorem w_frames : about1.frames = Frame.invoking theMethod args0 :: below0 := rfl
set_option maxRecDepth 65536 in
theorem w_args : argsFit about1.vm theMethod args0 = true := by decide +kernel
set_option maxRecDepth 65536 in
theorem w_heap : heapFits about1 = true := by decide +kernel
set_option maxRecDepth 65536 in
theorem w_runnable : about1.curStatus? = some .runnable := by decide +kernel
set_option maxRecDepth 65536 in
theorem w_alone : about1.alone = true := by decide +kernel
set_option maxRecDepth 65536 in
theorem w_named : about1.methodNamed? x = some theMethod := by decide +kernel
set_option maxRecDepth 65536 in
theorem w_hears : about1.hears theMethod below0 = true := by decide +kernel
set_option maxRecDepth 65536 in
theorem w_ripe : about1.ripe theMethod args0 below0 = true := by decide +kernel
theorem w_running : about1.status = .running := rfl
set_option maxRecDepth 65536 in
theorem w_room : about1.hasRoom e0.platform room_1 = true :=
  launch0.hasRoom_least _ room_1 (by decide +kernel) (by decide +kernel) (by decide +kernel) (by decide +kernel) (by decide +kernel) (by decide +kernel)
theorem allAtoms_all (ts : List Jvm.Cond) (a : Array Jvm.Value) (st : Jvm.State) : (allAtoms ts).before a st = ts.all (fun c => c.before a st) := by
  induction ts with
  | nil => rfl
  | cons c t ih =>
    show (Jvm.Cond.and c (allAtoms t)).before a st = _
    rw [Jvm.Cond.before_and, ih, List.all_cons]
def words1 : List Jvm.Cond := Jvm.Cond.code x code maxLocals ret :: tables_1
/-- a 'code' word, met by the world's own term for the bytes: nothing is compared byte by byte -/
theorem code_word {y : MethodName} {bytes : ByteArray} {mx : Nat} {rt : Option FieldType} {a : Array Value} {s : State} {m : MethodId} {meth : Method} {c : Code} (h1 : s.methodNamed? y = some m) (h2 : s.vm.method? m = some meth) (h3 : meth.code = some c) (h4 : c.code = bytes)
    (h5 : (c.maxLocals == mx && c.exceptionTable.isEmpty && decide (c.maxStack ≤ mostOperands) && decide (meth.sig.returnType = rt) && !meth.locks && decide (parseMethodDescriptor y.desc = some meth.sig)) = true) : (Jvm.Cond.code y bytes mx rt).before a s = true := by
  simp only [Bool.and_eq_true, beq_iff_eq, Bool.not_eq_true', decide_eq_true_eq] at h5
  obtain ⟨⟨⟨⟨⟨g1, g2⟩, g3⟩, g4⟩, g5⟩, g6⟩ := h5
  simp [Cond.before, Cond.holds, Cond.value, h1, h2, h3, h4, g1, g2, g3, g4, g5, g6]
def isCode : Jvm.Cond → Bool
  | .code _ _ _ _ => true
  | _ => false
theorem all_split {L : List Jvm.Cond} {P : Jvm.Cond → Bool} (h1 : L.all (fun c => isCode c || P c) = true) (h2 : ∀ c ∈ L.filter isCode, P c = true) : L.all P = true := by
  refine List.all_eq_true.mpr fun c hc => ?_
  have h := List.all_eq_true.mp h1 c hc
  rcases Bool.eq_false_or_eq_true (isCode c) with hi | hi
  · exact h2 c (List.mem_filter.mpr ⟨hc, hi⟩)
  · simpa [hi] using h
set_option maxRecDepth 65536 in
theorem w_c0 : (Jvm.Cond.code x code maxLocals ret).before args0 about1 = true := code_word (m := ⟨1, 2⟩) (meth := k1m2) (c := k1c2) (by decide +kernel) rfl rfl rfl (by decide +kernel)
set_option maxRecDepth 65536 in
theorem w_c1 : (Jvm.Cond.code ({ cls := "com/example/porridge/porridge/engine/VectorClock", name := "<init>", desc := "()V" } : Jvm.MethodName) prog_21_method_1_code (1 : Nat) (Option.none : Option Jvm.ClassFile.FieldType)).before args0 about1 = true := code_word (m := ⟨2, 0⟩) (meth := k2m0) (c := k2c0) (by decide +kernel) rfl rfl rfl (by decide +kernel)
set_option maxRecDepth 65536 in
theorem w_c2 : (Jvm.Cond.code ({ cls := "java/lang/Object", name := "<init>", desc := "()V" } : Jvm.MethodName) object_method_1_code (1 : Nat) (Option.none : Option Jvm.ClassFile.FieldType)).before args0 about1 = true := code_word (m := ⟨0, 0⟩) (meth := k0m0) (c := k0c0) (by decide +kernel) rfl rfl rfl (by decide +kernel)
set_option maxRecDepth 65536 in
theorem w_c3 : (Jvm.Cond.code ({ cls := "com/example/porridge/porridge/engine/VectorClockGetPinLaw", name := "hit", desc := "(ZII)I" } : Jvm.MethodName) method_2_code (3 : Nat) (Option.some Jvm.ClassFile.FieldType.int)).before args0 about1 = true := code_word (m := ⟨1, 1⟩) (meth := k1m1) (c := k1c1) (by decide +kernel) rfl rfl rfl (by decide +kernel)
set_option maxRecDepth 65536 in
theorem w_c4 : (Jvm.Cond.code ({ cls := "com/example/porridge/porridge/engine/VectorClock", name := "get", desc := "(I)I" } : Jvm.MethodName) prog_21_method_3_code (2 : Nat) (Option.some Jvm.ClassFile.FieldType.int)).before args0 about1 = true := code_word (m := ⟨2, 1⟩) (meth := k2m1) (c := k2c1) (by decide +kernel) rfl rfl rfl (by decide +kernel)
set_option maxRecDepth 65536 in
theorem w_c5 : (Jvm.Cond.code ({ cls := "com/example/porridge/porridge/engine/VectorClock", name := "increment", desc := "(I)V" } : Jvm.MethodName) prog_21_method_4_code (2 : Nat) (Option.none : Option Jvm.ClassFile.FieldType)).before args0 about1 = true := code_word (m := ⟨2, 2⟩) (meth := k2m2) (c := k2c2) (by decide +kernel) rfl rfl rfl (by decide +kernel)
set_option maxRecDepth 65536 in
theorem w_c6 : (Jvm.Cond.code ({ cls := "java/util/Arrays", name := "copyOf", desc := "([II)[I" } : Jvm.MethodName) jdk_65_method_123_code (3 : Nat) (Option.some (Jvm.ClassFile.FieldType.array Jvm.ClassFile.FieldType.int))).before args0 about1 = true := code_word (m := ⟨3, 1⟩) (meth := k3m1) (c := k3c1) (by decide +kernel) rfl rfl rfl (by decide +kernel)
set_option maxRecDepth 65536 in
theorem w_c7 : (Jvm.Cond.code ({ cls := "java/lang/Math", name := "min", desc := "(II)I" } : Jvm.MethodName) jdk_29_method_69_code (2 : Nat) (Option.some Jvm.ClassFile.FieldType.int)).before args0 about1 = true := code_word (m := ⟨4, 1⟩) (meth := k4m1) (c := k4c1) (by decide +kernel) rfl rfl rfl (by decide +kernel)
def codes1 : List Jvm.Cond := [Jvm.Cond.code x code maxLocals ret, Jvm.Cond.code ({ cls := "com/example/porridge/porridge/engine/VectorClock", name := "<init>", desc := "()V" } : Jvm.MethodName) prog_21_method_1_code (1 : Nat) (Option.none : Option Jvm.ClassFile.FieldType), Jvm.Cond.code ({ cls := "java/lang/Object", name := "<init>", desc := "()V" } : Jvm.MethodName) object_method_1_code (1 : Nat) (Option.none : Option Jvm.ClassFile.FieldType), Jvm.Cond.code ({ cls := "com/example/porridge/porridge/engine/VectorClockGetPinLaw", name := "hit", desc := "(ZII)I" } : Jvm.MethodName) method_2_code (3 : Nat) (Option.some Jvm.ClassFile.FieldType.int), Jvm.Cond.code ({ cls := "com/example/porridge/porridge/engine/VectorClock", name := "get", desc := "(I)I" } : Jvm.MethodName) prog_21_method_3_code (2 : Nat) (Option.some Jvm.ClassFile.FieldType.int), Jvm.Cond.code ({ cls := "com/example/porridge/porridge/engine/VectorClock", name := "increment", desc := "(I)V" } : Jvm.MethodName) prog_21_method_4_code (2 : Nat) (Option.none : Option Jvm.ClassFile.FieldType), Jvm.Cond.code ({ cls := "java/util/Arrays", name := "copyOf", desc := "([II)[I" } : Jvm.MethodName) jdk_65_method_123_code (3 : Nat) (Option.some (Jvm.ClassFile.FieldType.array Jvm.ClassFile.FieldType.int)), Jvm.Cond.code ({ cls := "java/lang/Math", name := "min", desc := "(II)I" } : Jvm.MethodName) jdk_29_method_69_code (2 : Nat) (Option.some Jvm.ClassFile.FieldType.int)]
set_option maxRecDepth 65536 in
theorem codes_eq : words1.filter isCode = codes1 := rfl
theorem w_codes : ∀ c ∈ words1.filter isCode, c.before args0 about1 = true := by
  rw [codes_eq]
  intro c hc
  simp only [codes1, List.mem_cons, List.not_mem_nil, or_false] at hc
  rcases hc with rfl | rfl | rfl | rfl | rfl | rfl | rfl | rfl
  · exact w_c0
  · exact w_c1
  · exact w_c2
  · exact w_c3
  · exact w_c4
  · exact w_c5
  · exact w_c6
  · exact w_c7
set_option maxRecDepth 65536 in
theorem w_t1 : (words1.take 24).all (fun c => isCode c || c.before args0 about1) = true := by decide +kernel
set_option maxRecDepth 65536 in
theorem w_t2 : (words1.drop 24).all (fun c => isCode c || c.before args0 about1) = true := by decide +kernel
theorem w_tables : (allAtoms (Jvm.Cond.code x code maxLocals ret :: tables_1)).before args0 about1 = true := by
  rw [allAtoms_all]
  show words1.all (fun c => c.before args0 about1) = true
  refine all_split ?_ w_codes
  rw [← List.take_append_drop 24 words1, List.all_append, w_t1, w_t2]
  rfl
set_option maxRecDepth 65536 in
theorem w_case : (Jvm.Cond.and given_1 narrow_1).before args0 about1 = true := by decide +kernel
theorem w_applies : (headSpec (Jvm.Cond.code x code maxLocals ret :: tables_1) room_1).applies x e0.platform about1 = true :=
  (Spec.applies_iff w_frames).mpr ⟨w_running, w_runnable, w_alone, w_named, w_hears, w_ripe, w_room, w_tables⟩
theorem atStart : AtStart classFile x code maxLocals ret World_1 tables_1 room_1 Calls_1 rest_1 Pre_1 launch0 p0 e0 about1 theMethod args0 below0 :=
  ⟨lists_1, trivial, launch0.admits_env _ _ _, launch0.least_env, fairChoices_fair.cas, fairChoices_fair.clock, w_frames, w_args, w_heap, w_applies, trivial, trivial, w_case⟩
end start1
theorem witness_1 : WitnessClaimed_1 := ⟨start1.p0, start1.e0, start1.about1, start1.theMethod, start1.args0, start1.below0, start1.atStart⟩
end Jvm.Pilot.@@N@@
