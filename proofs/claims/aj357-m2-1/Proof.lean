import JvmDerived
import JvmDerived.Pilot.@@N@@Statement
import JvmDerived.Pilot.@@N@@Code
set_option linter.unusedVariables false
set_option linter.unusedSimpArgs false
namespace Jvm.RoadKit
open Sem ClassFile Op Lib Jvm.Stand Jvm.Free Jvm.LawKit
section New
variable {p : Program} {l : Launch} {e : Env} {R : Room} {s : State} {m : MethodId} {args : Array Value} {below : List Frame} {meth : Method} {c : Code} {T : State} {locs : List Loc} {cells slots : Nat}
theorem retI (X : Stand p l e R s m args below meth c T locs cells slots) (hx : p.tables.exec = Jvm.exec) {pc : Nat} {Ls : Array Slot} {z : Int32} {rest : List Value} (hret : meth.sig.returnType = some .int) (hd : decode c.code pc = .ok (.ireturn, 1)) {fs : List Frame}
    (hl : ∀ (f : JFrame) (acts : List Action), f.method = m → f.locked = none → f.entered = [] → (doReturn e (T.setTop f) acts (some (.int z))).1 = T.setFrames fs) : Steps p.tables e below (T.setTop (mkF m pc Ls (.int z :: rest))) (T.setFrames fs) := by
  have hm' : T.vm.method? m = some meth := X.method'
  have hn : narrow .int (.int z) = .int z := rfl
  show Steps p.tables e below (T.setTop { method := m, pc := pc, locals := Ls, stack := _ :: rest, locked := none }) _
  jvm_step X.here [X.here.top, hx, hd, hm', hret, hn]
  first | (intro acts; rw [hl _ acts rfl rfl rfl]) | rw [hl _ _ rfl rfl rfl]
  exact Steps.refl _
end New
end Jvm.RoadKit
namespace Jvm.Pilot.@@N@@
open Jvm Jvm.ClassFile Sem Op Lib Jvm.Free Jvm.Stand Jvm.LawKit Jvm.RoadKit Bundle Jvm.Pilot.@@N@@.Jvm.D
def own_Fin (p : Program) (e : Env) (below : List Frame) (G : Outcome → State → Prop) (st : State) : Prop :=
  ∃ s₂ o, Steps p.tables e below st s₂ ∧ s₂.status = .running ∧ Ended s₂ below o ∧ G o s₂
theorem own_lift {p : Program} {e : Env} {below : List Frame} {G : Outcome → State → Prop} {st st' : State} (k : ∀ t, Steps p.tables e below st' t → Steps p.tables e below st t) (h : own_Fin p e below G st') : own_Fin p e below G st := by
  obtain ⟨t, o, h1, h2⟩ := h
  exact ⟨t, o, k t h1, h2⟩

/-! the plain law -/
def own_see (v o : Int32) : Int32 := if v = 0 then 1 else if v = o then 1 else 0
theorem own_next (v : Int32) : ¬ v = v + (1 : Int32) := by
  intro h
  have h2 : v + 0 = v + 1 := by rw [Int32.add_zero]; exact h
  exact absurd ((Int32.add_right_inj v).mp h2) (by decide)
theorem own_self (v : Int32) : ¬ own_see v v = 0 := by
  unfold own_see
  by_cases h : v = 0 <;> simp [h]
theorem own_whole (v : Int32) : ¬ own_see (0 : Int32) v = 0 := by simp [own_see]

theorem d1_0 : decode prog_67_method_2_code 0 = .ok (.iload_n 0, 1) := by decide +kernel
theorem d1_1 : decode prog_67_method_2_code 1 = .ok (.ifCond .eq 8, 3) := by decide +kernel
theorem d1_4 : decode prog_67_method_2_code 4 = .ok (.iload_n 0, 1) := by decide +kernel
theorem d1_5 : decode prog_67_method_2_code 5 = .ok (.iload_n 1, 1) := by decide +kernel
theorem d1_6 : decode prog_67_method_2_code 6 = .ok (.if_icmp .ne 7, 3) := by decide +kernel
theorem d1_9 : decode prog_67_method_2_code 9 = .ok (.iconst 1, 1) := by decide +kernel
theorem d1_10 : decode prog_67_method_2_code 10 = .ok (.goto 4, 3) := by decide +kernel
theorem d1_13 : decode prog_67_method_2_code 13 = .ok (.iconst 0, 1) := by decide +kernel
theorem d1_14 : decode prog_67_method_2_code 14 = .ok (.ireturn, 1) := by decide +kernel
theorem pn_1 : plainName "com/example/ideasmith/ideasmith/innovation/Sight" = true := by first | (simp [plainName, overriddenIn]; done) | decide +kernel
theorem ef_1 (m : MethodId) (x0 : Int32) (x1 : Int32) : entryFrame m #[(.int x0), (.int x1)] 2 = mkF m 0 #[.val (.int x0), .val (.int x1)] [] := by first | (simp [entryFrame, mkF, argsToLocals, Value.category]; done) | rfl
def Q1 (Z : State) (p1 p2 : Int32) (h0 : Heap) (n0 : Nat) (v : Option Value) (h : Heap) (L : List Loc) : Prop := v = some (.int (own_see p1 p2)) ∧ Fr n0 L ∧ h = h0
set_option maxRecDepth 65536 in
set_option maxHeartbeats 40000000 in
theorem rm1 (l : Launch) (Z : State) (a0 : Array Value) (hw : ∀ d ∈ tables_1, d.before a0 Z = true) (ws : List Jvm.Cond) (p1 p2 : Int32) (h0 : Heap) (n0 : Nat) (Z0 : n0 ≤ h0.size) :
    MetFree l (⟨"com/example/ideasmith/ideasmith/innovation/Sight", "seesCovered", "(II)Z"⟩ : MethodName) (head1 (Jvm.Cond.code (⟨"com/example/ideasmith/ideasmith/innovation/Sight", "seesCovered", "(II)Z"⟩ : MethodName) prog_67_method_2_code 2 (some .boolean) :: ws) ({ frames := 0, cells := 0, slots := 0, locals := 0 } : Room)) (fun a U => a = #[(.int p1), (.int p2)] ∧ Z.Warmed39 U.vm ∧ U.heap = h0) (fun _ _ _ _ _ => True) (fun _ U o U' => ∃ v L, o = .returned v ∧ Q1 Z p1 p2 h0 n0 v U'.heap L ∧ FrameEnd U o U' L ({ frames := 0, cells := 0, slots := 0, locals := 0 } : Room).cells ({ frames := 0, cells := 0, slots := 0, locals := 0 } : Room).slots) := by
  refine MetFree.of_bodySF (plainFor_of_name pn_1) hisR ?_
  intro p e s m args below meth c s₁ Bd hml0 hP hK
  obtain ⟨rfl, hZ, hh⟩ := hP
  have hx := Bd.exec
  have hby := Bd.bytes
  have hml : c.maxLocals = 2 := hml0
  have hown : s.vm.findClass "com/example/ideasmith/ideasmith/innovation/Sight" = some m.cls := findClass_of_methodNamed Bd.named
  have hnm := (name_of_methodNamed Bd.named Bd.method).1
  have X0 : Stand p l e ({ frames := 0, cells := 0, slots := 0, locals := 0 } : Room) s m #[(.int p1), (.int p2)] below meth c s₁ [] 0 0 := Stand.of_body Bd
  have e0 : s₁.heap = h0 := by rw [← hh, Bd.state]; rfl
  have N0 := Fr.nil n0
  show own_Fin p e below (fun o U' => ∃ v L, o = .returned v ∧ Q1 Z p1 p2 h0 n0 v U'.heap L ∧ FrameEnd s o U' L ({ frames := 0, cells := 0, slots := 0, locals := 0 } : Room).cells ({ frames := 0, cells := 0, slots := 0, locals := 0 } : Room).slots) (s₁.setTop (entryFrame m #[(.int p1), (.int p2)] 2))
  refine own_lift (fun t k => castTop (ef_1 m p1 p2) k) ?_
  show own_Fin p e below _ (s₁.setTop (mkF m 0 #[.val (.int p1), .val (.int p2)] []))
  refine own_lift (fun t k => XS.iloadN X0.here hx rfl (hb hby d1_0) rfl k) ?_
  show own_Fin p e below _ (s₁.setTop (mkF m 1 #[.val (.int p1), .val (.int p2)] [(.int p1)]))
  by_cases hc1_1 : p1 = (0 : Int32)
  · refine own_lift (fun t k => XS.ifYes X0.here hx rfl (pc0 := 1) (pc' := 9) rfl (hb hby d1_1) rfl ((if0 _ _).trans (teq hc1_1).1) (by decide) (by decide) k) ?_
    show own_Fin p e below _ (s₁.setTop (mkF m 9 #[.val (.int p1), .val (.int p2)] []))
    refine own_lift (fun t k => XS.iconst X0.here hx rfl (hb hby d1_9) k) ?_
    show own_Fin p e below _ (s₁.setTop (mkF m 10 #[.val (.int p1), .val (.int p2)] [(.int (1 : Int32))]))
    refine own_lift (fun t k => XS.goto X0.here hx rfl (pc0 := 10) (pc' := 14) rfl (hb hby d1_10) (by decide) (by decide) k) ?_
    show own_Fin p e below _ (s₁.setTop (mkF m 14 #[.val (.int p1), .val (.int p2)] [(.int (1 : Int32))]))
    obtain ⟨fs, hr, hrun, hended, hW, hsame⟩ := X0.leave (v := some (.int (1 : Int32))) (fun h => by rw [Bd.returns] at h; cases h)
    exact ⟨_, _, retN X0 hx (t := .boolean) Bd.returns (by simp) (hb hby d1_14) hr, hrun, hended, _, _, rfl, ⟨by simp [own_see, hc1_1], N0, e0⟩, ⟨_, rfl⟩, hW, hsame.mono (by decide) (by decide)⟩
  · refine own_lift (fun t k => XS.ifNo X0.here hx rfl (hb hby d1_1) rfl ((if0 _ _).trans (feq hc1_1).1) k) ?_
    show own_Fin p e below _ (s₁.setTop (mkF m 4 #[.val (.int p1), .val (.int p2)] []))
    refine own_lift (fun t k => XS.iloadN X0.here hx rfl (hb hby d1_4) rfl k) ?_
    show own_Fin p e below _ (s₁.setTop (mkF m 5 #[.val (.int p1), .val (.int p2)] [(.int p1)]))
    refine own_lift (fun t k => XS.iloadN X0.here hx rfl (hb hby d1_5) rfl k) ?_
    show own_Fin p e below _ (s₁.setTop (mkF m 6 #[.val (.int p1), .val (.int p2)] [(.int p2), (.int p1)]))
    by_cases hc6_2 : p1 = p2
    · refine own_lift (fun t k => XS.icmpNo X0.here hx rfl (hb hby d1_6) rfl (teq hc6_2).2 k) ?_
      show own_Fin p e below _ (s₁.setTop (mkF m 9 #[.val (.int p1), .val (.int p2)] []))
      refine own_lift (fun t k => XS.iconst X0.here hx rfl (hb hby d1_9) k) ?_
      show own_Fin p e below _ (s₁.setTop (mkF m 10 #[.val (.int p1), .val (.int p2)] [(.int (1 : Int32))]))
      refine own_lift (fun t k => XS.goto X0.here hx rfl (pc0 := 10) (pc' := 14) rfl (hb hby d1_10) (by decide) (by decide) k) ?_
      show own_Fin p e below _ (s₁.setTop (mkF m 14 #[.val (.int p1), .val (.int p2)] [(.int (1 : Int32))]))
      obtain ⟨fs, hr, hrun, hended, hW, hsame⟩ := X0.leave (v := some (.int (1 : Int32))) (fun h => by rw [Bd.returns] at h; cases h)
      exact ⟨_, _, retN X0 hx (t := .boolean) Bd.returns (by simp) (hb hby d1_14) hr, hrun, hended, _, _, rfl, ⟨by simp [own_see, hc1_1, hc6_2], N0, e0⟩, ⟨_, rfl⟩, hW, hsame.mono (by decide) (by decide)⟩
    · refine own_lift (fun t k => XS.icmpYes X0.here hx rfl (pc0 := 6) (pc' := 13) rfl (hb hby d1_6) rfl (feq hc6_2).2 (by decide) (by decide) k) ?_
      show own_Fin p e below _ (s₁.setTop (mkF m 13 #[.val (.int p1), .val (.int p2)] []))
      refine own_lift (fun t k => XS.iconst X0.here hx rfl (hb hby d1_13) k) ?_
      show own_Fin p e below _ (s₁.setTop (mkF m 14 #[.val (.int p1), .val (.int p2)] [(.int (0 : Int32))]))
      obtain ⟨fs, hr, hrun, hended, hW, hsame⟩ := X0.leave (v := some (.int (0 : Int32))) (fun h => by rw [Bd.returns] at h; cases h)
      exact ⟨_, _, retN X0 hx (t := .boolean) Bd.returns (by simp) (hb hby d1_14) hr, hrun, hended, _, _, rfl, ⟨by simp [own_see, hc1_1, hc6_2], N0, e0⟩, ⟨_, rfl⟩, hW, hsame.mono (by decide) (by decide)⟩
theorem pd_1 : parseMethodDescriptor "(II)Z" = some ⟨[.int, .int], some .boolean⟩ := by decide +kernel
theorem pn_0 : plainName "com/example/ideasmith/ideasmith/innovation/SightSeesCoveredPinLaw" = true := by first | (simp [plainName, overriddenIn]; done) | decide +kernel
theorem ef_0 (m : MethodId) (x0 : Int32) (x1 : Int32) : entryFrame m #[(.int x0), (.int x1)] maxLocals = mkF m 0 #[.val (.int x0), .val (.int x1), .unset, .unset, .unset, .unset, .unset] [] := by first | (simp [entryFrame, mkF, argsToLocals, Value.category, maxLocals]; done) | rfl
def Q0 (Z : State) (p1 p2 : Int32) (h0 : Heap) (n0 : Nat) (v : Option Value) (h : Heap) (L : List Loc) : Prop := v = some (.int (1 : Int32)) ∧ Fr n0 L
set_option maxRecDepth 65536 in
set_option maxHeartbeats 40000000 in
theorem rm0 (l : Launch) (Z : State) (a0 : Array Value) (hw : ∀ d ∈ tables_1, d.before a0 Z = true) (ws : List Jvm.Cond) (p1 p2 : Int32) (h0 : Heap) (n0 : Nat) (Z0 : n0 ≤ h0.size) :
    MetFree l x (head1 (Jvm.Cond.code x code maxLocals ret :: ws) room_1) (fun a U => a = #[(.int p1), (.int p2)] ∧ Z.Warmed39 U.vm ∧ U.heap = h0) (fun _ _ _ _ _ => True) (fun _ U o U' => ∃ v L, o = .returned v ∧ Q0 Z p1 p2 h0 n0 v U'.heap L ∧ FrameEnd U o U' L room_1.cells room_1.slots) := by
  refine MetFree.of_bodySF (plainFor_of_name pn_0) hisR ?_
  intro p e s m args below meth c s₁ Bd hml0 hP hK
  obtain ⟨rfl, hZ, hh⟩ := hP
  have hx := Bd.exec
  have hby := Bd.bytes
  have hml : c.maxLocals = 7 := hml0
  have hown : s.vm.findClass "com/example/ideasmith/ideasmith/innovation/SightSeesCoveredPinLaw" = some m.cls := findClass_of_methodNamed Bd.named
  have hnm := (name_of_methodNamed Bd.named Bd.method).1
  have X0 : Stand p l e room_1 s m #[(.int p1), (.int p2)] below meth c s₁ [] 0 0 := Stand.of_body Bd
  have e0 : s₁.heap = h0 := by rw [← hh, Bd.state]; rfl
  have N0 := Fr.nil n0
  show own_Fin p e below (fun o U' => ∃ v L, o = .returned v ∧ Q0 Z p1 p2 h0 n0 v U'.heap L ∧ FrameEnd s o U' L room_1.cells room_1.slots) (s₁.setTop (entryFrame m #[(.int p1), (.int p2)] maxLocals))
  have j12 : ∀ (T1 : State) (locs1 : List Loc) (ot : Int32), Stand p l e room_1 s m #[(.int p1), (.int p2)] below meth c T1 locs1 0 0 → T1.heap = h0 → Fr n0 locs1 → ¬ p1 = ot → own_Fin p e below (fun o U' => ∃ v L, o = .returned v ∧ Q0 Z p1 p2 h0 n0 v U'.heap L ∧ FrameEnd s o U' L room_1.cells room_1.slots) (T1.setTop (mkF m 12 #[.val (.int p1), .val (.int p2), .unset, .unset, .unset, .unset, .unset] [(.int ot)])) := by
    intro T1 locs1 ot X1 e1 N1 hot
    have hA := own_self p1
    have hB := own_whole p2
    refine own_lift (fun t k => XS.istoreN X1.here hx rfl (hb hby at_12) rfl (l' := #[.val (.int p1), .val (.int p2), .val (.int ot), .unset, .unset, .unset, .unset]) rfl k) ?_
    show own_Fin p e below _ (T1.setTop (mkF m 13 #[.val (.int p1), .val (.int p2), .val (.int ot), .unset, .unset, .unset, .unset] []))
    refine own_lift (fun t k => XS.iloadN X1.here hx rfl (hb hby at_13) rfl k) ?_
    show own_Fin p e below _ (T1.setTop (mkF m 14 #[.val (.int p1), .val (.int p2), .val (.int ot), .unset, .unset, .unset, .unset] [(.int p1)]))
    refine own_lift (fun t k => XS.iloadN X1.here hx rfl (hb hby at_14) rfl k) ?_
    show own_Fin p e below _ (T1.setTop (mkF m 15 #[.val (.int p1), .val (.int p2), .val (.int ot), .unset, .unset, .unset, .unset] [(.int p1), (.int p1)]))
    obtain ⟨_, _, ⟨Tk_1, Lk_1, kk_1, nk_1⟩, -, Xk_1, ⟨Lck_1, hQk_1, lk_1, yk_1, zk_1⟩, stk_1⟩ := Jvm.LawKit.callS X1 hx (y := (⟨"com/example/ideasmith/ideasmith/innovation/Sight", "seesCovered", "(II)Z"⟩ : MethodName)) hown (mvT hZ (hw _ (List.mem_of_getElem? (i := 0) rfl))) (mvT hZ (hw _ (List.mem_of_getElem? (i := 1) rfl))) (mvT hZ (hw _ (List.mem_of_getElem? (i := 2) rfl))) (mvT hZ (hw _ (List.mem_of_getElem? (i := 3) rfl))) (by decide) (backOf (W := 0) (rm1 l Z a0 hw [] p1 p1 h0 n0 Z0) hZ (hw _ (List.mem_of_getElem? (i := 3) rfl)) (hw _ (List.mem_of_getElem? (i := 2) rfl)) (by decide) (by decide)) (g := (mkF m 15 #[.val (.int p1), .val (.int p2), .val (.int ot), .unset, .unset, .unset, .unset] [(.int p1), (.int p1)])) rfl (by rw [hml]; rfl) (argsL := [(.int p1), (.int p1)]) (rest := []) (lenOf pd_1 rfl) rfl (by show 2 * 0 + _ ≤ _; exact Nat.le_of_eq rfl) (hb hby at_15) (fun _ _ => ⟨rfl, e1, (by decide : 0 + 0 ≤ _), (by decide : 0 + 0 ≤ _)⟩)
    dsimp only [Pt.U, Pt.locs, Pt.cells, Pt.slots] at Xk_1 lk_1 yk_1 zk_1 stk_1 hQk_1
    subst lk_1 yk_1 zk_1
    obtain ⟨rfl, Nk_1q, ek_1⟩ := hQk_1
    have Nk_1 := Fr.app N1 Nk_1q
    refine own_lift (fun t k => stk_1 _ k) ?_
    show own_Fin p e below _ (Tk_1.setTop (mkF m 18 #[.val (.int p1), .val (.int p2), .val (.int ot), .unset, .unset, .unset, .unset] [(.int (own_see p1 p1))]))
    refine own_lift (fun t k => XS.istoreN Xk_1.here hx rfl (hb hby at_18) rfl (l' := #[.val (.int p1), .val (.int p2), .val (.int ot), .val (.int (own_see p1 p1)), .unset, .unset, .unset]) rfl k) ?_
    show own_Fin p e below _ (Tk_1.setTop (mkF m 19 #[.val (.int p1), .val (.int p2), .val (.int ot), .val (.int (own_see p1 p1)), .unset, .unset, .unset] []))
    refine own_lift (fun t k => XS.iconst Xk_1.here hx rfl (hb hby at_19) k) ?_
    show own_Fin p e below _ (Tk_1.setTop (mkF m 20 #[.val (.int p1), .val (.int p2), .val (.int ot), .val (.int (own_see p1 p1)), .unset, .unset, .unset] [(.int (0 : Int32))]))
    refine own_lift (fun t k => XS.iloadN Xk_1.here hx rfl (hb hby at_20) rfl k) ?_
    show own_Fin p e below _ (Tk_1.setTop (mkF m 21 #[.val (.int p1), .val (.int p2), .val (.int ot), .val (.int (own_see p1 p1)), .unset, .unset, .unset] [(.int p2), (.int (0 : Int32))]))
    obtain ⟨_, _, ⟨Tk_2, Lk_2, kk_2, nk_2⟩, -, Xk_2, ⟨Lck_2, hQk_2, lk_2, yk_2, zk_2⟩, stk_2⟩ := Jvm.LawKit.callS Xk_1 hx (y := (⟨"com/example/ideasmith/ideasmith/innovation/Sight", "seesCovered", "(II)Z"⟩ : MethodName)) hown (mvT hZ (hw _ (List.mem_of_getElem? (i := 0) rfl))) (mvT hZ (hw _ (List.mem_of_getElem? (i := 1) rfl))) (mvT hZ (hw _ (List.mem_of_getElem? (i := 2) rfl))) (mvT hZ (hw _ (List.mem_of_getElem? (i := 3) rfl))) (by decide) (backOf (W := 0) (rm1 l Z a0 hw [] (0 : Int32) p2 h0 n0 Z0) hZ (hw _ (List.mem_of_getElem? (i := 3) rfl)) (hw _ (List.mem_of_getElem? (i := 2) rfl)) (by decide) (by decide)) (g := (mkF m 21 #[.val (.int p1), .val (.int p2), .val (.int ot), .val (.int (own_see p1 p1)), .unset, .unset, .unset] [(.int p2), (.int (0 : Int32))])) rfl (by rw [hml]; rfl) (argsL := [(.int (0 : Int32)), (.int p2)]) (rest := []) (lenOf pd_1 rfl) rfl (by show 2 * 0 + _ ≤ _; exact Nat.le_of_eq rfl) (hb hby at_21) (fun _ _ => ⟨rfl, ek_1, (by decide : 0 + 0 ≤ _), (by decide : 0 + 0 ≤ _)⟩)
    dsimp only [Pt.U, Pt.locs, Pt.cells, Pt.slots] at Xk_2 lk_2 yk_2 zk_2 stk_2 hQk_2
    subst lk_2 yk_2 zk_2
    obtain ⟨rfl, Nk_2q, ek_2⟩ := hQk_2
    have Nk_2 := Fr.app Nk_1 Nk_2q
    refine own_lift (fun t k => stk_2 _ k) ?_
    show own_Fin p e below _ (Tk_2.setTop (mkF m 24 #[.val (.int p1), .val (.int p2), .val (.int ot), .val (.int (own_see p1 p1)), .unset, .unset, .unset] [(.int (own_see (0 : Int32) p2))]))
    refine own_lift (fun t k => XS.istore Xk_2.here hx rfl (hb hby at_24) rfl (l' := #[.val (.int p1), .val (.int p2), .val (.int ot), .val (.int (own_see p1 p1)), .val (.int (own_see (0 : Int32) p2)), .unset, .unset]) rfl k) ?_
    show own_Fin p e below _ (Tk_2.setTop (mkF m 26 #[.val (.int p1), .val (.int p2), .val (.int ot), .val (.int (own_see p1 p1)), .val (.int (own_see (0 : Int32) p2)), .unset, .unset] []))
    refine own_lift (fun t k => XS.iloadN Xk_2.here hx rfl (hb hby at_26) rfl k) ?_
    show own_Fin p e below _ (Tk_2.setTop (mkF m 27 #[.val (.int p1), .val (.int p2), .val (.int ot), .val (.int (own_see p1 p1)), .val (.int (own_see (0 : Int32) p2)), .unset, .unset] [(.int p1)]))
    refine own_lift (fun t k => XS.iloadN Xk_2.here hx rfl (hb hby at_27) rfl k) ?_
    show own_Fin p e below _ (Tk_2.setTop (mkF m 28 #[.val (.int p1), .val (.int p2), .val (.int ot), .val (.int (own_see p1 p1)), .val (.int (own_see (0 : Int32) p2)), .unset, .unset] [(.int ot), (.int p1)]))
    obtain ⟨_, _, ⟨Tk_3, Lk_3, kk_3, nk_3⟩, -, Xk_3, ⟨Lck_3, hQk_3, lk_3, yk_3, zk_3⟩, stk_3⟩ := Jvm.LawKit.callS Xk_2 hx (y := (⟨"com/example/ideasmith/ideasmith/innovation/Sight", "seesCovered", "(II)Z"⟩ : MethodName)) hown (mvT hZ (hw _ (List.mem_of_getElem? (i := 0) rfl))) (mvT hZ (hw _ (List.mem_of_getElem? (i := 1) rfl))) (mvT hZ (hw _ (List.mem_of_getElem? (i := 2) rfl))) (mvT hZ (hw _ (List.mem_of_getElem? (i := 3) rfl))) (by decide) (backOf (W := 0) (rm1 l Z a0 hw [] p1 ot h0 n0 Z0) hZ (hw _ (List.mem_of_getElem? (i := 3) rfl)) (hw _ (List.mem_of_getElem? (i := 2) rfl)) (by decide) (by decide)) (g := (mkF m 28 #[.val (.int p1), .val (.int p2), .val (.int ot), .val (.int (own_see p1 p1)), .val (.int (own_see (0 : Int32) p2)), .unset, .unset] [(.int ot), (.int p1)])) rfl (by rw [hml]; rfl) (argsL := [(.int p1), (.int ot)]) (rest := []) (lenOf pd_1 rfl) rfl (by show 2 * 0 + _ ≤ _; exact Nat.le_of_eq rfl) (hb hby at_28) (fun _ _ => ⟨rfl, ek_2, (by decide : 0 + 0 ≤ _), (by decide : 0 + 0 ≤ _)⟩)
    dsimp only [Pt.U, Pt.locs, Pt.cells, Pt.slots] at Xk_3 lk_3 yk_3 zk_3 stk_3 hQk_3
    subst lk_3 yk_3 zk_3
    obtain ⟨rfl, Nk_3q, ek_3⟩ := hQk_3
    have Nk_3 := Fr.app Nk_2 Nk_3q
    refine own_lift (fun t k => stk_3 _ k) ?_
    show own_Fin p e below _ (Tk_3.setTop (mkF m 31 #[.val (.int p1), .val (.int p2), .val (.int ot), .val (.int (own_see p1 p1)), .val (.int (own_see (0 : Int32) p2)), .unset, .unset] [(.int (own_see p1 ot))]))
    refine own_lift (fun t k => XS.istore Xk_3.here hx rfl (hb hby at_31) rfl (l' := #[.val (.int p1), .val (.int p2), .val (.int ot), .val (.int (own_see p1 p1)), .val (.int (own_see (0 : Int32) p2)), .val (.int (own_see p1 ot)), .unset]) rfl k) ?_
    show own_Fin p e below _ (Tk_3.setTop (mkF m 33 #[.val (.int p1), .val (.int p2), .val (.int ot), .val (.int (own_see p1 p1)), .val (.int (own_see (0 : Int32) p2)), .val (.int (own_see p1 ot)), .unset] []))
    refine own_lift (fun t k => XS.iloadN Xk_3.here hx rfl (hb hby at_33) rfl k) ?_
    show own_Fin p e below _ (Tk_3.setTop (mkF m 34 #[.val (.int p1), .val (.int p2), .val (.int ot), .val (.int (own_see p1 p1)), .val (.int (own_see (0 : Int32) p2)), .val (.int (own_see p1 ot)), .unset] [(.int p1)]))
    by_cases hc34_4 : p1 = (0 : Int32)
    · refine own_lift (fun t k => XS.ifNo Xk_3.here hx rfl (hb hby at_34) rfl ((if0 _ _).trans (teq hc34_4).2) k) ?_
      show own_Fin p e below _ (Tk_3.setTop (mkF m 37 #[.val (.int p1), .val (.int p2), .val (.int ot), .val (.int (own_see p1 p1)), .val (.int (own_see (0 : Int32) p2)), .val (.int (own_see p1 ot)), .unset] []))
      have hC : ¬ (own_see p1 ot) = (0 : Int32) := by simp [own_see, hc34_4]
      refine own_lift (fun t k => XS.iload Xk_3.here hx rfl (hb hby at_37) rfl k) ?_
      show own_Fin p e below _ (Tk_3.setTop (mkF m 39 #[.val (.int p1), .val (.int p2), .val (.int ot), .val (.int (own_see p1 p1)), .val (.int (own_see (0 : Int32) p2)), .val (.int (own_see p1 ot)), .unset] [(.int (own_see p1 ot))]))
      refine own_lift (fun t k => XS.goto Xk_3.here hx rfl (pc0 := 39) (pc' := 52) rfl (hb hby at_39) (by decide) (by decide) k) ?_
      show own_Fin p e below _ (Tk_3.setTop (mkF m 52 #[.val (.int p1), .val (.int p2), .val (.int ot), .val (.int (own_see p1 p1)), .val (.int (own_see (0 : Int32) p2)), .val (.int (own_see p1 ot)), .unset] [(.int (own_see p1 ot))]))
      refine own_lift (fun t k => XS.istore Xk_3.here hx rfl (hb hby at_52) rfl (l' := #[.val (.int p1), .val (.int p2), .val (.int ot), .val (.int (own_see p1 p1)), .val (.int (own_see (0 : Int32) p2)), .val (.int (own_see p1 ot)), .val (.int (own_see p1 ot))]) rfl k) ?_
      show own_Fin p e below _ (Tk_3.setTop (mkF m 54 #[.val (.int p1), .val (.int p2), .val (.int ot), .val (.int (own_see p1 p1)), .val (.int (own_see (0 : Int32) p2)), .val (.int (own_see p1 ot)), .val (.int (own_see p1 ot))] []))
      refine own_lift (fun t k => XS.iloadN Xk_3.here hx rfl (hb hby at_54) rfl k) ?_
      show own_Fin p e below _ (Tk_3.setTop (mkF m 55 #[.val (.int p1), .val (.int p2), .val (.int ot), .val (.int (own_see p1 p1)), .val (.int (own_see (0 : Int32) p2)), .val (.int (own_see p1 ot)), .val (.int (own_see p1 ot))] [(.int (own_see p1 p1))]))
      refine own_lift (fun t k => XS.ifNo Xk_3.here hx rfl (hb hby at_55) rfl ((if0 _ _).trans (feq hA).1) k) ?_
      show own_Fin p e below _ (Tk_3.setTop (mkF m 58 #[.val (.int p1), .val (.int p2), .val (.int ot), .val (.int (own_see p1 p1)), .val (.int (own_see (0 : Int32) p2)), .val (.int (own_see p1 ot)), .val (.int (own_see p1 ot))] []))
      refine own_lift (fun t k => XS.iload Xk_3.here hx rfl (hb hby at_58) rfl k) ?_
      show own_Fin p e below _ (Tk_3.setTop (mkF m 60 #[.val (.int p1), .val (.int p2), .val (.int ot), .val (.int (own_see p1 p1)), .val (.int (own_see (0 : Int32) p2)), .val (.int (own_see p1 ot)), .val (.int (own_see p1 ot))] [(.int (own_see (0 : Int32) p2))]))
      refine own_lift (fun t k => XS.ifNo Xk_3.here hx rfl (hb hby at_60) rfl ((if0 _ _).trans (feq hB).1) k) ?_
      show own_Fin p e below _ (Tk_3.setTop (mkF m 63 #[.val (.int p1), .val (.int p2), .val (.int ot), .val (.int (own_see p1 p1)), .val (.int (own_see (0 : Int32) p2)), .val (.int (own_see p1 ot)), .val (.int (own_see p1 ot))] []))
      refine own_lift (fun t k => XS.iload Xk_3.here hx rfl (hb hby at_63) rfl k) ?_
      show own_Fin p e below _ (Tk_3.setTop (mkF m 65 #[.val (.int p1), .val (.int p2), .val (.int ot), .val (.int (own_see p1 p1)), .val (.int (own_see (0 : Int32) p2)), .val (.int (own_see p1 ot)), .val (.int (own_see p1 ot))] [(.int (own_see p1 ot))]))
      refine own_lift (fun t k => XS.ifNo Xk_3.here hx rfl (hb hby at_65) rfl ((if0 _ _).trans (feq hC).1) k) ?_
      show own_Fin p e below _ (Tk_3.setTop (mkF m 68 #[.val (.int p1), .val (.int p2), .val (.int ot), .val (.int (own_see p1 p1)), .val (.int (own_see (0 : Int32) p2)), .val (.int (own_see p1 ot)), .val (.int (own_see p1 ot))] []))
      refine own_lift (fun t k => XS.iconst Xk_3.here hx rfl (hb hby at_68) k) ?_
      show own_Fin p e below _ (Tk_3.setTop (mkF m 69 #[.val (.int p1), .val (.int p2), .val (.int ot), .val (.int (own_see p1 p1)), .val (.int (own_see (0 : Int32) p2)), .val (.int (own_see p1 ot)), .val (.int (own_see p1 ot))] [(.int (1 : Int32))]))
      refine own_lift (fun t k => XS.goto Xk_3.here hx rfl (pc0 := 69) (pc' := 73) rfl (hb hby at_69) (by decide) (by decide) k) ?_
      show own_Fin p e below _ (Tk_3.setTop (mkF m 73 #[.val (.int p1), .val (.int p2), .val (.int ot), .val (.int (own_see p1 p1)), .val (.int (own_see (0 : Int32) p2)), .val (.int (own_see p1 ot)), .val (.int (own_see p1 ot))] [(.int (1 : Int32))]))
      obtain ⟨fs, hr, hrun, hended, hW, hsame⟩ := Xk_3.leave (v := some (.int (1 : Int32))) (fun h => by rw [Bd.returns] at h; cases h)
      exact ⟨_, _, retN Xk_3 hx (t := .boolean) Bd.returns (by simp) (hb hby at_73) hr, hrun, hended, _, _, rfl, ⟨rfl, Nk_3⟩, ⟨_, rfl⟩, hW, hsame.mono (by decide) (by decide)⟩
    · refine own_lift (fun t k => XS.ifYes Xk_3.here hx rfl (pc0 := 34) (pc' := 42) rfl (hb hby at_34) rfl ((if0 _ _).trans (feq hc34_4).2) (by decide) (by decide) k) ?_
      show own_Fin p e below _ (Tk_3.setTop (mkF m 42 #[.val (.int p1), .val (.int p2), .val (.int ot), .val (.int (own_see p1 p1)), .val (.int (own_see (0 : Int32) p2)), .val (.int (own_see p1 ot)), .unset] []))
      have hC : (own_see p1 ot) = (0 : Int32) := by simp [own_see, hc34_4, hot]
      refine own_lift (fun t k => XS.iload Xk_3.here hx rfl (hb hby at_42) rfl k) ?_
      show own_Fin p e below _ (Tk_3.setTop (mkF m 44 #[.val (.int p1), .val (.int p2), .val (.int ot), .val (.int (own_see p1 p1)), .val (.int (own_see (0 : Int32) p2)), .val (.int (own_see p1 ot)), .unset] [(.int (own_see p1 ot))]))
      refine own_lift (fun t k => XS.ifNo Xk_3.here hx rfl (hb hby at_44) rfl ((if0 _ _).trans (teq hC).2) k) ?_
      show own_Fin p e below _ (Tk_3.setTop (mkF m 47 #[.val (.int p1), .val (.int p2), .val (.int ot), .val (.int (own_see p1 p1)), .val (.int (own_see (0 : Int32) p2)), .val (.int (own_see p1 ot)), .unset] []))
      refine own_lift (fun t k => XS.iconst Xk_3.here hx rfl (hb hby at_47) k) ?_
      show own_Fin p e below _ (Tk_3.setTop (mkF m 48 #[.val (.int p1), .val (.int p2), .val (.int ot), .val (.int (own_see p1 p1)), .val (.int (own_see (0 : Int32) p2)), .val (.int (own_see p1 ot)), .unset] [(.int (1 : Int32))]))
      refine own_lift (fun t k => XS.goto Xk_3.here hx rfl (pc0 := 48) (pc' := 52) rfl (hb hby at_48) (by decide) (by decide) k) ?_
      show own_Fin p e below _ (Tk_3.setTop (mkF m 52 #[.val (.int p1), .val (.int p2), .val (.int ot), .val (.int (own_see p1 p1)), .val (.int (own_see (0 : Int32) p2)), .val (.int (own_see p1 ot)), .unset] [(.int (1 : Int32))]))
      refine own_lift (fun t k => XS.istore Xk_3.here hx rfl (hb hby at_52) rfl (l' := #[.val (.int p1), .val (.int p2), .val (.int ot), .val (.int (own_see p1 p1)), .val (.int (own_see (0 : Int32) p2)), .val (.int (own_see p1 ot)), .val (.int (1 : Int32))]) rfl k) ?_
      show own_Fin p e below _ (Tk_3.setTop (mkF m 54 #[.val (.int p1), .val (.int p2), .val (.int ot), .val (.int (own_see p1 p1)), .val (.int (own_see (0 : Int32) p2)), .val (.int (own_see p1 ot)), .val (.int (1 : Int32))] []))
      refine own_lift (fun t k => XS.iloadN Xk_3.here hx rfl (hb hby at_54) rfl k) ?_
      show own_Fin p e below _ (Tk_3.setTop (mkF m 55 #[.val (.int p1), .val (.int p2), .val (.int ot), .val (.int (own_see p1 p1)), .val (.int (own_see (0 : Int32) p2)), .val (.int (own_see p1 ot)), .val (.int (1 : Int32))] [(.int (own_see p1 p1))]))
      refine own_lift (fun t k => XS.ifNo Xk_3.here hx rfl (hb hby at_55) rfl ((if0 _ _).trans (feq hA).1) k) ?_
      show own_Fin p e below _ (Tk_3.setTop (mkF m 58 #[.val (.int p1), .val (.int p2), .val (.int ot), .val (.int (own_see p1 p1)), .val (.int (own_see (0 : Int32) p2)), .val (.int (own_see p1 ot)), .val (.int (1 : Int32))] []))
      refine own_lift (fun t k => XS.iload Xk_3.here hx rfl (hb hby at_58) rfl k) ?_
      show own_Fin p e below _ (Tk_3.setTop (mkF m 60 #[.val (.int p1), .val (.int p2), .val (.int ot), .val (.int (own_see p1 p1)), .val (.int (own_see (0 : Int32) p2)), .val (.int (own_see p1 ot)), .val (.int (1 : Int32))] [(.int (own_see (0 : Int32) p2))]))
      refine own_lift (fun t k => XS.ifNo Xk_3.here hx rfl (hb hby at_60) rfl ((if0 _ _).trans (feq hB).1) k) ?_
      show own_Fin p e below _ (Tk_3.setTop (mkF m 63 #[.val (.int p1), .val (.int p2), .val (.int ot), .val (.int (own_see p1 p1)), .val (.int (own_see (0 : Int32) p2)), .val (.int (own_see p1 ot)), .val (.int (1 : Int32))] []))
      refine own_lift (fun t k => XS.iload Xk_3.here hx rfl (hb hby at_63) rfl k) ?_
      show own_Fin p e below _ (Tk_3.setTop (mkF m 65 #[.val (.int p1), .val (.int p2), .val (.int ot), .val (.int (own_see p1 p1)), .val (.int (own_see (0 : Int32) p2)), .val (.int (own_see p1 ot)), .val (.int (1 : Int32))] [(.int (1 : Int32))]))
      refine own_lift (fun t k => XS.ifNo Xk_3.here hx rfl (hb hby at_65) rfl ((if0 _ _).trans (feq (by decide : ¬ ((1 : Int32) = (0 : Int32)))).1) k) ?_
      show own_Fin p e below _ (Tk_3.setTop (mkF m 68 #[.val (.int p1), .val (.int p2), .val (.int ot), .val (.int (own_see p1 p1)), .val (.int (own_see (0 : Int32) p2)), .val (.int (own_see p1 ot)), .val (.int (1 : Int32))] []))
      refine own_lift (fun t k => XS.iconst Xk_3.here hx rfl (hb hby at_68) k) ?_
      show own_Fin p e below _ (Tk_3.setTop (mkF m 69 #[.val (.int p1), .val (.int p2), .val (.int ot), .val (.int (own_see p1 p1)), .val (.int (own_see (0 : Int32) p2)), .val (.int (own_see p1 ot)), .val (.int (1 : Int32))] [(.int (1 : Int32))]))
      refine own_lift (fun t k => XS.goto Xk_3.here hx rfl (pc0 := 69) (pc' := 73) rfl (hb hby at_69) (by decide) (by decide) k) ?_
      show own_Fin p e below _ (Tk_3.setTop (mkF m 73 #[.val (.int p1), .val (.int p2), .val (.int ot), .val (.int (own_see p1 p1)), .val (.int (own_see (0 : Int32) p2)), .val (.int (own_see p1 ot)), .val (.int (1 : Int32))] [(.int (1 : Int32))]))
      obtain ⟨fs, hr, hrun, hended, hW, hsame⟩ := Xk_3.leave (v := some (.int (1 : Int32))) (fun h => by rw [Bd.returns] at h; cases h)
      exact ⟨_, _, retN Xk_3 hx (t := .boolean) Bd.returns (by simp) (hb hby at_73) hr, hrun, hended, _, _, rfl, ⟨rfl, Nk_3⟩, ⟨_, rfl⟩, hW, hsame.mono (by decide) (by decide)⟩
  refine own_lift (fun t k => castTop (ef_0 m p1 p2) k) ?_
  show own_Fin p e below _ (s₁.setTop (mkF m 0 #[.val (.int p1), .val (.int p2), .unset, .unset, .unset, .unset, .unset] []))
  refine own_lift (fun t k => XS.iloadN X0.here hx rfl (hb hby at_0) rfl k) ?_
  show own_Fin p e below _ (s₁.setTop (mkF m 1 #[.val (.int p1), .val (.int p2), .unset, .unset, .unset, .unset, .unset] [(.int p2)]))
  refine own_lift (fun t k => XS.iloadN X0.here hx rfl (hb hby at_1) rfl k) ?_
  show own_Fin p e below _ (s₁.setTop (mkF m 2 #[.val (.int p1), .val (.int p2), .unset, .unset, .unset, .unset, .unset] [(.int p1), (.int p2)]))
  by_cases hc2_12 : p2 = p1
  · refine own_lift (fun t k => XS.icmpNo X0.here hx rfl (hb hby at_2) rfl (teq hc2_12).2 k) ?_
    show own_Fin p e below _ (s₁.setTop (mkF m 5 #[.val (.int p1), .val (.int p2), .unset, .unset, .unset, .unset, .unset] []))
    refine own_lift (fun t k => XS.iloadN X0.here hx rfl (hb hby at_5) rfl k) ?_
    show own_Fin p e below _ (s₁.setTop (mkF m 6 #[.val (.int p1), .val (.int p2), .unset, .unset, .unset, .unset, .unset] [(.int p1)]))
    refine own_lift (fun t k => XS.iconst X0.here hx rfl (hb hby at_6) k) ?_
    show own_Fin p e below _ (s₁.setTop (mkF m 7 #[.val (.int p1), .val (.int p2), .unset, .unset, .unset, .unset, .unset] [(.int (1 : Int32)), (.int p1)]))
    refine own_lift (fun t k => XS.iadd X0.here hx rfl (hb hby at_7) rfl k) ?_
    show own_Fin p e below _ (s₁.setTop (mkF m 8 #[.val (.int p1), .val (.int p2), .unset, .unset, .unset, .unset, .unset] [(.int (p1 + (1 : Int32)))]))
    refine own_lift (fun t k => XS.goto X0.here hx rfl (pc0 := 8) (pc' := 12) rfl (hb hby at_8) (by decide) (by decide) k) ?_
    show own_Fin p e below _ (s₁.setTop (mkF m 12 #[.val (.int p1), .val (.int p2), .unset, .unset, .unset, .unset, .unset] [(.int (p1 + (1 : Int32)))]))
    exact j12 _ _ _ X0 e0 N0 (own_next p1)
  · refine own_lift (fun t k => XS.icmpYes X0.here hx rfl (pc0 := 2) (pc' := 11) rfl (hb hby at_2) rfl (feq hc2_12).2 (by decide) (by decide) k) ?_
    show own_Fin p e below _ (s₁.setTop (mkF m 11 #[.val (.int p1), .val (.int p2), .unset, .unset, .unset, .unset, .unset] []))
    refine own_lift (fun t k => XS.iloadN X0.here hx rfl (hb hby at_11) rfl k) ?_
    show own_Fin p e below _ (s₁.setTop (mkF m 12 #[.val (.int p1), .val (.int p2), .unset, .unset, .unset, .unset, .unset] [(.int p2)]))
    exact j12 _ _ _ X0 e0 N0 (fun q => hc2_12 q.symm)
set_option maxRecDepth 65536 in
set_option maxHeartbeats 40000000 in
theorem comes_1 {Post : Tables → Env → Array Value → State → Outcome → State → Prop} (hpost : ∀ tb e args s v u, (limb_1_1.after args s (.returned v) u = true ∧ limb_1_2.after args s (.returned v) u = true ∧ True) → FrameEnd s (.returned v) u (Jvm.fieldLocs frame_1_writes args s ++ Jvm.arrayLocs frame_1_arrays args s ++ Jvm.staticLocs frame_1_statics s) 0 0 → Post tb e args s (.returned v) u) :
    ArmFor flags0 classFile x code maxLocals ret World_1 tables_1 room_1 Calls_1 rest_1 Pre_1 Post := by
  intro l hfl _ _ p e ha hc hk s m args below hf hA hF happ hP
  obtain ⟨hcalls, hrest, hpre⟩ := hP
  obtain ⟨-, -, -, hnamed, -, -, -, hat⟩ := (Spec.applies_iff hf).mp happ
  obtain ⟨hg, hn⟩ := and_e (Cond.before_iff.mp (show (Jvm.Cond.and given_1 narrow_1).before args s = true from hpre))
  obtain ⟨gc, g0⟩ := and_e hg
  obtain ⟨c0, g1⟩ := and_e g0
  obtain ⟨w0, w1, rfl⟩ : ∃ w0 w1 : Value, args = #[w0, w1] := by
    have hs : args.size = 2 := by simpa [Cond.value, given_1] using gc
    obtain ⟨L⟩ := args
    match L, hs with
    | [w0, w1], _ => exact ⟨w0, w1, rfl⟩
  have hw := fun d (hd : d ∈ tables_1) => atoms_spec (ws := Jvm.Cond.code x code maxLocals ret :: tables_1) hat d (List.mem_cons_of_mem _ hd)
  obtain ⟨i0, ei0⟩ := is_v c0
  obtain rfl : w0 = (.int i0) := Option.some.inj ei0
  obtain ⟨i1, ei1⟩ := is_v g1
  obtain rfl : w1 = (.int i1) := Option.some.inj ei1
  obtain ⟨n, o, h1, h2, h3, _, L, rfl, ⟨rfl, N⟩, hq⟩ := rm0 l s _ hw tables_1 i0 i1 s.heap s.heap.size (Nat.le_refl _) p e ha hc hk s m _ below hf ((Spec.applies_iff_loose hf).mp happ).1 ⟨rfl, State.Warmed39.refl s, rfl⟩ trivial
  refine ⟨n, _, h1, h2, h3, hpost _ _ _ _ _ _ ⟨Cond.after_iff.mpr rfl, Cond.after_iff.mpr (eq_i res_at (Term.int_eval (1)) rfl), trivial⟩ ⟨hq.1, hq.2.1, (hq.2.2.sift fun y hy => Or.inr (N y hy)).mono (by decide) (by decide)⟩⟩
theorem main_1_1 : Claimed_1_1 := comes_1 fun _ _ _ _ _ _ h hF => ⟨h.1, hF⟩
theorem main_1_2 : Claimed_1_2 := comes_1 fun _ _ _ _ _ _ h hF => ⟨h.2.1, hF⟩
end Jvm.Pilot.@@N@@
namespace Jvm.Pilot.@@N@@
open Jvm Jvm.ClassFile Sem Op Lib Jvm.Free Jvm.Stand Jvm.Pilot.@@N@@.Jvm.D
/-! MADE BY PROGRAM (witnessworld.py) out of the Statement's table words and the real class files: 9 classes; the members and pool entries that the words name. The judged class is class 1, her method 1. -/
namespace start1
open Jvm.ClassFile
def u (s : String) : CpInfo := .utf8 (stringToUtf16 s)
/-- a pool by its gaps: so many unusable entries, then the entry; so many at the end -/
def gap : Nat → List CpInfo → List CpInfo
  | 0, r => r
  | n + 1, r => .unusable :: gap n r
def poolList (es : List (Nat × CpInfo)) (last : Nat) : List CpInfo := es.foldr (fun e r => gap e.1 (e.2 :: r)) (gap last [])
def pool (es : List (Nat × CpInfo)) (last : Nat) : Array CpInfo := ⟨poolList es last⟩
def fileOf (pool : Array CpInfo) (this : Nat) (attrs : Array Attribute := #[]) (ms : Array MethodInfo := #[]) (fl : Nat := 33) (sup : Nat := 0) (ifs : Array Nat := #[]) (fds : Array FieldInfo := #[]) : ClassFile where
  minorVersion := 0
  majorVersion := 65
  constantPool := pool
  accessFlags := fl
  thisClass := this
  superClass := sup
  interfaces := ifs
  fields := fds
  methods := ms
  attributes := attrs
def plain (name : String) (sup : Option ClassId) : Class where
  name := name
  kind := .ordinary
  loader := none
  accessFlags := 33
  super := sup
  interfaces := #[]
  cf := none
  fields := #[]
  methods := #[]
  instanceTypes := #[]
  staticTypes := #[]
  resolved := #[]
  callSites := []
  init := .initialized
  statics := none
  mirror := none

def pool0 : Array CpInfo := pool [(5, u "<init>"), (0, u "()V"), (1, .class_ 10), (1, u "java/lang/Object")] 113

def k0m0 : Method := { name := "<init>", desc := "()V", sig := { parameters := [], returnType := none }, accessFlags := 1, code := none }
/-- java/lang/Object -/
def k0 : Class := { plain "java/lang/Object" none with
  accessFlags := 33
  interfaces := #[]
  cf := some (fileOf pool0 8 #[] #[{ accessFlags := 1, nameIndex := 5, descriptorIndex := 6, attributes := #[] }] 33 0 #[] #[])
  fields := #[]
  methods := #[k0m0]
  instanceTypes := #[]
  staticTypes := #[]
  resolved := Array.replicate 124 none
  statics := none }

def pool1 : Array CpInfo := pool [(2, .class_ 4), (1, u "java/lang/Object"), (0, u "<init>"), (0, u "()V"), (0, .methodref 8 9), (0, .class_ 10), (0, .nameAndType 11 12), (0, u "com/example/ideasmith/ideasmith/innovation/Sight"), (0, u "seesCovered"), (0, u "(II)Z"), (0, .class_ 14), (0, u "com/example/ideasmith/ideasmith/innovation/SightSeesCoveredPinLaw"), (2, u "law")] 3

def k1m0 : Method := { name := "<init>", desc := "()V", sig := { parameters := [], returnType := none }, accessFlags := 2, code := none }
def k1c1 : Code := { maxStack := 2, maxLocals := 7, code := code, exceptionTable := #[], attributes := #[] }
def k1m1 : Method := { name := "law", desc := "(II)Z", sig := { parameters := [.int, .int], returnType := some .boolean }, accessFlags := 9, code := some k1c1 }
/-- com/example/ideasmith/ideasmith/innovation/SightSeesCoveredPinLaw -/
def k1 : Class := { plain "com/example/ideasmith/ideasmith/innovation/SightSeesCoveredPinLaw" (some 0) with
  accessFlags := 49
  interfaces := #[]
  cf := some (fileOf pool1 13 #[] #[{ accessFlags := 2, nameIndex := 5, descriptorIndex := 6, attributes := #[] }, { accessFlags := 9, nameIndex := 17, descriptorIndex := 12, attributes := #[] }] 49 2 #[] #[])
  fields := #[]
  methods := #[k1m0, k1m1]
  instanceTypes := #[]
  staticTypes := #[]
  resolved := Array.replicate 21 none
  statics := none }

def pool2 : Array CpInfo := pool [(2, .class_ 4), (1, u "java/lang/Object"), (0, u "<init>"), (0, u "()V"), (1, .class_ 10), (1, u "com/example/ideasmith/ideasmith/innovation/Sight"), (0, u "seesCovered"), (0, u "(II)Z")] 13

def k2m0 : Method := { name := "<init>", desc := "()V", sig := { parameters := [], returnType := none }, accessFlags := 2, code := none }
def k2c1 : Code := { maxStack := 2, maxLocals := 2, code := prog_67_method_2_code, exceptionTable := #[], attributes := #[] }
def k2m1 : Method := { name := "seesCovered", desc := "(II)Z", sig := { parameters := [.int, .int], returnType := some .boolean }, accessFlags := 8, code := some k2c1 }
/-- com/example/ideasmith/ideasmith/innovation/Sight -/
def k2 : Class := { plain "com/example/ideasmith/ideasmith/innovation/Sight" (some 0) with
  accessFlags := 48
  interfaces := #[]
  cf := some (fileOf pool2 8 #[] #[{ accessFlags := 2, nameIndex := 5, descriptorIndex := 6, attributes := #[] }, { accessFlags := 8, nameIndex := 11, descriptorIndex := 12, attributes := #[] }] 48 2 #[] #[])
  fields := #[]
  methods := #[k2m0, k2m1]
  instanceTypes := #[]
  staticTypes := #[]
  resolved := Array.replicate 26 none
  statics := none }

def pool3 : Array CpInfo := pool [(1, u "java/lang/Cloneable"), (0, .class_ 1), (0, u "java/lang/Object"), (0, .class_ 3)] 3

/-- java/lang/Cloneable -/
def k3 : Class := { plain "java/lang/Cloneable" (some 0) with
  accessFlags := 1537
  interfaces := #[]
  cf := some (fileOf pool3 2 #[] #[] 1537 4 #[] #[])
  fields := #[]
  methods := #[]
  instanceTypes := #[]
  staticTypes := #[]
  resolved := Array.replicate 8 none
  statics := none }

def pool4 : Array CpInfo := pool [(1, u "java/io/Serializable"), (0, .class_ 1), (0, u "java/lang/Object"), (0, .class_ 3)] 3

/-- java/io/Serializable -/
def k4 : Class := { plain "java/io/Serializable" (some 0) with
  accessFlags := 1537
  interfaces := #[]
  cf := some (fileOf pool4 2 #[] #[] 1537 4 #[] #[])
  fields := #[]
  methods := #[]
  instanceTypes := #[]
  staticTypes := #[]
  resolved := Array.replicate 8 none
  statics := none }

/-- the primitive byte -/
def k5 : Class := { plain "byte" none with kind := .primitive 'B', accessFlags := 0x411 }
/-- [B -/
def k6 : Class := { plain "[B" (some 0) with kind := .array 5 .byte, interfaces := #[3, 4], accessFlags := 1041 }

/-- the primitive int -/
def k7 : Class := { plain "int" none with kind := .primitive 'I', accessFlags := 0x411 }
/-- [I -/
def k8 : Class := { plain "[I" (some 0) with kind := .array 7 .int, interfaces := #[3, 4], accessFlags := 1041 }

def heap : Heap := #[]
def classes : Array Class := #[k0, k1, k2, k3, k4, k5, k6, k7, k8]
def interned : List (Array UInt16 × Addr) := []
def slotsUsed : Nat := 0
def theMethod : MethodId := ⟨1, 1⟩
def args0 : Array Value := #[.int 5, .int 7]
def aboutOver (below : List Frame) : State where
  vm := { classes := classes, interned := interned.toArray }
  heap := heap
  slotsUsed := slotsUsed
  threads := #[{ frames := .invoking theMethod args0 :: below }]
def below0 : List Frame := [.native { method := ⟨0, 0⟩, args := #[] }]
def about1 : State := aboutOver below0
def p0 : Program := .bare "" "" ""
def e0 : Env := launch0.env 0 0 0
theorem w_frames : about1.frames = Frame.invoking theMethod args0 :: below0 := rfl
set_option maxRecDepth 65536 in
theorem w_args : argsFit about1.vm theMethod args0 = true := by decide +kernel
set_option maxRecDepth 65536 in
theorem w_heap : heapFits about1 = true := by decide +kernel
set_option maxRecDepth 65536 in
theorem w_runnable : about1.curStatus? = some .runnable := by decide +kernel
set_option maxRecDepth 65536 in
theorem w_alone : about1.alone = true := by decide +kernel
set_option maxRecDepth 65536 in
theorem w_named : about1.methodNamed? x = some theMethod := by decide +kernel
set_option maxRecDepth 65536 in
theorem w_hears : about1.hears theMethod below0 = true := by decide +kernel
set_option maxRecDepth 65536 in
theorem w_ripe : about1.ripe theMethod args0 below0 = true := by decide +kernel
theorem w_running : about1.status = .running := rfl
set_option maxRecDepth 65536 in
theorem w_room : about1.hasRoom e0.platform room_1 = true :=
  launch0.hasRoom_least _ room_1 (by decide +kernel) (by decide +kernel) (by decide +kernel) (by decide +kernel) (by decide +kernel) (by decide +kernel)
theorem allAtoms_all (ts : List Jvm.Cond) (a : Array Jvm.Value) (st : Jvm.State) : (allAtoms ts).before a st = ts.all (fun c => c.before a st) := by
  induction ts with
  | nil => rfl
  | cons c t ih =>
    show (Jvm.Cond.and c (allAtoms t)).before a st = _
    rw [Jvm.Cond.before_and, ih, List.all_cons]
def words1 : List Jvm.Cond := Jvm.Cond.code x code maxLocals ret :: tables_1
/-- a 'code' word, met by the world's own term for the bytes: nothing is compared byte by byte -/
theorem code_word {y : MethodName} {bytes : ByteArray} {mx : Nat} {rt : Option FieldType} {a : Array Value} {s : State} {m : MethodId} {meth : Method} {c : Code} (h1 : s.methodNamed? y = some m) (h2 : s.vm.method? m = some meth) (h3 : meth.code = some c) (h4 : c.code = bytes)
    (h5 : (c.maxLocals == mx && c.exceptionTable.isEmpty && decide (c.maxStack ≤ mostOperands) && decide (meth.sig.returnType = rt) && !meth.locks && decide (parseMethodDescriptor y.desc = some meth.sig)) = true) : (Jvm.Cond.code y bytes mx rt).before a s = true := by
  simp only [Bool.and_eq_true, beq_iff_eq, Bool.not_eq_true', decide_eq_true_eq] at h5
  obtain ⟨⟨⟨⟨⟨g1, g2⟩, g3⟩, g4⟩, g5⟩, g6⟩ := h5
  simp [Cond.before, Cond.holds, Cond.value, h1, h2, h3, h4, g1, g2, g3, g4, g5, g6]
def isCode : Jvm.Cond → Bool
  | .code _ _ _ _ => true
  | _ => false
theorem all_split {L : List Jvm.Cond} {P : Jvm.Cond → Bool} (h1 : L.all (fun c => isCode c || P c) = true) (h2 : ∀ c ∈ L.filter isCode, P c = true) : L.all P = true := by
  refine List.all_eq_true.mpr fun c hc => ?_
  have h := List.all_eq_true.mp h1 c hc
  rcases Bool.eq_false_or_eq_true (isCode c) with hi | hi
  · exact h2 c (List.mem_filter.mpr ⟨hc, hi⟩)
  · simpa [hi] using h
set_option maxRecDepth 65536 in
theorem w_c0 : (Jvm.Cond.code x code maxLocals ret).before args0 about1 = true := code_word (m := ⟨1, 1⟩) (meth := k1m1) (c := k1c1) (by decide +kernel) rfl rfl rfl (by decide +kernel)
set_option maxRecDepth 65536 in
theorem w_c1 : (Jvm.Cond.code ({ cls := "com/example/ideasmith/ideasmith/innovation/Sight", name := "seesCovered", desc := "(II)Z" } : Jvm.MethodName) prog_67_method_2_code (2 : Nat) (Option.some Jvm.ClassFile.FieldType.boolean)).before args0 about1 = true := code_word (m := ⟨2, 1⟩) (meth := k2m1) (c := k2c1) (by decide +kernel) rfl rfl rfl (by decide +kernel)
def codes1 : List Jvm.Cond := [Jvm.Cond.code x code maxLocals ret, Jvm.Cond.code ({ cls := "com/example/ideasmith/ideasmith/innovation/Sight", name := "seesCovered", desc := "(II)Z" } : Jvm.MethodName) prog_67_method_2_code (2 : Nat) (Option.some Jvm.ClassFile.FieldType.boolean)]
set_option maxRecDepth 65536 in
theorem codes_eq : words1.filter isCode = codes1 := rfl
theorem w_codes : ∀ c ∈ words1.filter isCode, c.before args0 about1 = true := by
  rw [codes_eq]
  intro c hc
  simp only [codes1, List.mem_cons, List.not_mem_nil, or_false] at hc
  rcases hc with rfl | rfl
  · exact w_c0
  · exact w_c1
set_option maxRecDepth 65536 in
theorem w_t1 : words1.all (fun c => isCode c || c.before args0 about1) = true := by decide +kernel
theorem w_tables : (allAtoms (Jvm.Cond.code x code maxLocals ret :: tables_1)).before args0 about1 = true := by
  rw [allAtoms_all]
  show words1.all (fun c => c.before args0 about1) = true
  refine all_split ?_ w_codes
  rw [w_t1]
set_option maxRecDepth 65536 in
theorem w_case : (Jvm.Cond.and given_1 narrow_1).before args0 about1 = true := by decide +kernel
theorem w_applies : (headSpec (Jvm.Cond.code x code maxLocals ret :: tables_1) room_1).applies x e0.platform about1 = true :=
  (Spec.applies_iff w_frames).mpr ⟨w_running, w_runnable, w_alone, w_named, w_hears, w_ripe, w_room, w_tables⟩
theorem atStart : AtStart classFile x code maxLocals ret World_1 tables_1 room_1 Calls_1 rest_1 Pre_1 launch0 p0 e0 about1 theMethod args0 below0 :=
  ⟨lists_1, trivial, launch0.admits_env _ _ _, launch0.least_env, fairChoices_fair.cas, fairChoices_fair.clock, w_frames, w_args, w_heap, w_applies, trivial, trivial, w_case⟩
end start1
theorem witness_1 : WitnessClaimed_1 := ⟨start1.p0, start1.e0, start1.about1, start1.theMethod, start1.args0, start1.below0, start1.atStart⟩
end Jvm.Pilot.@@N@@
