import JvmDerived
import JvmDerived.Pilot.@@N@@Statement
import JvmDerived.Pilot.@@N@@Code
set_option linter.unusedVariables false
set_option linter.unusedSimpArgs false
@@BLOCK:NumsL.lean.txt@@
namespace Jvm.RoadKit
open Sem ClassFile Op Lib Jvm.Stand Jvm.Free Jvm.LawKit
section New
variable {p : Program} {l : Launch} {e : Env} {R : Room} {s : State} {m : MethodId} {args : Array Value} {below : List Frame} {meth : Method} {c : Code} {T : State} {locs : List Loc} {cells slots : Nat}
theorem retI (X : Stand p l e R s m args below meth c T locs cells slots) (hx : p.tables.exec = Jvm.exec) {pc : Nat} {Ls : Array Slot} {z : Int32} {rest : List Value} (hret : meth.sig.returnType = some .int) (hd : decode c.code pc = .ok (.ireturn, 1)) {fs : List Frame}
    (hl : ∀ (f : JFrame) (acts : List Action), f.method = m → f.locked = none → f.entered = [] → (doReturn e (T.setTop f) acts (some (.int z))).1 = T.setFrames fs) : Steps p.tables e below (T.setTop (mkF m pc Ls (.int z :: rest))) (T.setFrames fs) := by
  have hm' : T.vm.method? m = some meth := X.method'
  have hn : narrow .int (.int z) = .int z := rfl
  show Steps p.tables e below (T.setTop { method := m, pc := pc, locals := Ls, stack := _ :: rest, locked := none }) _
  jvm_step X.here [X.here.top, hx, hd, hm', hret, hn]
  first | (intro acts; rw [hl _ acts rfl rfl rfl]) | rw [hl _ _ rfl rfl rfl]
  exact Steps.refl _
end New
end Jvm.RoadKit
namespace Jvm.Pilot.@@N@@
open Jvm Jvm.ClassFile Sem Op Lib Jvm.Free Jvm.Stand Jvm.LawKit Jvm.RoadKit Bundle Jvm.Pilot.@@N@@.Jvm.D
def own_Fin (p : Program) (e : Env) (below : List Frame) (G : Outcome → State → Prop) (st : State) : Prop :=
  ∃ s₂ o, Steps p.tables e below st s₂ ∧ s₂.status = .running ∧ Ended s₂ below o ∧ G o s₂
theorem own_lift {p : Program} {e : Env} {below : List Frame} {G : Outcome → State → Prop} {st st' : State} (k : ∀ t, Steps p.tables e below st' t → Steps p.tables e below st t) (h : own_Fin p e below G st') : own_Fin p e below G st := by
  obtain ⟨t, o, h1, h2⟩ := h
  exact ⟨t, o, k t h1, h2⟩

/-! the plain law -/
/-- what withinModel compares -/
def own_lim (f : Int32) : Int64 := (2 * f.toInt64) + 1
theorem own_lim_toInt (f : Int32) : (own_lim f).toInt = 2 * f.toInt + 1 := by
  have h1 := f.toInt_lt
  have h2 := f.le_toInt
  have e1 : f.toInt64.toInt = f.toInt := Jvm.Kit.i64_of_i32 f
  have c3 : (2 : Int64).toInt = 2 := rfl
  have c2 : (1 : Int64).toInt = 1 := rfl
  have d1 : (2 * f.toInt64).toInt = 2 * f.toInt := by rw [Jvm.Kit.i64_mul (by rw [c3]; omega) (by rw [c3]; omega), c3, e1]
  unfold own_lim
  rw [Jvm.Kit.i64_add (by omega) (by omega), d1, c2]
theorem own_first (a f : Int32) : (a.toInt64 < own_lim f) ↔ (a.toInt64 - f.toInt64 ≤ f.toInt64) := by
  have h1 := f.toInt_lt
  have h2 := f.le_toInt
  have h3 := a.toInt_lt
  have h4 := a.le_toInt
  have e1 : f.toInt64.toInt = f.toInt := Jvm.Kit.i64_of_i32 f
  have e2 : a.toInt64.toInt = a.toInt := Jvm.Kit.i64_of_i32 a
  rw [Int64.lt_iff_toInt_lt, Int64.le_iff_toInt_le, own_lim_toInt, Jvm.Kit.i64_sub (by omega) (by omega), e1, e2]
  omega
theorem own_g (f : Int32) : (2 * (f &&& 1073741823) + 1).toInt = 2 * (f &&& 1073741823).toInt + 1 ∧ (2 * (f &&& 1073741823) + 1 - 1).toInt = 2 * (f &&& 1073741823).toInt := by
  have e1 : (f &&& 1073741823).toInt = f.toInt % 2 ^ 30 := Jvm.Kit.i32_mask f 1073741823 (k := 30) (by decide) (by decide)
  generalize (f &&& 1073741823) = g at *
  have c3 : (2 : Int32).toInt = 2 := rfl
  have c2 : (1 : Int32).toInt = 1 := rfl
  have d1 : (2 * g).toInt = 2 * g.toInt := by rw [Jvm.Kit.i32_mul (by rw [c3]; omega) (by rw [c3]; omega), c3]
  have d2 : (2 * g + 1).toInt = 2 * g.toInt + 1 := by rw [Jvm.Kit.i32_add (by omega) (by omega), d1, c2]
  refine ⟨d2, ?_⟩
  rw [Jvm.Kit.i32_sub (by omega) (by omega), d2, c2]; omega
theorem own_least (f : Int32) : ¬ (2 * (f &&& 1073741823) + 1).toInt64 < own_lim (f &&& 1073741823) := by
  have e2 : (2 * (f &&& 1073741823) + 1).toInt64.toInt = _ := Jvm.Kit.i64_of_i32 (2 * (f &&& 1073741823) + 1)
  rw [Int64.lt_iff_toInt_lt, own_lim_toInt, e2, (own_g f).1]
  omega
theorem own_below (f : Int32) : (2 * (f &&& 1073741823) + 1 - 1).toInt64 < own_lim (f &&& 1073741823) := by
  have e2 : (2 * (f &&& 1073741823) + 1 - 1).toInt64.toInt = _ := Jvm.Kit.i64_of_i32 (2 * (f &&& 1073741823) + 1 - 1)
  rw [Int64.lt_iff_toInt_lt, own_lim_toInt, e2, (own_g f).2]
  omega

def own_wm (a f : Int32) : Int32 := if lcmpW a.toInt64 (own_lim f) < 0 then 0 else 1
theorem own_wm0 (a f : Int32) (b : Int32) (h : ((0 : Int32) < lcmpW (a.toInt64 - f.toInt64) f.toInt64 ∧ b = 1) ∨ (¬ (0 : Int32) < lcmpW (a.toInt64 - f.toInt64) f.toInt64 ∧ b = 0)) : own_wm a f = b := by
  unfold own_wm
  rw [lw_gt] at h
  simp only [lw_lt, own_first]
  rcases h with ⟨h, rfl⟩ | ⟨h, rfl⟩
  · rw [if_neg (Int64.not_le.mpr h)]
  · rw [if_pos (Int64.not_lt.mp h)]
theorem own_wm1 (f : Int32) : ¬ own_wm (((2 : Int32) * (f &&& (1073741823 : Int32))) + (1 : Int32)) (f &&& (1073741823 : Int32)) = 0 := by
  unfold own_wm
  simp only [lw_lt]
  rw [if_neg (own_least f)]; decide
theorem own_wm2 (f : Int32) : own_wm ((((2 : Int32) * (f &&& (1073741823 : Int32))) + (1 : Int32)) - (1 : Int32)) (f &&& (1073741823 : Int32)) = 0 := by
  unfold own_wm
  simp only [lw_lt]
  rw [if_pos (own_below f)]

theorem d1_0 : decode prog_51_method_2_code 0 = .ok (.iload_n 0, 1) := by decide +kernel
theorem d1_1 : decode prog_51_method_2_code 1 = .ok (.i2l, 1) := by decide +kernel
theorem d1_2 : decode prog_51_method_2_code 2 = .ok (.ldc2_w 49, 3) := by decide +kernel
theorem d1_5 : decode prog_51_method_2_code 5 = .ok (.iload_n 1, 1) := by decide +kernel
theorem d1_6 : decode prog_51_method_2_code 6 = .ok (.i2l, 1) := by decide +kernel
theorem d1_7 : decode prog_51_method_2_code 7 = .ok (.lmul, 1) := by decide +kernel
theorem d1_8 : decode prog_51_method_2_code 8 = .ok (.lconst 1, 1) := by decide +kernel
theorem d1_9 : decode prog_51_method_2_code 9 = .ok (.ladd, 1) := by decide +kernel
theorem d1_10 : decode prog_51_method_2_code 10 = .ok (.lcmp, 1) := by decide +kernel
theorem d1_11 : decode prog_51_method_2_code 11 = .ok (.ifCond .lt 7, 3) := by decide +kernel
theorem d1_14 : decode prog_51_method_2_code 14 = .ok (.iconst 1, 1) := by decide +kernel
theorem d1_15 : decode prog_51_method_2_code 15 = .ok (.goto 4, 3) := by decide +kernel
theorem d1_18 : decode prog_51_method_2_code 18 = .ok (.iconst 0, 1) := by decide +kernel
theorem d1_19 : decode prog_51_method_2_code 19 = .ok (.ireturn, 1) := by decide +kernel
theorem pn_1 : plainName "com/example/halfwake/halfwake/protocol/MinorityGradedAgreement" = true := by first | (simp [plainName, overriddenIn]; done) | decide +kernel
theorem ef_1 (m : MethodId) (x0 : Int32) (x1 : Int32) : entryFrame m #[(.int x0), (.int x1)] 2 = mkF m 0 #[.val (.int x0), .val (.int x1)] [] := by first | (simp [entryFrame, mkF, argsToLocals, Value.category]; done) | rfl
def Q1 (Z : State) (p1 p2 : Int32) (h0 : Heap) (n0 : Nat) (v : Option Value) (h : Heap) (L : List Loc) : Prop := v = some (.int (own_wm p1 p2)) ∧ Fr n0 L ∧ h = h0
set_option maxRecDepth 65536 in
set_option maxHeartbeats 40000000 in
theorem rm1 (l : Launch) (Z : State) (a0 : Array Value) (hw : ∀ d ∈ tables_1, d.before a0 Z = true) (ws : List Jvm.Cond) (p1 p2 : Int32) (h0 : Heap) (n0 : Nat) (Z0 : n0 ≤ h0.size) :
    MetFree l (⟨"com/example/halfwake/halfwake/protocol/MinorityGradedAgreement", "withinModel", "(II)Z"⟩ : MethodName) (head1 (Jvm.Cond.code (⟨"com/example/halfwake/halfwake/protocol/MinorityGradedAgreement", "withinModel", "(II)Z"⟩ : MethodName) prog_51_method_2_code 2 (some .boolean) :: ws) ({ frames := 0, cells := 0, slots := 0, locals := 0 } : Room)) (fun a U => a = #[(.int p1), (.int p2)] ∧ Z.Warmed39 U.vm ∧ U.heap = h0) (fun _ _ _ _ _ => True) (fun _ U o U' => ∃ v L, o = .returned v ∧ Q1 Z p1 p2 h0 n0 v U'.heap L ∧ FrameEnd U o U' L ({ frames := 0, cells := 0, slots := 0, locals := 0 } : Room).cells ({ frames := 0, cells := 0, slots := 0, locals := 0 } : Room).slots) := by
  refine MetFree.of_bodySF (plainFor_of_name pn_1) hisR ?_
  intro p e s m args below meth c s₁ Bd hml0 hP hK
  obtain ⟨rfl, hZ, hh⟩ := hP
  have hx := Bd.exec
  have hby := Bd.bytes
  have hml : c.maxLocals = 2 := hml0
  have hown : s.vm.findClass "com/example/halfwake/halfwake/protocol/MinorityGradedAgreement" = some m.cls := findClass_of_methodNamed Bd.named
  have hnm := (name_of_methodNamed Bd.named Bd.method).1
  have X0 : Stand p l e ({ frames := 0, cells := 0, slots := 0, locals := 0 } : Room) s m #[(.int p1), (.int p2)] below meth c s₁ [] 0 0 := Stand.of_body Bd
  have e0 : s₁.heap = h0 := by rw [← hh, Bd.state]; rfl
  have N0 := Fr.nil n0
  show own_Fin p e below (fun o U' => ∃ v L, o = .returned v ∧ Q1 Z p1 p2 h0 n0 v U'.heap L ∧ FrameEnd s o U' L ({ frames := 0, cells := 0, slots := 0, locals := 0 } : Room).cells ({ frames := 0, cells := 0, slots := 0, locals := 0 } : Room).slots) (s₁.setTop (entryFrame m #[(.int p1), (.int p2)] 2))
  refine own_lift (fun t k => castTop (ef_1 m p1 p2) k) ?_
  show own_Fin p e below _ (s₁.setTop (mkF m 0 #[.val (.int p1), .val (.int p2)] []))
  refine own_lift (fun t k => XS.iloadN X0.here hx rfl (hb hby d1_0) rfl k) ?_
  show own_Fin p e below _ (s₁.setTop (mkF m 1 #[.val (.int p1), .val (.int p2)] [(.int p1)]))
  refine own_lift (fun t k => XS.i2l X0.here hx rfl (hb hby d1_1) rfl k) ?_
  show own_Fin p e below _ (s₁.setTop (mkF m 2 #[.val (.int p1), .val (.int p2)] [(.long (p1.toInt64))]))
  refine own_lift (fun t k => X0.ldc2J hx hown (mvT hZ (hw _ (List.mem_of_getElem? (i := 4) rfl))) rfl (hb hby d1_2) k) ?_
  show own_Fin p e below _ (s₁.setTop (mkF m 5 #[.val (.int p1), .val (.int p2)] [(.long (2 : Int64)), (.long (p1.toInt64))]))
  refine own_lift (fun t k => XS.iloadN X0.here hx rfl (hb hby d1_5) rfl k) ?_
  show own_Fin p e below _ (s₁.setTop (mkF m 6 #[.val (.int p1), .val (.int p2)] [(.int p2), (.long (2 : Int64)), (.long (p1.toInt64))]))
  refine own_lift (fun t k => XS.i2l X0.here hx rfl (hb hby d1_6) rfl k) ?_
  show own_Fin p e below _ (s₁.setTop (mkF m 7 #[.val (.int p1), .val (.int p2)] [(.long (p2.toInt64)), (.long (2 : Int64)), (.long (p1.toInt64))]))
  refine own_lift (fun t k => XS.lmul X0.here hx rfl (hb hby d1_7) rfl k) ?_
  show own_Fin p e below _ (s₁.setTop (mkF m 8 #[.val (.int p1), .val (.int p2)] [(.long ((2 : Int64) * (p2.toInt64))), (.long (p1.toInt64))]))
  refine own_lift (fun t k => XS.lconst X0.here hx rfl (hb hby d1_8) k) ?_
  show own_Fin p e below _ (s₁.setTop (mkF m 9 #[.val (.int p1), .val (.int p2)] [(.long (1 : Int64)), (.long ((2 : Int64) * (p2.toInt64))), (.long (p1.toInt64))]))
  refine own_lift (fun t k => XS.ladd X0.here hx rfl (hb hby d1_9) rfl k) ?_
  show own_Fin p e below _ (s₁.setTop (mkF m 10 #[.val (.int p1), .val (.int p2)] [(.long (((2 : Int64) * (p2.toInt64)) + (1 : Int64))), (.long (p1.toInt64))]))
  refine own_lift (fun t k => XS.lcmp X0.here hx rfl (hb hby d1_10) rfl k) ?_
  show own_Fin p e below _ (s₁.setTop (mkF m 11 #[.val (.int p1), .val (.int p2)] [(.int (lcmpW (p1.toInt64) (((2 : Int64) * (p2.toInt64)) + (1 : Int64))))]))
  by_cases hc11_1 : (lcmpW (p1.toInt64) (((2 : Int64) * (p2.toInt64)) + (1 : Int64))) < (0 : Int32)
  · refine own_lift (fun t k => XS.ifYes X0.here hx rfl (pc0 := 11) (pc' := 18) rfl (hb hby d1_11) rfl ((if0 _ _).trans (tlt hc11_1).1) (by decide) (by decide) k) ?_
    show own_Fin p e below _ (s₁.setTop (mkF m 18 #[.val (.int p1), .val (.int p2)] []))
    refine own_lift (fun t k => XS.iconst X0.here hx rfl (hb hby d1_18) k) ?_
    show own_Fin p e below _ (s₁.setTop (mkF m 19 #[.val (.int p1), .val (.int p2)] [(.int (0 : Int32))]))
    obtain ⟨fs, hr, hrun, hended, hW, hsame⟩ := X0.leave (v := some (.int (0 : Int32))) (fun h => by rw [Bd.returns] at h; cases h)
    exact ⟨_, _, retN X0 hx (t := .boolean) Bd.returns (by simp) (hb hby d1_19) hr, hrun, hended, _, _, rfl, ⟨congrArg (fun z => some (Value.int z)) (if_pos hc11_1).symm, N0, e0⟩, ⟨_, rfl⟩, hW, hsame.mono (by decide) (by decide)⟩
  · refine own_lift (fun t k => XS.ifNo X0.here hx rfl (hb hby d1_11) rfl ((if0 _ _).trans (flt hc11_1).1) k) ?_
    show own_Fin p e below _ (s₁.setTop (mkF m 14 #[.val (.int p1), .val (.int p2)] []))
    refine own_lift (fun t k => XS.iconst X0.here hx rfl (hb hby d1_14) k) ?_
    show own_Fin p e below _ (s₁.setTop (mkF m 15 #[.val (.int p1), .val (.int p2)] [(.int (1 : Int32))]))
    refine own_lift (fun t k => XS.goto X0.here hx rfl (pc0 := 15) (pc' := 19) rfl (hb hby d1_15) (by decide) (by decide) k) ?_
    show own_Fin p e below _ (s₁.setTop (mkF m 19 #[.val (.int p1), .val (.int p2)] [(.int (1 : Int32))]))
    obtain ⟨fs, hr, hrun, hended, hW, hsame⟩ := X0.leave (v := some (.int (1 : Int32))) (fun h => by rw [Bd.returns] at h; cases h)
    exact ⟨_, _, retN X0 hx (t := .boolean) Bd.returns (by simp) (hb hby d1_19) hr, hrun, hended, _, _, rfl, ⟨congrArg (fun z => some (Value.int z)) (if_neg hc11_1).symm, N0, e0⟩, ⟨_, rfl⟩, hW, hsame.mono (by decide) (by decide)⟩
theorem pd_1 : parseMethodDescriptor "(II)Z" = some ⟨[.int, .int], some .boolean⟩ := by decide +kernel
theorem pn_0 : plainName "com/example/halfwake/halfwake/protocol/MinorityGradedAgreementWithinModelPinLaw" = true := by first | (simp [plainName, overriddenIn]; done) | decide +kernel
theorem ef_0 (m : MethodId) (x0 : Int32) (x1 : Int32) : entryFrame m #[(.int x0), (.int x1)] maxLocals = mkF m 0 #[.val (.int x0), .val (.int x1), .unset, .unset, .unset, .unset, .unset] [] := by first | (simp [entryFrame, mkF, argsToLocals, Value.category, maxLocals]; done) | rfl
def Q0 (Z : State) (p1 p2 : Int32) (h0 : Heap) (n0 : Nat) (v : Option Value) (h : Heap) (L : List Loc) : Prop := v = some (.int (1 : Int32)) ∧ Fr n0 L
set_option maxRecDepth 65536 in
set_option maxHeartbeats 40000000 in
theorem rm0 (l : Launch) (Z : State) (a0 : Array Value) (hw : ∀ d ∈ tables_1, d.before a0 Z = true) (ws : List Jvm.Cond) (p1 p2 : Int32) (h0 : Heap) (n0 : Nat) (Z0 : n0 ≤ h0.size) :
    MetFree l x (head1 (Jvm.Cond.code x code maxLocals ret :: ws) room_1) (fun a U => a = #[(.int p1), (.int p2)] ∧ Z.Warmed39 U.vm ∧ U.heap = h0) (fun _ _ _ _ _ => True) (fun _ U o U' => ∃ v L, o = .returned v ∧ Q0 Z p1 p2 h0 n0 v U'.heap L ∧ FrameEnd U o U' L room_1.cells room_1.slots) := by
  refine MetFree.of_bodySF (plainFor_of_name pn_0) hisR ?_
  intro p e s m args below meth c s₁ Bd hml0 hP hK
  obtain ⟨rfl, hZ, hh⟩ := hP
  have hx := Bd.exec
  have hby := Bd.bytes
  have hml : c.maxLocals = 7 := hml0
  have hown : s.vm.findClass "com/example/halfwake/halfwake/protocol/MinorityGradedAgreementWithinModelPinLaw" = some m.cls := findClass_of_methodNamed Bd.named
  have hnm := (name_of_methodNamed Bd.named Bd.method).1
  have X0 : Stand p l e room_1 s m #[(.int p1), (.int p2)] below meth c s₁ [] 0 0 := Stand.of_body Bd
  have e0 : s₁.heap = h0 := by rw [← hh, Bd.state]; rfl
  have N0 := Fr.nil n0
  show own_Fin p e below (fun o U' => ∃ v L, o = .returned v ∧ Q0 Z p1 p2 h0 n0 v U'.heap L ∧ FrameEnd s o U' L room_1.cells room_1.slots) (s₁.setTop (entryFrame m #[(.int p1), (.int p2)] maxLocals))
  have j18 : ∀ (T1 : State) (locs1 : List Loc) (b : Int32), Stand p l e room_1 s m #[(.int p1), (.int p2)] below meth c T1 locs1 0 0 → T1.heap = h0 → Fr n0 locs1 → own_wm p1 p2 = b → own_Fin p e below (fun o U' => ∃ v L, o = .returned v ∧ Q0 Z p1 p2 h0 n0 v U'.heap L ∧ FrameEnd s o U' L room_1.cells room_1.slots) (T1.setTop (mkF m 18 #[.val (.int p1), .val (.int p2), .val (.long ((p1.toInt64) - (p2.toInt64))), .second, .unset, .unset, .unset] [(.int b)])) := by
    intro T1 locs1 b X1 e1 N1 hB
    refine own_lift (fun t k => XS.istore X1.here hx rfl (hb hby at_18) rfl (l' := #[.val (.int p1), .val (.int p2), .val (.long ((p1.toInt64) - (p2.toInt64))), .second, .val (.int b), .unset, .unset]) rfl k) ?_
    show own_Fin p e below _ (T1.setTop (mkF m 20 #[.val (.int p1), .val (.int p2), .val (.long ((p1.toInt64) - (p2.toInt64))), .second, .val (.int b), .unset, .unset] []))
    refine own_lift (fun t k => XS.iloadN X1.here hx rfl (hb hby at_20) rfl k) ?_
    show own_Fin p e below _ (T1.setTop (mkF m 21 #[.val (.int p1), .val (.int p2), .val (.long ((p1.toInt64) - (p2.toInt64))), .second, .val (.int b), .unset, .unset] [(.int p1)]))
    refine own_lift (fun t k => XS.iloadN X1.here hx rfl (hb hby at_21) rfl k) ?_
    show own_Fin p e below _ (T1.setTop (mkF m 22 #[.val (.int p1), .val (.int p2), .val (.long ((p1.toInt64) - (p2.toInt64))), .second, .val (.int b), .unset, .unset] [(.int p2), (.int p1)]))
    obtain ⟨_, _, ⟨Tk_1, Lk_1, kk_1, nk_1⟩, -, Xk_1, ⟨Lck_1, hQk_1, lk_1, yk_1, zk_1⟩, stk_1⟩ := Jvm.LawKit.callS X1 hx (y := (⟨"com/example/halfwake/halfwake/protocol/MinorityGradedAgreement", "withinModel", "(II)Z"⟩ : MethodName)) hown (mvT hZ (hw _ (List.mem_of_getElem? (i := 0) rfl))) (mvT hZ (hw _ (List.mem_of_getElem? (i := 1) rfl))) (mvT hZ (hw _ (List.mem_of_getElem? (i := 2) rfl))) (mvT hZ (hw _ (List.mem_of_getElem? (i := 3) rfl))) (by decide) (backOf (W := 0) (rm1 l Z a0 hw [] p1 p2 h0 n0 Z0) hZ (hw _ (List.mem_of_getElem? (i := 3) rfl)) (hw _ (List.mem_of_getElem? (i := 2) rfl)) (by decide) (by decide)) (g := (mkF m 22 #[.val (.int p1), .val (.int p2), .val (.long ((p1.toInt64) - (p2.toInt64))), .second, .val (.int b), .unset, .unset] [(.int p2), (.int p1)])) rfl (by rw [hml]; rfl) (argsL := [(.int p1), (.int p2)]) (rest := []) (lenOf pd_1 rfl) rfl (by show 2 * 0 + _ ≤ _; exact Nat.le_of_eq rfl) (hb hby at_22) (fun _ _ => ⟨rfl, e1, (by decide : 0 + 0 ≤ _), (by decide : 0 + 0 ≤ _)⟩)
    dsimp only [Pt.U, Pt.locs, Pt.cells, Pt.slots] at Xk_1 lk_1 yk_1 zk_1 stk_1 hQk_1
    subst lk_1 yk_1 zk_1
    obtain ⟨rfl, Nk_1q, ek_1⟩ := hQk_1
    have Nk_1 := Fr.app N1 Nk_1q
    refine own_lift (fun t k => stk_1 _ k) ?_
    show own_Fin p e below _ (Tk_1.setTop (mkF m 25 #[.val (.int p1), .val (.int p2), .val (.long ((p1.toInt64) - (p2.toInt64))), .second, .val (.int b), .unset, .unset] [(.int (own_wm p1 p2))]))
    refine own_lift (fun t k => XS.iload Xk_1.here hx rfl (hb hby at_25) rfl k) ?_
    show own_Fin p e below _ (Tk_1.setTop (mkF m 27 #[.val (.int p1), .val (.int p2), .val (.long ((p1.toInt64) - (p2.toInt64))), .second, .val (.int b), .unset, .unset] [(.int b), (.int (own_wm p1 p2))]))
    refine own_lift (fun t k => XS.icmpYes Xk_1.here hx rfl (pc0 := 27) (pc' := 32) rfl (hb hby at_27) rfl (teq hB).1 (by decide) (by decide) k) ?_
    show own_Fin p e below _ (Tk_1.setTop (mkF m 32 #[.val (.int p1), .val (.int p2), .val (.long ((p1.toInt64) - (p2.toInt64))), .second, .val (.int b), .unset, .unset] []))
    refine own_lift (fun t k => XS.iloadN Xk_1.here hx rfl (hb hby at_32) rfl k) ?_
    show own_Fin p e below _ (Tk_1.setTop (mkF m 33 #[.val (.int p1), .val (.int p2), .val (.long ((p1.toInt64) - (p2.toInt64))), .second, .val (.int b), .unset, .unset] [(.int p2)]))
    refine own_lift (fun t k => Xk_1.ldcI hx hown (mvT hZ (hw _ (List.mem_of_getElem? (i := 5) rfl))) rfl (hb hby at_33) k) ?_
    show own_Fin p e below _ (Tk_1.setTop (mkF m 35 #[.val (.int p1), .val (.int p2), .val (.long ((p1.toInt64) - (p2.toInt64))), .second, .val (.int b), .unset, .unset] [(.int (1073741823 : Int32)), (.int p2)]))
    refine own_lift (fun t k => XS.iand Xk_1.here hx rfl (hb hby at_35) rfl k) ?_
    show own_Fin p e below _ (Tk_1.setTop (mkF m 36 #[.val (.int p1), .val (.int p2), .val (.long ((p1.toInt64) - (p2.toInt64))), .second, .val (.int b), .unset, .unset] [(.int (p2 &&& (1073741823 : Int32)))]))
    refine own_lift (fun t k => XS.istore Xk_1.here hx rfl (hb hby at_36) rfl (l' := #[.val (.int p1), .val (.int p2), .val (.long ((p1.toInt64) - (p2.toInt64))), .second, .val (.int b), .val (.int (p2 &&& (1073741823 : Int32))), .unset]) rfl k) ?_
    show own_Fin p e below _ (Tk_1.setTop (mkF m 38 #[.val (.int p1), .val (.int p2), .val (.long ((p1.toInt64) - (p2.toInt64))), .second, .val (.int b), .val (.int (p2 &&& (1073741823 : Int32))), .unset] []))
    refine own_lift (fun t k => XS.iconst Xk_1.here hx rfl (hb hby at_38) k) ?_
    show own_Fin p e below _ (Tk_1.setTop (mkF m 39 #[.val (.int p1), .val (.int p2), .val (.long ((p1.toInt64) - (p2.toInt64))), .second, .val (.int b), .val (.int (p2 &&& (1073741823 : Int32))), .unset] [(.int (2 : Int32))]))
    refine own_lift (fun t k => XS.iload Xk_1.here hx rfl (hb hby at_39) rfl k) ?_
    show own_Fin p e below _ (Tk_1.setTop (mkF m 41 #[.val (.int p1), .val (.int p2), .val (.long ((p1.toInt64) - (p2.toInt64))), .second, .val (.int b), .val (.int (p2 &&& (1073741823 : Int32))), .unset] [(.int (p2 &&& (1073741823 : Int32))), (.int (2 : Int32))]))
    refine own_lift (fun t k => XS.imul Xk_1.here hx rfl (hb hby at_41) rfl k) ?_
    show own_Fin p e below _ (Tk_1.setTop (mkF m 42 #[.val (.int p1), .val (.int p2), .val (.long ((p1.toInt64) - (p2.toInt64))), .second, .val (.int b), .val (.int (p2 &&& (1073741823 : Int32))), .unset] [(.int ((2 : Int32) * (p2 &&& (1073741823 : Int32))))]))
    refine own_lift (fun t k => XS.iconst Xk_1.here hx rfl (hb hby at_42) k) ?_
    show own_Fin p e below _ (Tk_1.setTop (mkF m 43 #[.val (.int p1), .val (.int p2), .val (.long ((p1.toInt64) - (p2.toInt64))), .second, .val (.int b), .val (.int (p2 &&& (1073741823 : Int32))), .unset] [(.int (1 : Int32)), (.int ((2 : Int32) * (p2 &&& (1073741823 : Int32))))]))
    refine own_lift (fun t k => XS.iadd Xk_1.here hx rfl (hb hby at_43) rfl k) ?_
    show own_Fin p e below _ (Tk_1.setTop (mkF m 44 #[.val (.int p1), .val (.int p2), .val (.long ((p1.toInt64) - (p2.toInt64))), .second, .val (.int b), .val (.int (p2 &&& (1073741823 : Int32))), .unset] [(.int (((2 : Int32) * (p2 &&& (1073741823 : Int32))) + (1 : Int32)))]))
    refine own_lift (fun t k => XS.istore Xk_1.here hx rfl (hb hby at_44) rfl (l' := #[.val (.int p1), .val (.int p2), .val (.long ((p1.toInt64) - (p2.toInt64))), .second, .val (.int b), .val (.int (p2 &&& (1073741823 : Int32))), .val (.int (((2 : Int32) * (p2 &&& (1073741823 : Int32))) + (1 : Int32)))]) rfl k) ?_
    show own_Fin p e below _ (Tk_1.setTop (mkF m 46 #[.val (.int p1), .val (.int p2), .val (.long ((p1.toInt64) - (p2.toInt64))), .second, .val (.int b), .val (.int (p2 &&& (1073741823 : Int32))), .val (.int (((2 : Int32) * (p2 &&& (1073741823 : Int32))) + (1 : Int32)))] []))
    refine own_lift (fun t k => XS.iload Xk_1.here hx rfl (hb hby at_46) rfl k) ?_
    show own_Fin p e below _ (Tk_1.setTop (mkF m 48 #[.val (.int p1), .val (.int p2), .val (.long ((p1.toInt64) - (p2.toInt64))), .second, .val (.int b), .val (.int (p2 &&& (1073741823 : Int32))), .val (.int (((2 : Int32) * (p2 &&& (1073741823 : Int32))) + (1 : Int32)))] [(.int (((2 : Int32) * (p2 &&& (1073741823 : Int32))) + (1 : Int32)))]))
    refine own_lift (fun t k => XS.iload Xk_1.here hx rfl (hb hby at_48) rfl k) ?_
    show own_Fin p e below _ (Tk_1.setTop (mkF m 50 #[.val (.int p1), .val (.int p2), .val (.long ((p1.toInt64) - (p2.toInt64))), .second, .val (.int b), .val (.int (p2 &&& (1073741823 : Int32))), .val (.int (((2 : Int32) * (p2 &&& (1073741823 : Int32))) + (1 : Int32)))] [(.int (p2 &&& (1073741823 : Int32))), (.int (((2 : Int32) * (p2 &&& (1073741823 : Int32))) + (1 : Int32)))]))
    obtain ⟨_, _, ⟨Tk_3, Lk_3, kk_3, nk_3⟩, -, Xk_3, ⟨Lck_3, hQk_3, lk_3, yk_3, zk_3⟩, stk_3⟩ := Jvm.LawKit.callS Xk_1 hx (y := (⟨"com/example/halfwake/halfwake/protocol/MinorityGradedAgreement", "withinModel", "(II)Z"⟩ : MethodName)) hown (mvT hZ (hw _ (List.mem_of_getElem? (i := 0) rfl))) (mvT hZ (hw _ (List.mem_of_getElem? (i := 1) rfl))) (mvT hZ (hw _ (List.mem_of_getElem? (i := 2) rfl))) (mvT hZ (hw _ (List.mem_of_getElem? (i := 3) rfl))) (by decide) (backOf (W := 0) (rm1 l Z a0 hw [] (((2 : Int32) * (p2 &&& (1073741823 : Int32))) + (1 : Int32)) (p2 &&& (1073741823 : Int32)) h0 n0 Z0) hZ (hw _ (List.mem_of_getElem? (i := 3) rfl)) (hw _ (List.mem_of_getElem? (i := 2) rfl)) (by decide) (by decide)) (g := (mkF m 50 #[.val (.int p1), .val (.int p2), .val (.long ((p1.toInt64) - (p2.toInt64))), .second, .val (.int b), .val (.int (p2 &&& (1073741823 : Int32))), .val (.int (((2 : Int32) * (p2 &&& (1073741823 : Int32))) + (1 : Int32)))] [(.int (p2 &&& (1073741823 : Int32))), (.int (((2 : Int32) * (p2 &&& (1073741823 : Int32))) + (1 : Int32)))])) rfl (by rw [hml]; rfl) (argsL := [(.int (((2 : Int32) * (p2 &&& (1073741823 : Int32))) + (1 : Int32))), (.int (p2 &&& (1073741823 : Int32)))]) (rest := []) (lenOf pd_1 rfl) rfl (by show 2 * 0 + _ ≤ _; exact Nat.le_of_eq rfl) (hb hby at_50) (fun _ _ => ⟨rfl, ek_1, (by decide : 0 + 0 ≤ _), (by decide : 0 + 0 ≤ _)⟩)
    dsimp only [Pt.U, Pt.locs, Pt.cells, Pt.slots] at Xk_3 lk_3 yk_3 zk_3 stk_3 hQk_3
    subst lk_3 yk_3 zk_3
    obtain ⟨rfl, Nk_3q, ek_3⟩ := hQk_3
    have Nk_3 := Fr.app Nk_1 Nk_3q
    refine own_lift (fun t k => stk_3 _ k) ?_
    show own_Fin p e below _ (Tk_3.setTop (mkF m 53 #[.val (.int p1), .val (.int p2), .val (.long ((p1.toInt64) - (p2.toInt64))), .second, .val (.int b), .val (.int (p2 &&& (1073741823 : Int32))), .val (.int (((2 : Int32) * (p2 &&& (1073741823 : Int32))) + (1 : Int32)))] [(.int (own_wm (((2 : Int32) * (p2 &&& (1073741823 : Int32))) + (1 : Int32)) (p2 &&& (1073741823 : Int32))))]))
    refine own_lift (fun t k => XS.ifYes Xk_3.here hx rfl (pc0 := 53) (pc' := 58) rfl (hb hby at_53) rfl ((if0 _ _).trans (feq (own_wm1 p2)).2) (by decide) (by decide) k) ?_
    show own_Fin p e below _ (Tk_3.setTop (mkF m 58 #[.val (.int p1), .val (.int p2), .val (.long ((p1.toInt64) - (p2.toInt64))), .second, .val (.int b), .val (.int (p2 &&& (1073741823 : Int32))), .val (.int (((2 : Int32) * (p2 &&& (1073741823 : Int32))) + (1 : Int32)))] []))
    refine own_lift (fun t k => XS.iload Xk_3.here hx rfl (hb hby at_58) rfl k) ?_
    show own_Fin p e below _ (Tk_3.setTop (mkF m 60 #[.val (.int p1), .val (.int p2), .val (.long ((p1.toInt64) - (p2.toInt64))), .second, .val (.int b), .val (.int (p2 &&& (1073741823 : Int32))), .val (.int (((2 : Int32) * (p2 &&& (1073741823 : Int32))) + (1 : Int32)))] [(.int (((2 : Int32) * (p2 &&& (1073741823 : Int32))) + (1 : Int32)))]))
    refine own_lift (fun t k => XS.iconst Xk_3.here hx rfl (hb hby at_60) k) ?_
    show own_Fin p e below _ (Tk_3.setTop (mkF m 61 #[.val (.int p1), .val (.int p2), .val (.long ((p1.toInt64) - (p2.toInt64))), .second, .val (.int b), .val (.int (p2 &&& (1073741823 : Int32))), .val (.int (((2 : Int32) * (p2 &&& (1073741823 : Int32))) + (1 : Int32)))] [(.int (1 : Int32)), (.int (((2 : Int32) * (p2 &&& (1073741823 : Int32))) + (1 : Int32)))]))
    refine own_lift (fun t k => XS.isub Xk_3.here hx rfl (hb hby at_61) rfl k) ?_
    show own_Fin p e below _ (Tk_3.setTop (mkF m 62 #[.val (.int p1), .val (.int p2), .val (.long ((p1.toInt64) - (p2.toInt64))), .second, .val (.int b), .val (.int (p2 &&& (1073741823 : Int32))), .val (.int (((2 : Int32) * (p2 &&& (1073741823 : Int32))) + (1 : Int32)))] [(.int ((((2 : Int32) * (p2 &&& (1073741823 : Int32))) + (1 : Int32)) - (1 : Int32)))]))
    refine own_lift (fun t k => XS.iload Xk_3.here hx rfl (hb hby at_62) rfl k) ?_
    show own_Fin p e below _ (Tk_3.setTop (mkF m 64 #[.val (.int p1), .val (.int p2), .val (.long ((p1.toInt64) - (p2.toInt64))), .second, .val (.int b), .val (.int (p2 &&& (1073741823 : Int32))), .val (.int (((2 : Int32) * (p2 &&& (1073741823 : Int32))) + (1 : Int32)))] [(.int (p2 &&& (1073741823 : Int32))), (.int ((((2 : Int32) * (p2 &&& (1073741823 : Int32))) + (1 : Int32)) - (1 : Int32)))]))
    obtain ⟨_, _, ⟨Tk_5, Lk_5, kk_5, nk_5⟩, -, Xk_5, ⟨Lck_5, hQk_5, lk_5, yk_5, zk_5⟩, stk_5⟩ := Jvm.LawKit.callS Xk_3 hx (y := (⟨"com/example/halfwake/halfwake/protocol/MinorityGradedAgreement", "withinModel", "(II)Z"⟩ : MethodName)) hown (mvT hZ (hw _ (List.mem_of_getElem? (i := 0) rfl))) (mvT hZ (hw _ (List.mem_of_getElem? (i := 1) rfl))) (mvT hZ (hw _ (List.mem_of_getElem? (i := 2) rfl))) (mvT hZ (hw _ (List.mem_of_getElem? (i := 3) rfl))) (by decide) (backOf (W := 0) (rm1 l Z a0 hw [] ((((2 : Int32) * (p2 &&& (1073741823 : Int32))) + (1 : Int32)) - (1 : Int32)) (p2 &&& (1073741823 : Int32)) h0 n0 Z0) hZ (hw _ (List.mem_of_getElem? (i := 3) rfl)) (hw _ (List.mem_of_getElem? (i := 2) rfl)) (by decide) (by decide)) (g := (mkF m 64 #[.val (.int p1), .val (.int p2), .val (.long ((p1.toInt64) - (p2.toInt64))), .second, .val (.int b), .val (.int (p2 &&& (1073741823 : Int32))), .val (.int (((2 : Int32) * (p2 &&& (1073741823 : Int32))) + (1 : Int32)))] [(.int (p2 &&& (1073741823 : Int32))), (.int ((((2 : Int32) * (p2 &&& (1073741823 : Int32))) + (1 : Int32)) - (1 : Int32)))])) rfl (by rw [hml]; rfl) (argsL := [(.int ((((2 : Int32) * (p2 &&& (1073741823 : Int32))) + (1 : Int32)) - (1 : Int32))), (.int (p2 &&& (1073741823 : Int32)))]) (rest := []) (lenOf pd_1 rfl) rfl (by show 2 * 0 + _ ≤ _; exact Nat.le_of_eq rfl) (hb hby at_64) (fun _ _ => ⟨rfl, ek_3, (by decide : 0 + 0 ≤ _), (by decide : 0 + 0 ≤ _)⟩)
    dsimp only [Pt.U, Pt.locs, Pt.cells, Pt.slots] at Xk_5 lk_5 yk_5 zk_5 stk_5 hQk_5
    subst lk_5 yk_5 zk_5
    obtain ⟨rfl, Nk_5q, ek_5⟩ := hQk_5
    have Nk_5 := Fr.app Nk_3 Nk_5q
    refine own_lift (fun t k => stk_5 _ k) ?_
    show own_Fin p e below _ (Tk_5.setTop (mkF m 67 #[.val (.int p1), .val (.int p2), .val (.long ((p1.toInt64) - (p2.toInt64))), .second, .val (.int b), .val (.int (p2 &&& (1073741823 : Int32))), .val (.int (((2 : Int32) * (p2 &&& (1073741823 : Int32))) + (1 : Int32)))] [(.int (own_wm ((((2 : Int32) * (p2 &&& (1073741823 : Int32))) + (1 : Int32)) - (1 : Int32)) (p2 &&& (1073741823 : Int32))))]))
    refine own_lift (fun t k => XS.ifYes Xk_5.here hx rfl (pc0 := 67) (pc' := 72) rfl (hb hby at_67) rfl ((if0 _ _).trans (teq (own_wm2 p2)).1) (by decide) (by decide) k) ?_
    show own_Fin p e below _ (Tk_5.setTop (mkF m 72 #[.val (.int p1), .val (.int p2), .val (.long ((p1.toInt64) - (p2.toInt64))), .second, .val (.int b), .val (.int (p2 &&& (1073741823 : Int32))), .val (.int (((2 : Int32) * (p2 &&& (1073741823 : Int32))) + (1 : Int32)))] []))
    refine own_lift (fun t k => XS.iconst Xk_5.here hx rfl (hb hby at_72) k) ?_
    show own_Fin p e below _ (Tk_5.setTop (mkF m 73 #[.val (.int p1), .val (.int p2), .val (.long ((p1.toInt64) - (p2.toInt64))), .second, .val (.int b), .val (.int (p2 &&& (1073741823 : Int32))), .val (.int (((2 : Int32) * (p2 &&& (1073741823 : Int32))) + (1 : Int32)))] [(.int (1 : Int32))]))
    obtain ⟨fs, hr, hrun, hended, hW, hsame⟩ := Xk_5.leave (v := some (.int (1 : Int32))) (fun h => by rw [Bd.returns] at h; cases h)
    exact ⟨_, _, retN Xk_5 hx (t := .boolean) Bd.returns (by simp) (hb hby at_73) hr, hrun, hended, _, _, rfl, ⟨rfl, Nk_5⟩, ⟨_, rfl⟩, hW, hsame.mono (by decide) (by decide)⟩
  refine own_lift (fun t k => castTop (ef_0 m p1 p2) k) ?_
  show own_Fin p e below _ (s₁.setTop (mkF m 0 #[.val (.int p1), .val (.int p2), .unset, .unset, .unset, .unset, .unset] []))
  refine own_lift (fun t k => XS.iloadN X0.here hx rfl (hb hby at_0) rfl k) ?_
  show own_Fin p e below _ (s₁.setTop (mkF m 1 #[.val (.int p1), .val (.int p2), .unset, .unset, .unset, .unset, .unset] [(.int p1)]))
  refine own_lift (fun t k => XS.i2l X0.here hx rfl (hb hby at_1) rfl k) ?_
  show own_Fin p e below _ (s₁.setTop (mkF m 2 #[.val (.int p1), .val (.int p2), .unset, .unset, .unset, .unset, .unset] [(.long (p1.toInt64))]))
  refine own_lift (fun t k => XS.iloadN X0.here hx rfl (hb hby at_2) rfl k) ?_
  show own_Fin p e below _ (s₁.setTop (mkF m 3 #[.val (.int p1), .val (.int p2), .unset, .unset, .unset, .unset, .unset] [(.int p2), (.long (p1.toInt64))]))
  refine own_lift (fun t k => XS.i2l X0.here hx rfl (hb hby at_3) rfl k) ?_
  show own_Fin p e below _ (s₁.setTop (mkF m 4 #[.val (.int p1), .val (.int p2), .unset, .unset, .unset, .unset, .unset] [(.long (p2.toInt64)), (.long (p1.toInt64))]))
  refine own_lift (fun t k => XS.lsub X0.here hx rfl (hb hby at_4) rfl k) ?_
  show own_Fin p e below _ (s₁.setTop (mkF m 5 #[.val (.int p1), .val (.int p2), .unset, .unset, .unset, .unset, .unset] [(.long ((p1.toInt64) - (p2.toInt64)))]))
  refine own_lift (fun t k => XS.lstoreN X0.here hx rfl (hb hby at_5) rfl (l' := #[.val (.int p1), .val (.int p2), .val (.long ((p1.toInt64) - (p2.toInt64))), .second, .unset, .unset, .unset]) rfl k) ?_
  show own_Fin p e below _ (s₁.setTop (mkF m 6 #[.val (.int p1), .val (.int p2), .val (.long ((p1.toInt64) - (p2.toInt64))), .second, .unset, .unset, .unset] []))
  refine own_lift (fun t k => XS.lloadN X0.here hx rfl (hb hby at_6) rfl k) ?_
  show own_Fin p e below _ (s₁.setTop (mkF m 7 #[.val (.int p1), .val (.int p2), .val (.long ((p1.toInt64) - (p2.toInt64))), .second, .unset, .unset, .unset] [(.long ((p1.toInt64) - (p2.toInt64)))]))
  refine own_lift (fun t k => XS.iloadN X0.here hx rfl (hb hby at_7) rfl k) ?_
  show own_Fin p e below _ (s₁.setTop (mkF m 8 #[.val (.int p1), .val (.int p2), .val (.long ((p1.toInt64) - (p2.toInt64))), .second, .unset, .unset, .unset] [(.int p2), (.long ((p1.toInt64) - (p2.toInt64)))]))
  refine own_lift (fun t k => XS.i2l X0.here hx rfl (hb hby at_8) rfl k) ?_
  show own_Fin p e below _ (s₁.setTop (mkF m 9 #[.val (.int p1), .val (.int p2), .val (.long ((p1.toInt64) - (p2.toInt64))), .second, .unset, .unset, .unset] [(.long (p2.toInt64)), (.long ((p1.toInt64) - (p2.toInt64)))]))
  refine own_lift (fun t k => XS.lcmp X0.here hx rfl (hb hby at_9) rfl k) ?_
  show own_Fin p e below _ (s₁.setTop (mkF m 10 #[.val (.int p1), .val (.int p2), .val (.long ((p1.toInt64) - (p2.toInt64))), .second, .unset, .unset, .unset] [(.int (lcmpW ((p1.toInt64) - (p2.toInt64)) (p2.toInt64)))]))
  by_cases hc10_7 : (0 : Int32) < (lcmpW ((p1.toInt64) - (p2.toInt64)) (p2.toInt64))
  · refine own_lift (fun t k => XS.ifNo X0.here hx rfl (hb hby at_10) rfl ((if0 _ _).trans (tlt hc10_7).2.2.2) k) ?_
    show own_Fin p e below _ (s₁.setTop (mkF m 13 #[.val (.int p1), .val (.int p2), .val (.long ((p1.toInt64) - (p2.toInt64))), .second, .unset, .unset, .unset] []))
    refine own_lift (fun t k => XS.iconst X0.here hx rfl (hb hby at_13) k) ?_
    show own_Fin p e below _ (s₁.setTop (mkF m 14 #[.val (.int p1), .val (.int p2), .val (.long ((p1.toInt64) - (p2.toInt64))), .second, .unset, .unset, .unset] [(.int (1 : Int32))]))
    refine own_lift (fun t k => XS.goto X0.here hx rfl (pc0 := 14) (pc' := 18) rfl (hb hby at_14) (by decide) (by decide) k) ?_
    show own_Fin p e below _ (s₁.setTop (mkF m 18 #[.val (.int p1), .val (.int p2), .val (.long ((p1.toInt64) - (p2.toInt64))), .second, .unset, .unset, .unset] [(.int (1 : Int32))]))
    exact j18 _ _ _ X0 e0 N0 (own_wm0 p1 p2 _ (Or.inl ⟨hc10_7, rfl⟩))
  · refine own_lift (fun t k => XS.ifYes X0.here hx rfl (pc0 := 10) (pc' := 17) rfl (hb hby at_10) rfl ((if0 _ _).trans (flt hc10_7).2.2.2) (by decide) (by decide) k) ?_
    show own_Fin p e below _ (s₁.setTop (mkF m 17 #[.val (.int p1), .val (.int p2), .val (.long ((p1.toInt64) - (p2.toInt64))), .second, .unset, .unset, .unset] []))
    refine own_lift (fun t k => XS.iconst X0.here hx rfl (hb hby at_17) k) ?_
    show own_Fin p e below _ (s₁.setTop (mkF m 18 #[.val (.int p1), .val (.int p2), .val (.long ((p1.toInt64) - (p2.toInt64))), .second, .unset, .unset, .unset] [(.int (0 : Int32))]))
    exact j18 _ _ _ X0 e0 N0 (own_wm0 p1 p2 _ (Or.inr ⟨hc10_7, rfl⟩))
set_option maxRecDepth 65536 in
set_option maxHeartbeats 40000000 in
theorem comes_1 {Post : Tables → Env → Array Value → State → Outcome → State → Prop} (hpost : ∀ tb e args s v u, (limb_1_1.after args s (.returned v) u = true ∧ limb_1_2.after args s (.returned v) u = true ∧ True) → FrameEnd s (.returned v) u (Jvm.fieldLocs frame_1_writes args s ++ Jvm.arrayLocs frame_1_arrays args s ++ Jvm.staticLocs frame_1_statics s) 0 0 → Post tb e args s (.returned v) u) :
    ArmFor flags0 classFile x code maxLocals ret World_1 tables_1 room_1 Calls_1 rest_1 Pre_1 Post := by
  intro l hfl _ _ p e ha hc hk s m args below hf hA hF happ hP
  obtain ⟨hcalls, hrest, hpre⟩ := hP
  obtain ⟨-, -, -, hnamed, -, -, -, hat⟩ := (Spec.applies_iff hf).mp happ
  obtain ⟨hg, hn⟩ := and_e (Cond.before_iff.mp (show (Jvm.Cond.and given_1 narrow_1).before args s = true from hpre))
  obtain ⟨gc, g0⟩ := and_e hg
  obtain ⟨c0, g1⟩ := and_e g0
  obtain ⟨w0, w1, rfl⟩ : ∃ w0 w1 : Value, args = #[w0, w1] := by
    have hs : args.size = 2 := by simpa [Cond.value, given_1] using gc
    obtain ⟨L⟩ := args
    match L, hs with
    | [w0, w1], _ => exact ⟨w0, w1, rfl⟩
  have hw := fun d (hd : d ∈ tables_1) => atoms_spec (ws := Jvm.Cond.code x code maxLocals ret :: tables_1) hat d (List.mem_cons_of_mem _ hd)
  obtain ⟨i0, ei0⟩ := is_v c0
  obtain rfl : w0 = (.int i0) := Option.some.inj ei0
  obtain ⟨i1, ei1⟩ := is_v g1
  obtain rfl : w1 = (.int i1) := Option.some.inj ei1
  obtain ⟨n, o, h1, h2, h3, _, L, rfl, ⟨rfl, N⟩, hq⟩ := rm0 l s _ hw tables_1 i0 i1 s.heap s.heap.size (Nat.le_refl _) p e ha hc hk s m _ below hf ((Spec.applies_iff_loose hf).mp happ).1 ⟨rfl, State.Warmed39.refl s, rfl⟩ trivial
  refine ⟨n, _, h1, h2, h3, hpost _ _ _ _ _ _ ⟨Cond.after_iff.mpr rfl, Cond.after_iff.mpr (eq_i res_at (Term.int_eval (1)) rfl), trivial⟩ ⟨hq.1, hq.2.1, (hq.2.2.sift fun y hy => Or.inr (N y hy)).mono (by decide) (by decide)⟩⟩
theorem main_1_1 : Claimed_1_1 := comes_1 fun _ _ _ _ _ _ h hF => ⟨h.1, hF⟩
theorem main_1_2 : Claimed_1_2 := comes_1 fun _ _ _ _ _ _ h hF => ⟨h.2.1, hF⟩
end Jvm.Pilot.@@N@@
namespace Jvm.Pilot.@@N@@
open Jvm Jvm.ClassFile Sem Op Lib Jvm.Free Jvm.Stand Jvm.Pilot.@@N@@.Jvm.D
/-! MADE BY PROGRAM (witnessworld.py) out of the Statement's table words and the real class files: 9 classes; the members and pool entries that the words name. The judged class is class 1, her method 1. -/
namespace start1
open Jvm.ClassFile
def u (s : String) : CpInfo := .utf8 (stringToUtf16 s)
/-- a pool by its gaps: so many unusable entries, then the entry; so many at the end -/
def gap : Nat → List CpInfo → List CpInfo
  | 0, r => r
  | n + 1, r => .unusable :: gap n r
def poolList (es : List (Nat × CpInfo)) (last : Nat) : List CpInfo := es.foldr (fun e r => gap e.1 (e.2 :: r)) (gap last [])
def pool (es : List (Nat × CpInfo)) (last : Nat) : Array CpInfo := ⟨poolList es last⟩
def fileOf (pool : Array CpInfo) (this : Nat) (attrs : Array Attribute := #[]) (ms : Array MethodInfo := #[]) (fl : Nat := 33) (sup : Nat := 0) (ifs : Array Nat := #[]) (fds : Array FieldInfo := #[]) : ClassFile where
  minorVersion := 0
  majorVersion := 65
  constantPool := pool
  accessFlags := fl
  thisClass := this
  superClass := sup
  interfaces := ifs
  fields := fds
  methods := ms
  attributes := attrs
def plain (name : String) (sup : Option ClassId) : Class where
  name := name
  kind := .ordinary
  loader := none
  accessFlags := 33
  super := sup
  interfaces := #[]
  cf := none
  fields := #[]
  methods := #[]
  instanceTypes := #[]
  staticTypes := #[]
  resolved := #[]
  callSites := []
  init := .initialized
  statics := none
  mirror := none

def pool0 : Array CpInfo := pool [(5, u "<init>"), (0, u "()V"), (1, .class_ 10), (1, u "java/lang/Object")] 113

def k0m0 : Method := { name := "<init>", desc := "()V", sig := { parameters := [], returnType := none }, accessFlags := 1, code := none }
/-- java/lang/Object -/
def k0 : Class := { plain "java/lang/Object" none with
  accessFlags := 33
  interfaces := #[]
  cf := some (fileOf pool0 8 #[] #[{ accessFlags := 1, nameIndex := 5, descriptorIndex := 6, attributes := #[] }] 33 0 #[] #[])
  fields := #[]
  methods := #[k0m0]
  instanceTypes := #[]
  staticTypes := #[]
  resolved := Array.replicate 124 none
  statics := none }

def pool1 : Array CpInfo := pool [(2, .class_ 4), (1, u "java/lang/Object"), (0, u "<init>"), (0, u "()V"), (0, .methodref 8 9), (0, .class_ 10), (0, .nameAndType 11 12), (0, u "com/example/halfwake/halfwake/protocol/MinorityGradedAgreement"), (0, u "withinModel"), (0, u "(II)Z"), (0, .integer 1073741823), (0, .class_ 15), (0, u "com/example/halfwake/halfwake/protocol/MinorityGradedAgreementWithinModelPinLaw"), (2, u "law")] 3

def k1m0 : Method := { name := "<init>", desc := "()V", sig := { parameters := [], returnType := none }, accessFlags := 1, code := none }
def k1c1 : Code := { maxStack := 4, maxLocals := 7, code := code, exceptionTable := #[], attributes := #[] }
def k1m1 : Method := { name := "law", desc := "(II)Z", sig := { parameters := [.int, .int], returnType := some .boolean }, accessFlags := 9, code := some k1c1 }
/-- com/example/halfwake/halfwake/protocol/MinorityGradedAgreementWithinModelPinLaw -/
def k1 : Class := { plain "com/example/halfwake/halfwake/protocol/MinorityGradedAgreementWithinModelPinLaw" (some 0) with
  accessFlags := 49
  interfaces := #[]
  cf := some (fileOf pool1 14 #[] #[{ accessFlags := 1, nameIndex := 5, descriptorIndex := 6, attributes := #[] }, { accessFlags := 9, nameIndex := 18, descriptorIndex := 12, attributes := #[] }] 49 2 #[] #[])
  fields := #[]
  methods := #[k1m0, k1m1]
  instanceTypes := #[]
  staticTypes := #[]
  resolved := Array.replicate 22 none
  statics := none }

def pool2 : Array CpInfo := pool [(2, .class_ 4), (1, u "java/lang/Object"), (6, .class_ 13), (1, u "com/example/halfwake/halfwake/protocol/MinorityGradedAgreement"), (0, u "held"), (0, u "Ljava/util/List;"), (2, u "name"), (0, u "Ljava/lang/String;"), (27, u "input"), (0, u "Ljava/util/Optional;"), (0, .long 2), (37, .class_ 88), (0, u "com/example/halfwake/halfwake/protocol/MinorityGradedAgreement$Holdings"), (49, .class_ 139), (0, u "com/example/halfwake/halfwake/protocol/MinorityGradedAgreement$Graded"), (3, .class_ 144), (0, u "com/example/halfwake/halfwake/protocol/MinorityGradedAgreement$Output"), (7, u "OUTPUT_ROUND"), (0, u "I"), (11, u "withinModel"), (0, u "(II)Z"), (13, .class_ 181), (0, u "com/example/halfwake/halfwake/protocol/MinorityGradedAgreement$Property")] 24

def k2c0 : Code := { maxStack := 6, maxLocals := 2, code := prog_51_method_2_code, exceptionTable := #[], attributes := #[] }
def k2m0 : Method := { name := "withinModel", desc := "(II)Z", sig := { parameters := [.int, .int], returnType := some .boolean }, accessFlags := 9, code := some k2c0 }
/-- com/example/halfwake/halfwake/protocol/MinorityGradedAgreement -/
def k2 : Class := { plain "com/example/halfwake/halfwake/protocol/MinorityGradedAgreement" (some 0) with
  accessFlags := 49
  interfaces := #[]
  cf := some (fileOf pool2 11 #[.nestMembers #[87, 180, 143, 138]] #[{ accessFlags := 9, nameIndex := 165, descriptorIndex := 166, attributes := #[] }] 49 2 #[] #[{ accessFlags := 25, nameIndex := 152, descriptorIndex := 153, attributes := #[] }, { accessFlags := 18, nameIndex := 18, descriptorIndex := 19, attributes := #[] }, { accessFlags := 18, nameIndex := 47, descriptorIndex := 48, attributes := #[] }, { accessFlags := 18, nameIndex := 14, descriptorIndex := 15, attributes := #[] }])
  fields := #[{ name := "OUTPUT_ROUND", type := .int, accessFlags := 25, slot := 0, constantValue := 0 }, { name := "name", type := (.object "java/lang/String"), accessFlags := 18, slot := 0, constantValue := 0 }, { name := "input", type := (.object "java/util/Optional"), accessFlags := 18, slot := 1, constantValue := 0 }, { name := "held", type := (.object "java/util/List"), accessFlags := 18, slot := 2, constantValue := 0 }]
  methods := #[k2m0]
  instanceTypes := #[(.object "java/lang/String"), (.object "java/util/Optional"), (.object "java/util/List")]
  staticTypes := #[.int]
  resolved := Array.replicate 206 none
  statics := none }

def pool3 : Array CpInfo := pool [(1, u "java/lang/Cloneable"), (0, .class_ 1), (0, u "java/lang/Object"), (0, .class_ 3)] 3

/-- java/lang/Cloneable -/
def k3 : Class := { plain "java/lang/Cloneable" (some 0) with
  accessFlags := 1537
  interfaces := #[]
  cf := some (fileOf pool3 2 #[] #[] 1537 4 #[] #[])
  fields := #[]
  methods := #[]
  instanceTypes := #[]
  staticTypes := #[]
  resolved := Array.replicate 8 none
  statics := none }

def pool4 : Array CpInfo := pool [(1, u "java/io/Serializable"), (0, .class_ 1), (0, u "java/lang/Object"), (0, .class_ 3)] 3

/-- java/io/Serializable -/
def k4 : Class := { plain "java/io/Serializable" (some 0) with
  accessFlags := 1537
  interfaces := #[]
  cf := some (fileOf pool4 2 #[] #[] 1537 4 #[] #[])
  fields := #[]
  methods := #[]
  instanceTypes := #[]
  staticTypes := #[]
  resolved := Array.replicate 8 none
  statics := none }

/-- the primitive byte -/
def k5 : Class := { plain "byte" none with kind := .primitive 'B', accessFlags := 0x411 }
/-- [B -/
def k6 : Class := { plain "[B" (some 0) with kind := .array 5 .byte, interfaces := #[3, 4], accessFlags := 1041 }

/-- the primitive int -/
def k7 : Class := { plain "int" none with kind := .primitive 'I', accessFlags := 0x411 }
/-- [I -/
def k8 : Class := { plain "[I" (some 0) with kind := .array 7 .int, interfaces := #[3, 4], accessFlags := 1041 }

def heap : Heap := #[]
def classes : Array Class := #[k0, k1, k2, k3, k4, k5, k6, k7, k8]
def interned : List (Array UInt16 × Addr) := []
def slotsUsed : Nat := 0
def theMethod : MethodId := ⟨1, 1⟩
def args0 : Array Value := #[.int 5, .int 2]
def aboutOver (below : List Frame) : State where
  vm := { classes := classes, interned := interned.toArray }
  heap := heap
  slotsUsed := slotsUsed
  threads := #[{ frames := .invoking theMethod args0 :: below }]
def below0 : List Frame := [.native { method := ⟨0, 0⟩, args := #[] }]
def about1 : State := aboutOver below0
def p0 : Program := .bare "" "" ""
def e0 : Env := launch0.env 0 0 0
theorem w_frames : about1.frames = Frame.invoking theMethod args0 :: below0 := rfl
set_option maxRecDepth 65536 in
theorem w_args : argsFit about1.vm theMethod args0 = true := by decide +kernel
set_option maxRecDepth 65536 in
theorem w_heap : heapFits about1 = true := by decide +kernel
set_option maxRecDepth 65536 in
theorem w_runnable : about1.curStatus? = some .runnable := by decide +kernel
set_option maxRecDepth 65536 in
theorem w_alone : about1.alone = true := by decide +kernel
set_option maxRecDepth 65536 in
theorem w_named : about1.methodNamed? x = some theMethod := by decide +kernel
set_option maxRecDepth 65536 in
theorem w_hears : about1.hears theMethod below0 = true := by decide +kernel
set_option maxRecDepth 65536 in
theorem w_ripe : about1.ripe theMethod args0 below0 = true := by decide +kernel
theorem w_running : about1.status = .running := rfl
set_option maxRecDepth 65536 in
theorem w_room : about1.hasRoom e0.platform room_1 = true :=
  launch0.hasRoom_least _ room_1 (by decide +kernel) (by decide +kernel) (by decide +kernel) (by decide +kernel) (by decide +kernel) (by decide +kernel)
theorem allAtoms_all (ts : List Jvm.Cond) (a : Array Jvm.Value) (st : Jvm.State) : (allAtoms ts).before a st = ts.all (fun c => c.before a st) := by
  induction ts with
  | nil => rfl
  | cons c t ih =>
    show (Jvm.Cond.and c (allAtoms t)).before a st = _
    rw [Jvm.Cond.before_and, ih, List.all_cons]
def words1 : List Jvm.Cond := Jvm.Cond.code x code maxLocals ret :: tables_1
/-- a 'code' word, met by the world's own term for the bytes: nothing is compared byte by byte -/
theorem code_word {y : MethodName} {bytes : ByteArray} {mx : Nat} {rt : Option FieldType} {a : Array Value} {s : State} {m : MethodId} {meth : Method} {c : Code} (h1 : s.methodNamed? y = some m) (h2 : s.vm.method? m = some meth) (h3 : meth.code = some c) (h4 : c.code = bytes)
    (h5 : (c.maxLocals == mx && c.exceptionTable.isEmpty && decide (c.maxStack ≤ mostOperands) && decide (meth.sig.returnType = rt) && !meth.locks && decide (parseMethodDescriptor y.desc = some meth.sig)) = true) : (Jvm.Cond.code y bytes mx rt).before a s = true := by
  simp only [Bool.and_eq_true, beq_iff_eq, Bool.not_eq_true', decide_eq_true_eq] at h5
  obtain ⟨⟨⟨⟨⟨g1, g2⟩, g3⟩, g4⟩, g5⟩, g6⟩ := h5
  simp [Cond.before, Cond.holds, Cond.value, h1, h2, h3, h4, g1, g2, g3, g4, g5, g6]
def isCode : Jvm.Cond → Bool
  | .code _ _ _ _ => true
  | _ => false
theorem all_split {L : List Jvm.Cond} {P : Jvm.Cond → Bool} (h1 : L.all (fun c => isCode c || P c) = true) (h2 : ∀ c ∈ L.filter isCode, P c = true) : L.all P = true := by
  refine List.all_eq_true.mpr fun c hc => ?_
  have h := List.all_eq_true.mp h1 c hc
  rcases Bool.eq_false_or_eq_true (isCode c) with hi | hi
  · exact h2 c (List.mem_filter.mpr ⟨hc, hi⟩)
  · simpa [hi] using h
set_option maxRecDepth 65536 in
theorem w_c0 : (Jvm.Cond.code x code maxLocals ret).before args0 about1 = true := code_word (m := ⟨1, 1⟩) (meth := k1m1) (c := k1c1) (by decide +kernel) rfl rfl rfl (by decide +kernel)
set_option maxRecDepth 65536 in
theorem w_c1 : (Jvm.Cond.code ({ cls := "com/example/halfwake/halfwake/protocol/MinorityGradedAgreement", name := "withinModel", desc := "(II)Z" } : Jvm.MethodName) prog_51_method_2_code (2 : Nat) (Option.some Jvm.ClassFile.FieldType.boolean)).before args0 about1 = true := code_word (m := ⟨2, 0⟩) (meth := k2m0) (c := k2c0) (by decide +kernel) rfl rfl rfl (by decide +kernel)
def codes1 : List Jvm.Cond := [Jvm.Cond.code x code maxLocals ret, Jvm.Cond.code ({ cls := "com/example/halfwake/halfwake/protocol/MinorityGradedAgreement", name := "withinModel", desc := "(II)Z" } : Jvm.MethodName) prog_51_method_2_code (2 : Nat) (Option.some Jvm.ClassFile.FieldType.boolean)]
set_option maxRecDepth 65536 in
theorem codes_eq : words1.filter isCode = codes1 := rfl
theorem w_codes : ∀ c ∈ words1.filter isCode, c.before args0 about1 = true := by
  rw [codes_eq]
  intro c hc
  simp only [codes1, List.mem_cons, List.not_mem_nil, or_false] at hc
  rcases hc with rfl | rfl
  · exact w_c0
  · exact w_c1
set_option maxRecDepth 65536 in
theorem w_t1 : words1.all (fun c => isCode c || c.before args0 about1) = true := by decide +kernel
theorem w_tables : (allAtoms (Jvm.Cond.code x code maxLocals ret :: tables_1)).before args0 about1 = true := by
  rw [allAtoms_all]
  show words1.all (fun c => c.before args0 about1) = true
  refine all_split ?_ w_codes
  rw [w_t1]
set_option maxRecDepth 65536 in
theorem w_case : (Jvm.Cond.and given_1 narrow_1).before args0 about1 = true := by decide +kernel
theorem w_applies : (headSpec (Jvm.Cond.code x code maxLocals ret :: tables_1) room_1).applies x e0.platform about1 = true :=
  (Spec.applies_iff w_frames).mpr ⟨w_running, w_runnable, w_alone, w_named, w_hears, w_ripe, w_room, w_tables⟩
theorem atStart : AtStart classFile x code maxLocals ret World_1 tables_1 room_1 Calls_1 rest_1 Pre_1 launch0 p0 e0 about1 theMethod args0 below0 :=
  ⟨lists_1, trivial, launch0.admits_env _ _ _, launch0.least_env, fairChoices_fair.cas, fairChoices_fair.clock, w_frames, w_args, w_heap, w_applies, trivial, trivial, w_case⟩
end start1
theorem witness_1 : WitnessClaimed_1 := ⟨start1.p0, start1.e0, start1.about1, start1.theMethod, start1.args0, start1.below0, start1.atStart⟩
end Jvm.Pilot.@@N@@
