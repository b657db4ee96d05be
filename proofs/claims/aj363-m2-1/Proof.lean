import JvmDerived
import JvmDerived.Pilot.@@N@@Statement
import JvmDerived.Pilot.@@N@@Code
set_option linter.unusedVariables false
set_option linter.unusedSimpArgs false
namespace Jvm.RoadKit
open Sem ClassFile Op Lib Jvm.Stand Jvm.Free Jvm.LawKit
section New
variable {p : Program} {l : Launch} {e : Env} {R : Room} {s : State} {m : MethodId} {args : Array Value} {below : List Frame} {meth : Method} {c : Code} {T : State} {locs : List Loc} {cells slots : Nat}
theorem retI (X : Stand p l e R s m args below meth c T locs cells slots) (hx : p.tables.exec = Jvm.exec) {pc : Nat} {Ls : Array Slot} {z : Int32} {rest : List Value} (hret : meth.sig.returnType = some .int) (hd : decode c.code pc = .ok (.ireturn, 1)) {fs : List Frame}
    (hl : ∀ (f : JFrame) (acts : List Action), f.method = m → f.locked = none → f.entered = [] → (doReturn e (T.setTop f) acts (some (.int z))).1 = T.setFrames fs) : Steps p.tables e below (T.setTop (mkF m pc Ls (.int z :: rest))) (T.setFrames fs) := by
  have hm' : T.vm.method? m = some meth := X.method'
  have hn : narrow .int (.int z) = .int z := rfl
  show Steps p.tables e below (T.setTop { method := m, pc := pc, locals := Ls, stack := _ :: rest, locked := none }) _
  jvm_step X.here [X.here.top, hx, hd, hm', hret, hn]
  first | (intro acts; rw [hl _ acts rfl rfl rfl]) | rw [hl _ _ rfl rfl rfl]
  exact Steps.refl _
end New
end Jvm.RoadKit
namespace Jvm.Pilot.@@N@@
open Jvm Jvm.ClassFile Sem Op Lib Jvm.Free Jvm.Stand Jvm.LawKit Jvm.RoadKit Bundle Jvm.Pilot.@@N@@.Jvm.D
def own_Fin (p : Program) (e : Env) (below : List Frame) (G : Outcome → State → Prop) (st : State) : Prop :=
  ∃ s₂ o, Steps p.tables e below st s₂ ∧ s₂.status = .running ∧ Ended s₂ below o ∧ G o s₂
theorem own_lift {p : Program} {e : Env} {below : List Frame} {G : Outcome → State → Prop} {st st' : State} (k : ∀ t, Steps p.tables e below st' t → Steps p.tables e below st t) (h : own_Fin p e below G st') : own_Fin p e below G st := by
  obtain ⟨t, o, h1, h2⟩ := h
  exact ⟨t, o, k t h1, h2⟩

/-! the plain law -/
def own_brk (b : Int32) : Int32 := if b = 13 then 1 else if b = 10 then 1 else 0
theorem own_bb (x : Int32) : x.toInt8.toInt32.toInt8.toInt32 = x.toInt8.toInt32 := by simp
def own_h5 (len b0 b1 b2 b3 b4 : Int32) : Int32 := 5
def own_h4 (len b0 b1 b2 b3 b4 : Int32) : Int32 := if (4 : Int32) < len then (if own_brk b4 = 0 then 4 else own_h5 len b0 b1 b2 b3 b4) else 4
def own_h3 (len b0 b1 b2 b3 b4 : Int32) : Int32 := if (3 : Int32) < len then (if own_brk b3 = 0 then 3 else own_h4 len b0 b1 b2 b3 b4) else 3
def own_h2 (len b0 b1 b2 b3 b4 : Int32) : Int32 := if (2 : Int32) < len then (if own_brk b2 = 0 then 2 else own_h3 len b0 b1 b2 b3 b4) else 2
def own_h1 (len b0 b1 b2 b3 b4 : Int32) : Int32 := if (1 : Int32) < len then (if own_brk b1 = 0 then 1 else own_h2 len b0 b1 b2 b3 b4) else 1
def own_h0 (len b0 b1 b2 b3 b4 : Int32) : Int32 := if (0 : Int32) < len then (if own_brk b0 = 0 then 0 else own_h1 len b0 b1 b2 b3 b4) else 0
theorem own_len (x : Int32) : ¬ (5 : Int32) < ((x &&& (2147483647 : Int32)) % (6 : Int32)) := by
  rw [Int32.lt_iff_toInt_lt, Int32.toInt_mod, show (6 : Int32).toInt = 6 from rfl, show (5 : Int32).toInt = 5 from rfl]
  have := Int.tmod_lt_of_pos (x &&& (2147483647 : Int32)).toInt (b := 6) (by decide)
  omega
theorem d1_0 : decode method_3_code 0 = .ok (.iload_n 0, 1) := by decide +kernel
theorem d1_1 : decode method_3_code 1 = .ok (.iconst 2, 1) := by decide +kernel
theorem d1_2 : decode method_3_code 2 = .ok (.iload_n 3, 1) := by decide +kernel
theorem d1_3 : decode method_3_code 3 = .ok (.imul, 1) := by decide +kernel
theorem d1_4 : decode method_3_code 4 = .ok (.iushr, 1) := by decide +kernel
theorem d1_5 : decode method_3_code 5 = .ok (.iconst 3, 1) := by decide +kernel
theorem d1_6 : decode method_3_code 6 = .ok (.iand, 1) := by decide +kernel
theorem d1_7 : decode method_3_code 7 = .ok (.istore 4, 2) := by decide +kernel
theorem d1_9 : decode method_3_code 9 = .ok (.iload 4, 2) := by decide +kernel
theorem d1_11 : decode method_3_code 11 = .ok (.ifCond .ne 6, 3) := by decide +kernel
theorem d1_14 : decode method_3_code 14 = .ok (.bipush 13, 2) := by decide +kernel
theorem d1_16 : decode method_3_code 16 = .ok (.ireturn, 1) := by decide +kernel
theorem d1_17 : decode method_3_code 17 = .ok (.iload 4, 2) := by decide +kernel
theorem d1_19 : decode method_3_code 19 = .ok (.iconst 1, 1) := by decide +kernel
theorem d1_20 : decode method_3_code 20 = .ok (.if_icmp .ne 6, 3) := by decide +kernel
theorem d1_23 : decode method_3_code 23 = .ok (.bipush 10, 2) := by decide +kernel
theorem d1_25 : decode method_3_code 25 = .ok (.ireturn, 1) := by decide +kernel
theorem d1_26 : decode method_3_code 26 = .ok (.lload_n 1, 1) := by decide +kernel
theorem d1_27 : decode method_3_code 27 = .ok (.bipush 8, 2) := by decide +kernel
theorem d1_29 : decode method_3_code 29 = .ok (.iload_n 3, 1) := by decide +kernel
theorem d1_30 : decode method_3_code 30 = .ok (.imul, 1) := by decide +kernel
theorem d1_31 : decode method_3_code 31 = .ok (.lushr, 1) := by decide +kernel
theorem d1_32 : decode method_3_code 32 = .ok (.l2i, 1) := by decide +kernel
theorem d1_33 : decode method_3_code 33 = .ok (.i2b, 1) := by decide +kernel
theorem d1_34 : decode method_3_code 34 = .ok (.ireturn, 1) := by decide +kernel
theorem pn_1 : plainName "com/example/ringvault/ringvault/http/MessageInputHeadStartPinLaw" = true := by first | (simp [plainName, overriddenIn]; done) | decide +kernel
theorem ef_1 (m : MethodId) (x0 : Int32) (x1 : Int64) (x2 : Int32) : entryFrame m #[(.int x0), (.long x1), (.int x2)] 5 = mkF m 0 #[.val (.int x0), .val (.long x1), .second, .val (.int x2), .unset] [] := by first | (simp [entryFrame, mkF, argsToLocals, Value.category]; done) | rfl
def Q1 (Z : State) (p1 : Int32) (q2 : Int64) (p3 : Int32) (h0 : Heap) (n0 : Nat) (v : Option Value) (h : Heap) (L : List Loc) : Prop := ∃ b : Int32, b.toInt8.toInt32 = b ∧ v = some (.int b) ∧ Fr n0 L ∧ h = h0
set_option maxRecDepth 65536 in
set_option maxHeartbeats 40000000 in
theorem rm1 (l : Launch) (Z : State) (a0 : Array Value) (hw : ∀ d ∈ tables_1, d.before a0 Z = true) (ws : List Jvm.Cond) (p1 : Int32) (q2 : Int64) (p3 : Int32) (h0 : Heap) (n0 : Nat) (Z0 : n0 ≤ h0.size) :
    MetFree l (⟨"com/example/ringvault/ringvault/http/MessageInputHeadStartPinLaw", "pick", "(IJI)B"⟩ : MethodName) (head1 (Jvm.Cond.code (⟨"com/example/ringvault/ringvault/http/MessageInputHeadStartPinLaw", "pick", "(IJI)B"⟩ : MethodName) method_3_code 5 (some .byte) :: ws) ({ frames := 0, cells := 0, slots := 0, locals := 0 } : Room)) (fun a U => a = #[(.int p1), (.long q2), (.int p3)] ∧ Z.Warmed39 U.vm ∧ U.heap = h0) (fun _ _ _ _ _ => True) (fun _ U o U' => ∃ v L, o = .returned v ∧ Q1 Z p1 q2 p3 h0 n0 v U'.heap L ∧ FrameEnd U o U' L ({ frames := 0, cells := 0, slots := 0, locals := 0 } : Room).cells ({ frames := 0, cells := 0, slots := 0, locals := 0 } : Room).slots) := by
  refine MetFree.of_bodySF (plainFor_of_name pn_1) hisR ?_
  intro p e s m args below meth c s₁ Bd hml0 hP hK
  obtain ⟨rfl, hZ, hh⟩ := hP
  have hx := Bd.exec
  have hby := Bd.bytes
  have hml : c.maxLocals = 5 := hml0
  have hown : s.vm.findClass "com/example/ringvault/ringvault/http/MessageInputHeadStartPinLaw" = some m.cls := findClass_of_methodNamed Bd.named
  have hnm := (name_of_methodNamed Bd.named Bd.method).1
  have X0 : Stand p l e ({ frames := 0, cells := 0, slots := 0, locals := 0 } : Room) s m #[(.int p1), (.long q2), (.int p3)] below meth c s₁ [] 0 0 := Stand.of_body Bd
  have e0 : s₁.heap = h0 := by rw [← hh, Bd.state]; rfl
  have N0 := Fr.nil n0
  show own_Fin p e below (fun o U' => ∃ v L, o = .returned v ∧ Q1 Z p1 q2 p3 h0 n0 v U'.heap L ∧ FrameEnd s o U' L ({ frames := 0, cells := 0, slots := 0, locals := 0 } : Room).cells ({ frames := 0, cells := 0, slots := 0, locals := 0 } : Room).slots) (s₁.setTop (entryFrame m #[(.int p1), (.long q2), (.int p3)] 5))
  refine own_lift (fun t k => castTop (ef_1 m p1 q2 p3) k) ?_
  show own_Fin p e below _ (s₁.setTop (mkF m 0 #[.val (.int p1), .val (.long q2), .second, .val (.int p3), .unset] []))
  refine own_lift (fun t k => XS.iloadN X0.here hx rfl (hb hby d1_0) rfl k) ?_
  show own_Fin p e below _ (s₁.setTop (mkF m 1 #[.val (.int p1), .val (.long q2), .second, .val (.int p3), .unset] [(.int p1)]))
  refine own_lift (fun t k => XS.iconst X0.here hx rfl (hb hby d1_1) k) ?_
  show own_Fin p e below _ (s₁.setTop (mkF m 2 #[.val (.int p1), .val (.long q2), .second, .val (.int p3), .unset] [(.int (2 : Int32)), (.int p1)]))
  refine own_lift (fun t k => XS.iloadN X0.here hx rfl (hb hby d1_2) rfl k) ?_
  show own_Fin p e below _ (s₁.setTop (mkF m 3 #[.val (.int p1), .val (.long q2), .second, .val (.int p3), .unset] [(.int p3), (.int (2 : Int32)), (.int p1)]))
  refine own_lift (fun t k => XS.imul X0.here hx rfl (hb hby d1_3) rfl k) ?_
  show own_Fin p e below _ (s₁.setTop (mkF m 4 #[.val (.int p1), .val (.long q2), .second, .val (.int p3), .unset] [(.int ((2 : Int32) * p3)), (.int p1)]))
  refine own_lift (fun t k => XS.iushr X0.here hx rfl (hb hby d1_4) rfl k) ?_
  show own_Fin p e below _ (s₁.setTop (mkF m 5 #[.val (.int p1), .val (.long q2), .second, .val (.int p3), .unset] [(.int ((p1.toUInt32 >>> (((2 : Int32) * p3) &&& 31).toUInt32).toInt32))]))
  refine own_lift (fun t k => XS.iconst X0.here hx rfl (hb hby d1_5) k) ?_
  show own_Fin p e below _ (s₁.setTop (mkF m 6 #[.val (.int p1), .val (.long q2), .second, .val (.int p3), .unset] [(.int (3 : Int32)), (.int ((p1.toUInt32 >>> (((2 : Int32) * p3) &&& 31).toUInt32).toInt32))]))
  refine own_lift (fun t k => XS.iand X0.here hx rfl (hb hby d1_6) rfl k) ?_
  show own_Fin p e below _ (s₁.setTop (mkF m 7 #[.val (.int p1), .val (.long q2), .second, .val (.int p3), .unset] [(.int (((p1.toUInt32 >>> (((2 : Int32) * p3) &&& 31).toUInt32).toInt32) &&& (3 : Int32)))]))
  refine own_lift (fun t k => XS.istore X0.here hx rfl (hb hby d1_7) rfl (l' := #[.val (.int p1), .val (.long q2), .second, .val (.int p3), .val (.int (((p1.toUInt32 >>> (((2 : Int32) * p3) &&& 31).toUInt32).toInt32) &&& (3 : Int32)))]) rfl k) ?_
  show own_Fin p e below _ (s₁.setTop (mkF m 9 #[.val (.int p1), .val (.long q2), .second, .val (.int p3), .val (.int (((p1.toUInt32 >>> (((2 : Int32) * p3) &&& 31).toUInt32).toInt32) &&& (3 : Int32)))] []))
  refine own_lift (fun t k => XS.iload X0.here hx rfl (hb hby d1_9) rfl k) ?_
  show own_Fin p e below _ (s₁.setTop (mkF m 11 #[.val (.int p1), .val (.long q2), .second, .val (.int p3), .val (.int (((p1.toUInt32 >>> (((2 : Int32) * p3) &&& 31).toUInt32).toInt32) &&& (3 : Int32)))] [(.int (((p1.toUInt32 >>> (((2 : Int32) * p3) &&& 31).toUInt32).toInt32) &&& (3 : Int32)))]))
  by_cases hc11_1 : (((p1.toUInt32 >>> (((2 : Int32) * p3) &&& 31).toUInt32).toInt32) &&& (3 : Int32)) = (0 : Int32)
  · refine own_lift (fun t k => XS.ifNo X0.here hx rfl (hb hby d1_11) rfl ((if0 _ _).trans (teq hc11_1).2) k) ?_
    show own_Fin p e below _ (s₁.setTop (mkF m 14 #[.val (.int p1), .val (.long q2), .second, .val (.int p3), .val (.int (((p1.toUInt32 >>> (((2 : Int32) * p3) &&& 31).toUInt32).toInt32) &&& (3 : Int32)))] []))
    refine own_lift (fun t k => XS.bipush X0.here hx rfl (hb hby d1_14) k) ?_
    show own_Fin p e below _ (s₁.setTop (mkF m 16 #[.val (.int p1), .val (.long q2), .second, .val (.int p3), .val (.int (((p1.toUInt32 >>> (((2 : Int32) * p3) &&& 31).toUInt32).toInt32) &&& (3 : Int32)))] [(.int (13 : Int32))]))
    obtain ⟨fs, hr, hrun, hended, hW, hsame⟩ := X0.leave (v := some (.int ((13 : Int32).toInt8.toInt32))) (fun h => by rw [Bd.returns] at h; cases h)
    exact ⟨_, _, retN X0 hx (t := .byte) Bd.returns (by simp) (hb hby d1_16) hr, hrun, hended, _, _, rfl, ⟨_, own_bb _, rfl, N0, e0⟩, ⟨_, rfl⟩, hW, hsame.mono (by decide) (by decide)⟩
  · refine own_lift (fun t k => XS.ifYes X0.here hx rfl (pc0 := 11) (pc' := 17) rfl (hb hby d1_11) rfl ((if0 _ _).trans (feq hc11_1).2) (by decide) (by decide) k) ?_
    show own_Fin p e below _ (s₁.setTop (mkF m 17 #[.val (.int p1), .val (.long q2), .second, .val (.int p3), .val (.int (((p1.toUInt32 >>> (((2 : Int32) * p3) &&& 31).toUInt32).toInt32) &&& (3 : Int32)))] []))
    refine own_lift (fun t k => XS.iload X0.here hx rfl (hb hby d1_17) rfl k) ?_
    show own_Fin p e below _ (s₁.setTop (mkF m 19 #[.val (.int p1), .val (.long q2), .second, .val (.int p3), .val (.int (((p1.toUInt32 >>> (((2 : Int32) * p3) &&& 31).toUInt32).toInt32) &&& (3 : Int32)))] [(.int (((p1.toUInt32 >>> (((2 : Int32) * p3) &&& 31).toUInt32).toInt32) &&& (3 : Int32)))]))
    refine own_lift (fun t k => XS.iconst X0.here hx rfl (hb hby d1_19) k) ?_
    show own_Fin p e below _ (s₁.setTop (mkF m 20 #[.val (.int p1), .val (.long q2), .second, .val (.int p3), .val (.int (((p1.toUInt32 >>> (((2 : Int32) * p3) &&& 31).toUInt32).toInt32) &&& (3 : Int32)))] [(.int (1 : Int32)), (.int (((p1.toUInt32 >>> (((2 : Int32) * p3) &&& 31).toUInt32).toInt32) &&& (3 : Int32)))]))
    by_cases hc20_2 : (((p1.toUInt32 >>> (((2 : Int32) * p3) &&& 31).toUInt32).toInt32) &&& (3 : Int32)) = (1 : Int32)
    · refine own_lift (fun t k => XS.icmpNo X0.here hx rfl (hb hby d1_20) rfl (teq hc20_2).2 k) ?_
      show own_Fin p e below _ (s₁.setTop (mkF m 23 #[.val (.int p1), .val (.long q2), .second, .val (.int p3), .val (.int (((p1.toUInt32 >>> (((2 : Int32) * p3) &&& 31).toUInt32).toInt32) &&& (3 : Int32)))] []))
      refine own_lift (fun t k => XS.bipush X0.here hx rfl (hb hby d1_23) k) ?_
      show own_Fin p e below _ (s₁.setTop (mkF m 25 #[.val (.int p1), .val (.long q2), .second, .val (.int p3), .val (.int (((p1.toUInt32 >>> (((2 : Int32) * p3) &&& 31).toUInt32).toInt32) &&& (3 : Int32)))] [(.int (10 : Int32))]))
      obtain ⟨fs, hr, hrun, hended, hW, hsame⟩ := X0.leave (v := some (.int ((10 : Int32).toInt8.toInt32))) (fun h => by rw [Bd.returns] at h; cases h)
      exact ⟨_, _, retN X0 hx (t := .byte) Bd.returns (by simp) (hb hby d1_25) hr, hrun, hended, _, _, rfl, ⟨_, own_bb _, rfl, N0, e0⟩, ⟨_, rfl⟩, hW, hsame.mono (by decide) (by decide)⟩
    · refine own_lift (fun t k => XS.icmpYes X0.here hx rfl (pc0 := 20) (pc' := 26) rfl (hb hby d1_20) rfl (feq hc20_2).2 (by decide) (by decide) k) ?_
      show own_Fin p e below _ (s₁.setTop (mkF m 26 #[.val (.int p1), .val (.long q2), .second, .val (.int p3), .val (.int (((p1.toUInt32 >>> (((2 : Int32) * p3) &&& 31).toUInt32).toInt32) &&& (3 : Int32)))] []))
      refine own_lift (fun t k => XS.lloadN X0.here hx rfl (hb hby d1_26) rfl k) ?_
      show own_Fin p e below _ (s₁.setTop (mkF m 27 #[.val (.int p1), .val (.long q2), .second, .val (.int p3), .val (.int (((p1.toUInt32 >>> (((2 : Int32) * p3) &&& 31).toUInt32).toInt32) &&& (3 : Int32)))] [(.long q2)]))
      refine own_lift (fun t k => XS.bipush X0.here hx rfl (hb hby d1_27) k) ?_
      show own_Fin p e below _ (s₁.setTop (mkF m 29 #[.val (.int p1), .val (.long q2), .second, .val (.int p3), .val (.int (((p1.toUInt32 >>> (((2 : Int32) * p3) &&& 31).toUInt32).toInt32) &&& (3 : Int32)))] [(.int (8 : Int32)), (.long q2)]))
      refine own_lift (fun t k => XS.iloadN X0.here hx rfl (hb hby d1_29) rfl k) ?_
      show own_Fin p e below _ (s₁.setTop (mkF m 30 #[.val (.int p1), .val (.long q2), .second, .val (.int p3), .val (.int (((p1.toUInt32 >>> (((2 : Int32) * p3) &&& 31).toUInt32).toInt32) &&& (3 : Int32)))] [(.int p3), (.int (8 : Int32)), (.long q2)]))
      refine own_lift (fun t k => XS.imul X0.here hx rfl (hb hby d1_30) rfl k) ?_
      show own_Fin p e below _ (s₁.setTop (mkF m 31 #[.val (.int p1), .val (.long q2), .second, .val (.int p3), .val (.int (((p1.toUInt32 >>> (((2 : Int32) * p3) &&& 31).toUInt32).toInt32) &&& (3 : Int32)))] [(.int ((8 : Int32) * p3)), (.long q2)]))
      refine own_lift (fun t k => XS.lushr X0.here hx rfl (hb hby d1_31) rfl k) ?_
      show own_Fin p e below _ (s₁.setTop (mkF m 32 #[.val (.int p1), .val (.long q2), .second, .val (.int p3), .val (.int (((p1.toUInt32 >>> (((2 : Int32) * p3) &&& 31).toUInt32).toInt32) &&& (3 : Int32)))] [(.long ((q2.toUInt64 >>> (((8 : Int32) * p3) &&& 0x3f).toInt64.toUInt64).toInt64))]))
      refine own_lift (fun t k => XS.l2i X0.here hx rfl (hb hby d1_32) rfl k) ?_
      show own_Fin p e below _ (s₁.setTop (mkF m 33 #[.val (.int p1), .val (.long q2), .second, .val (.int p3), .val (.int (((p1.toUInt32 >>> (((2 : Int32) * p3) &&& 31).toUInt32).toInt32) &&& (3 : Int32)))] [(.int (((q2.toUInt64 >>> (((8 : Int32) * p3) &&& 0x3f).toInt64.toUInt64).toInt64).toInt32))]))
      refine own_lift (fun t k => XS.i2b X0.here hx rfl (hb hby d1_33) rfl k) ?_
      show own_Fin p e below _ (s₁.setTop (mkF m 34 #[.val (.int p1), .val (.long q2), .second, .val (.int p3), .val (.int (((p1.toUInt32 >>> (((2 : Int32) * p3) &&& 31).toUInt32).toInt32) &&& (3 : Int32)))] [(.int ((((q2.toUInt64 >>> (((8 : Int32) * p3) &&& 0x3f).toInt64.toUInt64).toInt64).toInt32).toInt8.toInt32))]))
      obtain ⟨fs, hr, hrun, hended, hW, hsame⟩ := X0.leave (v := some (.int (((((q2.toUInt64 >>> (((8 : Int32) * p3) &&& 0x3f).toInt64.toUInt64).toInt64).toInt32).toInt8.toInt32).toInt8.toInt32))) (fun h => by rw [Bd.returns] at h; cases h)
      exact ⟨_, _, retN X0 hx (t := .byte) Bd.returns (by simp) (hb hby d1_34) hr, hrun, hended, _, _, rfl, ⟨_, own_bb _, rfl, N0, e0⟩, ⟨_, rfl⟩, hW, hsame.mono (by decide) (by decide)⟩
theorem d2_0 : decode method_2_code 0 = .ok (.iload_n 0, 1) := by decide +kernel
theorem d2_1 : decode method_2_code 1 = .ok (.bipush 13, 2) := by decide +kernel
theorem d2_3 : decode method_2_code 3 = .ok (.if_icmp .eq 9, 3) := by decide +kernel
theorem d2_6 : decode method_2_code 6 = .ok (.iload_n 0, 1) := by decide +kernel
theorem d2_7 : decode method_2_code 7 = .ok (.bipush 10, 2) := by decide +kernel
theorem d2_9 : decode method_2_code 9 = .ok (.if_icmp .ne 7, 3) := by decide +kernel
theorem d2_12 : decode method_2_code 12 = .ok (.iconst 1, 1) := by decide +kernel
theorem d2_13 : decode method_2_code 13 = .ok (.goto 4, 3) := by decide +kernel
theorem d2_16 : decode method_2_code 16 = .ok (.iconst 0, 1) := by decide +kernel
theorem d2_17 : decode method_2_code 17 = .ok (.ireturn, 1) := by decide +kernel
theorem pn_2 : plainName "com/example/ringvault/ringvault/http/MessageInputHeadStartPinLaw" = true := by first | (simp [plainName, overriddenIn]; done) | decide +kernel
theorem ef_2 (m : MethodId) (x0 : Int32) : entryFrame m #[(.int x0)] 1 = mkF m 0 #[.val (.int x0)] [] := by first | (simp [entryFrame, mkF, argsToLocals, Value.category]; done) | rfl
def Q2 (Z : State) (p1 : Int32) (h0 : Heap) (n0 : Nat) (v : Option Value) (h : Heap) (L : List Loc) : Prop := v = some (.int (own_brk p1)) ∧ Fr n0 L ∧ h = h0
set_option maxRecDepth 65536 in
set_option maxHeartbeats 40000000 in
theorem rm2 (l : Launch) (Z : State) (a0 : Array Value) (hw : ∀ d ∈ tables_1, d.before a0 Z = true) (ws : List Jvm.Cond) (p1 : Int32) (h0 : Heap) (n0 : Nat) (Z0 : n0 ≤ h0.size) :
    MetFree l (⟨"com/example/ringvault/ringvault/http/MessageInputHeadStartPinLaw", "isBreak", "(B)Z"⟩ : MethodName) (head1 (Jvm.Cond.code (⟨"com/example/ringvault/ringvault/http/MessageInputHeadStartPinLaw", "isBreak", "(B)Z"⟩ : MethodName) method_2_code 1 (some .boolean) :: ws) ({ frames := 0, cells := 0, slots := 0, locals := 0 } : Room)) (fun a U => a = #[(.int p1)] ∧ Z.Warmed39 U.vm ∧ U.heap = h0) (fun _ _ _ _ _ => True) (fun _ U o U' => ∃ v L, o = .returned v ∧ Q2 Z p1 h0 n0 v U'.heap L ∧ FrameEnd U o U' L ({ frames := 0, cells := 0, slots := 0, locals := 0 } : Room).cells ({ frames := 0, cells := 0, slots := 0, locals := 0 } : Room).slots) := by
  refine MetFree.of_bodySF (plainFor_of_name pn_2) hisR ?_
  intro p e s m args below meth c s₁ Bd hml0 hP hK
  obtain ⟨rfl, hZ, hh⟩ := hP
  have hx := Bd.exec
  have hby := Bd.bytes
  have hml : c.maxLocals = 1 := hml0
  have hown : s.vm.findClass "com/example/ringvault/ringvault/http/MessageInputHeadStartPinLaw" = some m.cls := findClass_of_methodNamed Bd.named
  have hnm := (name_of_methodNamed Bd.named Bd.method).1
  have X0 : Stand p l e ({ frames := 0, cells := 0, slots := 0, locals := 0 } : Room) s m #[(.int p1)] below meth c s₁ [] 0 0 := Stand.of_body Bd
  have e0 : s₁.heap = h0 := by rw [← hh, Bd.state]; rfl
  have N0 := Fr.nil n0
  show own_Fin p e below (fun o U' => ∃ v L, o = .returned v ∧ Q2 Z p1 h0 n0 v U'.heap L ∧ FrameEnd s o U' L ({ frames := 0, cells := 0, slots := 0, locals := 0 } : Room).cells ({ frames := 0, cells := 0, slots := 0, locals := 0 } : Room).slots) (s₁.setTop (entryFrame m #[(.int p1)] 1))
  refine own_lift (fun t k => castTop (ef_2 m p1) k) ?_
  show own_Fin p e below _ (s₁.setTop (mkF m 0 #[.val (.int p1)] []))
  refine own_lift (fun t k => XS.iloadN X0.here hx rfl (hb hby d2_0) rfl k) ?_
  show own_Fin p e below _ (s₁.setTop (mkF m 1 #[.val (.int p1)] [(.int p1)]))
  refine own_lift (fun t k => XS.bipush X0.here hx rfl (hb hby d2_1) k) ?_
  show own_Fin p e below _ (s₁.setTop (mkF m 3 #[.val (.int p1)] [(.int (13 : Int32)), (.int p1)]))
  by_cases hc3_1 : p1 = (13 : Int32)
  · refine own_lift (fun t k => XS.icmpYes X0.here hx rfl (pc0 := 3) (pc' := 12) rfl (hb hby d2_3) rfl (teq hc3_1).1 (by decide) (by decide) k) ?_
    show own_Fin p e below _ (s₁.setTop (mkF m 12 #[.val (.int p1)] []))
    refine own_lift (fun t k => XS.iconst X0.here hx rfl (hb hby d2_12) k) ?_
    show own_Fin p e below _ (s₁.setTop (mkF m 13 #[.val (.int p1)] [(.int (1 : Int32))]))
    refine own_lift (fun t k => XS.goto X0.here hx rfl (pc0 := 13) (pc' := 17) rfl (hb hby d2_13) (by decide) (by decide) k) ?_
    show own_Fin p e below _ (s₁.setTop (mkF m 17 #[.val (.int p1)] [(.int (1 : Int32))]))
    obtain ⟨fs, hr, hrun, hended, hW, hsame⟩ := X0.leave (v := some (.int (1 : Int32))) (fun h => by rw [Bd.returns] at h; cases h)
    exact ⟨_, _, retN X0 hx (t := .boolean) Bd.returns (by simp) (hb hby d2_17) hr, hrun, hended, _, _, rfl, ⟨by simp [own_brk, hc3_1], N0, e0⟩, ⟨_, rfl⟩, hW, hsame.mono (by decide) (by decide)⟩
  · refine own_lift (fun t k => XS.icmpNo X0.here hx rfl (hb hby d2_3) rfl (feq hc3_1).1 k) ?_
    show own_Fin p e below _ (s₁.setTop (mkF m 6 #[.val (.int p1)] []))
    refine own_lift (fun t k => XS.iloadN X0.here hx rfl (hb hby d2_6) rfl k) ?_
    show own_Fin p e below _ (s₁.setTop (mkF m 7 #[.val (.int p1)] [(.int p1)]))
    refine own_lift (fun t k => XS.bipush X0.here hx rfl (hb hby d2_7) k) ?_
    show own_Fin p e below _ (s₁.setTop (mkF m 9 #[.val (.int p1)] [(.int (10 : Int32)), (.int p1)]))
    by_cases hc9_2 : p1 = (10 : Int32)
    · refine own_lift (fun t k => XS.icmpNo X0.here hx rfl (hb hby d2_9) rfl (teq hc9_2).2 k) ?_
      show own_Fin p e below _ (s₁.setTop (mkF m 12 #[.val (.int p1)] []))
      refine own_lift (fun t k => XS.iconst X0.here hx rfl (hb hby d2_12) k) ?_
      show own_Fin p e below _ (s₁.setTop (mkF m 13 #[.val (.int p1)] [(.int (1 : Int32))]))
      refine own_lift (fun t k => XS.goto X0.here hx rfl (pc0 := 13) (pc' := 17) rfl (hb hby d2_13) (by decide) (by decide) k) ?_
      show own_Fin p e below _ (s₁.setTop (mkF m 17 #[.val (.int p1)] [(.int (1 : Int32))]))
      obtain ⟨fs, hr, hrun, hended, hW, hsame⟩ := X0.leave (v := some (.int (1 : Int32))) (fun h => by rw [Bd.returns] at h; cases h)
      exact ⟨_, _, retN X0 hx (t := .boolean) Bd.returns (by simp) (hb hby d2_17) hr, hrun, hended, _, _, rfl, ⟨by simp [own_brk, hc3_1, hc9_2], N0, e0⟩, ⟨_, rfl⟩, hW, hsame.mono (by decide) (by decide)⟩
    · refine own_lift (fun t k => XS.icmpYes X0.here hx rfl (pc0 := 9) (pc' := 16) rfl (hb hby d2_9) rfl (feq hc9_2).2 (by decide) (by decide) k) ?_
      show own_Fin p e below _ (s₁.setTop (mkF m 16 #[.val (.int p1)] []))
      refine own_lift (fun t k => XS.iconst X0.here hx rfl (hb hby d2_16) k) ?_
      show own_Fin p e below _ (s₁.setTop (mkF m 17 #[.val (.int p1)] [(.int (0 : Int32))]))
      obtain ⟨fs, hr, hrun, hended, hW, hsame⟩ := X0.leave (v := some (.int (0 : Int32))) (fun h => by rw [Bd.returns] at h; cases h)
      exact ⟨_, _, retN X0 hx (t := .boolean) Bd.returns (by simp) (hb hby d2_17) hr, hrun, hended, _, _, rfl, ⟨by simp [own_brk, hc3_1, hc9_2], N0, e0⟩, ⟨_, rfl⟩, hW, hsame.mono (by decide) (by decide)⟩
theorem d3_0 : decode prog_33_method_3_code 0 = .ok (.iconst 0, 1) := by decide +kernel
theorem d3_1 : decode prog_33_method_3_code 1 = .ok (.istore_n 2, 1) := by decide +kernel
theorem d3_2 : decode prog_33_method_3_code 2 = .ok (.iload_n 2, 1) := by decide +kernel
theorem d3_3 : decode prog_33_method_3_code 3 = .ok (.iload_n 1, 1) := by decide +kernel
theorem d3_4 : decode prog_33_method_3_code 4 = .ok (.if_icmp .ge 25, 3) := by decide +kernel
theorem d3_7 : decode prog_33_method_3_code 7 = .ok (.aload_n 0, 1) := by decide +kernel
theorem d3_8 : decode prog_33_method_3_code 8 = .ok (.iload_n 2, 1) := by decide +kernel
theorem d3_9 : decode prog_33_method_3_code 9 = .ok (.baload, 1) := by decide +kernel
theorem d3_10 : decode prog_33_method_3_code 10 = .ok (.bipush 13, 2) := by decide +kernel
theorem d3_12 : decode prog_33_method_3_code 12 = .ok (.if_icmp .eq 11, 3) := by decide +kernel
theorem d3_15 : decode prog_33_method_3_code 15 = .ok (.aload_n 0, 1) := by decide +kernel
theorem d3_16 : decode prog_33_method_3_code 16 = .ok (.iload_n 2, 1) := by decide +kernel
theorem d3_17 : decode prog_33_method_3_code 17 = .ok (.baload, 1) := by decide +kernel
theorem d3_18 : decode prog_33_method_3_code 18 = .ok (.bipush 10, 2) := by decide +kernel
theorem d3_20 : decode prog_33_method_3_code 20 = .ok (.if_icmp .ne 9, 3) := by decide +kernel
theorem d3_23 : decode prog_33_method_3_code 23 = .ok (.iinc 2 1, 3) := by decide +kernel
theorem d3_26 : decode prog_33_method_3_code 26 = .ok (.goto (-24), 3) := by decide +kernel
theorem d3_29 : decode prog_33_method_3_code 29 = .ok (.iload_n 2, 1) := by decide +kernel
theorem d3_30 : decode prog_33_method_3_code 30 = .ok (.ireturn, 1) := by decide +kernel
theorem pn_3 : plainName "com/example/ringvault/ringvault/http/MessageInput" = true := by first | (simp [plainName, overriddenIn]; done) | decide +kernel
theorem ef_3 (m : MethodId) (x0 : Addr) (x1 : Int32) : entryFrame m #[(.ref x0), (.int x1)] 3 = mkF m 0 #[.val (.ref x0), .val (.int x1), .unset] [] := by first | (simp [entryFrame, mkF, argsToLocals, Value.category]; done) | rfl
def Q3 (Z : State) (a1 : Addr) (len : Int32) (kc : ClassId) (b0 b1 b2 b3 b4 : Int32) (h0 : Heap) (n0 : Nat) (v : Option Value) (h : Heap) (L : List Loc) : Prop := v = some (.int (own_h0 len b0 b1 b2 b3 b4)) ∧ Fr n0 L ∧ h = h0
set_option maxRecDepth 65536 in
set_option maxHeartbeats 40000000 in
theorem rm3 (l : Launch) (Z : State) (a0 : Array Value) (hw : ∀ d ∈ tables_1, d.before a0 Z = true) (ws : List Jvm.Cond) (a1 : Addr) (len : Int32) (kc : ClassId) (b0 b1 b2 b3 b4 : Int32) (h0 : Heap) (n0 : Nat) (Z0 : n0 ≤ h0.size) (V0 : Arv Z h0 a1 kc .byte (5 : Int32) [(.int b0), (.int b1), (.int b2), (.int b3), (.int b4)] (.int (0 : Int32))) (hlen : ¬ (5 : Int32) < len) :
    MetFree l (⟨"com/example/ringvault/ringvault/http/MessageInput", "headStart", "([BI)I"⟩ : MethodName) (head1 (Jvm.Cond.code (⟨"com/example/ringvault/ringvault/http/MessageInput", "headStart", "([BI)I"⟩ : MethodName) prog_33_method_3_code 3 (some .int) :: ws) ({ frames := 0, cells := 0, slots := 0, locals := 0 } : Room)) (fun a U => a = #[(.ref a1), (.int len)] ∧ Z.Warmed39 U.vm ∧ U.heap = h0) (fun _ _ _ _ _ => True) (fun _ U o U' => ∃ v L, o = .returned v ∧ Q3 Z a1 len kc b0 b1 b2 b3 b4 h0 n0 v U'.heap L ∧ FrameEnd U o U' L ({ frames := 0, cells := 0, slots := 0, locals := 0 } : Room).cells ({ frames := 0, cells := 0, slots := 0, locals := 0 } : Room).slots) := by
  refine MetFree.of_bodySF (plainFor_of_name pn_3) hisR ?_
  intro p e s m args below meth c s₁ Bd hml0 hP hK
  obtain ⟨rfl, hZ, hh⟩ := hP
  have hx := Bd.exec
  have hby := Bd.bytes
  have hml : c.maxLocals = 3 := hml0
  have hown : s.vm.findClass "com/example/ringvault/ringvault/http/MessageInput" = some m.cls := findClass_of_methodNamed Bd.named
  have hnm := (name_of_methodNamed Bd.named Bd.method).1
  have X0 : Stand p l e ({ frames := 0, cells := 0, slots := 0, locals := 0 } : Room) s m #[(.ref a1), (.int len)] below meth c s₁ [] 0 0 := Stand.of_body Bd
  have e0 : s₁.heap = h0 := by rw [← hh, Bd.state]; rfl
  have N0 := Fr.nil n0
  show own_Fin p e below (fun o U' => ∃ v L, o = .returned v ∧ Q3 Z a1 len kc b0 b1 b2 b3 b4 h0 n0 v U'.heap L ∧ FrameEnd s o U' L ({ frames := 0, cells := 0, slots := 0, locals := 0 } : Room).cells ({ frames := 0, cells := 0, slots := 0, locals := 0 } : Room).slots) (s₁.setTop (entryFrame m #[(.ref a1), (.int len)] 3))
  have hd5 : ∀ (T : State) (locs : List Loc), Stand p l e ({ frames := 0, cells := 0, slots := 0, locals := 0 } : Room) s m #[(.ref a1), (.int len)] below meth c T locs 0 0 → T.heap = h0 → Fr n0 locs → own_h0 len b0 b1 b2 b3 b4 = own_h5 len b0 b1 b2 b3 b4 → own_Fin p e below (fun o U' => ∃ v L, o = .returned v ∧ Q3 Z a1 len kc b0 b1 b2 b3 b4 h0 n0 v U'.heap L ∧ FrameEnd s o U' L ({ frames := 0, cells := 0, slots := 0, locals := 0 } : Room).cells ({ frames := 0, cells := 0, slots := 0, locals := 0 } : Room).slots) (T.setTop (mkF m 2 #[.val (.ref a1), .val (.int len), .val (.int (5 : Int32))] [])) := by
    intro T locs X e1 N hR
    refine own_lift (fun t k => XS.iloadN X.here hx rfl (hb hby d3_2) rfl k) ?_
    show own_Fin p e below _ (T.setTop (mkF m 3 #[.val (.ref a1), .val (.int len), .val (.int (5 : Int32))] [(.int (5 : Int32))]))
    refine own_lift (fun t k => XS.iloadN X.here hx rfl (hb hby d3_3) rfl k) ?_
    show own_Fin p e below _ (T.setTop (mkF m 4 #[.val (.ref a1), .val (.int len), .val (.int (5 : Int32))] [(.int len), (.int (5 : Int32))]))
    refine own_lift (fun t k => XS.icmpYes X.here hx rfl (pc0 := 4) (pc' := 29) rfl (hb hby d3_4) rfl (flt hlen).2.1 (by decide) (by decide) k) ?_
    show own_Fin p e below _ (T.setTop (mkF m 29 #[.val (.ref a1), .val (.int len), .val (.int (5 : Int32))] []))
    refine own_lift (fun t k => XS.iloadN X.here hx rfl (hb hby d3_29) rfl k) ?_
    show own_Fin p e below _ (T.setTop (mkF m 30 #[.val (.ref a1), .val (.int len), .val (.int (5 : Int32))] [(.int (5 : Int32))]))
    obtain ⟨fs, hr, hrun, hended, hW, hsame⟩ := X.leave (v := some (.int (5 : Int32))) (fun h => by rw [Bd.returns] at h; cases h)
    exact ⟨_, _, retI X hx Bd.returns (hb hby d3_30) hr, hrun, hended, _, _, rfl, ⟨by rw [hR]; simp [own_h5, own_brk, hlen], N, e1⟩, ⟨_, rfl⟩, hW, hsame.mono (by decide) (by decide)⟩
  have hd4 : ∀ (T : State) (locs : List Loc), Stand p l e ({ frames := 0, cells := 0, slots := 0, locals := 0 } : Room) s m #[(.ref a1), (.int len)] below meth c T locs 0 0 → T.heap = h0 → Fr n0 locs → own_h0 len b0 b1 b2 b3 b4 = own_h4 len b0 b1 b2 b3 b4 → own_Fin p e below (fun o U' => ∃ v L, o = .returned v ∧ Q3 Z a1 len kc b0 b1 b2 b3 b4 h0 n0 v U'.heap L ∧ FrameEnd s o U' L ({ frames := 0, cells := 0, slots := 0, locals := 0 } : Room).cells ({ frames := 0, cells := 0, slots := 0, locals := 0 } : Room).slots) (T.setTop (mkF m 2 #[.val (.ref a1), .val (.int len), .val (.int (4 : Int32))] [])) := by
    intro T locs X e1 N hR
    refine own_lift (fun t k => XS.iloadN X.here hx rfl (hb hby d3_2) rfl k) ?_
    show own_Fin p e below _ (T.setTop (mkF m 3 #[.val (.ref a1), .val (.int len), .val (.int (4 : Int32))] [(.int (4 : Int32))]))
    refine own_lift (fun t k => XS.iloadN X.here hx rfl (hb hby d3_3) rfl k) ?_
    show own_Fin p e below _ (T.setTop (mkF m 4 #[.val (.ref a1), .val (.int len), .val (.int (4 : Int32))] [(.int len), (.int (4 : Int32))]))
    by_cases hc4_2 : (4 : Int32) < len
    · refine own_lift (fun t k => XS.icmpNo X.here hx rfl (hb hby d3_4) rfl (tlt hc4_2).2.1 k) ?_
      show own_Fin p e below _ (T.setTop (mkF m 7 #[.val (.ref a1), .val (.int len), .val (.int (4 : Int32))] []))
      refine own_lift (fun t k => XS.aloadN X.here hx rfl (hb hby d3_7) rfl rfl k) ?_
      show own_Fin p e below _ (T.setTop (mkF m 8 #[.val (.ref a1), .val (.int len), .val (.int (4 : Int32))] [(.ref a1)]))
      refine own_lift (fun t k => XS.iloadN X.here hx rfl (hb hby d3_8) rfl k) ?_
      show own_Fin p e below _ (T.setTop (mkF m 9 #[.val (.ref a1), .val (.int len), .val (.int (4 : Int32))] [(.int (4 : Int32)), (.ref a1)]))
      have cpv_3 := V0
      obtain ⟨clv_3, Arv_3, qv_3, Sv_3, Mv_3, Hv_3, Gv_3⟩ := cpv_3
      refine own_lift (fun t k => X.baloadBytes hx (j := (4 : Int32)) (v := (.int b4)) (by rw [e1]; exact Arv_3.1) (State.isArrayOf_alike hZ.alike Arv_3.2.1) Arv_3.2.2 (inb_of Sv_3 ⟨by decide, by decide⟩) (Hv_3 4 (by rw [Sv_3]; decide)) (g := (mkF m 9 #[.val (.ref a1), .val (.int len), .val (.int (4 : Int32))] [(.int (4 : Int32)), (.ref a1)])) rfl rfl (hb hby d3_9) _ k) ?_
      show own_Fin p e below _ (T.setTop (mkF m 10 #[.val (.ref a1), .val (.int len), .val (.int (4 : Int32))] [(.int b4)]))
      refine own_lift (fun t k => XS.bipush X.here hx rfl (hb hby d3_10) k) ?_
      show own_Fin p e below _ (T.setTop (mkF m 12 #[.val (.ref a1), .val (.int len), .val (.int (4 : Int32))] [(.int (13 : Int32)), (.int b4)]))
      by_cases hc12_4 : b4 = (13 : Int32)
      · refine own_lift (fun t k => XS.icmpYes X.here hx rfl (pc0 := 12) (pc' := 23) rfl (hb hby d3_12) rfl (teq hc12_4).1 (by decide) (by decide) k) ?_
        show own_Fin p e below _ (T.setTop (mkF m 23 #[.val (.ref a1), .val (.int len), .val (.int (4 : Int32))] []))
        refine own_lift (fun t k => XS.iinc X.here hx rfl (hb hby d3_23) rfl (l' := #[.val (.ref a1), .val (.int len), .val (.int ((4 : Int32) + (1 : Int32)))]) rfl k) ?_
        show own_Fin p e below _ (T.setTop (mkF m 26 #[.val (.ref a1), .val (.int len), .val (.int ((4 : Int32) + (1 : Int32)))] []))
        refine own_lift (fun t k => XS.goto X.here hx rfl (pc0 := 26) (pc' := 2) rfl (hb hby d3_26) (by decide) (by decide) k) ?_
        show own_Fin p e below _ (T.setTop (mkF m 2 #[.val (.ref a1), .val (.int len), .val (.int ((4 : Int32) + (1 : Int32)))] []))
        exact hd5 _ _ X e1 N (by rw [hR]; simp [own_h4, own_brk, hlen, hc4_2, hc12_4])
      · refine own_lift (fun t k => XS.icmpNo X.here hx rfl (hb hby d3_12) rfl (feq hc12_4).1 k) ?_
        show own_Fin p e below _ (T.setTop (mkF m 15 #[.val (.ref a1), .val (.int len), .val (.int (4 : Int32))] []))
        refine own_lift (fun t k => XS.aloadN X.here hx rfl (hb hby d3_15) rfl rfl k) ?_
        show own_Fin p e below _ (T.setTop (mkF m 16 #[.val (.ref a1), .val (.int len), .val (.int (4 : Int32))] [(.ref a1)]))
        refine own_lift (fun t k => XS.iloadN X.here hx rfl (hb hby d3_16) rfl k) ?_
        show own_Fin p e below _ (T.setTop (mkF m 17 #[.val (.ref a1), .val (.int len), .val (.int (4 : Int32))] [(.int (4 : Int32)), (.ref a1)]))
        have cpv_5 := V0
        obtain ⟨clv_5, Arv_5, qv_5, Sv_5, Mv_5, Hv_5, Gv_5⟩ := cpv_5
        refine own_lift (fun t k => X.baloadBytes hx (j := (4 : Int32)) (v := (.int b4)) (by rw [e1]; exact Arv_5.1) (State.isArrayOf_alike hZ.alike Arv_5.2.1) Arv_5.2.2 (inb_of Sv_5 ⟨by decide, by decide⟩) (Hv_5 4 (by rw [Sv_5]; decide)) (g := (mkF m 17 #[.val (.ref a1), .val (.int len), .val (.int (4 : Int32))] [(.int (4 : Int32)), (.ref a1)])) rfl rfl (hb hby d3_17) _ k) ?_
        show own_Fin p e below _ (T.setTop (mkF m 18 #[.val (.ref a1), .val (.int len), .val (.int (4 : Int32))] [(.int b4)]))
        refine own_lift (fun t k => XS.bipush X.here hx rfl (hb hby d3_18) k) ?_
        show own_Fin p e below _ (T.setTop (mkF m 20 #[.val (.ref a1), .val (.int len), .val (.int (4 : Int32))] [(.int (10 : Int32)), (.int b4)]))
        by_cases hc20_6 : b4 = (10 : Int32)
        · refine own_lift (fun t k => XS.icmpNo X.here hx rfl (hb hby d3_20) rfl (teq hc20_6).2 k) ?_
          show own_Fin p e below _ (T.setTop (mkF m 23 #[.val (.ref a1), .val (.int len), .val (.int (4 : Int32))] []))
          refine own_lift (fun t k => XS.iinc X.here hx rfl (hb hby d3_23) rfl (l' := #[.val (.ref a1), .val (.int len), .val (.int ((4 : Int32) + (1 : Int32)))]) rfl k) ?_
          show own_Fin p e below _ (T.setTop (mkF m 26 #[.val (.ref a1), .val (.int len), .val (.int ((4 : Int32) + (1 : Int32)))] []))
          refine own_lift (fun t k => XS.goto X.here hx rfl (pc0 := 26) (pc' := 2) rfl (hb hby d3_26) (by decide) (by decide) k) ?_
          show own_Fin p e below _ (T.setTop (mkF m 2 #[.val (.ref a1), .val (.int len), .val (.int ((4 : Int32) + (1 : Int32)))] []))
          exact hd5 _ _ X e1 N (by rw [hR]; simp [own_h4, own_brk, hlen, hc4_2, hc12_4, hc20_6])
        · refine own_lift (fun t k => XS.icmpYes X.here hx rfl (pc0 := 20) (pc' := 29) rfl (hb hby d3_20) rfl (feq hc20_6).2 (by decide) (by decide) k) ?_
          show own_Fin p e below _ (T.setTop (mkF m 29 #[.val (.ref a1), .val (.int len), .val (.int (4 : Int32))] []))
          refine own_lift (fun t k => XS.iloadN X.here hx rfl (hb hby d3_29) rfl k) ?_
          show own_Fin p e below _ (T.setTop (mkF m 30 #[.val (.ref a1), .val (.int len), .val (.int (4 : Int32))] [(.int (4 : Int32))]))
          obtain ⟨fs, hr, hrun, hended, hW, hsame⟩ := X.leave (v := some (.int (4 : Int32))) (fun h => by rw [Bd.returns] at h; cases h)
          exact ⟨_, _, retI X hx Bd.returns (hb hby d3_30) hr, hrun, hended, _, _, rfl, ⟨by rw [hR]; simp [own_h4, own_brk, hlen, hc4_2, hc12_4, hc20_6], N, e1⟩, ⟨_, rfl⟩, hW, hsame.mono (by decide) (by decide)⟩
    · refine own_lift (fun t k => XS.icmpYes X.here hx rfl (pc0 := 4) (pc' := 29) rfl (hb hby d3_4) rfl (flt hc4_2).2.1 (by decide) (by decide) k) ?_
      show own_Fin p e below _ (T.setTop (mkF m 29 #[.val (.ref a1), .val (.int len), .val (.int (4 : Int32))] []))
      refine own_lift (fun t k => XS.iloadN X.here hx rfl (hb hby d3_29) rfl k) ?_
      show own_Fin p e below _ (T.setTop (mkF m 30 #[.val (.ref a1), .val (.int len), .val (.int (4 : Int32))] [(.int (4 : Int32))]))
      obtain ⟨fs, hr, hrun, hended, hW, hsame⟩ := X.leave (v := some (.int (4 : Int32))) (fun h => by rw [Bd.returns] at h; cases h)
      exact ⟨_, _, retI X hx Bd.returns (hb hby d3_30) hr, hrun, hended, _, _, rfl, ⟨by rw [hR]; simp [own_h4, own_brk, hlen, hc4_2], N, e1⟩, ⟨_, rfl⟩, hW, hsame.mono (by decide) (by decide)⟩
  have hd3 : ∀ (T : State) (locs : List Loc), Stand p l e ({ frames := 0, cells := 0, slots := 0, locals := 0 } : Room) s m #[(.ref a1), (.int len)] below meth c T locs 0 0 → T.heap = h0 → Fr n0 locs → own_h0 len b0 b1 b2 b3 b4 = own_h3 len b0 b1 b2 b3 b4 → own_Fin p e below (fun o U' => ∃ v L, o = .returned v ∧ Q3 Z a1 len kc b0 b1 b2 b3 b4 h0 n0 v U'.heap L ∧ FrameEnd s o U' L ({ frames := 0, cells := 0, slots := 0, locals := 0 } : Room).cells ({ frames := 0, cells := 0, slots := 0, locals := 0 } : Room).slots) (T.setTop (mkF m 2 #[.val (.ref a1), .val (.int len), .val (.int (3 : Int32))] [])) := by
    intro T locs X e1 N hR
    refine own_lift (fun t k => XS.iloadN X.here hx rfl (hb hby d3_2) rfl k) ?_
    show own_Fin p e below _ (T.setTop (mkF m 3 #[.val (.ref a1), .val (.int len), .val (.int (3 : Int32))] [(.int (3 : Int32))]))
    refine own_lift (fun t k => XS.iloadN X.here hx rfl (hb hby d3_3) rfl k) ?_
    show own_Fin p e below _ (T.setTop (mkF m 4 #[.val (.ref a1), .val (.int len), .val (.int (3 : Int32))] [(.int len), (.int (3 : Int32))]))
    by_cases hc4_7 : (3 : Int32) < len
    · refine own_lift (fun t k => XS.icmpNo X.here hx rfl (hb hby d3_4) rfl (tlt hc4_7).2.1 k) ?_
      show own_Fin p e below _ (T.setTop (mkF m 7 #[.val (.ref a1), .val (.int len), .val (.int (3 : Int32))] []))
      refine own_lift (fun t k => XS.aloadN X.here hx rfl (hb hby d3_7) rfl rfl k) ?_
      show own_Fin p e below _ (T.setTop (mkF m 8 #[.val (.ref a1), .val (.int len), .val (.int (3 : Int32))] [(.ref a1)]))
      refine own_lift (fun t k => XS.iloadN X.here hx rfl (hb hby d3_8) rfl k) ?_
      show own_Fin p e below _ (T.setTop (mkF m 9 #[.val (.ref a1), .val (.int len), .val (.int (3 : Int32))] [(.int (3 : Int32)), (.ref a1)]))
      have cpv_8 := V0
      obtain ⟨clv_8, Arv_8, qv_8, Sv_8, Mv_8, Hv_8, Gv_8⟩ := cpv_8
      refine own_lift (fun t k => X.baloadBytes hx (j := (3 : Int32)) (v := (.int b3)) (by rw [e1]; exact Arv_8.1) (State.isArrayOf_alike hZ.alike Arv_8.2.1) Arv_8.2.2 (inb_of Sv_8 ⟨by decide, by decide⟩) (Hv_8 3 (by rw [Sv_8]; decide)) (g := (mkF m 9 #[.val (.ref a1), .val (.int len), .val (.int (3 : Int32))] [(.int (3 : Int32)), (.ref a1)])) rfl rfl (hb hby d3_9) _ k) ?_
      show own_Fin p e below _ (T.setTop (mkF m 10 #[.val (.ref a1), .val (.int len), .val (.int (3 : Int32))] [(.int b3)]))
      refine own_lift (fun t k => XS.bipush X.here hx rfl (hb hby d3_10) k) ?_
      show own_Fin p e below _ (T.setTop (mkF m 12 #[.val (.ref a1), .val (.int len), .val (.int (3 : Int32))] [(.int (13 : Int32)), (.int b3)]))
      by_cases hc12_9 : b3 = (13 : Int32)
      · refine own_lift (fun t k => XS.icmpYes X.here hx rfl (pc0 := 12) (pc' := 23) rfl (hb hby d3_12) rfl (teq hc12_9).1 (by decide) (by decide) k) ?_
        show own_Fin p e below _ (T.setTop (mkF m 23 #[.val (.ref a1), .val (.int len), .val (.int (3 : Int32))] []))
        refine own_lift (fun t k => XS.iinc X.here hx rfl (hb hby d3_23) rfl (l' := #[.val (.ref a1), .val (.int len), .val (.int ((3 : Int32) + (1 : Int32)))]) rfl k) ?_
        show own_Fin p e below _ (T.setTop (mkF m 26 #[.val (.ref a1), .val (.int len), .val (.int ((3 : Int32) + (1 : Int32)))] []))
        refine own_lift (fun t k => XS.goto X.here hx rfl (pc0 := 26) (pc' := 2) rfl (hb hby d3_26) (by decide) (by decide) k) ?_
        show own_Fin p e below _ (T.setTop (mkF m 2 #[.val (.ref a1), .val (.int len), .val (.int ((3 : Int32) + (1 : Int32)))] []))
        exact hd4 _ _ X e1 N (by rw [hR]; simp [own_h3, own_brk, hlen, hc4_7, hc12_9])
      · refine own_lift (fun t k => XS.icmpNo X.here hx rfl (hb hby d3_12) rfl (feq hc12_9).1 k) ?_
        show own_Fin p e below _ (T.setTop (mkF m 15 #[.val (.ref a1), .val (.int len), .val (.int (3 : Int32))] []))
        refine own_lift (fun t k => XS.aloadN X.here hx rfl (hb hby d3_15) rfl rfl k) ?_
        show own_Fin p e below _ (T.setTop (mkF m 16 #[.val (.ref a1), .val (.int len), .val (.int (3 : Int32))] [(.ref a1)]))
        refine own_lift (fun t k => XS.iloadN X.here hx rfl (hb hby d3_16) rfl k) ?_
        show own_Fin p e below _ (T.setTop (mkF m 17 #[.val (.ref a1), .val (.int len), .val (.int (3 : Int32))] [(.int (3 : Int32)), (.ref a1)]))
        have cpv_10 := V0
        obtain ⟨clv_10, Arv_10, qv_10, Sv_10, Mv_10, Hv_10, Gv_10⟩ := cpv_10
        refine own_lift (fun t k => X.baloadBytes hx (j := (3 : Int32)) (v := (.int b3)) (by rw [e1]; exact Arv_10.1) (State.isArrayOf_alike hZ.alike Arv_10.2.1) Arv_10.2.2 (inb_of Sv_10 ⟨by decide, by decide⟩) (Hv_10 3 (by rw [Sv_10]; decide)) (g := (mkF m 17 #[.val (.ref a1), .val (.int len), .val (.int (3 : Int32))] [(.int (3 : Int32)), (.ref a1)])) rfl rfl (hb hby d3_17) _ k) ?_
        show own_Fin p e below _ (T.setTop (mkF m 18 #[.val (.ref a1), .val (.int len), .val (.int (3 : Int32))] [(.int b3)]))
        refine own_lift (fun t k => XS.bipush X.here hx rfl (hb hby d3_18) k) ?_
        show own_Fin p e below _ (T.setTop (mkF m 20 #[.val (.ref a1), .val (.int len), .val (.int (3 : Int32))] [(.int (10 : Int32)), (.int b3)]))
        by_cases hc20_11 : b3 = (10 : Int32)
        · refine own_lift (fun t k => XS.icmpNo X.here hx rfl (hb hby d3_20) rfl (teq hc20_11).2 k) ?_
          show own_Fin p e below _ (T.setTop (mkF m 23 #[.val (.ref a1), .val (.int len), .val (.int (3 : Int32))] []))
          refine own_lift (fun t k => XS.iinc X.here hx rfl (hb hby d3_23) rfl (l' := #[.val (.ref a1), .val (.int len), .val (.int ((3 : Int32) + (1 : Int32)))]) rfl k) ?_
          show own_Fin p e below _ (T.setTop (mkF m 26 #[.val (.ref a1), .val (.int len), .val (.int ((3 : Int32) + (1 : Int32)))] []))
          refine own_lift (fun t k => XS.goto X.here hx rfl (pc0 := 26) (pc' := 2) rfl (hb hby d3_26) (by decide) (by decide) k) ?_
          show own_Fin p e below _ (T.setTop (mkF m 2 #[.val (.ref a1), .val (.int len), .val (.int ((3 : Int32) + (1 : Int32)))] []))
          exact hd4 _ _ X e1 N (by rw [hR]; simp [own_h3, own_brk, hlen, hc4_7, hc12_9, hc20_11])
        · refine own_lift (fun t k => XS.icmpYes X.here hx rfl (pc0 := 20) (pc' := 29) rfl (hb hby d3_20) rfl (feq hc20_11).2 (by decide) (by decide) k) ?_
          show own_Fin p e below _ (T.setTop (mkF m 29 #[.val (.ref a1), .val (.int len), .val (.int (3 : Int32))] []))
          refine own_lift (fun t k => XS.iloadN X.here hx rfl (hb hby d3_29) rfl k) ?_
          show own_Fin p e below _ (T.setTop (mkF m 30 #[.val (.ref a1), .val (.int len), .val (.int (3 : Int32))] [(.int (3 : Int32))]))
          obtain ⟨fs, hr, hrun, hended, hW, hsame⟩ := X.leave (v := some (.int (3 : Int32))) (fun h => by rw [Bd.returns] at h; cases h)
          exact ⟨_, _, retI X hx Bd.returns (hb hby d3_30) hr, hrun, hended, _, _, rfl, ⟨by rw [hR]; simp [own_h3, own_brk, hlen, hc4_7, hc12_9, hc20_11], N, e1⟩, ⟨_, rfl⟩, hW, hsame.mono (by decide) (by decide)⟩
    · refine own_lift (fun t k => XS.icmpYes X.here hx rfl (pc0 := 4) (pc' := 29) rfl (hb hby d3_4) rfl (flt hc4_7).2.1 (by decide) (by decide) k) ?_
      show own_Fin p e below _ (T.setTop (mkF m 29 #[.val (.ref a1), .val (.int len), .val (.int (3 : Int32))] []))
      refine own_lift (fun t k => XS.iloadN X.here hx rfl (hb hby d3_29) rfl k) ?_
      show own_Fin p e below _ (T.setTop (mkF m 30 #[.val (.ref a1), .val (.int len), .val (.int (3 : Int32))] [(.int (3 : Int32))]))
      obtain ⟨fs, hr, hrun, hended, hW, hsame⟩ := X.leave (v := some (.int (3 : Int32))) (fun h => by rw [Bd.returns] at h; cases h)
      exact ⟨_, _, retI X hx Bd.returns (hb hby d3_30) hr, hrun, hended, _, _, rfl, ⟨by rw [hR]; simp [own_h3, own_brk, hlen, hc4_7], N, e1⟩, ⟨_, rfl⟩, hW, hsame.mono (by decide) (by decide)⟩
  have hd2 : ∀ (T : State) (locs : List Loc), Stand p l e ({ frames := 0, cells := 0, slots := 0, locals := 0 } : Room) s m #[(.ref a1), (.int len)] below meth c T locs 0 0 → T.heap = h0 → Fr n0 locs → own_h0 len b0 b1 b2 b3 b4 = own_h2 len b0 b1 b2 b3 b4 → own_Fin p e below (fun o U' => ∃ v L, o = .returned v ∧ Q3 Z a1 len kc b0 b1 b2 b3 b4 h0 n0 v U'.heap L ∧ FrameEnd s o U' L ({ frames := 0, cells := 0, slots := 0, locals := 0 } : Room).cells ({ frames := 0, cells := 0, slots := 0, locals := 0 } : Room).slots) (T.setTop (mkF m 2 #[.val (.ref a1), .val (.int len), .val (.int (2 : Int32))] [])) := by
    intro T locs X e1 N hR
    refine own_lift (fun t k => XS.iloadN X.here hx rfl (hb hby d3_2) rfl k) ?_
    show own_Fin p e below _ (T.setTop (mkF m 3 #[.val (.ref a1), .val (.int len), .val (.int (2 : Int32))] [(.int (2 : Int32))]))
    refine own_lift (fun t k => XS.iloadN X.here hx rfl (hb hby d3_3) rfl k) ?_
    show own_Fin p e below _ (T.setTop (mkF m 4 #[.val (.ref a1), .val (.int len), .val (.int (2 : Int32))] [(.int len), (.int (2 : Int32))]))
    by_cases hc4_12 : (2 : Int32) < len
    · refine own_lift (fun t k => XS.icmpNo X.here hx rfl (hb hby d3_4) rfl (tlt hc4_12).2.1 k) ?_
      show own_Fin p e below _ (T.setTop (mkF m 7 #[.val (.ref a1), .val (.int len), .val (.int (2 : Int32))] []))
      refine own_lift (fun t k => XS.aloadN X.here hx rfl (hb hby d3_7) rfl rfl k) ?_
      show own_Fin p e below _ (T.setTop (mkF m 8 #[.val (.ref a1), .val (.int len), .val (.int (2 : Int32))] [(.ref a1)]))
      refine own_lift (fun t k => XS.iloadN X.here hx rfl (hb hby d3_8) rfl k) ?_
      show own_Fin p e below _ (T.setTop (mkF m 9 #[.val (.ref a1), .val (.int len), .val (.int (2 : Int32))] [(.int (2 : Int32)), (.ref a1)]))
      have cpv_13 := V0
      obtain ⟨clv_13, Arv_13, qv_13, Sv_13, Mv_13, Hv_13, Gv_13⟩ := cpv_13
      refine own_lift (fun t k => X.baloadBytes hx (j := (2 : Int32)) (v := (.int b2)) (by rw [e1]; exact Arv_13.1) (State.isArrayOf_alike hZ.alike Arv_13.2.1) Arv_13.2.2 (inb_of Sv_13 ⟨by decide, by decide⟩) (Hv_13 2 (by rw [Sv_13]; decide)) (g := (mkF m 9 #[.val (.ref a1), .val (.int len), .val (.int (2 : Int32))] [(.int (2 : Int32)), (.ref a1)])) rfl rfl (hb hby d3_9) _ k) ?_
      show own_Fin p e below _ (T.setTop (mkF m 10 #[.val (.ref a1), .val (.int len), .val (.int (2 : Int32))] [(.int b2)]))
      refine own_lift (fun t k => XS.bipush X.here hx rfl (hb hby d3_10) k) ?_
      show own_Fin p e below _ (T.setTop (mkF m 12 #[.val (.ref a1), .val (.int len), .val (.int (2 : Int32))] [(.int (13 : Int32)), (.int b2)]))
      by_cases hc12_14 : b2 = (13 : Int32)
      · refine own_lift (fun t k => XS.icmpYes X.here hx rfl (pc0 := 12) (pc' := 23) rfl (hb hby d3_12) rfl (teq hc12_14).1 (by decide) (by decide) k) ?_
        show own_Fin p e below _ (T.setTop (mkF m 23 #[.val (.ref a1), .val (.int len), .val (.int (2 : Int32))] []))
        refine own_lift (fun t k => XS.iinc X.here hx rfl (hb hby d3_23) rfl (l' := #[.val (.ref a1), .val (.int len), .val (.int ((2 : Int32) + (1 : Int32)))]) rfl k) ?_
        show own_Fin p e below _ (T.setTop (mkF m 26 #[.val (.ref a1), .val (.int len), .val (.int ((2 : Int32) + (1 : Int32)))] []))
        refine own_lift (fun t k => XS.goto X.here hx rfl (pc0 := 26) (pc' := 2) rfl (hb hby d3_26) (by decide) (by decide) k) ?_
        show own_Fin p e below _ (T.setTop (mkF m 2 #[.val (.ref a1), .val (.int len), .val (.int ((2 : Int32) + (1 : Int32)))] []))
        exact hd3 _ _ X e1 N (by rw [hR]; simp [own_h2, own_brk, hlen, hc4_12, hc12_14])
      · refine own_lift (fun t k => XS.icmpNo X.here hx rfl (hb hby d3_12) rfl (feq hc12_14).1 k) ?_
        show own_Fin p e below _ (T.setTop (mkF m 15 #[.val (.ref a1), .val (.int len), .val (.int (2 : Int32))] []))
        refine own_lift (fun t k => XS.aloadN X.here hx rfl (hb hby d3_15) rfl rfl k) ?_
        show own_Fin p e below _ (T.setTop (mkF m 16 #[.val (.ref a1), .val (.int len), .val (.int (2 : Int32))] [(.ref a1)]))
        refine own_lift (fun t k => XS.iloadN X.here hx rfl (hb hby d3_16) rfl k) ?_
        show own_Fin p e below _ (T.setTop (mkF m 17 #[.val (.ref a1), .val (.int len), .val (.int (2 : Int32))] [(.int (2 : Int32)), (.ref a1)]))
        have cpv_15 := V0
        obtain ⟨clv_15, Arv_15, qv_15, Sv_15, Mv_15, Hv_15, Gv_15⟩ := cpv_15
        refine own_lift (fun t k => X.baloadBytes hx (j := (2 : Int32)) (v := (.int b2)) (by rw [e1]; exact Arv_15.1) (State.isArrayOf_alike hZ.alike Arv_15.2.1) Arv_15.2.2 (inb_of Sv_15 ⟨by decide, by decide⟩) (Hv_15 2 (by rw [Sv_15]; decide)) (g := (mkF m 17 #[.val (.ref a1), .val (.int len), .val (.int (2 : Int32))] [(.int (2 : Int32)), (.ref a1)])) rfl rfl (hb hby d3_17) _ k) ?_
        show own_Fin p e below _ (T.setTop (mkF m 18 #[.val (.ref a1), .val (.int len), .val (.int (2 : Int32))] [(.int b2)]))
        refine own_lift (fun t k => XS.bipush X.here hx rfl (hb hby d3_18) k) ?_
        show own_Fin p e below _ (T.setTop (mkF m 20 #[.val (.ref a1), .val (.int len), .val (.int (2 : Int32))] [(.int (10 : Int32)), (.int b2)]))
        by_cases hc20_16 : b2 = (10 : Int32)
        · refine own_lift (fun t k => XS.icmpNo X.here hx rfl (hb hby d3_20) rfl (teq hc20_16).2 k) ?_
          show own_Fin p e below _ (T.setTop (mkF m 23 #[.val (.ref a1), .val (.int len), .val (.int (2 : Int32))] []))
          refine own_lift (fun t k => XS.iinc X.here hx rfl (hb hby d3_23) rfl (l' := #[.val (.ref a1), .val (.int len), .val (.int ((2 : Int32) + (1 : Int32)))]) rfl k) ?_
          show own_Fin p e below _ (T.setTop (mkF m 26 #[.val (.ref a1), .val (.int len), .val (.int ((2 : Int32) + (1 : Int32)))] []))
          refine own_lift (fun t k => XS.goto X.here hx rfl (pc0 := 26) (pc' := 2) rfl (hb hby d3_26) (by decide) (by decide) k) ?_
          show own_Fin p e below _ (T.setTop (mkF m 2 #[.val (.ref a1), .val (.int len), .val (.int ((2 : Int32) + (1 : Int32)))] []))
          exact hd3 _ _ X e1 N (by rw [hR]; simp [own_h2, own_brk, hlen, hc4_12, hc12_14, hc20_16])
        · refine own_lift (fun t k => XS.icmpYes X.here hx rfl (pc0 := 20) (pc' := 29) rfl (hb hby d3_20) rfl (feq hc20_16).2 (by decide) (by decide) k) ?_
          show own_Fin p e below _ (T.setTop (mkF m 29 #[.val (.ref a1), .val (.int len), .val (.int (2 : Int32))] []))
          refine own_lift (fun t k => XS.iloadN X.here hx rfl (hb hby d3_29) rfl k) ?_
          show own_Fin p e below _ (T.setTop (mkF m 30 #[.val (.ref a1), .val (.int len), .val (.int (2 : Int32))] [(.int (2 : Int32))]))
          obtain ⟨fs, hr, hrun, hended, hW, hsame⟩ := X.leave (v := some (.int (2 : Int32))) (fun h => by rw [Bd.returns] at h; cases h)
          exact ⟨_, _, retI X hx Bd.returns (hb hby d3_30) hr, hrun, hended, _, _, rfl, ⟨by rw [hR]; simp [own_h2, own_brk, hlen, hc4_12, hc12_14, hc20_16], N, e1⟩, ⟨_, rfl⟩, hW, hsame.mono (by decide) (by decide)⟩
    · refine own_lift (fun t k => XS.icmpYes X.here hx rfl (pc0 := 4) (pc' := 29) rfl (hb hby d3_4) rfl (flt hc4_12).2.1 (by decide) (by decide) k) ?_
      show own_Fin p e below _ (T.setTop (mkF m 29 #[.val (.ref a1), .val (.int len), .val (.int (2 : Int32))] []))
      refine own_lift (fun t k => XS.iloadN X.here hx rfl (hb hby d3_29) rfl k) ?_
      show own_Fin p e below _ (T.setTop (mkF m 30 #[.val (.ref a1), .val (.int len), .val (.int (2 : Int32))] [(.int (2 : Int32))]))
      obtain ⟨fs, hr, hrun, hended, hW, hsame⟩ := X.leave (v := some (.int (2 : Int32))) (fun h => by rw [Bd.returns] at h; cases h)
      exact ⟨_, _, retI X hx Bd.returns (hb hby d3_30) hr, hrun, hended, _, _, rfl, ⟨by rw [hR]; simp [own_h2, own_brk, hlen, hc4_12], N, e1⟩, ⟨_, rfl⟩, hW, hsame.mono (by decide) (by decide)⟩
  have hd1 : ∀ (T : State) (locs : List Loc), Stand p l e ({ frames := 0, cells := 0, slots := 0, locals := 0 } : Room) s m #[(.ref a1), (.int len)] below meth c T locs 0 0 → T.heap = h0 → Fr n0 locs → own_h0 len b0 b1 b2 b3 b4 = own_h1 len b0 b1 b2 b3 b4 → own_Fin p e below (fun o U' => ∃ v L, o = .returned v ∧ Q3 Z a1 len kc b0 b1 b2 b3 b4 h0 n0 v U'.heap L ∧ FrameEnd s o U' L ({ frames := 0, cells := 0, slots := 0, locals := 0 } : Room).cells ({ frames := 0, cells := 0, slots := 0, locals := 0 } : Room).slots) (T.setTop (mkF m 2 #[.val (.ref a1), .val (.int len), .val (.int (1 : Int32))] [])) := by
    intro T locs X e1 N hR
    refine own_lift (fun t k => XS.iloadN X.here hx rfl (hb hby d3_2) rfl k) ?_
    show own_Fin p e below _ (T.setTop (mkF m 3 #[.val (.ref a1), .val (.int len), .val (.int (1 : Int32))] [(.int (1 : Int32))]))
    refine own_lift (fun t k => XS.iloadN X.here hx rfl (hb hby d3_3) rfl k) ?_
    show own_Fin p e below _ (T.setTop (mkF m 4 #[.val (.ref a1), .val (.int len), .val (.int (1 : Int32))] [(.int len), (.int (1 : Int32))]))
    by_cases hc4_17 : (1 : Int32) < len
    · refine own_lift (fun t k => XS.icmpNo X.here hx rfl (hb hby d3_4) rfl (tlt hc4_17).2.1 k) ?_
      show own_Fin p e below _ (T.setTop (mkF m 7 #[.val (.ref a1), .val (.int len), .val (.int (1 : Int32))] []))
      refine own_lift (fun t k => XS.aloadN X.here hx rfl (hb hby d3_7) rfl rfl k) ?_
      show own_Fin p e below _ (T.setTop (mkF m 8 #[.val (.ref a1), .val (.int len), .val (.int (1 : Int32))] [(.ref a1)]))
      refine own_lift (fun t k => XS.iloadN X.here hx rfl (hb hby d3_8) rfl k) ?_
      show own_Fin p e below _ (T.setTop (mkF m 9 #[.val (.ref a1), .val (.int len), .val (.int (1 : Int32))] [(.int (1 : Int32)), (.ref a1)]))
      have cpv_18 := V0
      obtain ⟨clv_18, Arv_18, qv_18, Sv_18, Mv_18, Hv_18, Gv_18⟩ := cpv_18
      refine own_lift (fun t k => X.baloadBytes hx (j := (1 : Int32)) (v := (.int b1)) (by rw [e1]; exact Arv_18.1) (State.isArrayOf_alike hZ.alike Arv_18.2.1) Arv_18.2.2 (inb_of Sv_18 ⟨by decide, by decide⟩) (Hv_18 1 (by rw [Sv_18]; decide)) (g := (mkF m 9 #[.val (.ref a1), .val (.int len), .val (.int (1 : Int32))] [(.int (1 : Int32)), (.ref a1)])) rfl rfl (hb hby d3_9) _ k) ?_
      show own_Fin p e below _ (T.setTop (mkF m 10 #[.val (.ref a1), .val (.int len), .val (.int (1 : Int32))] [(.int b1)]))
      refine own_lift (fun t k => XS.bipush X.here hx rfl (hb hby d3_10) k) ?_
      show own_Fin p e below _ (T.setTop (mkF m 12 #[.val (.ref a1), .val (.int len), .val (.int (1 : Int32))] [(.int (13 : Int32)), (.int b1)]))
      by_cases hc12_19 : b1 = (13 : Int32)
      · refine own_lift (fun t k => XS.icmpYes X.here hx rfl (pc0 := 12) (pc' := 23) rfl (hb hby d3_12) rfl (teq hc12_19).1 (by decide) (by decide) k) ?_
        show own_Fin p e below _ (T.setTop (mkF m 23 #[.val (.ref a1), .val (.int len), .val (.int (1 : Int32))] []))
        refine own_lift (fun t k => XS.iinc X.here hx rfl (hb hby d3_23) rfl (l' := #[.val (.ref a1), .val (.int len), .val (.int ((1 : Int32) + (1 : Int32)))]) rfl k) ?_
        show own_Fin p e below _ (T.setTop (mkF m 26 #[.val (.ref a1), .val (.int len), .val (.int ((1 : Int32) + (1 : Int32)))] []))
        refine own_lift (fun t k => XS.goto X.here hx rfl (pc0 := 26) (pc' := 2) rfl (hb hby d3_26) (by decide) (by decide) k) ?_
        show own_Fin p e below _ (T.setTop (mkF m 2 #[.val (.ref a1), .val (.int len), .val (.int ((1 : Int32) + (1 : Int32)))] []))
        exact hd2 _ _ X e1 N (by rw [hR]; simp [own_h1, own_brk, hlen, hc4_17, hc12_19])
      · refine own_lift (fun t k => XS.icmpNo X.here hx rfl (hb hby d3_12) rfl (feq hc12_19).1 k) ?_
        show own_Fin p e below _ (T.setTop (mkF m 15 #[.val (.ref a1), .val (.int len), .val (.int (1 : Int32))] []))
        refine own_lift (fun t k => XS.aloadN X.here hx rfl (hb hby d3_15) rfl rfl k) ?_
        show own_Fin p e below _ (T.setTop (mkF m 16 #[.val (.ref a1), .val (.int len), .val (.int (1 : Int32))] [(.ref a1)]))
        refine own_lift (fun t k => XS.iloadN X.here hx rfl (hb hby d3_16) rfl k) ?_
        show own_Fin p e below _ (T.setTop (mkF m 17 #[.val (.ref a1), .val (.int len), .val (.int (1 : Int32))] [(.int (1 : Int32)), (.ref a1)]))
        have cpv_20 := V0
        obtain ⟨clv_20, Arv_20, qv_20, Sv_20, Mv_20, Hv_20, Gv_20⟩ := cpv_20
        refine own_lift (fun t k => X.baloadBytes hx (j := (1 : Int32)) (v := (.int b1)) (by rw [e1]; exact Arv_20.1) (State.isArrayOf_alike hZ.alike Arv_20.2.1) Arv_20.2.2 (inb_of Sv_20 ⟨by decide, by decide⟩) (Hv_20 1 (by rw [Sv_20]; decide)) (g := (mkF m 17 #[.val (.ref a1), .val (.int len), .val (.int (1 : Int32))] [(.int (1 : Int32)), (.ref a1)])) rfl rfl (hb hby d3_17) _ k) ?_
        show own_Fin p e below _ (T.setTop (mkF m 18 #[.val (.ref a1), .val (.int len), .val (.int (1 : Int32))] [(.int b1)]))
        refine own_lift (fun t k => XS.bipush X.here hx rfl (hb hby d3_18) k) ?_
        show own_Fin p e below _ (T.setTop (mkF m 20 #[.val (.ref a1), .val (.int len), .val (.int (1 : Int32))] [(.int (10 : Int32)), (.int b1)]))
        by_cases hc20_21 : b1 = (10 : Int32)
        · refine own_lift (fun t k => XS.icmpNo X.here hx rfl (hb hby d3_20) rfl (teq hc20_21).2 k) ?_
          show own_Fin p e below _ (T.setTop (mkF m 23 #[.val (.ref a1), .val (.int len), .val (.int (1 : Int32))] []))
          refine own_lift (fun t k => XS.iinc X.here hx rfl (hb hby d3_23) rfl (l' := #[.val (.ref a1), .val (.int len), .val (.int ((1 : Int32) + (1 : Int32)))]) rfl k) ?_
          show own_Fin p e below _ (T.setTop (mkF m 26 #[.val (.ref a1), .val (.int len), .val (.int ((1 : Int32) + (1 : Int32)))] []))
          refine own_lift (fun t k => XS.goto X.here hx rfl (pc0 := 26) (pc' := 2) rfl (hb hby d3_26) (by decide) (by decide) k) ?_
          show own_Fin p e below _ (T.setTop (mkF m 2 #[.val (.ref a1), .val (.int len), .val (.int ((1 : Int32) + (1 : Int32)))] []))
          exact hd2 _ _ X e1 N (by rw [hR]; simp [own_h1, own_brk, hlen, hc4_17, hc12_19, hc20_21])
        · refine own_lift (fun t k => XS.icmpYes X.here hx rfl (pc0 := 20) (pc' := 29) rfl (hb hby d3_20) rfl (feq hc20_21).2 (by decide) (by decide) k) ?_
          show own_Fin p e below _ (T.setTop (mkF m 29 #[.val (.ref a1), .val (.int len), .val (.int (1 : Int32))] []))
          refine own_lift (fun t k => XS.iloadN X.here hx rfl (hb hby d3_29) rfl k) ?_
          show own_Fin p e below _ (T.setTop (mkF m 30 #[.val (.ref a1), .val (.int len), .val (.int (1 : Int32))] [(.int (1 : Int32))]))
          obtain ⟨fs, hr, hrun, hended, hW, hsame⟩ := X.leave (v := some (.int (1 : Int32))) (fun h => by rw [Bd.returns] at h; cases h)
          exact ⟨_, _, retI X hx Bd.returns (hb hby d3_30) hr, hrun, hended, _, _, rfl, ⟨by rw [hR]; simp [own_h1, own_brk, hlen, hc4_17, hc12_19, hc20_21], N, e1⟩, ⟨_, rfl⟩, hW, hsame.mono (by decide) (by decide)⟩
    · refine own_lift (fun t k => XS.icmpYes X.here hx rfl (pc0 := 4) (pc' := 29) rfl (hb hby d3_4) rfl (flt hc4_17).2.1 (by decide) (by decide) k) ?_
      show own_Fin p e below _ (T.setTop (mkF m 29 #[.val (.ref a1), .val (.int len), .val (.int (1 : Int32))] []))
      refine own_lift (fun t k => XS.iloadN X.here hx rfl (hb hby d3_29) rfl k) ?_
      show own_Fin p e below _ (T.setTop (mkF m 30 #[.val (.ref a1), .val (.int len), .val (.int (1 : Int32))] [(.int (1 : Int32))]))
      obtain ⟨fs, hr, hrun, hended, hW, hsame⟩ := X.leave (v := some (.int (1 : Int32))) (fun h => by rw [Bd.returns] at h; cases h)
      exact ⟨_, _, retI X hx Bd.returns (hb hby d3_30) hr, hrun, hended, _, _, rfl, ⟨by rw [hR]; simp [own_h1, own_brk, hlen, hc4_17], N, e1⟩, ⟨_, rfl⟩, hW, hsame.mono (by decide) (by decide)⟩
  have hd0 : ∀ (T : State) (locs : List Loc), Stand p l e ({ frames := 0, cells := 0, slots := 0, locals := 0 } : Room) s m #[(.ref a1), (.int len)] below meth c T locs 0 0 → T.heap = h0 → Fr n0 locs → own_h0 len b0 b1 b2 b3 b4 = own_h0 len b0 b1 b2 b3 b4 → own_Fin p e below (fun o U' => ∃ v L, o = .returned v ∧ Q3 Z a1 len kc b0 b1 b2 b3 b4 h0 n0 v U'.heap L ∧ FrameEnd s o U' L ({ frames := 0, cells := 0, slots := 0, locals := 0 } : Room).cells ({ frames := 0, cells := 0, slots := 0, locals := 0 } : Room).slots) (T.setTop (mkF m 2 #[.val (.ref a1), .val (.int len), .val (.int (0 : Int32))] [])) := by
    intro T locs X e1 N hR
    refine own_lift (fun t k => XS.iloadN X.here hx rfl (hb hby d3_2) rfl k) ?_
    show own_Fin p e below _ (T.setTop (mkF m 3 #[.val (.ref a1), .val (.int len), .val (.int (0 : Int32))] [(.int (0 : Int32))]))
    refine own_lift (fun t k => XS.iloadN X.here hx rfl (hb hby d3_3) rfl k) ?_
    show own_Fin p e below _ (T.setTop (mkF m 4 #[.val (.ref a1), .val (.int len), .val (.int (0 : Int32))] [(.int len), (.int (0 : Int32))]))
    by_cases hc4_22 : (0 : Int32) < len
    · refine own_lift (fun t k => XS.icmpNo X.here hx rfl (hb hby d3_4) rfl (tlt hc4_22).2.1 k) ?_
      show own_Fin p e below _ (T.setTop (mkF m 7 #[.val (.ref a1), .val (.int len), .val (.int (0 : Int32))] []))
      refine own_lift (fun t k => XS.aloadN X.here hx rfl (hb hby d3_7) rfl rfl k) ?_
      show own_Fin p e below _ (T.setTop (mkF m 8 #[.val (.ref a1), .val (.int len), .val (.int (0 : Int32))] [(.ref a1)]))
      refine own_lift (fun t k => XS.iloadN X.here hx rfl (hb hby d3_8) rfl k) ?_
      show own_Fin p e below _ (T.setTop (mkF m 9 #[.val (.ref a1), .val (.int len), .val (.int (0 : Int32))] [(.int (0 : Int32)), (.ref a1)]))
      have cpv_23 := V0
      obtain ⟨clv_23, Arv_23, qv_23, Sv_23, Mv_23, Hv_23, Gv_23⟩ := cpv_23
      refine own_lift (fun t k => X.baloadBytes hx (j := (0 : Int32)) (v := (.int b0)) (by rw [e1]; exact Arv_23.1) (State.isArrayOf_alike hZ.alike Arv_23.2.1) Arv_23.2.2 (inb_of Sv_23 ⟨by decide, by decide⟩) (Hv_23 0 (by rw [Sv_23]; decide)) (g := (mkF m 9 #[.val (.ref a1), .val (.int len), .val (.int (0 : Int32))] [(.int (0 : Int32)), (.ref a1)])) rfl rfl (hb hby d3_9) _ k) ?_
      show own_Fin p e below _ (T.setTop (mkF m 10 #[.val (.ref a1), .val (.int len), .val (.int (0 : Int32))] [(.int b0)]))
      refine own_lift (fun t k => XS.bipush X.here hx rfl (hb hby d3_10) k) ?_
      show own_Fin p e below _ (T.setTop (mkF m 12 #[.val (.ref a1), .val (.int len), .val (.int (0 : Int32))] [(.int (13 : Int32)), (.int b0)]))
      by_cases hc12_24 : b0 = (13 : Int32)
      · refine own_lift (fun t k => XS.icmpYes X.here hx rfl (pc0 := 12) (pc' := 23) rfl (hb hby d3_12) rfl (teq hc12_24).1 (by decide) (by decide) k) ?_
        show own_Fin p e below _ (T.setTop (mkF m 23 #[.val (.ref a1), .val (.int len), .val (.int (0 : Int32))] []))
        refine own_lift (fun t k => XS.iinc X.here hx rfl (hb hby d3_23) rfl (l' := #[.val (.ref a1), .val (.int len), .val (.int ((0 : Int32) + (1 : Int32)))]) rfl k) ?_
        show own_Fin p e below _ (T.setTop (mkF m 26 #[.val (.ref a1), .val (.int len), .val (.int ((0 : Int32) + (1 : Int32)))] []))
        refine own_lift (fun t k => XS.goto X.here hx rfl (pc0 := 26) (pc' := 2) rfl (hb hby d3_26) (by decide) (by decide) k) ?_
        show own_Fin p e below _ (T.setTop (mkF m 2 #[.val (.ref a1), .val (.int len), .val (.int ((0 : Int32) + (1 : Int32)))] []))
        exact hd1 _ _ X e1 N (by rw [hR]; simp [own_h0, own_brk, hlen, hc4_22, hc12_24])
      · refine own_lift (fun t k => XS.icmpNo X.here hx rfl (hb hby d3_12) rfl (feq hc12_24).1 k) ?_
        show own_Fin p e below _ (T.setTop (mkF m 15 #[.val (.ref a1), .val (.int len), .val (.int (0 : Int32))] []))
        refine own_lift (fun t k => XS.aloadN X.here hx rfl (hb hby d3_15) rfl rfl k) ?_
        show own_Fin p e below _ (T.setTop (mkF m 16 #[.val (.ref a1), .val (.int len), .val (.int (0 : Int32))] [(.ref a1)]))
        refine own_lift (fun t k => XS.iloadN X.here hx rfl (hb hby d3_16) rfl k) ?_
        show own_Fin p e below _ (T.setTop (mkF m 17 #[.val (.ref a1), .val (.int len), .val (.int (0 : Int32))] [(.int (0 : Int32)), (.ref a1)]))
        have cpv_25 := V0
        obtain ⟨clv_25, Arv_25, qv_25, Sv_25, Mv_25, Hv_25, Gv_25⟩ := cpv_25
        refine own_lift (fun t k => X.baloadBytes hx (j := (0 : Int32)) (v := (.int b0)) (by rw [e1]; exact Arv_25.1) (State.isArrayOf_alike hZ.alike Arv_25.2.1) Arv_25.2.2 (inb_of Sv_25 ⟨by decide, by decide⟩) (Hv_25 0 (by rw [Sv_25]; decide)) (g := (mkF m 17 #[.val (.ref a1), .val (.int len), .val (.int (0 : Int32))] [(.int (0 : Int32)), (.ref a1)])) rfl rfl (hb hby d3_17) _ k) ?_
        show own_Fin p e below _ (T.setTop (mkF m 18 #[.val (.ref a1), .val (.int len), .val (.int (0 : Int32))] [(.int b0)]))
        refine own_lift (fun t k => XS.bipush X.here hx rfl (hb hby d3_18) k) ?_
        show own_Fin p e below _ (T.setTop (mkF m 20 #[.val (.ref a1), .val (.int len), .val (.int (0 : Int32))] [(.int (10 : Int32)), (.int b0)]))
        by_cases hc20_26 : b0 = (10 : Int32)
        · refine own_lift (fun t k => XS.icmpNo X.here hx rfl (hb hby d3_20) rfl (teq hc20_26).2 k) ?_
          show own_Fin p e below _ (T.setTop (mkF m 23 #[.val (.ref a1), .val (.int len), .val (.int (0 : Int32))] []))
          refine own_lift (fun t k => XS.iinc X.here hx rfl (hb hby d3_23) rfl (l' := #[.val (.ref a1), .val (.int len), .val (.int ((0 : Int32) + (1 : Int32)))]) rfl k) ?_
          show own_Fin p e below _ (T.setTop (mkF m 26 #[.val (.ref a1), .val (.int len), .val (.int ((0 : Int32) + (1 : Int32)))] []))
          refine own_lift (fun t k => XS.goto X.here hx rfl (pc0 := 26) (pc' := 2) rfl (hb hby d3_26) (by decide) (by decide) k) ?_
          show own_Fin p e below _ (T.setTop (mkF m 2 #[.val (.ref a1), .val (.int len), .val (.int ((0 : Int32) + (1 : Int32)))] []))
          exact hd1 _ _ X e1 N (by rw [hR]; simp [own_h0, own_brk, hlen, hc4_22, hc12_24, hc20_26])
        · refine own_lift (fun t k => XS.icmpYes X.here hx rfl (pc0 := 20) (pc' := 29) rfl (hb hby d3_20) rfl (feq hc20_26).2 (by decide) (by decide) k) ?_
          show own_Fin p e below _ (T.setTop (mkF m 29 #[.val (.ref a1), .val (.int len), .val (.int (0 : Int32))] []))
          refine own_lift (fun t k => XS.iloadN X.here hx rfl (hb hby d3_29) rfl k) ?_
          show own_Fin p e below _ (T.setTop (mkF m 30 #[.val (.ref a1), .val (.int len), .val (.int (0 : Int32))] [(.int (0 : Int32))]))
          obtain ⟨fs, hr, hrun, hended, hW, hsame⟩ := X.leave (v := some (.int (0 : Int32))) (fun h => by rw [Bd.returns] at h; cases h)
          exact ⟨_, _, retI X hx Bd.returns (hb hby d3_30) hr, hrun, hended, _, _, rfl, ⟨by rw [hR]; simp [own_h0, own_brk, hlen, hc4_22, hc12_24, hc20_26], N, e1⟩, ⟨_, rfl⟩, hW, hsame.mono (by decide) (by decide)⟩
    · refine own_lift (fun t k => XS.icmpYes X.here hx rfl (pc0 := 4) (pc' := 29) rfl (hb hby d3_4) rfl (flt hc4_22).2.1 (by decide) (by decide) k) ?_
      show own_Fin p e below _ (T.setTop (mkF m 29 #[.val (.ref a1), .val (.int len), .val (.int (0 : Int32))] []))
      refine own_lift (fun t k => XS.iloadN X.here hx rfl (hb hby d3_29) rfl k) ?_
      show own_Fin p e below _ (T.setTop (mkF m 30 #[.val (.ref a1), .val (.int len), .val (.int (0 : Int32))] [(.int (0 : Int32))]))
      obtain ⟨fs, hr, hrun, hended, hW, hsame⟩ := X.leave (v := some (.int (0 : Int32))) (fun h => by rw [Bd.returns] at h; cases h)
      exact ⟨_, _, retI X hx Bd.returns (hb hby d3_30) hr, hrun, hended, _, _, rfl, ⟨by rw [hR]; simp [own_h0, own_brk, hlen, hc4_22], N, e1⟩, ⟨_, rfl⟩, hW, hsame.mono (by decide) (by decide)⟩
  refine own_lift (fun t k => castTop (ef_3 m a1 len) k) ?_
  show own_Fin p e below _ (s₁.setTop (mkF m 0 #[.val (.ref a1), .val (.int len), .unset] []))
  refine own_lift (fun t k => XS.iconst X0.here hx rfl (hb hby d3_0) k) ?_
  show own_Fin p e below _ (s₁.setTop (mkF m 1 #[.val (.ref a1), .val (.int len), .unset] [(.int (0 : Int32))]))
  refine own_lift (fun t k => XS.istoreN X0.here hx rfl (hb hby d3_1) rfl (l' := #[.val (.ref a1), .val (.int len), .val (.int (0 : Int32))]) rfl k) ?_
  show own_Fin p e below _ (s₁.setTop (mkF m 2 #[.val (.ref a1), .val (.int len), .val (.int (0 : Int32))] []))
  exact hd0 _ _ X0 e0 N0 rfl
theorem pd_1 : parseMethodDescriptor "(IJI)B" = some ⟨[.int, .long, .int], some .byte⟩ := by decide +kernel
theorem pd_3 : parseMethodDescriptor "([BI)I" = some ⟨[(.array .byte), .int], some .int⟩ := by decide +kernel
theorem pd_2 : parseMethodDescriptor "(B)Z" = some ⟨[.byte], some .boolean⟩ := by decide +kernel
theorem pn_0 : plainName "com/example/ringvault/ringvault/http/MessageInputHeadStartPinLaw" = true := by first | (simp [plainName, overriddenIn]; done) | decide +kernel
theorem ef_0 (m : MethodId) (x0 : Int32) (x1 : Int64) (x2 : Int32) : entryFrame m #[(.int x0), (.long x1), (.int x2)] maxLocals = mkF m 0 #[.val (.int x0), .val (.long x1), .second, .val (.int x2), .unset, .unset, .unset, .unset, .unset, .unset, .unset, .unset, .unset, .unset] [] := by first | (simp [entryFrame, mkF, argsToLocals, Value.category, maxLocals]; done) | rfl
def Q0 (Z : State) (p1 : Int32) (q2 : Int64) (p3 : Int32) (h0 : Heap) (n0 : Nat) (v : Option Value) (h : Heap) (L : List Loc) : Prop := v = some (.int (1 : Int32)) ∧ Fr n0 L
set_option maxRecDepth 65536 in
set_option maxHeartbeats 40000000 in
theorem rm0 (l : Launch) (Z : State) (a0 : Array Value) (hw : ∀ d ∈ tables_1, d.before a0 Z = true) (ws : List Jvm.Cond) (p1 : Int32) (q2 : Int64) (p3 : Int32) (h0 : Heap) (n0 : Nat) (Z0 : n0 ≤ h0.size) :
    MetFree l x (head1 (Jvm.Cond.code x code maxLocals ret :: ws) room_1) (fun a U => a = #[(.int p1), (.long q2), (.int p3)] ∧ Z.Warmed39 U.vm ∧ U.heap = h0) (fun _ _ _ _ _ => True) (fun _ U o U' => ∃ v L, o = .returned v ∧ Q0 Z p1 q2 p3 h0 n0 v U'.heap L ∧ FrameEnd U o U' L room_1.cells room_1.slots) := by
  refine MetFree.of_bodySF (plainFor_of_name pn_0) hisR ?_
  intro p e s m args below meth c s₁ Bd hml0 hP hK
  obtain ⟨rfl, hZ, hh⟩ := hP
  have hx := Bd.exec
  have hby := Bd.bytes
  have hml : c.maxLocals = 14 := hml0
  have hown : s.vm.findClass "com/example/ringvault/ringvault/http/MessageInputHeadStartPinLaw" = some m.cls := findClass_of_methodNamed Bd.named
  have hnm := (name_of_methodNamed Bd.named Bd.method).1
  have X0 : Stand p l e room_1 s m #[(.int p1), (.long q2), (.int p3)] below meth c s₁ [] 0 0 := Stand.of_body Bd
  have e0 : s₁.heap = h0 := by rw [← hh, Bd.state]; rfl
  have N0 := Fr.nil n0
  show own_Fin p e below (fun o U' => ∃ v L, o = .returned v ∧ Q0 Z p1 q2 p3 h0 n0 v U'.heap L ∧ FrameEnd s o U' L room_1.cells room_1.slots) (s₁.setTop (entryFrame m #[(.int p1), (.long q2), (.int p3)] maxLocals))
  refine own_lift (fun t k => castTop (ef_0 m p1 q2 p3) k) ?_
  show own_Fin p e below _ (s₁.setTop (mkF m 0 #[.val (.int p1), .val (.long q2), .second, .val (.int p3), .unset, .unset, .unset, .unset, .unset, .unset, .unset, .unset, .unset, .unset] []))
  refine own_lift (fun t k => XS.iloadN X0.here hx rfl (hb hby at_0) rfl k) ?_
  show own_Fin p e below _ (s₁.setTop (mkF m 1 #[.val (.int p1), .val (.long q2), .second, .val (.int p3), .unset, .unset, .unset, .unset, .unset, .unset, .unset, .unset, .unset, .unset] [(.int p1)]))
  refine own_lift (fun t k => XS.lloadN X0.here hx rfl (hb hby at_1) rfl k) ?_
  show own_Fin p e below _ (s₁.setTop (mkF m 2 #[.val (.int p1), .val (.long q2), .second, .val (.int p3), .unset, .unset, .unset, .unset, .unset, .unset, .unset, .unset, .unset, .unset] [(.long q2), (.int p1)]))
  refine own_lift (fun t k => XS.iconst X0.here hx rfl (hb hby at_2) k) ?_
  show own_Fin p e below _ (s₁.setTop (mkF m 3 #[.val (.int p1), .val (.long q2), .second, .val (.int p3), .unset, .unset, .unset, .unset, .unset, .unset, .unset, .unset, .unset, .unset] [(.int (0 : Int32)), (.long q2), (.int p1)]))
  obtain ⟨_, _, ⟨Tk_1, Lk_1, kk_1, nk_1⟩, -, Xk_1, ⟨Lck_1, hQk_1, lk_1, yk_1, zk_1⟩, stk_1⟩ := Jvm.LawKit.callS X0 hx (y := (⟨"com/example/ringvault/ringvault/http/MessageInputHeadStartPinLaw", "pick", "(IJI)B"⟩ : MethodName)) hown (mvT hZ (hw _ (List.mem_of_getElem? (i := 0) rfl))) (mvT hZ (hw _ (List.mem_of_getElem? (i := 1) rfl))) (mvT hZ (hw _ (List.mem_of_getElem? (i := 2) rfl))) (mvT hZ (hw _ (List.mem_of_getElem? (i := 3) rfl))) (by decide) (backOf (W := 0) (rm1 l Z a0 hw [] p1 q2 (0 : Int32) h0 n0 Z0) hZ (hw _ (List.mem_of_getElem? (i := 3) rfl)) (hw _ (List.mem_of_getElem? (i := 2) rfl)) (by decide) (by decide)) (g := (mkF m 3 #[.val (.int p1), .val (.long q2), .second, .val (.int p3), .unset, .unset, .unset, .unset, .unset, .unset, .unset, .unset, .unset, .unset] [(.int (0 : Int32)), (.long q2), (.int p1)])) rfl (by rw [hml]; rfl) (argsL := [(.int p1), (.long q2), (.int (0 : Int32))]) (rest := []) (lenOf pd_1 rfl) rfl (by show 2 * 0 + _ ≤ _; exact Nat.le_of_eq rfl) (hb hby at_3) (fun _ _ => ⟨rfl, e0, (by decide : 0 + 0 ≤ _), (by decide : 0 + 0 ≤ _)⟩)
  dsimp only [Pt.U, Pt.locs, Pt.cells, Pt.slots] at Xk_1 lk_1 yk_1 zk_1 stk_1 hQk_1
  subst lk_1 yk_1 zk_1
  obtain ⟨b0, hb0, rfl, Nk_1q, ek_1⟩ := hQk_1
  have Nk_1 := Fr.app N0 Nk_1q
  refine own_lift (fun t k => stk_1 _ k) ?_
  show own_Fin p e below _ (Tk_1.setTop (mkF m 6 #[.val (.int p1), .val (.long q2), .second, .val (.int p3), .unset, .unset, .unset, .unset, .unset, .unset, .unset, .unset, .unset, .unset] [(.int b0)]))
  refine own_lift (fun t k => XS.istore Xk_1.here hx rfl (hb hby at_6) rfl (l' := #[.val (.int p1), .val (.long q2), .second, .val (.int p3), .val (.int b0), .unset, .unset, .unset, .unset, .unset, .unset, .unset, .unset, .unset]) rfl k) ?_
  show own_Fin p e below _ (Tk_1.setTop (mkF m 8 #[.val (.int p1), .val (.long q2), .second, .val (.int p3), .val (.int b0), .unset, .unset, .unset, .unset, .unset, .unset, .unset, .unset, .unset] []))
  refine own_lift (fun t k => XS.iloadN Xk_1.here hx rfl (hb hby at_8) rfl k) ?_
  show own_Fin p e below _ (Tk_1.setTop (mkF m 9 #[.val (.int p1), .val (.long q2), .second, .val (.int p3), .val (.int b0), .unset, .unset, .unset, .unset, .unset, .unset, .unset, .unset, .unset] [(.int p1)]))
  refine own_lift (fun t k => XS.lloadN Xk_1.here hx rfl (hb hby at_9) rfl k) ?_
  show own_Fin p e below _ (Tk_1.setTop (mkF m 10 #[.val (.int p1), .val (.long q2), .second, .val (.int p3), .val (.int b0), .unset, .unset, .unset, .unset, .unset, .unset, .unset, .unset, .unset] [(.long q2), (.int p1)]))
  refine own_lift (fun t k => XS.iconst Xk_1.here hx rfl (hb hby at_10) k) ?_
  show own_Fin p e below _ (Tk_1.setTop (mkF m 11 #[.val (.int p1), .val (.long q2), .second, .val (.int p3), .val (.int b0), .unset, .unset, .unset, .unset, .unset, .unset, .unset, .unset, .unset] [(.int (1 : Int32)), (.long q2), (.int p1)]))
  obtain ⟨_, _, ⟨Tk_2, Lk_2, kk_2, nk_2⟩, -, Xk_2, ⟨Lck_2, hQk_2, lk_2, yk_2, zk_2⟩, stk_2⟩ := Jvm.LawKit.callS Xk_1 hx (y := (⟨"com/example/ringvault/ringvault/http/MessageInputHeadStartPinLaw", "pick", "(IJI)B"⟩ : MethodName)) hown (mvT hZ (hw _ (List.mem_of_getElem? (i := 0) rfl))) (mvT hZ (hw _ (List.mem_of_getElem? (i := 1) rfl))) (mvT hZ (hw _ (List.mem_of_getElem? (i := 2) rfl))) (mvT hZ (hw _ (List.mem_of_getElem? (i := 3) rfl))) (by decide) (backOf (W := 0) (rm1 l Z a0 hw [] p1 q2 (1 : Int32) h0 n0 Z0) hZ (hw _ (List.mem_of_getElem? (i := 3) rfl)) (hw _ (List.mem_of_getElem? (i := 2) rfl)) (by decide) (by decide)) (g := (mkF m 11 #[.val (.int p1), .val (.long q2), .second, .val (.int p3), .val (.int b0), .unset, .unset, .unset, .unset, .unset, .unset, .unset, .unset, .unset] [(.int (1 : Int32)), (.long q2), (.int p1)])) rfl (by rw [hml]; rfl) (argsL := [(.int p1), (.long q2), (.int (1 : Int32))]) (rest := []) (lenOf pd_1 rfl) rfl (by show 2 * 0 + _ ≤ _; exact Nat.le_of_eq rfl) (hb hby at_11) (fun _ _ => ⟨rfl, ek_1, (by decide : 0 + 0 ≤ _), (by decide : 0 + 0 ≤ _)⟩)
  dsimp only [Pt.U, Pt.locs, Pt.cells, Pt.slots] at Xk_2 lk_2 yk_2 zk_2 stk_2 hQk_2
  subst lk_2 yk_2 zk_2
  obtain ⟨b1, hb1, rfl, Nk_2q, ek_2⟩ := hQk_2
  have Nk_2 := Fr.app Nk_1 Nk_2q
  refine own_lift (fun t k => stk_2 _ k) ?_
  show own_Fin p e below _ (Tk_2.setTop (mkF m 14 #[.val (.int p1), .val (.long q2), .second, .val (.int p3), .val (.int b0), .unset, .unset, .unset, .unset, .unset, .unset, .unset, .unset, .unset] [(.int b1)]))
  refine own_lift (fun t k => XS.istore Xk_2.here hx rfl (hb hby at_14) rfl (l' := #[.val (.int p1), .val (.long q2), .second, .val (.int p3), .val (.int b0), .val (.int b1), .unset, .unset, .unset, .unset, .unset, .unset, .unset, .unset]) rfl k) ?_
  show own_Fin p e below _ (Tk_2.setTop (mkF m 16 #[.val (.int p1), .val (.long q2), .second, .val (.int p3), .val (.int b0), .val (.int b1), .unset, .unset, .unset, .unset, .unset, .unset, .unset, .unset] []))
  refine own_lift (fun t k => XS.iloadN Xk_2.here hx rfl (hb hby at_16) rfl k) ?_
  show own_Fin p e below _ (Tk_2.setTop (mkF m 17 #[.val (.int p1), .val (.long q2), .second, .val (.int p3), .val (.int b0), .val (.int b1), .unset, .unset, .unset, .unset, .unset, .unset, .unset, .unset] [(.int p1)]))
  refine own_lift (fun t k => XS.lloadN Xk_2.here hx rfl (hb hby at_17) rfl k) ?_
  show own_Fin p e below _ (Tk_2.setTop (mkF m 18 #[.val (.int p1), .val (.long q2), .second, .val (.int p3), .val (.int b0), .val (.int b1), .unset, .unset, .unset, .unset, .unset, .unset, .unset, .unset] [(.long q2), (.int p1)]))
  refine own_lift (fun t k => XS.iconst Xk_2.here hx rfl (hb hby at_18) k) ?_
  show own_Fin p e below _ (Tk_2.setTop (mkF m 19 #[.val (.int p1), .val (.long q2), .second, .val (.int p3), .val (.int b0), .val (.int b1), .unset, .unset, .unset, .unset, .unset, .unset, .unset, .unset] [(.int (2 : Int32)), (.long q2), (.int p1)]))
  obtain ⟨_, _, ⟨Tk_3, Lk_3, kk_3, nk_3⟩, -, Xk_3, ⟨Lck_3, hQk_3, lk_3, yk_3, zk_3⟩, stk_3⟩ := Jvm.LawKit.callS Xk_2 hx (y := (⟨"com/example/ringvault/ringvault/http/MessageInputHeadStartPinLaw", "pick", "(IJI)B"⟩ : MethodName)) hown (mvT hZ (hw _ (List.mem_of_getElem? (i := 0) rfl))) (mvT hZ (hw _ (List.mem_of_getElem? (i := 1) rfl))) (mvT hZ (hw _ (List.mem_of_getElem? (i := 2) rfl))) (mvT hZ (hw _ (List.mem_of_getElem? (i := 3) rfl))) (by decide) (backOf (W := 0) (rm1 l Z a0 hw [] p1 q2 (2 : Int32) h0 n0 Z0) hZ (hw _ (List.mem_of_getElem? (i := 3) rfl)) (hw _ (List.mem_of_getElem? (i := 2) rfl)) (by decide) (by decide)) (g := (mkF m 19 #[.val (.int p1), .val (.long q2), .second, .val (.int p3), .val (.int b0), .val (.int b1), .unset, .unset, .unset, .unset, .unset, .unset, .unset, .unset] [(.int (2 : Int32)), (.long q2), (.int p1)])) rfl (by rw [hml]; rfl) (argsL := [(.int p1), (.long q2), (.int (2 : Int32))]) (rest := []) (lenOf pd_1 rfl) rfl (by show 2 * 0 + _ ≤ _; exact Nat.le_of_eq rfl) (hb hby at_19) (fun _ _ => ⟨rfl, ek_2, (by decide : 0 + 0 ≤ _), (by decide : 0 + 0 ≤ _)⟩)
  dsimp only [Pt.U, Pt.locs, Pt.cells, Pt.slots] at Xk_3 lk_3 yk_3 zk_3 stk_3 hQk_3
  subst lk_3 yk_3 zk_3
  obtain ⟨b2, hb2, rfl, Nk_3q, ek_3⟩ := hQk_3
  have Nk_3 := Fr.app Nk_2 Nk_3q
  refine own_lift (fun t k => stk_3 _ k) ?_
  show own_Fin p e below _ (Tk_3.setTop (mkF m 22 #[.val (.int p1), .val (.long q2), .second, .val (.int p3), .val (.int b0), .val (.int b1), .unset, .unset, .unset, .unset, .unset, .unset, .unset, .unset] [(.int b2)]))
  refine own_lift (fun t k => XS.istore Xk_3.here hx rfl (hb hby at_22) rfl (l' := #[.val (.int p1), .val (.long q2), .second, .val (.int p3), .val (.int b0), .val (.int b1), .val (.int b2), .unset, .unset, .unset, .unset, .unset, .unset, .unset]) rfl k) ?_
  show own_Fin p e below _ (Tk_3.setTop (mkF m 24 #[.val (.int p1), .val (.long q2), .second, .val (.int p3), .val (.int b0), .val (.int b1), .val (.int b2), .unset, .unset, .unset, .unset, .unset, .unset, .unset] []))
  refine own_lift (fun t k => XS.iloadN Xk_3.here hx rfl (hb hby at_24) rfl k) ?_
  show own_Fin p e below _ (Tk_3.setTop (mkF m 25 #[.val (.int p1), .val (.long q2), .second, .val (.int p3), .val (.int b0), .val (.int b1), .val (.int b2), .unset, .unset, .unset, .unset, .unset, .unset, .unset] [(.int p1)]))
  refine own_lift (fun t k => XS.lloadN Xk_3.here hx rfl (hb hby at_25) rfl k) ?_
  show own_Fin p e below _ (Tk_3.setTop (mkF m 26 #[.val (.int p1), .val (.long q2), .second, .val (.int p3), .val (.int b0), .val (.int b1), .val (.int b2), .unset, .unset, .unset, .unset, .unset, .unset, .unset] [(.long q2), (.int p1)]))
  refine own_lift (fun t k => XS.iconst Xk_3.here hx rfl (hb hby at_26) k) ?_
  show own_Fin p e below _ (Tk_3.setTop (mkF m 27 #[.val (.int p1), .val (.long q2), .second, .val (.int p3), .val (.int b0), .val (.int b1), .val (.int b2), .unset, .unset, .unset, .unset, .unset, .unset, .unset] [(.int (3 : Int32)), (.long q2), (.int p1)]))
  obtain ⟨_, _, ⟨Tk_4, Lk_4, kk_4, nk_4⟩, -, Xk_4, ⟨Lck_4, hQk_4, lk_4, yk_4, zk_4⟩, stk_4⟩ := Jvm.LawKit.callS Xk_3 hx (y := (⟨"com/example/ringvault/ringvault/http/MessageInputHeadStartPinLaw", "pick", "(IJI)B"⟩ : MethodName)) hown (mvT hZ (hw _ (List.mem_of_getElem? (i := 0) rfl))) (mvT hZ (hw _ (List.mem_of_getElem? (i := 1) rfl))) (mvT hZ (hw _ (List.mem_of_getElem? (i := 2) rfl))) (mvT hZ (hw _ (List.mem_of_getElem? (i := 3) rfl))) (by decide) (backOf (W := 0) (rm1 l Z a0 hw [] p1 q2 (3 : Int32) h0 n0 Z0) hZ (hw _ (List.mem_of_getElem? (i := 3) rfl)) (hw _ (List.mem_of_getElem? (i := 2) rfl)) (by decide) (by decide)) (g := (mkF m 27 #[.val (.int p1), .val (.long q2), .second, .val (.int p3), .val (.int b0), .val (.int b1), .val (.int b2), .unset, .unset, .unset, .unset, .unset, .unset, .unset] [(.int (3 : Int32)), (.long q2), (.int p1)])) rfl (by rw [hml]; rfl) (argsL := [(.int p1), (.long q2), (.int (3 : Int32))]) (rest := []) (lenOf pd_1 rfl) rfl (by show 2 * 0 + _ ≤ _; exact Nat.le_of_eq rfl) (hb hby at_27) (fun _ _ => ⟨rfl, ek_3, (by decide : 0 + 0 ≤ _), (by decide : 0 + 0 ≤ _)⟩)
  dsimp only [Pt.U, Pt.locs, Pt.cells, Pt.slots] at Xk_4 lk_4 yk_4 zk_4 stk_4 hQk_4
  subst lk_4 yk_4 zk_4
  obtain ⟨b3, hb3, rfl, Nk_4q, ek_4⟩ := hQk_4
  have Nk_4 := Fr.app Nk_3 Nk_4q
  refine own_lift (fun t k => stk_4 _ k) ?_
  show own_Fin p e below _ (Tk_4.setTop (mkF m 30 #[.val (.int p1), .val (.long q2), .second, .val (.int p3), .val (.int b0), .val (.int b1), .val (.int b2), .unset, .unset, .unset, .unset, .unset, .unset, .unset] [(.int b3)]))
  refine own_lift (fun t k => XS.istore Xk_4.here hx rfl (hb hby at_30) rfl (l' := #[.val (.int p1), .val (.long q2), .second, .val (.int p3), .val (.int b0), .val (.int b1), .val (.int b2), .val (.int b3), .unset, .unset, .unset, .unset, .unset, .unset]) rfl k) ?_
  show own_Fin p e below _ (Tk_4.setTop (mkF m 32 #[.val (.int p1), .val (.long q2), .second, .val (.int p3), .val (.int b0), .val (.int b1), .val (.int b2), .val (.int b3), .unset, .unset, .unset, .unset, .unset, .unset] []))
  refine own_lift (fun t k => XS.iloadN Xk_4.here hx rfl (hb hby at_32) rfl k) ?_
  show own_Fin p e below _ (Tk_4.setTop (mkF m 33 #[.val (.int p1), .val (.long q2), .second, .val (.int p3), .val (.int b0), .val (.int b1), .val (.int b2), .val (.int b3), .unset, .unset, .unset, .unset, .unset, .unset] [(.int p1)]))
  refine own_lift (fun t k => XS.lloadN Xk_4.here hx rfl (hb hby at_33) rfl k) ?_
  show own_Fin p e below _ (Tk_4.setTop (mkF m 34 #[.val (.int p1), .val (.long q2), .second, .val (.int p3), .val (.int b0), .val (.int b1), .val (.int b2), .val (.int b3), .unset, .unset, .unset, .unset, .unset, .unset] [(.long q2), (.int p1)]))
  refine own_lift (fun t k => XS.iconst Xk_4.here hx rfl (hb hby at_34) k) ?_
  show own_Fin p e below _ (Tk_4.setTop (mkF m 35 #[.val (.int p1), .val (.long q2), .second, .val (.int p3), .val (.int b0), .val (.int b1), .val (.int b2), .val (.int b3), .unset, .unset, .unset, .unset, .unset, .unset] [(.int (4 : Int32)), (.long q2), (.int p1)]))
  obtain ⟨_, _, ⟨Tk_5, Lk_5, kk_5, nk_5⟩, -, Xk_5, ⟨Lck_5, hQk_5, lk_5, yk_5, zk_5⟩, stk_5⟩ := Jvm.LawKit.callS Xk_4 hx (y := (⟨"com/example/ringvault/ringvault/http/MessageInputHeadStartPinLaw", "pick", "(IJI)B"⟩ : MethodName)) hown (mvT hZ (hw _ (List.mem_of_getElem? (i := 0) rfl))) (mvT hZ (hw _ (List.mem_of_getElem? (i := 1) rfl))) (mvT hZ (hw _ (List.mem_of_getElem? (i := 2) rfl))) (mvT hZ (hw _ (List.mem_of_getElem? (i := 3) rfl))) (by decide) (backOf (W := 0) (rm1 l Z a0 hw [] p1 q2 (4 : Int32) h0 n0 Z0) hZ (hw _ (List.mem_of_getElem? (i := 3) rfl)) (hw _ (List.mem_of_getElem? (i := 2) rfl)) (by decide) (by decide)) (g := (mkF m 35 #[.val (.int p1), .val (.long q2), .second, .val (.int p3), .val (.int b0), .val (.int b1), .val (.int b2), .val (.int b3), .unset, .unset, .unset, .unset, .unset, .unset] [(.int (4 : Int32)), (.long q2), (.int p1)])) rfl (by rw [hml]; rfl) (argsL := [(.int p1), (.long q2), (.int (4 : Int32))]) (rest := []) (lenOf pd_1 rfl) rfl (by show 2 * 0 + _ ≤ _; exact Nat.le_of_eq rfl) (hb hby at_35) (fun _ _ => ⟨rfl, ek_4, (by decide : 0 + 0 ≤ _), (by decide : 0 + 0 ≤ _)⟩)
  dsimp only [Pt.U, Pt.locs, Pt.cells, Pt.slots] at Xk_5 lk_5 yk_5 zk_5 stk_5 hQk_5
  subst lk_5 yk_5 zk_5
  obtain ⟨b4, hb4, rfl, Nk_5q, ek_5⟩ := hQk_5
  have Nk_5 := Fr.app Nk_4 Nk_5q
  refine own_lift (fun t k => stk_5 _ k) ?_
  show own_Fin p e below _ (Tk_5.setTop (mkF m 38 #[.val (.int p1), .val (.long q2), .second, .val (.int p3), .val (.int b0), .val (.int b1), .val (.int b2), .val (.int b3), .unset, .unset, .unset, .unset, .unset, .unset] [(.int b4)]))
  refine own_lift (fun t k => XS.istore Xk_5.here hx rfl (hb hby at_38) rfl (l' := #[.val (.int p1), .val (.long q2), .second, .val (.int p3), .val (.int b0), .val (.int b1), .val (.int b2), .val (.int b3), .val (.int b4), .unset, .unset, .unset, .unset, .unset]) rfl k) ?_
  show own_Fin p e below _ (Tk_5.setTop (mkF m 40 #[.val (.int p1), .val (.long q2), .second, .val (.int p3), .val (.int b0), .val (.int b1), .val (.int b2), .val (.int b3), .val (.int b4), .unset, .unset, .unset, .unset, .unset] []))
  refine own_lift (fun t k => XS.iconst Xk_5.here hx rfl (hb hby at_40) k) ?_
  show own_Fin p e below _ (Tk_5.setTop (mkF m 41 #[.val (.int p1), .val (.long q2), .second, .val (.int p3), .val (.int b0), .val (.int b1), .val (.int b2), .val (.int b3), .val (.int b4), .unset, .unset, .unset, .unset, .unset] [(.int (5 : Int32))]))
  obtain ⟨Ta_6, ha_6, ka_6, Xa_6, ea_6, Ea_6, Aa_6, sta_6⟩ := newP Xk_5 hx hZ (hw _ (List.mem_of_getElem? (i := 4) rfl)) ek_5 (g := (mkF m 41 #[.val (.int p1), .val (.long q2), .second, .val (.int p3), .val (.int b0), .val (.int b1), .val (.int b2), .val (.int b3), .val (.int b4), .unset, .unset, .unset, .unset, .unset] [(.int (5 : Int32))])) rfl (hb hby at_41) rfl (by decide) (cap := 5) (by decide) (by decide) (by decide) (by decide)
  obtain ⟨ba_6, ga_6⟩ : ∃ z, z = h0.size := ⟨_, rfl⟩
  rw [← ga_6] at Aa_6 sta_6
  have gba_6 : n0 ≤ ba_6 := Nat.le_trans Z0 (Nat.le_of_eq ga_6.symm)
  have SZa_6 : n0 ≤ ha_6.size := Nat.le_trans Z0 Ea_6.1
  have Va_6 : Arv Z ha_6 ba_6 ka_6 .byte (5 : Int32) [(.int (0 : Int32)), (.int (0 : Int32)), (.int (0 : Int32)), (.int (0 : Int32)), (.int (0 : Int32))] (.int (0 : Int32)) := (Arv.new Aa_6 (by decide)).pad (pad_rep [] (.int (0 : Int32)) 5)
  refine own_lift (fun t k => sta_6 _ k) ?_
  show own_Fin p e below _ (Ta_6.setTop (mkF m 43 #[.val (.int p1), .val (.long q2), .second, .val (.int p3), .val (.int b0), .val (.int b1), .val (.int b2), .val (.int b3), .val (.int b4), .unset, .unset, .unset, .unset, .unset] [(.ref ba_6)]))
  refine own_lift (fun t k => XS.astore Xa_6.here hx rfl (hb hby at_43) rfl rfl (l' := #[.val (.int p1), .val (.long q2), .second, .val (.int p3), .val (.int b0), .val (.int b1), .val (.int b2), .val (.int b3), .val (.int b4), .val (.ref ba_6), .unset, .unset, .unset, .unset]) rfl k) ?_
  show own_Fin p e below _ (Ta_6.setTop (mkF m 45 #[.val (.int p1), .val (.long q2), .second, .val (.int p3), .val (.int b0), .val (.int b1), .val (.int b2), .val (.int b3), .val (.int b4), .val (.ref ba_6), .unset, .unset, .unset, .unset] []))
  refine own_lift (fun t k => XS.aload Xa_6.here hx rfl (hb hby at_45) rfl rfl k) ?_
  show own_Fin p e below _ (Ta_6.setTop (mkF m 47 #[.val (.int p1), .val (.long q2), .second, .val (.int p3), .val (.int b0), .val (.int b1), .val (.int b2), .val (.int b3), .val (.int b4), .val (.ref ba_6), .unset, .unset, .unset, .unset] [(.ref ba_6)]))
  refine own_lift (fun t k => XS.iconst Xa_6.here hx rfl (hb hby at_47) k) ?_
  show own_Fin p e below _ (Ta_6.setTop (mkF m 48 #[.val (.int p1), .val (.long q2), .second, .val (.int p3), .val (.int b0), .val (.int b1), .val (.int b2), .val (.int b3), .val (.int b4), .val (.ref ba_6), .unset, .unset, .unset, .unset] [(.int (0 : Int32)), (.ref ba_6)]))
  refine own_lift (fun t k => XS.iload Xa_6.here hx rfl (hb hby at_48) rfl k) ?_
  show own_Fin p e below _ (Ta_6.setTop (mkF m 50 #[.val (.int p1), .val (.long q2), .second, .val (.int p3), .val (.int b0), .val (.int b1), .val (.int b2), .val (.int b3), .val (.int b4), .val (.ref ba_6), .unset, .unset, .unset, .unset] [(.int b0), (.int (0 : Int32)), (.ref ba_6)]))
  have cpv_7 := Va_6
  obtain ⟨clv_7, Arv_7, qv_7, Sv_7, Mv_7, Hv_7, Gv_7⟩ := cpv_7
  obtain ⟨Tw_8, hw_8, Xw_8, ew_8, Ww_8, stw_8⟩ := stB Xa_6 hx hZ ea_6 Arv_7 (j := (0 : Int32)) (inb_of Sv_7 ⟨by decide, by decide⟩) (g := (mkF m 50 #[.val (.int p1), .val (.long q2), .second, .val (.int p3), .val (.int b0), .val (.int b1), .val (.int b2), .val (.int b3), .val (.int b4), .val (.ref ba_6), .unset, .unset, .unset, .unset] [(.int b0), (.int (0 : Int32)), (.ref ba_6)])) rfl rfl (hb hby at_50)
  have SZw_8 : n0 ≤ hw_8.size := Nat.le_trans SZa_6 (Keep.of_wr Ww_8).1
  have Vw_8 : Arv Z hw_8 ba_6 ka_6 .byte (5 : Int32) [(.int (b0.toInt8.toInt32)), (.int (0 : Int32)), (.int (0 : Int32)), (.int (0 : Int32)), (.int (0 : Int32))] (.int (0 : Int32)) := Arv.set Arv_7 qv_7 Sv_7 Mv_7 Hv_7 Gv_7 (fits_nar_byte _) Ww_8 0 rfl (Nat.le_of_ble_eq_true rfl)
  rw [hb0] at Vw_8
  have Nw_8 := Fr.snoc Xw_8 Nk_5 gba_6
  refine own_lift (fun t k => stw_8 _ k) ?_
  show own_Fin p e below _ (Tw_8.setTop (mkF m 51 #[.val (.int p1), .val (.long q2), .second, .val (.int p3), .val (.int b0), .val (.int b1), .val (.int b2), .val (.int b3), .val (.int b4), .val (.ref ba_6), .unset, .unset, .unset, .unset] []))
  refine own_lift (fun t k => XS.aload Xw_8.here hx rfl (hb hby at_51) rfl rfl k) ?_
  show own_Fin p e below _ (Tw_8.setTop (mkF m 53 #[.val (.int p1), .val (.long q2), .second, .val (.int p3), .val (.int b0), .val (.int b1), .val (.int b2), .val (.int b3), .val (.int b4), .val (.ref ba_6), .unset, .unset, .unset, .unset] [(.ref ba_6)]))
  refine own_lift (fun t k => XS.iconst Xw_8.here hx rfl (hb hby at_53) k) ?_
  show own_Fin p e below _ (Tw_8.setTop (mkF m 54 #[.val (.int p1), .val (.long q2), .second, .val (.int p3), .val (.int b0), .val (.int b1), .val (.int b2), .val (.int b3), .val (.int b4), .val (.ref ba_6), .unset, .unset, .unset, .unset] [(.int (1 : Int32)), (.ref ba_6)]))
  refine own_lift (fun t k => XS.iload Xw_8.here hx rfl (hb hby at_54) rfl k) ?_
  show own_Fin p e below _ (Tw_8.setTop (mkF m 56 #[.val (.int p1), .val (.long q2), .second, .val (.int p3), .val (.int b0), .val (.int b1), .val (.int b2), .val (.int b3), .val (.int b4), .val (.ref ba_6), .unset, .unset, .unset, .unset] [(.int b1), (.int (1 : Int32)), (.ref ba_6)]))
  have cpv_9 := Vw_8
  obtain ⟨clv_9, Arv_9, qv_9, Sv_9, Mv_9, Hv_9, Gv_9⟩ := cpv_9
  obtain ⟨Tw_10, hw_10, Xw_10, ew_10, Ww_10, stw_10⟩ := stB Xw_8 hx hZ ew_8 Arv_9 (j := (1 : Int32)) (inb_of Sv_9 ⟨by decide, by decide⟩) (g := (mkF m 56 #[.val (.int p1), .val (.long q2), .second, .val (.int p3), .val (.int b0), .val (.int b1), .val (.int b2), .val (.int b3), .val (.int b4), .val (.ref ba_6), .unset, .unset, .unset, .unset] [(.int b1), (.int (1 : Int32)), (.ref ba_6)])) rfl rfl (hb hby at_56)
  have SZw_10 : n0 ≤ hw_10.size := Nat.le_trans SZw_8 (Keep.of_wr Ww_10).1
  have Vw_10 : Arv Z hw_10 ba_6 ka_6 .byte (5 : Int32) [(.int b0), (.int (b1.toInt8.toInt32)), (.int (0 : Int32)), (.int (0 : Int32)), (.int (0 : Int32))] (.int (0 : Int32)) := Arv.set Arv_9 qv_9 Sv_9 Mv_9 Hv_9 Gv_9 (fits_nar_byte _) Ww_10 1 rfl (Nat.le_of_ble_eq_true rfl)
  rw [hb1] at Vw_10
  have Nw_10 := Fr.snoc Xw_10 Nw_8 gba_6
  refine own_lift (fun t k => stw_10 _ k) ?_
  show own_Fin p e below _ (Tw_10.setTop (mkF m 57 #[.val (.int p1), .val (.long q2), .second, .val (.int p3), .val (.int b0), .val (.int b1), .val (.int b2), .val (.int b3), .val (.int b4), .val (.ref ba_6), .unset, .unset, .unset, .unset] []))
  refine own_lift (fun t k => XS.aload Xw_10.here hx rfl (hb hby at_57) rfl rfl k) ?_
  show own_Fin p e below _ (Tw_10.setTop (mkF m 59 #[.val (.int p1), .val (.long q2), .second, .val (.int p3), .val (.int b0), .val (.int b1), .val (.int b2), .val (.int b3), .val (.int b4), .val (.ref ba_6), .unset, .unset, .unset, .unset] [(.ref ba_6)]))
  refine own_lift (fun t k => XS.iconst Xw_10.here hx rfl (hb hby at_59) k) ?_
  show own_Fin p e below _ (Tw_10.setTop (mkF m 60 #[.val (.int p1), .val (.long q2), .second, .val (.int p3), .val (.int b0), .val (.int b1), .val (.int b2), .val (.int b3), .val (.int b4), .val (.ref ba_6), .unset, .unset, .unset, .unset] [(.int (2 : Int32)), (.ref ba_6)]))
  refine own_lift (fun t k => XS.iload Xw_10.here hx rfl (hb hby at_60) rfl k) ?_
  show own_Fin p e below _ (Tw_10.setTop (mkF m 62 #[.val (.int p1), .val (.long q2), .second, .val (.int p3), .val (.int b0), .val (.int b1), .val (.int b2), .val (.int b3), .val (.int b4), .val (.ref ba_6), .unset, .unset, .unset, .unset] [(.int b2), (.int (2 : Int32)), (.ref ba_6)]))
  have cpv_11 := Vw_10
  obtain ⟨clv_11, Arv_11, qv_11, Sv_11, Mv_11, Hv_11, Gv_11⟩ := cpv_11
  obtain ⟨Tw_12, hw_12, Xw_12, ew_12, Ww_12, stw_12⟩ := stB Xw_10 hx hZ ew_10 Arv_11 (j := (2 : Int32)) (inb_of Sv_11 ⟨by decide, by decide⟩) (g := (mkF m 62 #[.val (.int p1), .val (.long q2), .second, .val (.int p3), .val (.int b0), .val (.int b1), .val (.int b2), .val (.int b3), .val (.int b4), .val (.ref ba_6), .unset, .unset, .unset, .unset] [(.int b2), (.int (2 : Int32)), (.ref ba_6)])) rfl rfl (hb hby at_62)
  have SZw_12 : n0 ≤ hw_12.size := Nat.le_trans SZw_10 (Keep.of_wr Ww_12).1
  have Vw_12 : Arv Z hw_12 ba_6 ka_6 .byte (5 : Int32) [(.int b0), (.int b1), (.int (b2.toInt8.toInt32)), (.int (0 : Int32)), (.int (0 : Int32))] (.int (0 : Int32)) := Arv.set Arv_11 qv_11 Sv_11 Mv_11 Hv_11 Gv_11 (fits_nar_byte _) Ww_12 2 rfl (Nat.le_of_ble_eq_true rfl)
  rw [hb2] at Vw_12
  have Nw_12 := Fr.snoc Xw_12 Nw_10 gba_6
  refine own_lift (fun t k => stw_12 _ k) ?_
  show own_Fin p e below _ (Tw_12.setTop (mkF m 63 #[.val (.int p1), .val (.long q2), .second, .val (.int p3), .val (.int b0), .val (.int b1), .val (.int b2), .val (.int b3), .val (.int b4), .val (.ref ba_6), .unset, .unset, .unset, .unset] []))
  refine own_lift (fun t k => XS.aload Xw_12.here hx rfl (hb hby at_63) rfl rfl k) ?_
  show own_Fin p e below _ (Tw_12.setTop (mkF m 65 #[.val (.int p1), .val (.long q2), .second, .val (.int p3), .val (.int b0), .val (.int b1), .val (.int b2), .val (.int b3), .val (.int b4), .val (.ref ba_6), .unset, .unset, .unset, .unset] [(.ref ba_6)]))
  refine own_lift (fun t k => XS.iconst Xw_12.here hx rfl (hb hby at_65) k) ?_
  show own_Fin p e below _ (Tw_12.setTop (mkF m 66 #[.val (.int p1), .val (.long q2), .second, .val (.int p3), .val (.int b0), .val (.int b1), .val (.int b2), .val (.int b3), .val (.int b4), .val (.ref ba_6), .unset, .unset, .unset, .unset] [(.int (3 : Int32)), (.ref ba_6)]))
  refine own_lift (fun t k => XS.iload Xw_12.here hx rfl (hb hby at_66) rfl k) ?_
  show own_Fin p e below _ (Tw_12.setTop (mkF m 68 #[.val (.int p1), .val (.long q2), .second, .val (.int p3), .val (.int b0), .val (.int b1), .val (.int b2), .val (.int b3), .val (.int b4), .val (.ref ba_6), .unset, .unset, .unset, .unset] [(.int b3), (.int (3 : Int32)), (.ref ba_6)]))
  have cpv_13 := Vw_12
  obtain ⟨clv_13, Arv_13, qv_13, Sv_13, Mv_13, Hv_13, Gv_13⟩ := cpv_13
  obtain ⟨Tw_14, hw_14, Xw_14, ew_14, Ww_14, stw_14⟩ := stB Xw_12 hx hZ ew_12 Arv_13 (j := (3 : Int32)) (inb_of Sv_13 ⟨by decide, by decide⟩) (g := (mkF m 68 #[.val (.int p1), .val (.long q2), .second, .val (.int p3), .val (.int b0), .val (.int b1), .val (.int b2), .val (.int b3), .val (.int b4), .val (.ref ba_6), .unset, .unset, .unset, .unset] [(.int b3), (.int (3 : Int32)), (.ref ba_6)])) rfl rfl (hb hby at_68)
  have SZw_14 : n0 ≤ hw_14.size := Nat.le_trans SZw_12 (Keep.of_wr Ww_14).1
  have Vw_14 : Arv Z hw_14 ba_6 ka_6 .byte (5 : Int32) [(.int b0), (.int b1), (.int b2), (.int (b3.toInt8.toInt32)), (.int (0 : Int32))] (.int (0 : Int32)) := Arv.set Arv_13 qv_13 Sv_13 Mv_13 Hv_13 Gv_13 (fits_nar_byte _) Ww_14 3 rfl (Nat.le_of_ble_eq_true rfl)
  rw [hb3] at Vw_14
  have Nw_14 := Fr.snoc Xw_14 Nw_12 gba_6
  refine own_lift (fun t k => stw_14 _ k) ?_
  show own_Fin p e below _ (Tw_14.setTop (mkF m 69 #[.val (.int p1), .val (.long q2), .second, .val (.int p3), .val (.int b0), .val (.int b1), .val (.int b2), .val (.int b3), .val (.int b4), .val (.ref ba_6), .unset, .unset, .unset, .unset] []))
  refine own_lift (fun t k => XS.aload Xw_14.here hx rfl (hb hby at_69) rfl rfl k) ?_
  show own_Fin p e below _ (Tw_14.setTop (mkF m 71 #[.val (.int p1), .val (.long q2), .second, .val (.int p3), .val (.int b0), .val (.int b1), .val (.int b2), .val (.int b3), .val (.int b4), .val (.ref ba_6), .unset, .unset, .unset, .unset] [(.ref ba_6)]))
  refine own_lift (fun t k => XS.iconst Xw_14.here hx rfl (hb hby at_71) k) ?_
  show own_Fin p e below _ (Tw_14.setTop (mkF m 72 #[.val (.int p1), .val (.long q2), .second, .val (.int p3), .val (.int b0), .val (.int b1), .val (.int b2), .val (.int b3), .val (.int b4), .val (.ref ba_6), .unset, .unset, .unset, .unset] [(.int (4 : Int32)), (.ref ba_6)]))
  refine own_lift (fun t k => XS.iload Xw_14.here hx rfl (hb hby at_72) rfl k) ?_
  show own_Fin p e below _ (Tw_14.setTop (mkF m 74 #[.val (.int p1), .val (.long q2), .second, .val (.int p3), .val (.int b0), .val (.int b1), .val (.int b2), .val (.int b3), .val (.int b4), .val (.ref ba_6), .unset, .unset, .unset, .unset] [(.int b4), (.int (4 : Int32)), (.ref ba_6)]))
  have cpv_15 := Vw_14
  obtain ⟨clv_15, Arv_15, qv_15, Sv_15, Mv_15, Hv_15, Gv_15⟩ := cpv_15
  obtain ⟨Tw_16, hw_16, Xw_16, ew_16, Ww_16, stw_16⟩ := stB Xw_14 hx hZ ew_14 Arv_15 (j := (4 : Int32)) (inb_of Sv_15 ⟨by decide, by decide⟩) (g := (mkF m 74 #[.val (.int p1), .val (.long q2), .second, .val (.int p3), .val (.int b0), .val (.int b1), .val (.int b2), .val (.int b3), .val (.int b4), .val (.ref ba_6), .unset, .unset, .unset, .unset] [(.int b4), (.int (4 : Int32)), (.ref ba_6)])) rfl rfl (hb hby at_74)
  have SZw_16 : n0 ≤ hw_16.size := Nat.le_trans SZw_14 (Keep.of_wr Ww_16).1
  have Vw_16 : Arv Z hw_16 ba_6 ka_6 .byte (5 : Int32) [(.int b0), (.int b1), (.int b2), (.int b3), (.int (b4.toInt8.toInt32))] (.int (0 : Int32)) := Arv.set Arv_15 qv_15 Sv_15 Mv_15 Hv_15 Gv_15 (fits_nar_byte _) Ww_16 4 rfl (Nat.le_of_ble_eq_true rfl)
  rw [hb4] at Vw_16
  have Nw_16 := Fr.snoc Xw_16 Nw_14 gba_6
  refine own_lift (fun t k => stw_16 _ k) ?_
  show own_Fin p e below _ (Tw_16.setTop (mkF m 75 #[.val (.int p1), .val (.long q2), .second, .val (.int p3), .val (.int b0), .val (.int b1), .val (.int b2), .val (.int b3), .val (.int b4), .val (.ref ba_6), .unset, .unset, .unset, .unset] []))
  refine own_lift (fun t k => XS.iloadN Xw_16.here hx rfl (hb hby at_75) rfl k) ?_
  show own_Fin p e below _ (Tw_16.setTop (mkF m 76 #[.val (.int p1), .val (.long q2), .second, .val (.int p3), .val (.int b0), .val (.int b1), .val (.int b2), .val (.int b3), .val (.int b4), .val (.ref ba_6), .unset, .unset, .unset, .unset] [(.int p3)]))
  refine own_lift (fun t k => Xw_16.ldcI hx hown (mvT hZ (hw _ (List.mem_of_getElem? (i := 5) rfl))) rfl (hb hby at_76) k) ?_
  show own_Fin p e below _ (Tw_16.setTop (mkF m 78 #[.val (.int p1), .val (.long q2), .second, .val (.int p3), .val (.int b0), .val (.int b1), .val (.int b2), .val (.int b3), .val (.int b4), .val (.ref ba_6), .unset, .unset, .unset, .unset] [(.int (2147483647 : Int32)), (.int p3)]))
  refine own_lift (fun t k => XS.iand Xw_16.here hx rfl (hb hby at_78) rfl k) ?_
  show own_Fin p e below _ (Tw_16.setTop (mkF m 79 #[.val (.int p1), .val (.long q2), .second, .val (.int p3), .val (.int b0), .val (.int b1), .val (.int b2), .val (.int b3), .val (.int b4), .val (.ref ba_6), .unset, .unset, .unset, .unset] [(.int (p3 &&& (2147483647 : Int32)))]))
  refine own_lift (fun t k => XS.bipush Xw_16.here hx rfl (hb hby at_79) k) ?_
  show own_Fin p e below _ (Tw_16.setTop (mkF m 81 #[.val (.int p1), .val (.long q2), .second, .val (.int p3), .val (.int b0), .val (.int b1), .val (.int b2), .val (.int b3), .val (.int b4), .val (.ref ba_6), .unset, .unset, .unset, .unset] [(.int (6 : Int32)), (.int (p3 &&& (2147483647 : Int32)))]))
  refine own_lift (fun t k => Jvm.RoadKit.iremM Xw_16 hx rfl (hb hby at_81) rfl (by decide) k) ?_
  show own_Fin p e below _ (Tw_16.setTop (mkF m 82 #[.val (.int p1), .val (.long q2), .second, .val (.int p3), .val (.int b0), .val (.int b1), .val (.int b2), .val (.int b3), .val (.int b4), .val (.ref ba_6), .unset, .unset, .unset, .unset] [(.int ((p3 &&& (2147483647 : Int32)) % (6 : Int32)))]))
  refine own_lift (fun t k => XS.istore Xw_16.here hx rfl (hb hby at_82) rfl (l' := #[.val (.int p1), .val (.long q2), .second, .val (.int p3), .val (.int b0), .val (.int b1), .val (.int b2), .val (.int b3), .val (.int b4), .val (.ref ba_6), .val (.int ((p3 &&& (2147483647 : Int32)) % (6 : Int32))), .unset, .unset, .unset]) rfl k) ?_
  show own_Fin p e below _ (Tw_16.setTop (mkF m 84 #[.val (.int p1), .val (.long q2), .second, .val (.int p3), .val (.int b0), .val (.int b1), .val (.int b2), .val (.int b3), .val (.int b4), .val (.ref ba_6), .val (.int ((p3 &&& (2147483647 : Int32)) % (6 : Int32))), .unset, .unset, .unset] []))
  have j84 : ∀ (T : State) (locs : List Loc) (len : Int32), Stand p l e room_1 s m #[(.int p1), (.long q2), (.int p3)] below meth c T locs 1 5 → T.heap = hw_16 → Fr n0 locs → ¬ (5 : Int32) < len → own_Fin p e below (fun o U' => ∃ v L, o = .returned v ∧ Q0 Z p1 q2 p3 h0 n0 v U'.heap L ∧ FrameEnd s o U' L room_1.cells room_1.slots) (T.setTop (mkF m 84 #[.val (.int p1), .val (.long q2), .second, .val (.int p3), .val (.int b0), .val (.int b1), .val (.int b2), .val (.int b3), .val (.int b4), .val (.ref ba_6), .val (.int len), .unset, .unset, .unset] [])) := by
    intro T locs len X e1 N hlen
    have j171 : ∀ (T2 : State) (locs2 : List Loc) (x : Int32), Stand p l e room_1 s m #[(.int p1), (.long q2), (.int p3)] below meth c T2 locs2 1 5 → T2.heap = hw_16 → Fr n0 locs2 → own_h0 len b0 b1 b2 b3 b4 = x → own_Fin p e below (fun o U' => ∃ v L, o = .returned v ∧ Q0 Z p1 q2 p3 h0 n0 v U'.heap L ∧ FrameEnd s o U' L room_1.cells room_1.slots) (T2.setTop (mkF m 171 #[.val (.int p1), .val (.long q2), .second, .val (.int p3), .val (.int b0), .val (.int b1), .val (.int b2), .val (.int b3), .val (.int b4), .val (.ref ba_6), .val (.int len), .val (.int x), .unset, .unset] [])) := by
      intro T2 locs2 x X2 e2 N2 hX
      refine own_lift (fun t k => XS.aload X2.here hx rfl (hb hby at_171) rfl rfl k) ?_
      show own_Fin p e below _ (T2.setTop (mkF m 173 #[.val (.int p1), .val (.long q2), .second, .val (.int p3), .val (.int b0), .val (.int b1), .val (.int b2), .val (.int b3), .val (.int b4), .val (.ref ba_6), .val (.int len), .val (.int x), .unset, .unset] [(.ref ba_6)]))
      refine own_lift (fun t k => XS.iload X2.here hx rfl (hb hby at_173) rfl k) ?_
      show own_Fin p e below _ (T2.setTop (mkF m 175 #[.val (.int p1), .val (.long q2), .second, .val (.int p3), .val (.int b0), .val (.int b1), .val (.int b2), .val (.int b3), .val (.int b4), .val (.ref ba_6), .val (.int len), .val (.int x), .unset, .unset] [(.int len), (.ref ba_6)]))
      obtain ⟨_, _, ⟨Tk_17, Lk_17, kk_17, nk_17⟩, -, Xk_17, ⟨Lck_17, hQk_17, lk_17, yk_17, zk_17⟩, stk_17⟩ := Jvm.LawKit.callS X2 hx (y := (⟨"com/example/ringvault/ringvault/http/MessageInput", "headStart", "([BI)I"⟩ : MethodName)) hown (mvT hZ (hw _ (List.mem_of_getElem? (i := 9) rfl))) (mvT hZ (hw _ (List.mem_of_getElem? (i := 10) rfl))) (mvT hZ (hw _ (List.mem_of_getElem? (i := 11) rfl))) (mvT hZ (hw _ (List.mem_of_getElem? (i := 12) rfl))) (by decide) (backOf (W := 0) (rm3 l Z a0 hw [] ba_6 len ka_6 b0 b1 b2 b3 b4 hw_16 n0 SZw_16 Vw_16 hlen) hZ (hw _ (List.mem_of_getElem? (i := 12) rfl)) (hw _ (List.mem_of_getElem? (i := 11) rfl)) (by decide) (by decide)) (g := (mkF m 175 #[.val (.int p1), .val (.long q2), .second, .val (.int p3), .val (.int b0), .val (.int b1), .val (.int b2), .val (.int b3), .val (.int b4), .val (.ref ba_6), .val (.int len), .val (.int x), .unset, .unset] [(.int len), (.ref ba_6)])) rfl (by rw [hml]; rfl) (argsL := [(.ref ba_6), (.int len)]) (rest := []) (lenOf pd_3 rfl) rfl (by show 2 * 0 + _ ≤ _; exact Nat.le_of_eq rfl) (hb hby at_175) (fun _ _ => ⟨rfl, e2, (by decide : 1 + 0 ≤ _), (by decide : 5 + 0 ≤ _)⟩)
      dsimp only [Pt.U, Pt.locs, Pt.cells, Pt.slots] at Xk_17 lk_17 yk_17 zk_17 stk_17 hQk_17
      subst lk_17 yk_17 zk_17
      obtain ⟨rfl, Nk_17q, ek_17⟩ := hQk_17
      have Nk_17 := Fr.app N2 Nk_17q
      refine own_lift (fun t k => stk_17 _ k) ?_
      show own_Fin p e below _ (Tk_17.setTop (mkF m 178 #[.val (.int p1), .val (.long q2), .second, .val (.int p3), .val (.int b0), .val (.int b1), .val (.int b2), .val (.int b3), .val (.int b4), .val (.ref ba_6), .val (.int len), .val (.int x), .unset, .unset] [(.int (own_h0 len b0 b1 b2 b3 b4))]))
      refine own_lift (fun t k => XS.istore Xk_17.here hx rfl (hb hby at_178) rfl (l' := #[.val (.int p1), .val (.long q2), .second, .val (.int p3), .val (.int b0), .val (.int b1), .val (.int b2), .val (.int b3), .val (.int b4), .val (.ref ba_6), .val (.int len), .val (.int x), .val (.int (own_h0 len b0 b1 b2 b3 b4)), .unset]) rfl k) ?_
      show own_Fin p e below _ (Tk_17.setTop (mkF m 180 #[.val (.int p1), .val (.long q2), .second, .val (.int p3), .val (.int b0), .val (.int b1), .val (.int b2), .val (.int b3), .val (.int b4), .val (.ref ba_6), .val (.int len), .val (.int x), .val (.int (own_h0 len b0 b1 b2 b3 b4)), .unset] []))
      refine own_lift (fun t k => XS.aload Xk_17.here hx rfl (hb hby at_180) rfl rfl k) ?_
      show own_Fin p e below _ (Tk_17.setTop (mkF m 182 #[.val (.int p1), .val (.long q2), .second, .val (.int p3), .val (.int b0), .val (.int b1), .val (.int b2), .val (.int b3), .val (.int b4), .val (.ref ba_6), .val (.int len), .val (.int x), .val (.int (own_h0 len b0 b1 b2 b3 b4)), .unset] [(.ref ba_6)]))
      refine own_lift (fun t k => XS.iconst Xk_17.here hx rfl (hb hby at_182) k) ?_
      show own_Fin p e below _ (Tk_17.setTop (mkF m 183 #[.val (.int p1), .val (.long q2), .second, .val (.int p3), .val (.int b0), .val (.int b1), .val (.int b2), .val (.int b3), .val (.int b4), .val (.ref ba_6), .val (.int len), .val (.int x), .val (.int (own_h0 len b0 b1 b2 b3 b4)), .unset] [(.int (0 : Int32)), (.ref ba_6)]))
      have cpv_18 := Vw_16
      obtain ⟨clv_18, Arv_18, qv_18, Sv_18, Mv_18, Hv_18, Gv_18⟩ := cpv_18
      refine own_lift (fun t k => Xk_17.baloadBytes hx (j := (0 : Int32)) (v := (.int b0)) (by rw [ek_17]; exact Arv_18.1) (State.isArrayOf_alike hZ.alike Arv_18.2.1) Arv_18.2.2 (inb_of Sv_18 ⟨by decide, by decide⟩) (Hv_18 0 (by rw [Sv_18]; decide)) (g := (mkF m 183 #[.val (.int p1), .val (.long q2), .second, .val (.int p3), .val (.int b0), .val (.int b1), .val (.int b2), .val (.int b3), .val (.int b4), .val (.ref ba_6), .val (.int len), .val (.int x), .val (.int (own_h0 len b0 b1 b2 b3 b4)), .unset] [(.int (0 : Int32)), (.ref ba_6)])) rfl rfl (hb hby at_183) _ k) ?_
      show own_Fin p e below _ (Tk_17.setTop (mkF m 184 #[.val (.int p1), .val (.long q2), .second, .val (.int p3), .val (.int b0), .val (.int b1), .val (.int b2), .val (.int b3), .val (.int b4), .val (.ref ba_6), .val (.int len), .val (.int x), .val (.int (own_h0 len b0 b1 b2 b3 b4)), .unset] [(.int b0)]))
      refine own_lift (fun t k => XS.iload Xk_17.here hx rfl (hb hby at_184) rfl k) ?_
      show own_Fin p e below _ (Tk_17.setTop (mkF m 186 #[.val (.int p1), .val (.long q2), .second, .val (.int p3), .val (.int b0), .val (.int b1), .val (.int b2), .val (.int b3), .val (.int b4), .val (.ref ba_6), .val (.int len), .val (.int x), .val (.int (own_h0 len b0 b1 b2 b3 b4)), .unset] [(.int b0), (.int b0)]))
      refine own_lift (fun t k => XS.icmpNo Xk_17.here hx rfl (hb hby at_186) rfl (teq (rfl : b0 = b0)).2 k) ?_
      show own_Fin p e below _ (Tk_17.setTop (mkF m 189 #[.val (.int p1), .val (.long q2), .second, .val (.int p3), .val (.int b0), .val (.int b1), .val (.int b2), .val (.int b3), .val (.int b4), .val (.ref ba_6), .val (.int len), .val (.int x), .val (.int (own_h0 len b0 b1 b2 b3 b4)), .unset] []))
      refine own_lift (fun t k => XS.aload Xk_17.here hx rfl (hb hby at_189) rfl rfl k) ?_
      show own_Fin p e below _ (Tk_17.setTop (mkF m 191 #[.val (.int p1), .val (.long q2), .second, .val (.int p3), .val (.int b0), .val (.int b1), .val (.int b2), .val (.int b3), .val (.int b4), .val (.ref ba_6), .val (.int len), .val (.int x), .val (.int (own_h0 len b0 b1 b2 b3 b4)), .unset] [(.ref ba_6)]))
      refine own_lift (fun t k => XS.iconst Xk_17.here hx rfl (hb hby at_191) k) ?_
      show own_Fin p e below _ (Tk_17.setTop (mkF m 192 #[.val (.int p1), .val (.long q2), .second, .val (.int p3), .val (.int b0), .val (.int b1), .val (.int b2), .val (.int b3), .val (.int b4), .val (.ref ba_6), .val (.int len), .val (.int x), .val (.int (own_h0 len b0 b1 b2 b3 b4)), .unset] [(.int (1 : Int32)), (.ref ba_6)]))
      have cpv_20 := Vw_16
      obtain ⟨clv_20, Arv_20, qv_20, Sv_20, Mv_20, Hv_20, Gv_20⟩ := cpv_20
      refine own_lift (fun t k => Xk_17.baloadBytes hx (j := (1 : Int32)) (v := (.int b1)) (by rw [ek_17]; exact Arv_20.1) (State.isArrayOf_alike hZ.alike Arv_20.2.1) Arv_20.2.2 (inb_of Sv_20 ⟨by decide, by decide⟩) (Hv_20 1 (by rw [Sv_20]; decide)) (g := (mkF m 192 #[.val (.int p1), .val (.long q2), .second, .val (.int p3), .val (.int b0), .val (.int b1), .val (.int b2), .val (.int b3), .val (.int b4), .val (.ref ba_6), .val (.int len), .val (.int x), .val (.int (own_h0 len b0 b1 b2 b3 b4)), .unset] [(.int (1 : Int32)), (.ref ba_6)])) rfl rfl (hb hby at_192) _ k) ?_
      show own_Fin p e below _ (Tk_17.setTop (mkF m 193 #[.val (.int p1), .val (.long q2), .second, .val (.int p3), .val (.int b0), .val (.int b1), .val (.int b2), .val (.int b3), .val (.int b4), .val (.ref ba_6), .val (.int len), .val (.int x), .val (.int (own_h0 len b0 b1 b2 b3 b4)), .unset] [(.int b1)]))
      refine own_lift (fun t k => XS.iload Xk_17.here hx rfl (hb hby at_193) rfl k) ?_
      show own_Fin p e below _ (Tk_17.setTop (mkF m 195 #[.val (.int p1), .val (.long q2), .second, .val (.int p3), .val (.int b0), .val (.int b1), .val (.int b2), .val (.int b3), .val (.int b4), .val (.ref ba_6), .val (.int len), .val (.int x), .val (.int (own_h0 len b0 b1 b2 b3 b4)), .unset] [(.int b1), (.int b1)]))
      refine own_lift (fun t k => XS.icmpNo Xk_17.here hx rfl (hb hby at_195) rfl (teq (rfl : b1 = b1)).2 k) ?_
      show own_Fin p e below _ (Tk_17.setTop (mkF m 198 #[.val (.int p1), .val (.long q2), .second, .val (.int p3), .val (.int b0), .val (.int b1), .val (.int b2), .val (.int b3), .val (.int b4), .val (.ref ba_6), .val (.int len), .val (.int x), .val (.int (own_h0 len b0 b1 b2 b3 b4)), .unset] []))
      refine own_lift (fun t k => XS.aload Xk_17.here hx rfl (hb hby at_198) rfl rfl k) ?_
      show own_Fin p e below _ (Tk_17.setTop (mkF m 200 #[.val (.int p1), .val (.long q2), .second, .val (.int p3), .val (.int b0), .val (.int b1), .val (.int b2), .val (.int b3), .val (.int b4), .val (.ref ba_6), .val (.int len), .val (.int x), .val (.int (own_h0 len b0 b1 b2 b3 b4)), .unset] [(.ref ba_6)]))
      refine own_lift (fun t k => XS.iconst Xk_17.here hx rfl (hb hby at_200) k) ?_
      show own_Fin p e below _ (Tk_17.setTop (mkF m 201 #[.val (.int p1), .val (.long q2), .second, .val (.int p3), .val (.int b0), .val (.int b1), .val (.int b2), .val (.int b3), .val (.int b4), .val (.ref ba_6), .val (.int len), .val (.int x), .val (.int (own_h0 len b0 b1 b2 b3 b4)), .unset] [(.int (2 : Int32)), (.ref ba_6)]))
      have cpv_22 := Vw_16
      obtain ⟨clv_22, Arv_22, qv_22, Sv_22, Mv_22, Hv_22, Gv_22⟩ := cpv_22
      refine own_lift (fun t k => Xk_17.baloadBytes hx (j := (2 : Int32)) (v := (.int b2)) (by rw [ek_17]; exact Arv_22.1) (State.isArrayOf_alike hZ.alike Arv_22.2.1) Arv_22.2.2 (inb_of Sv_22 ⟨by decide, by decide⟩) (Hv_22 2 (by rw [Sv_22]; decide)) (g := (mkF m 201 #[.val (.int p1), .val (.long q2), .second, .val (.int p3), .val (.int b0), .val (.int b1), .val (.int b2), .val (.int b3), .val (.int b4), .val (.ref ba_6), .val (.int len), .val (.int x), .val (.int (own_h0 len b0 b1 b2 b3 b4)), .unset] [(.int (2 : Int32)), (.ref ba_6)])) rfl rfl (hb hby at_201) _ k) ?_
      show own_Fin p e below _ (Tk_17.setTop (mkF m 202 #[.val (.int p1), .val (.long q2), .second, .val (.int p3), .val (.int b0), .val (.int b1), .val (.int b2), .val (.int b3), .val (.int b4), .val (.ref ba_6), .val (.int len), .val (.int x), .val (.int (own_h0 len b0 b1 b2 b3 b4)), .unset] [(.int b2)]))
      refine own_lift (fun t k => XS.iload Xk_17.here hx rfl (hb hby at_202) rfl k) ?_
      show own_Fin p e below _ (Tk_17.setTop (mkF m 204 #[.val (.int p1), .val (.long q2), .second, .val (.int p3), .val (.int b0), .val (.int b1), .val (.int b2), .val (.int b3), .val (.int b4), .val (.ref ba_6), .val (.int len), .val (.int x), .val (.int (own_h0 len b0 b1 b2 b3 b4)), .unset] [(.int b2), (.int b2)]))
      refine own_lift (fun t k => XS.icmpNo Xk_17.here hx rfl (hb hby at_204) rfl (teq (rfl : b2 = b2)).2 k) ?_
      show own_Fin p e below _ (Tk_17.setTop (mkF m 207 #[.val (.int p1), .val (.long q2), .second, .val (.int p3), .val (.int b0), .val (.int b1), .val (.int b2), .val (.int b3), .val (.int b4), .val (.ref ba_6), .val (.int len), .val (.int x), .val (.int (own_h0 len b0 b1 b2 b3 b4)), .unset] []))
      refine own_lift (fun t k => XS.aload Xk_17.here hx rfl (hb hby at_207) rfl rfl k) ?_
      show own_Fin p e below _ (Tk_17.setTop (mkF m 209 #[.val (.int p1), .val (.long q2), .second, .val (.int p3), .val (.int b0), .val (.int b1), .val (.int b2), .val (.int b3), .val (.int b4), .val (.ref ba_6), .val (.int len), .val (.int x), .val (.int (own_h0 len b0 b1 b2 b3 b4)), .unset] [(.ref ba_6)]))
      refine own_lift (fun t k => XS.iconst Xk_17.here hx rfl (hb hby at_209) k) ?_
      show own_Fin p e below _ (Tk_17.setTop (mkF m 210 #[.val (.int p1), .val (.long q2), .second, .val (.int p3), .val (.int b0), .val (.int b1), .val (.int b2), .val (.int b3), .val (.int b4), .val (.ref ba_6), .val (.int len), .val (.int x), .val (.int (own_h0 len b0 b1 b2 b3 b4)), .unset] [(.int (3 : Int32)), (.ref ba_6)]))
      have cpv_24 := Vw_16
      obtain ⟨clv_24, Arv_24, qv_24, Sv_24, Mv_24, Hv_24, Gv_24⟩ := cpv_24
      refine own_lift (fun t k => Xk_17.baloadBytes hx (j := (3 : Int32)) (v := (.int b3)) (by rw [ek_17]; exact Arv_24.1) (State.isArrayOf_alike hZ.alike Arv_24.2.1) Arv_24.2.2 (inb_of Sv_24 ⟨by decide, by decide⟩) (Hv_24 3 (by rw [Sv_24]; decide)) (g := (mkF m 210 #[.val (.int p1), .val (.long q2), .second, .val (.int p3), .val (.int b0), .val (.int b1), .val (.int b2), .val (.int b3), .val (.int b4), .val (.ref ba_6), .val (.int len), .val (.int x), .val (.int (own_h0 len b0 b1 b2 b3 b4)), .unset] [(.int (3 : Int32)), (.ref ba_6)])) rfl rfl (hb hby at_210) _ k) ?_
      show own_Fin p e below _ (Tk_17.setTop (mkF m 211 #[.val (.int p1), .val (.long q2), .second, .val (.int p3), .val (.int b0), .val (.int b1), .val (.int b2), .val (.int b3), .val (.int b4), .val (.ref ba_6), .val (.int len), .val (.int x), .val (.int (own_h0 len b0 b1 b2 b3 b4)), .unset] [(.int b3)]))
      refine own_lift (fun t k => XS.iload Xk_17.here hx rfl (hb hby at_211) rfl k) ?_
      show own_Fin p e below _ (Tk_17.setTop (mkF m 213 #[.val (.int p1), .val (.long q2), .second, .val (.int p3), .val (.int b0), .val (.int b1), .val (.int b2), .val (.int b3), .val (.int b4), .val (.ref ba_6), .val (.int len), .val (.int x), .val (.int (own_h0 len b0 b1 b2 b3 b4)), .unset] [(.int b3), (.int b3)]))
      refine own_lift (fun t k => XS.icmpNo Xk_17.here hx rfl (hb hby at_213) rfl (teq (rfl : b3 = b3)).2 k) ?_
      show own_Fin p e below _ (Tk_17.setTop (mkF m 216 #[.val (.int p1), .val (.long q2), .second, .val (.int p3), .val (.int b0), .val (.int b1), .val (.int b2), .val (.int b3), .val (.int b4), .val (.ref ba_6), .val (.int len), .val (.int x), .val (.int (own_h0 len b0 b1 b2 b3 b4)), .unset] []))
      refine own_lift (fun t k => XS.aload Xk_17.here hx rfl (hb hby at_216) rfl rfl k) ?_
      show own_Fin p e below _ (Tk_17.setTop (mkF m 218 #[.val (.int p1), .val (.long q2), .second, .val (.int p3), .val (.int b0), .val (.int b1), .val (.int b2), .val (.int b3), .val (.int b4), .val (.ref ba_6), .val (.int len), .val (.int x), .val (.int (own_h0 len b0 b1 b2 b3 b4)), .unset] [(.ref ba_6)]))
      refine own_lift (fun t k => XS.iconst Xk_17.here hx rfl (hb hby at_218) k) ?_
      show own_Fin p e below _ (Tk_17.setTop (mkF m 219 #[.val (.int p1), .val (.long q2), .second, .val (.int p3), .val (.int b0), .val (.int b1), .val (.int b2), .val (.int b3), .val (.int b4), .val (.ref ba_6), .val (.int len), .val (.int x), .val (.int (own_h0 len b0 b1 b2 b3 b4)), .unset] [(.int (4 : Int32)), (.ref ba_6)]))
      have cpv_26 := Vw_16
      obtain ⟨clv_26, Arv_26, qv_26, Sv_26, Mv_26, Hv_26, Gv_26⟩ := cpv_26
      refine own_lift (fun t k => Xk_17.baloadBytes hx (j := (4 : Int32)) (v := (.int b4)) (by rw [ek_17]; exact Arv_26.1) (State.isArrayOf_alike hZ.alike Arv_26.2.1) Arv_26.2.2 (inb_of Sv_26 ⟨by decide, by decide⟩) (Hv_26 4 (by rw [Sv_26]; decide)) (g := (mkF m 219 #[.val (.int p1), .val (.long q2), .second, .val (.int p3), .val (.int b0), .val (.int b1), .val (.int b2), .val (.int b3), .val (.int b4), .val (.ref ba_6), .val (.int len), .val (.int x), .val (.int (own_h0 len b0 b1 b2 b3 b4)), .unset] [(.int (4 : Int32)), (.ref ba_6)])) rfl rfl (hb hby at_219) _ k) ?_
      show own_Fin p e below _ (Tk_17.setTop (mkF m 220 #[.val (.int p1), .val (.long q2), .second, .val (.int p3), .val (.int b0), .val (.int b1), .val (.int b2), .val (.int b3), .val (.int b4), .val (.ref ba_6), .val (.int len), .val (.int x), .val (.int (own_h0 len b0 b1 b2 b3 b4)), .unset] [(.int b4)]))
      refine own_lift (fun t k => XS.iload Xk_17.here hx rfl (hb hby at_220) rfl k) ?_
      show own_Fin p e below _ (Tk_17.setTop (mkF m 222 #[.val (.int p1), .val (.long q2), .second, .val (.int p3), .val (.int b0), .val (.int b1), .val (.int b2), .val (.int b3), .val (.int b4), .val (.ref ba_6), .val (.int len), .val (.int x), .val (.int (own_h0 len b0 b1 b2 b3 b4)), .unset] [(.int b4), (.int b4)]))
      refine own_lift (fun t k => XS.icmpNo Xk_17.here hx rfl (hb hby at_222) rfl (teq (rfl : b4 = b4)).2 k) ?_
      show own_Fin p e below _ (Tk_17.setTop (mkF m 225 #[.val (.int p1), .val (.long q2), .second, .val (.int p3), .val (.int b0), .val (.int b1), .val (.int b2), .val (.int b3), .val (.int b4), .val (.ref ba_6), .val (.int len), .val (.int x), .val (.int (own_h0 len b0 b1 b2 b3 b4)), .unset] []))
      refine own_lift (fun t k => XS.iconst Xk_17.here hx rfl (hb hby at_225) k) ?_
      show own_Fin p e below _ (Tk_17.setTop (mkF m 226 #[.val (.int p1), .val (.long q2), .second, .val (.int p3), .val (.int b0), .val (.int b1), .val (.int b2), .val (.int b3), .val (.int b4), .val (.ref ba_6), .val (.int len), .val (.int x), .val (.int (own_h0 len b0 b1 b2 b3 b4)), .unset] [(.int (1 : Int32))]))
      refine own_lift (fun t k => XS.goto Xk_17.here hx rfl (pc0 := 226) (pc' := 230) rfl (hb hby at_226) (by decide) (by decide) k) ?_
      show own_Fin p e below _ (Tk_17.setTop (mkF m 230 #[.val (.int p1), .val (.long q2), .second, .val (.int p3), .val (.int b0), .val (.int b1), .val (.int b2), .val (.int b3), .val (.int b4), .val (.ref ba_6), .val (.int len), .val (.int x), .val (.int (own_h0 len b0 b1 b2 b3 b4)), .unset] [(.int (1 : Int32))]))
      refine own_lift (fun t k => XS.istore Xk_17.here hx rfl (hb hby at_230) rfl (l' := #[.val (.int p1), .val (.long q2), .second, .val (.int p3), .val (.int b0), .val (.int b1), .val (.int b2), .val (.int b3), .val (.int b4), .val (.ref ba_6), .val (.int len), .val (.int x), .val (.int (own_h0 len b0 b1 b2 b3 b4)), .val (.int (1 : Int32))]) rfl k) ?_
      show own_Fin p e below _ (Tk_17.setTop (mkF m 232 #[.val (.int p1), .val (.long q2), .second, .val (.int p3), .val (.int b0), .val (.int b1), .val (.int b2), .val (.int b3), .val (.int b4), .val (.ref ba_6), .val (.int len), .val (.int x), .val (.int (own_h0 len b0 b1 b2 b3 b4)), .val (.int (1 : Int32))] []))
      refine own_lift (fun t k => XS.iload Xk_17.here hx rfl (hb hby at_232) rfl k) ?_
      show own_Fin p e below _ (Tk_17.setTop (mkF m 234 #[.val (.int p1), .val (.long q2), .second, .val (.int p3), .val (.int b0), .val (.int b1), .val (.int b2), .val (.int b3), .val (.int b4), .val (.ref ba_6), .val (.int len), .val (.int x), .val (.int (own_h0 len b0 b1 b2 b3 b4)), .val (.int (1 : Int32))] [(.int (own_h0 len b0 b1 b2 b3 b4))]))
      refine own_lift (fun t k => XS.iload Xk_17.here hx rfl (hb hby at_234) rfl k) ?_
      show own_Fin p e below _ (Tk_17.setTop (mkF m 236 #[.val (.int p1), .val (.long q2), .second, .val (.int p3), .val (.int b0), .val (.int b1), .val (.int b2), .val (.int b3), .val (.int b4), .val (.ref ba_6), .val (.int len), .val (.int x), .val (.int (own_h0 len b0 b1 b2 b3 b4)), .val (.int (1 : Int32))] [(.int x), (.int (own_h0 len b0 b1 b2 b3 b4))]))
      refine own_lift (fun t k => XS.icmpNo Xk_17.here hx rfl (hb hby at_236) rfl (teq hX).2 k) ?_
      show own_Fin p e below _ (Tk_17.setTop (mkF m 239 #[.val (.int p1), .val (.long q2), .second, .val (.int p3), .val (.int b0), .val (.int b1), .val (.int b2), .val (.int b3), .val (.int b4), .val (.ref ba_6), .val (.int len), .val (.int x), .val (.int (own_h0 len b0 b1 b2 b3 b4)), .val (.int (1 : Int32))] []))
      refine own_lift (fun t k => XS.iload Xk_17.here hx rfl (hb hby at_239) rfl k) ?_
      show own_Fin p e below _ (Tk_17.setTop (mkF m 241 #[.val (.int p1), .val (.long q2), .second, .val (.int p3), .val (.int b0), .val (.int b1), .val (.int b2), .val (.int b3), .val (.int b4), .val (.ref ba_6), .val (.int len), .val (.int x), .val (.int (own_h0 len b0 b1 b2 b3 b4)), .val (.int (1 : Int32))] [(.int (1 : Int32))]))
      refine own_lift (fun t k => XS.ifNo Xk_17.here hx rfl (hb hby at_241) rfl ((if0 _ _).trans (feq (by decide : ¬ ((1 : Int32) = (0 : Int32)))).1) k) ?_
      show own_Fin p e below _ (Tk_17.setTop (mkF m 244 #[.val (.int p1), .val (.long q2), .second, .val (.int p3), .val (.int b0), .val (.int b1), .val (.int b2), .val (.int b3), .val (.int b4), .val (.ref ba_6), .val (.int len), .val (.int x), .val (.int (own_h0 len b0 b1 b2 b3 b4)), .val (.int (1 : Int32))] []))
      refine own_lift (fun t k => XS.iconst Xk_17.here hx rfl (hb hby at_244) k) ?_
      show own_Fin p e below _ (Tk_17.setTop (mkF m 245 #[.val (.int p1), .val (.long q2), .second, .val (.int p3), .val (.int b0), .val (.int b1), .val (.int b2), .val (.int b3), .val (.int b4), .val (.ref ba_6), .val (.int len), .val (.int x), .val (.int (own_h0 len b0 b1 b2 b3 b4)), .val (.int (1 : Int32))] [(.int (1 : Int32))]))
      refine own_lift (fun t k => XS.goto Xk_17.here hx rfl (pc0 := 245) (pc' := 249) rfl (hb hby at_245) (by decide) (by decide) k) ?_
      show own_Fin p e below _ (Tk_17.setTop (mkF m 249 #[.val (.int p1), .val (.long q2), .second, .val (.int p3), .val (.int b0), .val (.int b1), .val (.int b2), .val (.int b3), .val (.int b4), .val (.ref ba_6), .val (.int len), .val (.int x), .val (.int (own_h0 len b0 b1 b2 b3 b4)), .val (.int (1 : Int32))] [(.int (1 : Int32))]))
      obtain ⟨fs, hr, hrun, hended, hW, hsame⟩ := Xk_17.leave (v := some (.int (1 : Int32))) (fun h => by rw [Bd.returns] at h; cases h)
      exact ⟨_, _, retN Xk_17 hx (t := .boolean) Bd.returns (by simp) (hb hby at_249) hr, hrun, hended, _, _, rfl, ⟨rfl, Nk_17⟩, ⟨_, rfl⟩, hW, hsame.mono (by decide) (by decide)⟩
    refine own_lift (fun t k => XS.iconst X.here hx rfl (hb hby at_84) k) ?_
    show own_Fin p e below _ (T.setTop (mkF m 85 #[.val (.int p1), .val (.long q2), .second, .val (.int p3), .val (.int b0), .val (.int b1), .val (.int b2), .val (.int b3), .val (.int b4), .val (.ref ba_6), .val (.int len), .unset, .unset, .unset] [(.int (0 : Int32))]))
    refine own_lift (fun t k => XS.istore X.here hx rfl (hb hby at_85) rfl (l' := #[.val (.int p1), .val (.long q2), .second, .val (.int p3), .val (.int b0), .val (.int b1), .val (.int b2), .val (.int b3), .val (.int b4), .val (.ref ba_6), .val (.int len), .val (.int (0 : Int32)), .unset, .unset]) rfl k) ?_
    show own_Fin p e below _ (T.setTop (mkF m 87 #[.val (.int p1), .val (.long q2), .second, .val (.int p3), .val (.int b0), .val (.int b1), .val (.int b2), .val (.int b3), .val (.int b4), .val (.ref ba_6), .val (.int len), .val (.int (0 : Int32)), .unset, .unset] []))
    refine own_lift (fun t k => XS.iload X.here hx rfl (hb hby at_87) rfl k) ?_
    show own_Fin p e below _ (T.setTop (mkF m 89 #[.val (.int p1), .val (.long q2), .second, .val (.int p3), .val (.int b0), .val (.int b1), .val (.int b2), .val (.int b3), .val (.int b4), .val (.ref ba_6), .val (.int len), .val (.int (0 : Int32)), .unset, .unset] [(.int len)]))
    by_cases hc89_30 : (0 : Int32) < len
    · refine own_lift (fun t k => XS.ifNo X.here hx rfl (hb hby at_89) rfl ((if0 _ _).trans (tlt hc89_30).2.2.2) k) ?_
      show own_Fin p e below _ (T.setTop (mkF m 92 #[.val (.int p1), .val (.long q2), .second, .val (.int p3), .val (.int b0), .val (.int b1), .val (.int b2), .val (.int b3), .val (.int b4), .val (.ref ba_6), .val (.int len), .val (.int (0 : Int32)), .unset, .unset] []))
      refine own_lift (fun t k => XS.iload X.here hx rfl (hb hby at_92) rfl k) ?_
      show own_Fin p e below _ (T.setTop (mkF m 94 #[.val (.int p1), .val (.long q2), .second, .val (.int p3), .val (.int b0), .val (.int b1), .val (.int b2), .val (.int b3), .val (.int b4), .val (.ref ba_6), .val (.int len), .val (.int (0 : Int32)), .unset, .unset] [(.int b0)]))
      obtain ⟨_, _, ⟨Tk_31, Lk_31, kk_31, nk_31⟩, -, Xk_31, ⟨Lck_31, hQk_31, lk_31, yk_31, zk_31⟩, stk_31⟩ := Jvm.LawKit.callS X hx (y := (⟨"com/example/ringvault/ringvault/http/MessageInputHeadStartPinLaw", "isBreak", "(B)Z"⟩ : MethodName)) hown (mvT hZ (hw _ (List.mem_of_getElem? (i := 6) rfl))) (mvT hZ (hw _ (List.mem_of_getElem? (i := 7) rfl))) (mvT hZ (hw _ (List.mem_of_getElem? (i := 2) rfl))) (mvT hZ (hw _ (List.mem_of_getElem? (i := 8) rfl))) (by decide) (backOf (W := 0) (rm2 l Z a0 hw [] b0 hw_16 n0 SZw_16) hZ (hw _ (List.mem_of_getElem? (i := 8) rfl)) (hw _ (List.mem_of_getElem? (i := 2) rfl)) (by decide) (by decide)) (g := (mkF m 94 #[.val (.int p1), .val (.long q2), .second, .val (.int p3), .val (.int b0), .val (.int b1), .val (.int b2), .val (.int b3), .val (.int b4), .val (.ref ba_6), .val (.int len), .val (.int (0 : Int32)), .unset, .unset] [(.int b0)])) rfl (by rw [hml]; rfl) (argsL := [(.int b0)]) (rest := []) (lenOf pd_2 rfl) rfl (by show 2 * 0 + _ ≤ _; exact Nat.le_of_eq rfl) (hb hby at_94) (fun _ _ => ⟨rfl, e1, (by decide : 1 + 0 ≤ _), (by decide : 5 + 0 ≤ _)⟩)
      dsimp only [Pt.U, Pt.locs, Pt.cells, Pt.slots] at Xk_31 lk_31 yk_31 zk_31 stk_31 hQk_31
      subst lk_31 yk_31 zk_31
      obtain ⟨rfl, Nk_31q, ek_31⟩ := hQk_31
      have Nk_31 := Fr.app N Nk_31q
      refine own_lift (fun t k => stk_31 _ k) ?_
      show own_Fin p e below _ (Tk_31.setTop (mkF m 97 #[.val (.int p1), .val (.long q2), .second, .val (.int p3), .val (.int b0), .val (.int b1), .val (.int b2), .val (.int b3), .val (.int b4), .val (.ref ba_6), .val (.int len), .val (.int (0 : Int32)), .unset, .unset] [(.int (own_brk b0))]))
      by_cases hc97_32 : (own_brk b0) = (0 : Int32)
      · refine own_lift (fun t k => XS.ifYes Xk_31.here hx rfl (pc0 := 97) (pc' := 171) rfl (hb hby at_97) rfl ((if0 _ _).trans (teq hc97_32).1) (by decide) (by decide) k) ?_
        show own_Fin p e below _ (Tk_31.setTop (mkF m 171 #[.val (.int p1), .val (.long q2), .second, .val (.int p3), .val (.int b0), .val (.int b1), .val (.int b2), .val (.int b3), .val (.int b4), .val (.ref ba_6), .val (.int len), .val (.int (0 : Int32)), .unset, .unset] []))
        exact j171 _ _ _ Xk_31 ek_31 Nk_31 (by simp [own_h0, own_h1, own_h2, own_h3, own_h4, own_h5, hc89_30, hc97_32])
      · refine own_lift (fun t k => XS.ifNo Xk_31.here hx rfl (hb hby at_97) rfl ((if0 _ _).trans (feq hc97_32).1) k) ?_
        show own_Fin p e below _ (Tk_31.setTop (mkF m 100 #[.val (.int p1), .val (.long q2), .second, .val (.int p3), .val (.int b0), .val (.int b1), .val (.int b2), .val (.int b3), .val (.int b4), .val (.ref ba_6), .val (.int len), .val (.int (0 : Int32)), .unset, .unset] []))
        refine own_lift (fun t k => XS.iconst Xk_31.here hx rfl (hb hby at_100) k) ?_
        show own_Fin p e below _ (Tk_31.setTop (mkF m 101 #[.val (.int p1), .val (.long q2), .second, .val (.int p3), .val (.int b0), .val (.int b1), .val (.int b2), .val (.int b3), .val (.int b4), .val (.ref ba_6), .val (.int len), .val (.int (0 : Int32)), .unset, .unset] [(.int (1 : Int32))]))
        refine own_lift (fun t k => XS.istore Xk_31.here hx rfl (hb hby at_101) rfl (l' := #[.val (.int p1), .val (.long q2), .second, .val (.int p3), .val (.int b0), .val (.int b1), .val (.int b2), .val (.int b3), .val (.int b4), .val (.ref ba_6), .val (.int len), .val (.int (1 : Int32)), .unset, .unset]) rfl k) ?_
        show own_Fin p e below _ (Tk_31.setTop (mkF m 103 #[.val (.int p1), .val (.long q2), .second, .val (.int p3), .val (.int b0), .val (.int b1), .val (.int b2), .val (.int b3), .val (.int b4), .val (.ref ba_6), .val (.int len), .val (.int (1 : Int32)), .unset, .unset] []))
        refine own_lift (fun t k => XS.iload Xk_31.here hx rfl (hb hby at_103) rfl k) ?_
        show own_Fin p e below _ (Tk_31.setTop (mkF m 105 #[.val (.int p1), .val (.long q2), .second, .val (.int p3), .val (.int b0), .val (.int b1), .val (.int b2), .val (.int b3), .val (.int b4), .val (.ref ba_6), .val (.int len), .val (.int (1 : Int32)), .unset, .unset] [(.int len)]))
        refine own_lift (fun t k => XS.iconst Xk_31.here hx rfl (hb hby at_105) k) ?_
        show own_Fin p e below _ (Tk_31.setTop (mkF m 106 #[.val (.int p1), .val (.long q2), .second, .val (.int p3), .val (.int b0), .val (.int b1), .val (.int b2), .val (.int b3), .val (.int b4), .val (.ref ba_6), .val (.int len), .val (.int (1 : Int32)), .unset, .unset] [(.int (1 : Int32)), (.int len)]))
        by_cases hc106_33 : (1 : Int32) < len
        · refine own_lift (fun t k => XS.icmpNo Xk_31.here hx rfl (hb hby at_106) rfl (tlt hc106_33).2.2.2 k) ?_
          show own_Fin p e below _ (Tk_31.setTop (mkF m 109 #[.val (.int p1), .val (.long q2), .second, .val (.int p3), .val (.int b0), .val (.int b1), .val (.int b2), .val (.int b3), .val (.int b4), .val (.ref ba_6), .val (.int len), .val (.int (1 : Int32)), .unset, .unset] []))
          refine own_lift (fun t k => XS.iload Xk_31.here hx rfl (hb hby at_109) rfl k) ?_
          show own_Fin p e below _ (Tk_31.setTop (mkF m 111 #[.val (.int p1), .val (.long q2), .second, .val (.int p3), .val (.int b0), .val (.int b1), .val (.int b2), .val (.int b3), .val (.int b4), .val (.ref ba_6), .val (.int len), .val (.int (1 : Int32)), .unset, .unset] [(.int b1)]))
          obtain ⟨_, _, ⟨Tk_34, Lk_34, kk_34, nk_34⟩, -, Xk_34, ⟨Lck_34, hQk_34, lk_34, yk_34, zk_34⟩, stk_34⟩ := Jvm.LawKit.callS Xk_31 hx (y := (⟨"com/example/ringvault/ringvault/http/MessageInputHeadStartPinLaw", "isBreak", "(B)Z"⟩ : MethodName)) hown (mvT hZ (hw _ (List.mem_of_getElem? (i := 6) rfl))) (mvT hZ (hw _ (List.mem_of_getElem? (i := 7) rfl))) (mvT hZ (hw _ (List.mem_of_getElem? (i := 2) rfl))) (mvT hZ (hw _ (List.mem_of_getElem? (i := 8) rfl))) (by decide) (backOf (W := 0) (rm2 l Z a0 hw [] b1 hw_16 n0 SZw_16) hZ (hw _ (List.mem_of_getElem? (i := 8) rfl)) (hw _ (List.mem_of_getElem? (i := 2) rfl)) (by decide) (by decide)) (g := (mkF m 111 #[.val (.int p1), .val (.long q2), .second, .val (.int p3), .val (.int b0), .val (.int b1), .val (.int b2), .val (.int b3), .val (.int b4), .val (.ref ba_6), .val (.int len), .val (.int (1 : Int32)), .unset, .unset] [(.int b1)])) rfl (by rw [hml]; rfl) (argsL := [(.int b1)]) (rest := []) (lenOf pd_2 rfl) rfl (by show 2 * 0 + _ ≤ _; exact Nat.le_of_eq rfl) (hb hby at_111) (fun _ _ => ⟨rfl, ek_31, (by decide : 1 + 0 ≤ _), (by decide : 5 + 0 ≤ _)⟩)
          dsimp only [Pt.U, Pt.locs, Pt.cells, Pt.slots] at Xk_34 lk_34 yk_34 zk_34 stk_34 hQk_34
          subst lk_34 yk_34 zk_34
          obtain ⟨rfl, Nk_34q, ek_34⟩ := hQk_34
          have Nk_34 := Fr.app Nk_31 Nk_34q
          refine own_lift (fun t k => stk_34 _ k) ?_
          show own_Fin p e below _ (Tk_34.setTop (mkF m 114 #[.val (.int p1), .val (.long q2), .second, .val (.int p3), .val (.int b0), .val (.int b1), .val (.int b2), .val (.int b3), .val (.int b4), .val (.ref ba_6), .val (.int len), .val (.int (1 : Int32)), .unset, .unset] [(.int (own_brk b1))]))
          by_cases hc114_35 : (own_brk b1) = (0 : Int32)
          · refine own_lift (fun t k => XS.ifYes Xk_34.here hx rfl (pc0 := 114) (pc' := 171) rfl (hb hby at_114) rfl ((if0 _ _).trans (teq hc114_35).1) (by decide) (by decide) k) ?_
            show own_Fin p e below _ (Tk_34.setTop (mkF m 171 #[.val (.int p1), .val (.long q2), .second, .val (.int p3), .val (.int b0), .val (.int b1), .val (.int b2), .val (.int b3), .val (.int b4), .val (.ref ba_6), .val (.int len), .val (.int (1 : Int32)), .unset, .unset] []))
            exact j171 _ _ _ Xk_34 ek_34 Nk_34 (by simp [own_h0, own_h1, own_h2, own_h3, own_h4, own_h5, hc89_30, hc97_32, hc106_33, hc114_35])
          · refine own_lift (fun t k => XS.ifNo Xk_34.here hx rfl (hb hby at_114) rfl ((if0 _ _).trans (feq hc114_35).1) k) ?_
            show own_Fin p e below _ (Tk_34.setTop (mkF m 117 #[.val (.int p1), .val (.long q2), .second, .val (.int p3), .val (.int b0), .val (.int b1), .val (.int b2), .val (.int b3), .val (.int b4), .val (.ref ba_6), .val (.int len), .val (.int (1 : Int32)), .unset, .unset] []))
            refine own_lift (fun t k => XS.iconst Xk_34.here hx rfl (hb hby at_117) k) ?_
            show own_Fin p e below _ (Tk_34.setTop (mkF m 118 #[.val (.int p1), .val (.long q2), .second, .val (.int p3), .val (.int b0), .val (.int b1), .val (.int b2), .val (.int b3), .val (.int b4), .val (.ref ba_6), .val (.int len), .val (.int (1 : Int32)), .unset, .unset] [(.int (2 : Int32))]))
            refine own_lift (fun t k => XS.istore Xk_34.here hx rfl (hb hby at_118) rfl (l' := #[.val (.int p1), .val (.long q2), .second, .val (.int p3), .val (.int b0), .val (.int b1), .val (.int b2), .val (.int b3), .val (.int b4), .val (.ref ba_6), .val (.int len), .val (.int (2 : Int32)), .unset, .unset]) rfl k) ?_
            show own_Fin p e below _ (Tk_34.setTop (mkF m 120 #[.val (.int p1), .val (.long q2), .second, .val (.int p3), .val (.int b0), .val (.int b1), .val (.int b2), .val (.int b3), .val (.int b4), .val (.ref ba_6), .val (.int len), .val (.int (2 : Int32)), .unset, .unset] []))
            refine own_lift (fun t k => XS.iload Xk_34.here hx rfl (hb hby at_120) rfl k) ?_
            show own_Fin p e below _ (Tk_34.setTop (mkF m 122 #[.val (.int p1), .val (.long q2), .second, .val (.int p3), .val (.int b0), .val (.int b1), .val (.int b2), .val (.int b3), .val (.int b4), .val (.ref ba_6), .val (.int len), .val (.int (2 : Int32)), .unset, .unset] [(.int len)]))
            refine own_lift (fun t k => XS.iconst Xk_34.here hx rfl (hb hby at_122) k) ?_
            show own_Fin p e below _ (Tk_34.setTop (mkF m 123 #[.val (.int p1), .val (.long q2), .second, .val (.int p3), .val (.int b0), .val (.int b1), .val (.int b2), .val (.int b3), .val (.int b4), .val (.ref ba_6), .val (.int len), .val (.int (2 : Int32)), .unset, .unset] [(.int (2 : Int32)), (.int len)]))
            by_cases hc123_36 : (2 : Int32) < len
            · refine own_lift (fun t k => XS.icmpNo Xk_34.here hx rfl (hb hby at_123) rfl (tlt hc123_36).2.2.2 k) ?_
              show own_Fin p e below _ (Tk_34.setTop (mkF m 126 #[.val (.int p1), .val (.long q2), .second, .val (.int p3), .val (.int b0), .val (.int b1), .val (.int b2), .val (.int b3), .val (.int b4), .val (.ref ba_6), .val (.int len), .val (.int (2 : Int32)), .unset, .unset] []))
              refine own_lift (fun t k => XS.iload Xk_34.here hx rfl (hb hby at_126) rfl k) ?_
              show own_Fin p e below _ (Tk_34.setTop (mkF m 128 #[.val (.int p1), .val (.long q2), .second, .val (.int p3), .val (.int b0), .val (.int b1), .val (.int b2), .val (.int b3), .val (.int b4), .val (.ref ba_6), .val (.int len), .val (.int (2 : Int32)), .unset, .unset] [(.int b2)]))
              obtain ⟨_, _, ⟨Tk_37, Lk_37, kk_37, nk_37⟩, -, Xk_37, ⟨Lck_37, hQk_37, lk_37, yk_37, zk_37⟩, stk_37⟩ := Jvm.LawKit.callS Xk_34 hx (y := (⟨"com/example/ringvault/ringvault/http/MessageInputHeadStartPinLaw", "isBreak", "(B)Z"⟩ : MethodName)) hown (mvT hZ (hw _ (List.mem_of_getElem? (i := 6) rfl))) (mvT hZ (hw _ (List.mem_of_getElem? (i := 7) rfl))) (mvT hZ (hw _ (List.mem_of_getElem? (i := 2) rfl))) (mvT hZ (hw _ (List.mem_of_getElem? (i := 8) rfl))) (by decide) (backOf (W := 0) (rm2 l Z a0 hw [] b2 hw_16 n0 SZw_16) hZ (hw _ (List.mem_of_getElem? (i := 8) rfl)) (hw _ (List.mem_of_getElem? (i := 2) rfl)) (by decide) (by decide)) (g := (mkF m 128 #[.val (.int p1), .val (.long q2), .second, .val (.int p3), .val (.int b0), .val (.int b1), .val (.int b2), .val (.int b3), .val (.int b4), .val (.ref ba_6), .val (.int len), .val (.int (2 : Int32)), .unset, .unset] [(.int b2)])) rfl (by rw [hml]; rfl) (argsL := [(.int b2)]) (rest := []) (lenOf pd_2 rfl) rfl (by show 2 * 0 + _ ≤ _; exact Nat.le_of_eq rfl) (hb hby at_128) (fun _ _ => ⟨rfl, ek_34, (by decide : 1 + 0 ≤ _), (by decide : 5 + 0 ≤ _)⟩)
              dsimp only [Pt.U, Pt.locs, Pt.cells, Pt.slots] at Xk_37 lk_37 yk_37 zk_37 stk_37 hQk_37
              subst lk_37 yk_37 zk_37
              obtain ⟨rfl, Nk_37q, ek_37⟩ := hQk_37
              have Nk_37 := Fr.app Nk_34 Nk_37q
              refine own_lift (fun t k => stk_37 _ k) ?_
              show own_Fin p e below _ (Tk_37.setTop (mkF m 131 #[.val (.int p1), .val (.long q2), .second, .val (.int p3), .val (.int b0), .val (.int b1), .val (.int b2), .val (.int b3), .val (.int b4), .val (.ref ba_6), .val (.int len), .val (.int (2 : Int32)), .unset, .unset] [(.int (own_brk b2))]))
              by_cases hc131_38 : (own_brk b2) = (0 : Int32)
              · refine own_lift (fun t k => XS.ifYes Xk_37.here hx rfl (pc0 := 131) (pc' := 171) rfl (hb hby at_131) rfl ((if0 _ _).trans (teq hc131_38).1) (by decide) (by decide) k) ?_
                show own_Fin p e below _ (Tk_37.setTop (mkF m 171 #[.val (.int p1), .val (.long q2), .second, .val (.int p3), .val (.int b0), .val (.int b1), .val (.int b2), .val (.int b3), .val (.int b4), .val (.ref ba_6), .val (.int len), .val (.int (2 : Int32)), .unset, .unset] []))
                exact j171 _ _ _ Xk_37 ek_37 Nk_37 (by simp [own_h0, own_h1, own_h2, own_h3, own_h4, own_h5, hc89_30, hc97_32, hc106_33, hc114_35, hc123_36, hc131_38])
              · refine own_lift (fun t k => XS.ifNo Xk_37.here hx rfl (hb hby at_131) rfl ((if0 _ _).trans (feq hc131_38).1) k) ?_
                show own_Fin p e below _ (Tk_37.setTop (mkF m 134 #[.val (.int p1), .val (.long q2), .second, .val (.int p3), .val (.int b0), .val (.int b1), .val (.int b2), .val (.int b3), .val (.int b4), .val (.ref ba_6), .val (.int len), .val (.int (2 : Int32)), .unset, .unset] []))
                refine own_lift (fun t k => XS.iconst Xk_37.here hx rfl (hb hby at_134) k) ?_
                show own_Fin p e below _ (Tk_37.setTop (mkF m 135 #[.val (.int p1), .val (.long q2), .second, .val (.int p3), .val (.int b0), .val (.int b1), .val (.int b2), .val (.int b3), .val (.int b4), .val (.ref ba_6), .val (.int len), .val (.int (2 : Int32)), .unset, .unset] [(.int (3 : Int32))]))
                refine own_lift (fun t k => XS.istore Xk_37.here hx rfl (hb hby at_135) rfl (l' := #[.val (.int p1), .val (.long q2), .second, .val (.int p3), .val (.int b0), .val (.int b1), .val (.int b2), .val (.int b3), .val (.int b4), .val (.ref ba_6), .val (.int len), .val (.int (3 : Int32)), .unset, .unset]) rfl k) ?_
                show own_Fin p e below _ (Tk_37.setTop (mkF m 137 #[.val (.int p1), .val (.long q2), .second, .val (.int p3), .val (.int b0), .val (.int b1), .val (.int b2), .val (.int b3), .val (.int b4), .val (.ref ba_6), .val (.int len), .val (.int (3 : Int32)), .unset, .unset] []))
                refine own_lift (fun t k => XS.iload Xk_37.here hx rfl (hb hby at_137) rfl k) ?_
                show own_Fin p e below _ (Tk_37.setTop (mkF m 139 #[.val (.int p1), .val (.long q2), .second, .val (.int p3), .val (.int b0), .val (.int b1), .val (.int b2), .val (.int b3), .val (.int b4), .val (.ref ba_6), .val (.int len), .val (.int (3 : Int32)), .unset, .unset] [(.int len)]))
                refine own_lift (fun t k => XS.iconst Xk_37.here hx rfl (hb hby at_139) k) ?_
                show own_Fin p e below _ (Tk_37.setTop (mkF m 140 #[.val (.int p1), .val (.long q2), .second, .val (.int p3), .val (.int b0), .val (.int b1), .val (.int b2), .val (.int b3), .val (.int b4), .val (.ref ba_6), .val (.int len), .val (.int (3 : Int32)), .unset, .unset] [(.int (3 : Int32)), (.int len)]))
                by_cases hc140_39 : (3 : Int32) < len
                · refine own_lift (fun t k => XS.icmpNo Xk_37.here hx rfl (hb hby at_140) rfl (tlt hc140_39).2.2.2 k) ?_
                  show own_Fin p e below _ (Tk_37.setTop (mkF m 143 #[.val (.int p1), .val (.long q2), .second, .val (.int p3), .val (.int b0), .val (.int b1), .val (.int b2), .val (.int b3), .val (.int b4), .val (.ref ba_6), .val (.int len), .val (.int (3 : Int32)), .unset, .unset] []))
                  refine own_lift (fun t k => XS.iload Xk_37.here hx rfl (hb hby at_143) rfl k) ?_
                  show own_Fin p e below _ (Tk_37.setTop (mkF m 145 #[.val (.int p1), .val (.long q2), .second, .val (.int p3), .val (.int b0), .val (.int b1), .val (.int b2), .val (.int b3), .val (.int b4), .val (.ref ba_6), .val (.int len), .val (.int (3 : Int32)), .unset, .unset] [(.int b3)]))
                  obtain ⟨_, _, ⟨Tk_40, Lk_40, kk_40, nk_40⟩, -, Xk_40, ⟨Lck_40, hQk_40, lk_40, yk_40, zk_40⟩, stk_40⟩ := Jvm.LawKit.callS Xk_37 hx (y := (⟨"com/example/ringvault/ringvault/http/MessageInputHeadStartPinLaw", "isBreak", "(B)Z"⟩ : MethodName)) hown (mvT hZ (hw _ (List.mem_of_getElem? (i := 6) rfl))) (mvT hZ (hw _ (List.mem_of_getElem? (i := 7) rfl))) (mvT hZ (hw _ (List.mem_of_getElem? (i := 2) rfl))) (mvT hZ (hw _ (List.mem_of_getElem? (i := 8) rfl))) (by decide) (backOf (W := 0) (rm2 l Z a0 hw [] b3 hw_16 n0 SZw_16) hZ (hw _ (List.mem_of_getElem? (i := 8) rfl)) (hw _ (List.mem_of_getElem? (i := 2) rfl)) (by decide) (by decide)) (g := (mkF m 145 #[.val (.int p1), .val (.long q2), .second, .val (.int p3), .val (.int b0), .val (.int b1), .val (.int b2), .val (.int b3), .val (.int b4), .val (.ref ba_6), .val (.int len), .val (.int (3 : Int32)), .unset, .unset] [(.int b3)])) rfl (by rw [hml]; rfl) (argsL := [(.int b3)]) (rest := []) (lenOf pd_2 rfl) rfl (by show 2 * 0 + _ ≤ _; exact Nat.le_of_eq rfl) (hb hby at_145) (fun _ _ => ⟨rfl, ek_37, (by decide : 1 + 0 ≤ _), (by decide : 5 + 0 ≤ _)⟩)
                  dsimp only [Pt.U, Pt.locs, Pt.cells, Pt.slots] at Xk_40 lk_40 yk_40 zk_40 stk_40 hQk_40
                  subst lk_40 yk_40 zk_40
                  obtain ⟨rfl, Nk_40q, ek_40⟩ := hQk_40
                  have Nk_40 := Fr.app Nk_37 Nk_40q
                  refine own_lift (fun t k => stk_40 _ k) ?_
                  show own_Fin p e below _ (Tk_40.setTop (mkF m 148 #[.val (.int p1), .val (.long q2), .second, .val (.int p3), .val (.int b0), .val (.int b1), .val (.int b2), .val (.int b3), .val (.int b4), .val (.ref ba_6), .val (.int len), .val (.int (3 : Int32)), .unset, .unset] [(.int (own_brk b3))]))
                  by_cases hc148_41 : (own_brk b3) = (0 : Int32)
                  · refine own_lift (fun t k => XS.ifYes Xk_40.here hx rfl (pc0 := 148) (pc' := 171) rfl (hb hby at_148) rfl ((if0 _ _).trans (teq hc148_41).1) (by decide) (by decide) k) ?_
                    show own_Fin p e below _ (Tk_40.setTop (mkF m 171 #[.val (.int p1), .val (.long q2), .second, .val (.int p3), .val (.int b0), .val (.int b1), .val (.int b2), .val (.int b3), .val (.int b4), .val (.ref ba_6), .val (.int len), .val (.int (3 : Int32)), .unset, .unset] []))
                    exact j171 _ _ _ Xk_40 ek_40 Nk_40 (by simp [own_h0, own_h1, own_h2, own_h3, own_h4, own_h5, hc89_30, hc97_32, hc106_33, hc114_35, hc123_36, hc131_38, hc140_39, hc148_41])
                  · refine own_lift (fun t k => XS.ifNo Xk_40.here hx rfl (hb hby at_148) rfl ((if0 _ _).trans (feq hc148_41).1) k) ?_
                    show own_Fin p e below _ (Tk_40.setTop (mkF m 151 #[.val (.int p1), .val (.long q2), .second, .val (.int p3), .val (.int b0), .val (.int b1), .val (.int b2), .val (.int b3), .val (.int b4), .val (.ref ba_6), .val (.int len), .val (.int (3 : Int32)), .unset, .unset] []))
                    refine own_lift (fun t k => XS.iconst Xk_40.here hx rfl (hb hby at_151) k) ?_
                    show own_Fin p e below _ (Tk_40.setTop (mkF m 152 #[.val (.int p1), .val (.long q2), .second, .val (.int p3), .val (.int b0), .val (.int b1), .val (.int b2), .val (.int b3), .val (.int b4), .val (.ref ba_6), .val (.int len), .val (.int (3 : Int32)), .unset, .unset] [(.int (4 : Int32))]))
                    refine own_lift (fun t k => XS.istore Xk_40.here hx rfl (hb hby at_152) rfl (l' := #[.val (.int p1), .val (.long q2), .second, .val (.int p3), .val (.int b0), .val (.int b1), .val (.int b2), .val (.int b3), .val (.int b4), .val (.ref ba_6), .val (.int len), .val (.int (4 : Int32)), .unset, .unset]) rfl k) ?_
                    show own_Fin p e below _ (Tk_40.setTop (mkF m 154 #[.val (.int p1), .val (.long q2), .second, .val (.int p3), .val (.int b0), .val (.int b1), .val (.int b2), .val (.int b3), .val (.int b4), .val (.ref ba_6), .val (.int len), .val (.int (4 : Int32)), .unset, .unset] []))
                    refine own_lift (fun t k => XS.iload Xk_40.here hx rfl (hb hby at_154) rfl k) ?_
                    show own_Fin p e below _ (Tk_40.setTop (mkF m 156 #[.val (.int p1), .val (.long q2), .second, .val (.int p3), .val (.int b0), .val (.int b1), .val (.int b2), .val (.int b3), .val (.int b4), .val (.ref ba_6), .val (.int len), .val (.int (4 : Int32)), .unset, .unset] [(.int len)]))
                    refine own_lift (fun t k => XS.iconst Xk_40.here hx rfl (hb hby at_156) k) ?_
                    show own_Fin p e below _ (Tk_40.setTop (mkF m 157 #[.val (.int p1), .val (.long q2), .second, .val (.int p3), .val (.int b0), .val (.int b1), .val (.int b2), .val (.int b3), .val (.int b4), .val (.ref ba_6), .val (.int len), .val (.int (4 : Int32)), .unset, .unset] [(.int (4 : Int32)), (.int len)]))
                    by_cases hc157_42 : (4 : Int32) < len
                    · refine own_lift (fun t k => XS.icmpNo Xk_40.here hx rfl (hb hby at_157) rfl (tlt hc157_42).2.2.2 k) ?_
                      show own_Fin p e below _ (Tk_40.setTop (mkF m 160 #[.val (.int p1), .val (.long q2), .second, .val (.int p3), .val (.int b0), .val (.int b1), .val (.int b2), .val (.int b3), .val (.int b4), .val (.ref ba_6), .val (.int len), .val (.int (4 : Int32)), .unset, .unset] []))
                      refine own_lift (fun t k => XS.iload Xk_40.here hx rfl (hb hby at_160) rfl k) ?_
                      show own_Fin p e below _ (Tk_40.setTop (mkF m 162 #[.val (.int p1), .val (.long q2), .second, .val (.int p3), .val (.int b0), .val (.int b1), .val (.int b2), .val (.int b3), .val (.int b4), .val (.ref ba_6), .val (.int len), .val (.int (4 : Int32)), .unset, .unset] [(.int b4)]))
                      obtain ⟨_, _, ⟨Tk_43, Lk_43, kk_43, nk_43⟩, -, Xk_43, ⟨Lck_43, hQk_43, lk_43, yk_43, zk_43⟩, stk_43⟩ := Jvm.LawKit.callS Xk_40 hx (y := (⟨"com/example/ringvault/ringvault/http/MessageInputHeadStartPinLaw", "isBreak", "(B)Z"⟩ : MethodName)) hown (mvT hZ (hw _ (List.mem_of_getElem? (i := 6) rfl))) (mvT hZ (hw _ (List.mem_of_getElem? (i := 7) rfl))) (mvT hZ (hw _ (List.mem_of_getElem? (i := 2) rfl))) (mvT hZ (hw _ (List.mem_of_getElem? (i := 8) rfl))) (by decide) (backOf (W := 0) (rm2 l Z a0 hw [] b4 hw_16 n0 SZw_16) hZ (hw _ (List.mem_of_getElem? (i := 8) rfl)) (hw _ (List.mem_of_getElem? (i := 2) rfl)) (by decide) (by decide)) (g := (mkF m 162 #[.val (.int p1), .val (.long q2), .second, .val (.int p3), .val (.int b0), .val (.int b1), .val (.int b2), .val (.int b3), .val (.int b4), .val (.ref ba_6), .val (.int len), .val (.int (4 : Int32)), .unset, .unset] [(.int b4)])) rfl (by rw [hml]; rfl) (argsL := [(.int b4)]) (rest := []) (lenOf pd_2 rfl) rfl (by show 2 * 0 + _ ≤ _; exact Nat.le_of_eq rfl) (hb hby at_162) (fun _ _ => ⟨rfl, ek_40, (by decide : 1 + 0 ≤ _), (by decide : 5 + 0 ≤ _)⟩)
                      dsimp only [Pt.U, Pt.locs, Pt.cells, Pt.slots] at Xk_43 lk_43 yk_43 zk_43 stk_43 hQk_43
                      subst lk_43 yk_43 zk_43
                      obtain ⟨rfl, Nk_43q, ek_43⟩ := hQk_43
                      have Nk_43 := Fr.app Nk_40 Nk_43q
                      refine own_lift (fun t k => stk_43 _ k) ?_
                      show own_Fin p e below _ (Tk_43.setTop (mkF m 165 #[.val (.int p1), .val (.long q2), .second, .val (.int p3), .val (.int b0), .val (.int b1), .val (.int b2), .val (.int b3), .val (.int b4), .val (.ref ba_6), .val (.int len), .val (.int (4 : Int32)), .unset, .unset] [(.int (own_brk b4))]))
                      by_cases hc165_44 : (own_brk b4) = (0 : Int32)
                      · refine own_lift (fun t k => XS.ifYes Xk_43.here hx rfl (pc0 := 165) (pc' := 171) rfl (hb hby at_165) rfl ((if0 _ _).trans (teq hc165_44).1) (by decide) (by decide) k) ?_
                        show own_Fin p e below _ (Tk_43.setTop (mkF m 171 #[.val (.int p1), .val (.long q2), .second, .val (.int p3), .val (.int b0), .val (.int b1), .val (.int b2), .val (.int b3), .val (.int b4), .val (.ref ba_6), .val (.int len), .val (.int (4 : Int32)), .unset, .unset] []))
                        exact j171 _ _ _ Xk_43 ek_43 Nk_43 (by simp [own_h0, own_h1, own_h2, own_h3, own_h4, own_h5, hc89_30, hc97_32, hc106_33, hc114_35, hc123_36, hc131_38, hc140_39, hc148_41, hc157_42, hc165_44])
                      · refine own_lift (fun t k => XS.ifNo Xk_43.here hx rfl (hb hby at_165) rfl ((if0 _ _).trans (feq hc165_44).1) k) ?_
                        show own_Fin p e below _ (Tk_43.setTop (mkF m 168 #[.val (.int p1), .val (.long q2), .second, .val (.int p3), .val (.int b0), .val (.int b1), .val (.int b2), .val (.int b3), .val (.int b4), .val (.ref ba_6), .val (.int len), .val (.int (4 : Int32)), .unset, .unset] []))
                        refine own_lift (fun t k => XS.iconst Xk_43.here hx rfl (hb hby at_168) k) ?_
                        show own_Fin p e below _ (Tk_43.setTop (mkF m 169 #[.val (.int p1), .val (.long q2), .second, .val (.int p3), .val (.int b0), .val (.int b1), .val (.int b2), .val (.int b3), .val (.int b4), .val (.ref ba_6), .val (.int len), .val (.int (4 : Int32)), .unset, .unset] [(.int (5 : Int32))]))
                        refine own_lift (fun t k => XS.istore Xk_43.here hx rfl (hb hby at_169) rfl (l' := #[.val (.int p1), .val (.long q2), .second, .val (.int p3), .val (.int b0), .val (.int b1), .val (.int b2), .val (.int b3), .val (.int b4), .val (.ref ba_6), .val (.int len), .val (.int (5 : Int32)), .unset, .unset]) rfl k) ?_
                        show own_Fin p e below _ (Tk_43.setTop (mkF m 171 #[.val (.int p1), .val (.long q2), .second, .val (.int p3), .val (.int b0), .val (.int b1), .val (.int b2), .val (.int b3), .val (.int b4), .val (.ref ba_6), .val (.int len), .val (.int (5 : Int32)), .unset, .unset] []))
                        exact j171 _ _ _ Xk_43 ek_43 Nk_43 (by simp [own_h0, own_h1, own_h2, own_h3, own_h4, own_h5, hc89_30, hc97_32, hc106_33, hc114_35, hc123_36, hc131_38, hc140_39, hc148_41, hc157_42, hc165_44])
                    · refine own_lift (fun t k => XS.icmpYes Xk_40.here hx rfl (pc0 := 157) (pc' := 171) rfl (hb hby at_157) rfl (flt hc157_42).2.2.2 (by decide) (by decide) k) ?_
                      show own_Fin p e below _ (Tk_40.setTop (mkF m 171 #[.val (.int p1), .val (.long q2), .second, .val (.int p3), .val (.int b0), .val (.int b1), .val (.int b2), .val (.int b3), .val (.int b4), .val (.ref ba_6), .val (.int len), .val (.int (4 : Int32)), .unset, .unset] []))
                      exact j171 _ _ _ Xk_40 ek_40 Nk_40 (by simp [own_h0, own_h1, own_h2, own_h3, own_h4, own_h5, hc89_30, hc97_32, hc106_33, hc114_35, hc123_36, hc131_38, hc140_39, hc148_41, hc157_42])
                · refine own_lift (fun t k => XS.icmpYes Xk_37.here hx rfl (pc0 := 140) (pc' := 171) rfl (hb hby at_140) rfl (flt hc140_39).2.2.2 (by decide) (by decide) k) ?_
                  show own_Fin p e below _ (Tk_37.setTop (mkF m 171 #[.val (.int p1), .val (.long q2), .second, .val (.int p3), .val (.int b0), .val (.int b1), .val (.int b2), .val (.int b3), .val (.int b4), .val (.ref ba_6), .val (.int len), .val (.int (3 : Int32)), .unset, .unset] []))
                  exact j171 _ _ _ Xk_37 ek_37 Nk_37 (by simp [own_h0, own_h1, own_h2, own_h3, own_h4, own_h5, hc89_30, hc97_32, hc106_33, hc114_35, hc123_36, hc131_38, hc140_39])
            · refine own_lift (fun t k => XS.icmpYes Xk_34.here hx rfl (pc0 := 123) (pc' := 171) rfl (hb hby at_123) rfl (flt hc123_36).2.2.2 (by decide) (by decide) k) ?_
              show own_Fin p e below _ (Tk_34.setTop (mkF m 171 #[.val (.int p1), .val (.long q2), .second, .val (.int p3), .val (.int b0), .val (.int b1), .val (.int b2), .val (.int b3), .val (.int b4), .val (.ref ba_6), .val (.int len), .val (.int (2 : Int32)), .unset, .unset] []))
              exact j171 _ _ _ Xk_34 ek_34 Nk_34 (by simp [own_h0, own_h1, own_h2, own_h3, own_h4, own_h5, hc89_30, hc97_32, hc106_33, hc114_35, hc123_36])
        · refine own_lift (fun t k => XS.icmpYes Xk_31.here hx rfl (pc0 := 106) (pc' := 171) rfl (hb hby at_106) rfl (flt hc106_33).2.2.2 (by decide) (by decide) k) ?_
          show own_Fin p e below _ (Tk_31.setTop (mkF m 171 #[.val (.int p1), .val (.long q2), .second, .val (.int p3), .val (.int b0), .val (.int b1), .val (.int b2), .val (.int b3), .val (.int b4), .val (.ref ba_6), .val (.int len), .val (.int (1 : Int32)), .unset, .unset] []))
          exact j171 _ _ _ Xk_31 ek_31 Nk_31 (by simp [own_h0, own_h1, own_h2, own_h3, own_h4, own_h5, hc89_30, hc97_32, hc106_33])
    · refine own_lift (fun t k => XS.ifYes X.here hx rfl (pc0 := 89) (pc' := 171) rfl (hb hby at_89) rfl ((if0 _ _).trans (flt hc89_30).2.2.2) (by decide) (by decide) k) ?_
      show own_Fin p e below _ (T.setTop (mkF m 171 #[.val (.int p1), .val (.long q2), .second, .val (.int p3), .val (.int b0), .val (.int b1), .val (.int b2), .val (.int b3), .val (.int b4), .val (.ref ba_6), .val (.int len), .val (.int (0 : Int32)), .unset, .unset] []))
      exact j171 _ _ _ X e1 N (by simp [own_h0, own_h1, own_h2, own_h3, own_h4, own_h5, hc89_30])
  exact j84 _ _ _ Xw_16 ew_16 Nw_16 (own_len p3)
set_option maxRecDepth 65536 in
set_option maxHeartbeats 40000000 in
theorem comes_1 {Post : Tables → Env → Array Value → State → Outcome → State → Prop} (hpost : ∀ tb e args s v u, (limb_1_1.after args s (.returned v) u = true ∧ limb_1_2.after args s (.returned v) u = true ∧ True) → FrameEnd s (.returned v) u (Jvm.fieldLocs frame_1_writes args s ++ Jvm.arrayLocs frame_1_arrays args s ++ Jvm.staticLocs frame_1_statics s) 16 128 → Post tb e args s (.returned v) u) :
    ArmFor flags0 classFile x code maxLocals ret World_1 tables_1 room_1 Calls_1 rest_1 Pre_1 Post := by
  intro l hfl _ _ p e ha hc hk s m args below hf hA hF happ hP
  obtain ⟨hcalls, hrest, hpre⟩ := hP
  obtain ⟨-, -, -, hnamed, -, -, -, hat⟩ := (Spec.applies_iff hf).mp happ
  obtain ⟨hg, hn⟩ := and_e (Cond.before_iff.mp (show (Jvm.Cond.and given_1 narrow_1).before args s = true from hpre))
  obtain ⟨gc, g0⟩ := and_e hg
  obtain ⟨c0, g1⟩ := and_e g0
  obtain ⟨c1, g2⟩ := and_e g1
  obtain ⟨w0, w1, w2, rfl⟩ : ∃ w0 w1 w2 : Value, args = #[w0, w1, w2] := by
    have hs : args.size = 3 := by simpa [Cond.value, given_1] using gc
    obtain ⟨L⟩ := args
    match L, hs with
    | [w0, w1, w2], _ => exact ⟨w0, w1, w2, rfl⟩
  have hw := fun d (hd : d ∈ tables_1) => atoms_spec (ws := Jvm.Cond.code x code maxLocals ret :: tables_1) hat d (List.mem_cons_of_mem _ hd)
  obtain ⟨i0, ei0⟩ := is_v c0
  obtain rfl : w0 = (.int i0) := Option.some.inj ei0
  obtain ⟨i1, ei1⟩ := isL_v c1
  obtain rfl : w1 = (.long i1) := Option.some.inj ei1
  obtain ⟨i2, ei2⟩ := is_v g2
  obtain rfl : w2 = (.int i2) := Option.some.inj ei2
  obtain ⟨n, o, h1, h2, h3, _, L, rfl, ⟨rfl, N⟩, hq⟩ := rm0 l s _ hw tables_1 i0 i1 i2 s.heap s.heap.size (Nat.le_refl _) p e ha hc hk s m _ below hf ((Spec.applies_iff_loose hf).mp happ).1 ⟨rfl, State.Warmed39.refl s, rfl⟩ trivial
  refine ⟨n, _, h1, h2, h3, hpost _ _ _ _ _ _ ⟨Cond.after_iff.mpr rfl, Cond.after_iff.mpr (eq_i res_at (Term.int_eval (1)) rfl), trivial⟩ ⟨hq.1, hq.2.1, (hq.2.2.sift fun y hy => Or.inr (N y hy)).mono (by decide) (by decide)⟩⟩
theorem main_1_1 : Claimed_1_1 := comes_1 fun _ _ _ _ _ _ h hF => ⟨h.1, hF⟩
theorem main_1_2 : Claimed_1_2 := comes_1 fun _ _ _ _ _ _ h hF => ⟨h.2.1, hF⟩
end Jvm.Pilot.@@N@@
namespace Jvm.Pilot.@@N@@
open Jvm Jvm.ClassFile Sem Op Lib Jvm.Free Jvm.Stand Jvm.Pilot.@@N@@.Jvm.D
/-! MADE BY PROGRAM (witnessworld.py) out of the Statement's table words and the real class files: 9 classes; the members and pool entries that the words name. The judged class is class 1, her method 3. -/
namespace start1
open Jvm.ClassFile
def u (s : String) : CpInfo := .utf8 (stringToUtf16 s)
/-- a pool by its gaps: so many unusable entries, then the entry; so many at the end -/
def gap : Nat → List CpInfo → List CpInfo
  | 0, r => r
  | n + 1, r => .unusable :: gap n r
def poolList (es : List (Nat × CpInfo)) (last : Nat) : List CpInfo := es.foldr (fun e r => gap e.1 (e.2 :: r)) (gap last [])
def pool (es : List (Nat × CpInfo)) (last : Nat) : Array CpInfo := ⟨poolList es last⟩
def fileOf (pool : Array CpInfo) (this : Nat) (attrs : Array Attribute := #[]) (ms : Array MethodInfo := #[]) (fl : Nat := 33) (sup : Nat := 0) (ifs : Array Nat := #[]) (fds : Array FieldInfo := #[]) : ClassFile where
  minorVersion := 0
  majorVersion := 65
  constantPool := pool
  accessFlags := fl
  thisClass := this
  superClass := sup
  interfaces := ifs
  fields := fds
  methods := ms
  attributes := attrs
def plain (name : String) (sup : Option ClassId) : Class where
  name := name
  kind := .ordinary
  loader := none
  accessFlags := 33
  super := sup
  interfaces := #[]
  cf := none
  fields := #[]
  methods := #[]
  instanceTypes := #[]
  staticTypes := #[]
  resolved := #[]
  callSites := []
  init := .initialized
  statics := none
  mirror := none

def pool0 : Array CpInfo := pool [(5, u "<init>"), (0, u "()V"), (1, .class_ 10), (1, u "java/lang/Object")] 113

def k0m0 : Method := { name := "<init>", desc := "()V", sig := { parameters := [], returnType := none }, accessFlags := 1, code := none }
/-- java/lang/Object -/
def k0 : Class := { plain "java/lang/Object" none with
  accessFlags := 33
  interfaces := #[]
  cf := some (fileOf pool0 8 #[] #[{ accessFlags := 1, nameIndex := 5, descriptorIndex := 6, attributes := #[] }] 33 0 #[] #[])
  fields := #[]
  methods := #[k0m0]
  instanceTypes := #[]
  staticTypes := #[]
  resolved := Array.replicate 124 none
  statics := none }

def pool1 : Array CpInfo := pool [(2, .class_ 4), (1, u "java/lang/Object"), (0, u "<init>"), (0, u "()V"), (0, .methodref 8 9), (0, .class_ 10), (0, .nameAndType 11 12), (0, u "com/example/ringvault/ringvault/http/MessageInputHeadStartPinLaw"), (0, u "pick"), (0, u "(IJI)B"), (0, .integer 2147483647), (0, .methodref 8 15), (0, .nameAndType 16 17), (0, u "isBreak"), (0, u "(B)Z"), (0, .methodref 19 20), (0, .class_ 21), (0, .nameAndType 22 23), (0, u "com/example/ringvault/ringvault/http/MessageInput"), (0, u "headStart"), (0, u "([BI)I"), (3, u "law"), (0, u "(IJI)Z")] 4

def k1m0 : Method := { name := "<init>", desc := "()V", sig := { parameters := [], returnType := none }, accessFlags := 1, code := none }
def k1c1 : Code := { maxStack := 2, maxLocals := 1, code := method_2_code, exceptionTable := #[], attributes := #[] }
def k1m1 : Method := { name := "isBreak", desc := "(B)Z", sig := { parameters := [.byte], returnType := some .boolean }, accessFlags := 10, code := some k1c1 }
def k1c2 : Code := { maxStack := 4, maxLocals := 5, code := method_3_code, exceptionTable := #[], attributes := #[] }
def k1m2 : Method := { name := "pick", desc := "(IJI)B", sig := { parameters := [.int, .long, .int], returnType := some .byte }, accessFlags := 10, code := some k1c2 }
def k1c3 : Code := { maxStack := 4, maxLocals := 14, code := code, exceptionTable := #[], attributes := #[] }
def k1m3 : Method := { name := "law", desc := "(IJI)Z", sig := { parameters := [.int, .long, .int], returnType := some .boolean }, accessFlags := 9, code := some k1c3 }
/-- com/example/ringvault/ringvault/http/MessageInputHeadStartPinLaw -/
def k1 : Class := { plain "com/example/ringvault/ringvault/http/MessageInputHeadStartPinLaw" (some 0) with
  accessFlags := 49
  interfaces := #[]
  cf := some (fileOf pool1 8 #[] #[{ accessFlags := 1, nameIndex := 5, descriptorIndex := 6, attributes := #[] }, { accessFlags := 10, nameIndex := 16, descriptorIndex := 17, attributes := #[] }, { accessFlags := 10, nameIndex := 11, descriptorIndex := 12, attributes := #[] }, { accessFlags := 9, nameIndex := 27, descriptorIndex := 28, attributes := #[] }] 49 2 #[] #[])
  fields := #[]
  methods := #[k1m0, k1m1, k1m2, k1m3]
  instanceTypes := #[]
  staticTypes := #[]
  resolved := Array.replicate 33 none
  statics := none }

def pool2 : Array CpInfo := pool [(2, .class_ 4), (1, u "com/example/ringvault/ringvault/http/MessageInput"), (3, .class_ 10), (1, u "java/lang/Object"), (3, u "in"), (0, u "Ljava/io/InputStream;"), (2, u "sender"), (0, u "Ljava/lang/String;"), (2, u "message"), (14, u "buffer"), (0, u "[B"), (2, u "limit"), (0, u "I"), (2, u "headStart"), (0, u "([BI)I"), (6, u "taken"), (0, u "J"), (2, u "position"), (78, .class_ 137), (0, u "com/example/ringvault/ringvault/http/MessageInput$Header"), (25, .class_ 164), (0, u "com/example/ringvault/ringvault/http/MessageInput$FixedBody"), (3, .class_ 169), (0, u "com/example/ringvault/ringvault/http/MessageInput$ChunkedBody"), (3, .class_ 174), (0, u "com/example/ringvault/ringvault/http/MessageInput$BodyToTheEnd"), (16, u "MAX_LINE"), (2, u "MAX_HEAD"), (25, .class_ 221), (0, u "com/example/ringvault/ringvault/http/MessageInput$Body")] 28

def k2c0 : Code := { maxStack := 2, maxLocals := 3, code := prog_33_method_3_code, exceptionTable := #[], attributes := #[] }
def k2m0 : Method := { name := "headStart", desc := "([BI)I", sig := { parameters := [(.array .byte), .int], returnType := some .int }, accessFlags := 8, code := some k2c0 }
/-- com/example/ringvault/ringvault/http/MessageInput -/
def k2 : Class := { plain "com/example/ringvault/ringvault/http/MessageInput" (some 0) with
  accessFlags := 48
  interfaces := #[]
  cf := some (fileOf pool2 2 #[.nestMembers #[173, 168, 163, 220, 136]] #[{ accessFlags := 8, nameIndex := 45, descriptorIndex := 46, attributes := #[] }] 48 8 #[] #[{ accessFlags := 26, nameIndex := 191, descriptorIndex := 42, attributes := #[] }, { accessFlags := 26, nameIndex := 194, descriptorIndex := 42, attributes := #[] }, { accessFlags := 18, nameIndex := 14, descriptorIndex := 15, attributes := #[] }, { accessFlags := 18, nameIndex := 18, descriptorIndex := 19, attributes := #[] }, { accessFlags := 18, nameIndex := 22, descriptorIndex := 19, attributes := #[] }, { accessFlags := 18, nameIndex := 37, descriptorIndex := 38, attributes := #[] }, { accessFlags := 2, nameIndex := 57, descriptorIndex := 42, attributes := #[] }, { accessFlags := 2, nameIndex := 41, descriptorIndex := 42, attributes := #[] }, { accessFlags := 2, nameIndex := 53, descriptorIndex := 54, attributes := #[] }])
  fields := #[{ name := "MAX_LINE", type := .int, accessFlags := 26, slot := 0, constantValue := 0 }, { name := "MAX_HEAD", type := .int, accessFlags := 26, slot := 1, constantValue := 0 }, { name := "in", type := (.object "java/io/InputStream"), accessFlags := 18, slot := 0, constantValue := 0 }, { name := "sender", type := (.object "java/lang/String"), accessFlags := 18, slot := 1, constantValue := 0 }, { name := "message", type := (.object "java/lang/String"), accessFlags := 18, slot := 2, constantValue := 0 }, { name := "buffer", type := (.array .byte), accessFlags := 18, slot := 3, constantValue := 0 }, { name := "position", type := .int, accessFlags := 2, slot := 4, constantValue := 0 }, { name := "limit", type := .int, accessFlags := 2, slot := 5, constantValue := 0 }, { name := "taken", type := .long, accessFlags := 2, slot := 6, constantValue := 0 }]
  methods := #[k2m0]
  instanceTypes := #[(.object "java/io/InputStream"), (.object "java/lang/String"), (.object "java/lang/String"), (.array .byte), .int, .int, .long]
  staticTypes := #[.int, .int]
  resolved := Array.replicate 250 none
  statics := none }

def pool3 : Array CpInfo := pool [(1, u "java/lang/Cloneable"), (0, .class_ 1), (0, u "java/lang/Object"), (0, .class_ 3)] 3

/-- java/lang/Cloneable -/
def k3 : Class := { plain "java/lang/Cloneable" (some 0) with
  accessFlags := 1537
  interfaces := #[]
  cf := some (fileOf pool3 2 #[] #[] 1537 4 #[] #[])
  fields := #[]
  methods := #[]
  instanceTypes := #[]
  staticTypes := #[]
  resolved := Array.replicate 8 none
  statics := none }

def pool4 : Array CpInfo := pool [(1, u "java/io/Serializable"), (0, .class_ 1), (0, u "java/lang/Object"), (0, .class_ 3)] 3

/-- java/io/Serializable -/
def k4 : Class := { plain "java/io/Serializable" (some 0) with
  accessFlags := 1537
  interfaces := #[]
  cf := some (fileOf pool4 2 #[] #[] 1537 4 #[] #[])
  fields := #[]
  methods := #[]
  instanceTypes := #[]
  staticTypes := #[]
  resolved := Array.replicate 8 none
  statics := none }

/-- the primitive byte -/
def k5 : Class := { plain "byte" none with kind := .primitive 'B', accessFlags := 0x411 }
/-- [B -/
def k6 : Class := { plain "[B" (some 0) with kind := .array 5 .byte, interfaces := #[3, 4], accessFlags := 1041 }

/-- the primitive int -/
def k7 : Class := { plain "int" none with kind := .primitive 'I', accessFlags := 0x411 }
/-- [I -/
def k8 : Class := { plain "[I" (some 0) with kind := .array 7 .int, interfaces := #[3, 4], accessFlags := 1041 }

def heap : Heap := #[]
def classes : Array Class := #[k0, k1, k2, k3, k4, k5, k6, k7, k8]
def interned : List (Array UInt16 × Addr) := []
def slotsUsed : Nat := 0
def theMethod : MethodId := ⟨1, 3⟩
def args0 : Array Value := #[.int 5, .long 7, .int 3]
def aboutOver (below : List Frame) : State where
  vm := { classes := classes, interned := interned.toArray }
  heap := heap
  slotsUsed := slotsUsed
  threads := #[{ frames := .invoking theMethod args0 :: below }]
def below0 : List Frame := [.native { method := ⟨0, 0⟩, args := #[] }]
def about1 : State := aboutOver below0
def p0 : Program := .bare "" "" ""
def e0 : Env := launch0.env 0 0 0
theorem w_frames : about1.frames = Frame.invoking theMethod args0 :: below0 := rfl
set_option maxRecDepth 65536 in
theorem w_args : argsFit about1.vm theMethod args0 = true := by decide +kernel
set_option maxRecDepth 65536 in
theorem w_heap : heapFits about1 = true := by decide +kernel
set_option maxRecDepth 65536 in
theorem w_runnable : about1.curStatus? = some .runnable := by decide +kernel
set_option maxRecDepth 65536 in
theorem w_alone : about1.alone = true := by decide +kernel
set_option maxRecDepth 65536 in
theorem w_named : about1.methodNamed? x = some theMethod := by decide +kernel
set_option maxRecDepth 65536 in
theorem w_hears : about1.hears theMethod below0 = true := by decide +kernel
set_option maxRecDepth 65536 in
theorem w_ripe : about1.ripe theMethod args0 below0 = true := by decide +kernel
theorem w_running : about1.status = .running := rfl
set_option maxRecDepth 65536 in
theorem w_room : about1.hasRoom e0.platform room_1 = true :=
  launch0.hasRoom_least _ room_1 (by decide +kernel) (by decide +kernel) (by decide +kernel) (by decide +kernel) (by decide +kernel) (by decide +kernel)
theorem allAtoms_all (ts : List Jvm.Cond) (a : Array Jvm.Value) (st : Jvm.State) : (allAtoms ts).before a st = ts.all (fun c => c.before a st) := by
  induction ts with
  | nil => rfl
  | cons c t ih =>
    show (Jvm.Cond.and c (allAtoms t)).before a st = _
    rw [Jvm.Cond.before_and, ih, List.all_cons]
def words1 : List Jvm.Cond := Jvm.Cond.code x code maxLocals ret :: tables_1
/-- a 'code' word, met by the world's own term for the bytes: nothing is compared byte by byte -/
theorem code_word {y : MethodName} {bytes : ByteArray} {mx : Nat} {rt : Option FieldType} {a : Array Value} {s : State} {m : MethodId} {meth : Method} {c : Code} (h1 : s.methodNamed? y = some m) (h2 : s.vm.method? m = some meth) (h3 : meth.code = some c) (h4 : c.code = bytes)
    (h5 : (c.maxLocals == mx && c.exceptionTable.isEmpty && decide (c.maxStack ≤ mostOperands) && decide (meth.sig.returnType = rt) && !meth.locks && decide (parseMethodDescriptor y.desc = some meth.sig)) = true) : (Jvm.Cond.code y bytes mx rt).before a s = true := by
  simp only [Bool.and_eq_true, beq_iff_eq, Bool.not_eq_true', decide_eq_true_eq] at h5
  obtain ⟨⟨⟨⟨⟨g1, g2⟩, g3⟩, g4⟩, g5⟩, g6⟩ := h5
  simp [Cond.before, Cond.holds, Cond.value, h1, h2, h3, h4, g1, g2, g3, g4, g5, g6]
def isCode : Jvm.Cond → Bool
  | .code _ _ _ _ => true
  | _ => false
theorem all_split {L : List Jvm.Cond} {P : Jvm.Cond → Bool} (h1 : L.all (fun c => isCode c || P c) = true) (h2 : ∀ c ∈ L.filter isCode, P c = true) : L.all P = true := by
  refine List.all_eq_true.mpr fun c hc => ?_
  have h := List.all_eq_true.mp h1 c hc
  rcases Bool.eq_false_or_eq_true (isCode c) with hi | hi
  · exact h2 c (List.mem_filter.mpr ⟨hc, hi⟩)
  · simpa [hi] using h
set_option maxRecDepth 65536 in
theorem w_c0 : (Jvm.Cond.code x code maxLocals ret).before args0 about1 = true := code_word (m := ⟨1, 3⟩) (meth := k1m3) (c := k1c3) (by decide +kernel) rfl rfl rfl (by decide +kernel)
set_option maxRecDepth 65536 in
theorem w_c1 : (Jvm.Cond.code ({ cls := "com/example/ringvault/ringvault/http/MessageInputHeadStartPinLaw", name := "pick", desc := "(IJI)B" } : Jvm.MethodName) method_3_code (5 : Nat) (Option.some Jvm.ClassFile.FieldType.byte)).before args0 about1 = true := code_word (m := ⟨1, 2⟩) (meth := k1m2) (c := k1c2) (by decide +kernel) rfl rfl rfl (by decide +kernel)
set_option maxRecDepth 65536 in
theorem w_c2 : (Jvm.Cond.code ({ cls := "com/example/ringvault/ringvault/http/MessageInputHeadStartPinLaw", name := "isBreak", desc := "(B)Z" } : Jvm.MethodName) method_2_code (1 : Nat) (Option.some Jvm.ClassFile.FieldType.boolean)).before args0 about1 = true := code_word (m := ⟨1, 1⟩) (meth := k1m1) (c := k1c1) (by decide +kernel) rfl rfl rfl (by decide +kernel)
set_option maxRecDepth 65536 in
theorem w_c3 : (Jvm.Cond.code ({ cls := "com/example/ringvault/ringvault/http/MessageInput", name := "headStart", desc := "([BI)I" } : Jvm.MethodName) prog_33_method_3_code (3 : Nat) (Option.some Jvm.ClassFile.FieldType.int)).before args0 about1 = true := code_word (m := ⟨2, 0⟩) (meth := k2m0) (c := k2c0) (by decide +kernel) rfl rfl rfl (by decide +kernel)
def codes1 : List Jvm.Cond := [Jvm.Cond.code x code maxLocals ret, Jvm.Cond.code ({ cls := "com/example/ringvault/ringvault/http/MessageInputHeadStartPinLaw", name := "pick", desc := "(IJI)B" } : Jvm.MethodName) method_3_code (5 : Nat) (Option.some Jvm.ClassFile.FieldType.byte), Jvm.Cond.code ({ cls := "com/example/ringvault/ringvault/http/MessageInputHeadStartPinLaw", name := "isBreak", desc := "(B)Z" } : Jvm.MethodName) method_2_code (1 : Nat) (Option.some Jvm.ClassFile.FieldType.boolean), Jvm.Cond.code ({ cls := "com/example/ringvault/ringvault/http/MessageInput", name := "headStart", desc := "([BI)I" } : Jvm.MethodName) prog_33_method_3_code (3 : Nat) (Option.some Jvm.ClassFile.FieldType.int)]
set_option maxRecDepth 65536 in
theorem codes_eq : words1.filter isCode = codes1 := rfl
theorem w_codes : ∀ c ∈ words1.filter isCode, c.before args0 about1 = true := by
  rw [codes_eq]
  intro c hc
  simp only [codes1, List.mem_cons, List.not_mem_nil, or_false] at hc
  rcases hc with rfl | rfl | rfl | rfl
  · exact w_c0
  · exact w_c1
  · exact w_c2
  · exact w_c3
set_option maxRecDepth 65536 in
theorem w_t1 : words1.all (fun c => isCode c || c.before args0 about1) = true := by decide +kernel
theorem w_tables : (allAtoms (Jvm.Cond.code x code maxLocals ret :: tables_1)).before args0 about1 = true := by
  rw [allAtoms_all]
  show words1.all (fun c => c.before args0 about1) = true
  refine all_split ?_ w_codes
  rw [w_t1]
set_option maxRecDepth 65536 in
theorem w_case : (Jvm.Cond.and given_1 narrow_1).before args0 about1 = true := by decide +kernel
theorem w_applies : (headSpec (Jvm.Cond.code x code maxLocals ret :: tables_1) room_1).applies x e0.platform about1 = true :=
  (Spec.applies_iff w_frames).mpr ⟨w_running, w_runnable, w_alone, w_named, w_hears, w_ripe, w_room, w_tables⟩
theorem atStart : AtStart classFile x code maxLocals ret World_1 tables_1 room_1 Calls_1 rest_1 Pre_1 launch0 p0 e0 about1 theMethod args0 below0 :=
  ⟨lists_1, trivial, launch0.admits_env _ _ _, launch0.least_env, fairChoices_fair.cas, fairChoices_fair.clock, w_frames, w_args, w_heap, w_applies, trivial, trivial, w_case⟩
end start1
theorem witness_1 : WitnessClaimed_1 := ⟨start1.p0, start1.e0, start1.about1, start1.theMethod, start1.args0, start1.below0, start1.atStart⟩
end Jvm.Pilot.@@N@@
