import JvmDerived
import JvmDerived.Pilot.@@N@@Statement
import JvmDerived.Pilot.@@N@@Code
set_option linter.unusedVariables false
set_option linter.unusedSimpArgs false
@@BLOCK:NumsL.lean.txt@@
namespace Jvm.RoadKit
open Sem ClassFile Op Lib Jvm.Stand Jvm.Free Jvm.LawKit
section New
variable {p : Program} {l : Launch} {e : Env} {R : Room} {s : State} {m : MethodId} {args : Array Value} {below : List Frame} {meth : Method} {c : Code} {T : State} {locs : List Loc} {cells slots : Nat}
theorem retI (X : Stand p l e R s m args below meth c T locs cells slots) (hx : p.tables.exec = Jvm.exec) {pc : Nat} {Ls : Array Slot} {z : Int32} {rest : List Value} (hret : meth.sig.returnType = some .int) (hd : decode c.code pc = .ok (.ireturn, 1)) {fs : List Frame}
    (hl : ∀ (f : JFrame) (acts : List Action), f.method = m → f.locked = none → f.entered = [] → (doReturn e (T.setTop f) acts (some (.int z))).1 = T.setFrames fs) : Steps p.tables e below (T.setTop (mkF m pc Ls (.int z :: rest))) (T.setFrames fs) := by
  have hm' : T.vm.method? m = some meth := X.method'
  have hn : narrow .int (.int z) = .int z := rfl
  show Steps p.tables e below (T.setTop { method := m, pc := pc, locals := Ls, stack := _ :: rest, locked := none }) _
  jvm_step X.here [X.here.top, hx, hd, hm', hret, hn]
  first | (intro acts; rw [hl _ acts rfl rfl rfl]) | rw [hl _ _ rfl rfl rfl]
  exact Steps.refl _
end New
end Jvm.RoadKit
namespace Jvm.Pilot.@@N@@
open Jvm Jvm.ClassFile Sem Op Lib Jvm.Free Jvm.Stand Jvm.LawKit Jvm.RoadKit Bundle Jvm.Pilot.@@N@@.Jvm.D
def own_Fin (p : Program) (e : Env) (below : List Frame) (G : Outcome → State → Prop) (st : State) : Prop :=
  ∃ s₂ o, Steps p.tables e below st s₂ ∧ s₂.status = .running ∧ Ended s₂ below o ∧ G o s₂
theorem own_lift {p : Program} {e : Env} {below : List Frame} {G : Outcome → State → Prop} {st st' : State} (k : ∀ t, Steps p.tables e below st' t → Steps p.tables e below st t) (h : own_Fin p e below G st') : own_Fin p e below G st := by
  obtain ⟨t, o, h1, h2⟩ := h
  exact ⟨t, o, k t h1, h2⟩

/-! the plain law -/
def own_full (a : Int64) : Int64 := (a.toUInt64 >>> ((12 : Int32) &&& 0x3f).toInt64.toUInt64).toInt64
def own_ent (a b : Int64) : Int64 := ((((a + 4096) - 1) / 4096) + (2 * a)) + b
theorem own_eq (r e : Int64) (part : Int64) (hp : part = if (r &&& 1152921504606846975) &&& 4095 = 0 then 0 else 1) :
    own_ent (r &&& 1152921504606846975) (e &&& 1152921504606846975) = (((own_full (r &&& 1152921504606846975) + part) + (r &&& 1152921504606846975)) + (r &&& 1152921504606846975)) + (e &&& 1152921504606846975) := by
  have a1 : (r &&& 1152921504606846975).toInt = r.toInt % 2 ^ 60 := Jvm.Kit.i64_mask r 1152921504606846975 (k := 60) (by decide) (by decide)
  have b1 : (e &&& 1152921504606846975).toInt = e.toInt % 2 ^ 60 := Jvm.Kit.i64_mask e 1152921504606846975 (k := 60) (by decide) (by decide)
  generalize (r &&& 1152921504606846975) = a at *
  generalize (e &&& 1152921504606846975) = b at *
  have a2 : 0 ≤ a.toInt := by omega
  have a3 : a.toInt < 2 ^ 60 := by omega
  have b2 : 0 ≤ b.toInt := by omega
  have b3 : b.toInt < 2 ^ 60 := by omega
  have m1 : (a &&& 4095).toInt = a.toInt % 2 ^ 12 := Jvm.Kit.i64_mask a 4095 (k := 12) (by decide) (by decide)
  have f1 : (own_full a).toInt = a.toInt / 2 ^ 12 := Jvm.Kit.i64_lushr (Jvm.Kit.i64_nonneg.mpr a2) (by decide) (by decide)
  have p1 : part.toInt = if a.toInt % 2 ^ 12 = 0 then 0 else 1 := by
    rw [hp]
    by_cases h : a &&& 4095 = 0
    · have : a.toInt % 2 ^ 12 = 0 := by rw [← m1, h]; rfl
      rw [if_pos h, if_pos this]; rfl
    · have : ¬ a.toInt % 2 ^ 12 = 0 := fun q => h (Int64.toInt_inj.mp (by rw [m1, q]; rfl))
      rw [if_neg h, if_neg this]; rfl
  have c1 : (4096 : Int64).toInt = 4096 := rfl
  have c2 : (1 : Int64).toInt = 1 := rfl
  have c3 : (2 : Int64).toInt = 2 := rfl
  have d1 : (a + 4096).toInt = a.toInt + 4096 := by rw [Jvm.Kit.i64_add (by omega) (by omega), c1]
  have d2 : (a + 4096 - 1).toInt = a.toInt + 4095 := by rw [Jvm.Kit.i64_sub (by omega) (by omega), d1, c2]; omega
  have d3 : ((a + 4096 - 1) / 4096).toInt = (a.toInt + 4095) / 4096 := by
    rw [Jvm.Kit.i64_div (by rw [c1]; omega), d2, c1, Int.tdiv_eq_ediv_of_nonneg (by omega)]
  have d4 : (2 * a).toInt = 2 * a.toInt := by rw [Jvm.Kit.i64_mul (by rw [c3]; omega) (by rw [c3]; omega), c3]
  have d5 : (((a + 4096 - 1) / 4096) + 2 * a).toInt = (a.toInt + 4095) / 4096 + 2 * a.toInt := by rw [Jvm.Kit.i64_add (by omega) (by omega), d3, d4]
  have d6 : (own_ent a b).toInt = (a.toInt + 4095) / 4096 + 2 * a.toInt + b.toInt := by unfold own_ent; rw [Jvm.Kit.i64_add (by omega) (by omega), d5]
  have hq : part.toInt = 0 ∨ part.toInt = 1 := by rw [p1]; split <;> simp
  have g1 : (own_full a + part).toInt = a.toInt / 2 ^ 12 + part.toInt := by rw [Jvm.Kit.i64_add (by omega) (by omega), f1]
  have g2 : (own_full a + part + a).toInt = a.toInt / 2 ^ 12 + part.toInt + a.toInt := by rw [Jvm.Kit.i64_add (by omega) (by omega), g1]
  have g3 : (own_full a + part + a + a).toInt = a.toInt / 2 ^ 12 + part.toInt + a.toInt + a.toInt := by rw [Jvm.Kit.i64_add (by omega) (by omega), g2]
  have g4 : (own_full a + part + a + a + b).toInt = a.toInt / 2 ^ 12 + part.toInt + a.toInt + a.toInt + b.toInt := by rw [Jvm.Kit.i64_add (by omega) (by omega), g3]
  apply Int64.toInt_inj.mp
  rw [d6, g4, p1]
  split <;> omega

theorem d1_0 : decode prog_10_method_8_code 0 = .ok (.lload_n 0, 1) := by decide +kernel
theorem d1_1 : decode prog_10_method_8_code 1 = .ok (.ldc2_w 185, 3) := by decide +kernel
theorem d1_4 : decode prog_10_method_8_code 4 = .ok (.ladd, 1) := by decide +kernel
theorem d1_5 : decode prog_10_method_8_code 5 = .ok (.lconst 1, 1) := by decide +kernel
theorem d1_6 : decode prog_10_method_8_code 6 = .ok (.lsub, 1) := by decide +kernel
theorem d1_7 : decode prog_10_method_8_code 7 = .ok (.ldc2_w 185, 3) := by decide +kernel
theorem d1_10 : decode prog_10_method_8_code 10 = .ok (.ldiv, 1) := by decide +kernel
theorem d1_11 : decode prog_10_method_8_code 11 = .ok (.ldc2_w 187, 3) := by decide +kernel
theorem d1_14 : decode prog_10_method_8_code 14 = .ok (.lload_n 0, 1) := by decide +kernel
theorem d1_15 : decode prog_10_method_8_code 15 = .ok (.lmul, 1) := by decide +kernel
theorem d1_16 : decode prog_10_method_8_code 16 = .ok (.ladd, 1) := by decide +kernel
theorem d1_17 : decode prog_10_method_8_code 17 = .ok (.lload_n 2, 1) := by decide +kernel
theorem d1_18 : decode prog_10_method_8_code 18 = .ok (.ladd, 1) := by decide +kernel
theorem d1_19 : decode prog_10_method_8_code 19 = .ok (.lreturn, 1) := by decide +kernel
theorem pn_1 : plainName "com/example/grain_lineage/grainlineage/JobGraphCodec" = true := by first | (simp [plainName, overriddenIn]; done) | decide +kernel
theorem ef_1 (m : MethodId) (x0 : Int64) (x1 : Int64) : entryFrame m #[(.long x0), (.long x1)] 4 = mkF m 0 #[.val (.long x0), .second, .val (.long x1), .second] [] := by first | (simp [entryFrame, mkF, argsToLocals, Value.category]; done) | rfl
def Q1 (Z : State) (q1 q2 : Int64) (h0 : Heap) (n0 : Nat) (v : Option Value) (h : Heap) (L : List Loc) : Prop := v = some (.long (own_ent q1 q2)) ∧ Fr n0 L ∧ h = h0
set_option maxRecDepth 65536 in
set_option maxHeartbeats 40000000 in
theorem rm1 (l : Launch) (Z : State) (a0 : Array Value) (hw : ∀ d ∈ tables_1, d.before a0 Z = true) (ws : List Jvm.Cond) (q1 q2 : Int64) (h0 : Heap) (n0 : Nat) (Z0 : n0 ≤ h0.size) :
    MetFree l (⟨"com/example/grain_lineage/grainlineage/JobGraphCodec", "entries", "(JJ)J"⟩ : MethodName) (head1 (Jvm.Cond.code (⟨"com/example/grain_lineage/grainlineage/JobGraphCodec", "entries", "(JJ)J"⟩ : MethodName) prog_10_method_8_code 4 (some .long) :: ws) ({ frames := 0, cells := 0, slots := 0, locals := 0 } : Room)) (fun a U => a = #[(.long q1), (.long q2)] ∧ Z.Warmed39 U.vm ∧ U.heap = h0) (fun _ _ _ _ _ => True) (fun _ U o U' => ∃ v L, o = .returned v ∧ Q1 Z q1 q2 h0 n0 v U'.heap L ∧ FrameEnd U o U' L ({ frames := 0, cells := 0, slots := 0, locals := 0 } : Room).cells ({ frames := 0, cells := 0, slots := 0, locals := 0 } : Room).slots) := by
  refine MetFree.of_bodySF (plainFor_of_name pn_1) hisR ?_
  intro p e s m args below meth c s₁ Bd hml0 hP hK
  obtain ⟨rfl, hZ, hh⟩ := hP
  have hx := Bd.exec
  have hby := Bd.bytes
  have hml : c.maxLocals = 4 := hml0
  have hown : s.vm.findClass "com/example/grain_lineage/grainlineage/JobGraphCodec" = some m.cls := findClass_of_methodNamed Bd.named
  have hnm := (name_of_methodNamed Bd.named Bd.method).1
  have X0 : Stand p l e ({ frames := 0, cells := 0, slots := 0, locals := 0 } : Room) s m #[(.long q1), (.long q2)] below meth c s₁ [] 0 0 := Stand.of_body Bd
  have e0 : s₁.heap = h0 := by rw [← hh, Bd.state]; rfl
  have N0 := Fr.nil n0
  show own_Fin p e below (fun o U' => ∃ v L, o = .returned v ∧ Q1 Z q1 q2 h0 n0 v U'.heap L ∧ FrameEnd s o U' L ({ frames := 0, cells := 0, slots := 0, locals := 0 } : Room).cells ({ frames := 0, cells := 0, slots := 0, locals := 0 } : Room).slots) (s₁.setTop (entryFrame m #[(.long q1), (.long q2)] 4))
  refine own_lift (fun t k => castTop (ef_1 m q1 q2) k) ?_
  show own_Fin p e below _ (s₁.setTop (mkF m 0 #[.val (.long q1), .second, .val (.long q2), .second] []))
  refine own_lift (fun t k => XS.lloadN X0.here hx rfl (hb hby d1_0) rfl k) ?_
  show own_Fin p e below _ (s₁.setTop (mkF m 1 #[.val (.long q1), .second, .val (.long q2), .second] [(.long q1)]))
  refine own_lift (fun t k => X0.ldc2J hx hown (mvT hZ (hw _ (List.mem_of_getElem? (i := 6) rfl))) rfl (hb hby d1_1) k) ?_
  show own_Fin p e below _ (s₁.setTop (mkF m 4 #[.val (.long q1), .second, .val (.long q2), .second] [(.long (4096 : Int64)), (.long q1)]))
  refine own_lift (fun t k => XS.ladd X0.here hx rfl (hb hby d1_4) rfl k) ?_
  show own_Fin p e below _ (s₁.setTop (mkF m 5 #[.val (.long q1), .second, .val (.long q2), .second] [(.long (q1 + (4096 : Int64)))]))
  refine own_lift (fun t k => XS.lconst X0.here hx rfl (hb hby d1_5) k) ?_
  show own_Fin p e below _ (s₁.setTop (mkF m 6 #[.val (.long q1), .second, .val (.long q2), .second] [(.long (1 : Int64)), (.long (q1 + (4096 : Int64)))]))
  refine own_lift (fun t k => XS.lsub X0.here hx rfl (hb hby d1_6) rfl k) ?_
  show own_Fin p e below _ (s₁.setTop (mkF m 7 #[.val (.long q1), .second, .val (.long q2), .second] [(.long ((q1 + (4096 : Int64)) - (1 : Int64)))]))
  refine own_lift (fun t k => X0.ldc2J hx hown (mvT hZ (hw _ (List.mem_of_getElem? (i := 6) rfl))) rfl (hb hby d1_7) k) ?_
  show own_Fin p e below _ (s₁.setTop (mkF m 10 #[.val (.long q1), .second, .val (.long q2), .second] [(.long (4096 : Int64)), (.long ((q1 + (4096 : Int64)) - (1 : Int64)))]))
  refine own_lift (fun t k => XS.ldiv X0.here hx rfl (hb hby d1_10) rfl (by decide) k) ?_
  show own_Fin p e below _ (s₁.setTop (mkF m 11 #[.val (.long q1), .second, .val (.long q2), .second] [(.long (((q1 + (4096 : Int64)) - (1 : Int64)) / (4096 : Int64)))]))
  refine own_lift (fun t k => X0.ldc2J hx hown (mvT hZ (hw _ (List.mem_of_getElem? (i := 7) rfl))) rfl (hb hby d1_11) k) ?_
  show own_Fin p e below _ (s₁.setTop (mkF m 14 #[.val (.long q1), .second, .val (.long q2), .second] [(.long (2 : Int64)), (.long (((q1 + (4096 : Int64)) - (1 : Int64)) / (4096 : Int64)))]))
  refine own_lift (fun t k => XS.lloadN X0.here hx rfl (hb hby d1_14) rfl k) ?_
  show own_Fin p e below _ (s₁.setTop (mkF m 15 #[.val (.long q1), .second, .val (.long q2), .second] [(.long q1), (.long (2 : Int64)), (.long (((q1 + (4096 : Int64)) - (1 : Int64)) / (4096 : Int64)))]))
  refine own_lift (fun t k => XS.lmul X0.here hx rfl (hb hby d1_15) rfl k) ?_
  show own_Fin p e below _ (s₁.setTop (mkF m 16 #[.val (.long q1), .second, .val (.long q2), .second] [(.long ((2 : Int64) * q1)), (.long (((q1 + (4096 : Int64)) - (1 : Int64)) / (4096 : Int64)))]))
  refine own_lift (fun t k => XS.ladd X0.here hx rfl (hb hby d1_16) rfl k) ?_
  show own_Fin p e below _ (s₁.setTop (mkF m 17 #[.val (.long q1), .second, .val (.long q2), .second] [(.long ((((q1 + (4096 : Int64)) - (1 : Int64)) / (4096 : Int64)) + ((2 : Int64) * q1)))]))
  refine own_lift (fun t k => XS.lloadN X0.here hx rfl (hb hby d1_17) rfl k) ?_
  show own_Fin p e below _ (s₁.setTop (mkF m 18 #[.val (.long q1), .second, .val (.long q2), .second] [(.long q2), (.long ((((q1 + (4096 : Int64)) - (1 : Int64)) / (4096 : Int64)) + ((2 : Int64) * q1)))]))
  refine own_lift (fun t k => XS.ladd X0.here hx rfl (hb hby d1_18) rfl k) ?_
  show own_Fin p e below _ (s₁.setTop (mkF m 19 #[.val (.long q1), .second, .val (.long q2), .second] [(.long (((((q1 + (4096 : Int64)) - (1 : Int64)) / (4096 : Int64)) + ((2 : Int64) * q1)) + q2))]))
  obtain ⟨fs, hr, hrun, hended, hW, hsame⟩ := X0.leave (v := some (.long (((((q1 + (4096 : Int64)) - (1 : Int64)) / (4096 : Int64)) + ((2 : Int64) * q1)) + q2))) (fun h => by rw [Bd.returns] at h; cases h)
  refine ⟨_, _, ?_, hrun, hended, _, _, rfl, ⟨rfl, N0, e0⟩, ⟨_, rfl⟩, hW, hsame.mono (by decide) (by decide)⟩
  jvm_step X0.here [X0.here.top, hx, (hb hby d1_19), X0.method', Bd.returns, narrow]
  first | (intro acts; rw [hr _ acts rfl rfl rfl]) | rw [hr _ _ rfl rfl rfl]
  exact Steps.refl _
theorem pd_1 : parseMethodDescriptor "(JJ)J" = some ⟨[.long, .long], some .long⟩ := by decide +kernel
theorem pn_0 : plainName "com/example/grain_lineage/grainlineage/JobGraphCodecEntriesPinLaw" = true := by first | (simp [plainName, overriddenIn]; done) | decide +kernel
theorem ef_0 (m : MethodId) (x0 : Int64) (x1 : Int64) : entryFrame m #[(.long x0), (.long x1)] maxLocals = mkF m 0 #[.val (.long x0), .second, .val (.long x1), .second, .unset, .unset, .unset, .unset, .unset, .unset, .unset, .unset, .unset, .unset] [] := by first | (simp [entryFrame, mkF, argsToLocals, Value.category, maxLocals]; done) | rfl
def Q0 (Z : State) (q1 q2 : Int64) (h0 : Heap) (n0 : Nat) (v : Option Value) (h : Heap) (L : List Loc) : Prop := v = some (.int (1 : Int32)) ∧ Fr n0 L
set_option maxRecDepth 65536 in
set_option maxHeartbeats 40000000 in
theorem rm0 (l : Launch) (Z : State) (a0 : Array Value) (hw : ∀ d ∈ tables_1, d.before a0 Z = true) (ws : List Jvm.Cond) (q1 q2 : Int64) (h0 : Heap) (n0 : Nat) (Z0 : n0 ≤ h0.size) :
    MetFree l x (head1 (Jvm.Cond.code x code maxLocals ret :: ws) room_1) (fun a U => a = #[(.long q1), (.long q2)] ∧ Z.Warmed39 U.vm ∧ U.heap = h0) (fun _ _ _ _ _ => True) (fun _ U o U' => ∃ v L, o = .returned v ∧ Q0 Z q1 q2 h0 n0 v U'.heap L ∧ FrameEnd U o U' L room_1.cells room_1.slots) := by
  refine MetFree.of_bodySF (plainFor_of_name pn_0) hisR ?_
  intro p e s m args below meth c s₁ Bd hml0 hP hK
  obtain ⟨rfl, hZ, hh⟩ := hP
  have hx := Bd.exec
  have hby := Bd.bytes
  have hml : c.maxLocals = 14 := hml0
  have hown : s.vm.findClass "com/example/grain_lineage/grainlineage/JobGraphCodecEntriesPinLaw" = some m.cls := findClass_of_methodNamed Bd.named
  have hnm := (name_of_methodNamed Bd.named Bd.method).1
  have X0 : Stand p l e room_1 s m #[(.long q1), (.long q2)] below meth c s₁ [] 0 0 := Stand.of_body Bd
  have e0 : s₁.heap = h0 := by rw [← hh, Bd.state]; rfl
  have N0 := Fr.nil n0
  show own_Fin p e below (fun o U' => ∃ v L, o = .returned v ∧ Q0 Z q1 q2 h0 n0 v U'.heap L ∧ FrameEnd s o U' L room_1.cells room_1.slots) (s₁.setTop (entryFrame m #[(.long q1), (.long q2)] maxLocals))
  have j37 : ∀ (T1 : State) (locs1 : List Loc) (part : Int64), Stand p l e room_1 s m #[(.long q1), (.long q2)] below meth c T1 locs1 0 0 → T1.heap = h0 → Fr n0 locs1 → (part = if ((q1 &&& (1152921504606846975 : Int64)) &&& (4095 : Int64)) = 0 then 0 else 1) → own_Fin p e below (fun o U' => ∃ v L, o = .returned v ∧ Q0 Z q1 q2 h0 n0 v U'.heap L ∧ FrameEnd s o U' L room_1.cells room_1.slots) (T1.setTop (mkF m 37 #[.val (.long q1), .second, .val (.long q2), .second, .val (.long (q1 &&& (1152921504606846975 : Int64))), .second, .val (.long (q2 &&& (1152921504606846975 : Int64))), .second, .val (.long (((q1 &&& (1152921504606846975 : Int64)).toUInt64 >>> ((12 : Int32) &&& 0x3f).toInt64.toUInt64).toInt64)), .second, .unset, .unset, .unset, .unset] [(.long part)])) := by
    intro T1 locs1 part X1 e1 N1 hP
    have hL : (lcmpW (own_ent (q1 &&& (1152921504606846975 : Int64)) (q2 &&& (1152921504606846975 : Int64))) (((((((q1 &&& (1152921504606846975 : Int64)).toUInt64 >>> ((12 : Int32) &&& 0x3f).toInt64.toUInt64).toInt64) + part) + (q1 &&& (1152921504606846975 : Int64))) + (q1 &&& (1152921504606846975 : Int64))) + (q2 &&& (1152921504606846975 : Int64)))) = (0 : Int32) := (lw_eq _ _).mpr (own_eq q1 q2 part hP)
    refine own_lift (fun t k => XS.lstore X1.here hx rfl (hb hby at_37) rfl (l' := #[.val (.long q1), .second, .val (.long q2), .second, .val (.long (q1 &&& (1152921504606846975 : Int64))), .second, .val (.long (q2 &&& (1152921504606846975 : Int64))), .second, .val (.long (((q1 &&& (1152921504606846975 : Int64)).toUInt64 >>> ((12 : Int32) &&& 0x3f).toInt64.toUInt64).toInt64)), .second, .val (.long part), .second, .unset, .unset]) rfl k) ?_
    show own_Fin p e below _ (T1.setTop (mkF m 39 #[.val (.long q1), .second, .val (.long q2), .second, .val (.long (q1 &&& (1152921504606846975 : Int64))), .second, .val (.long (q2 &&& (1152921504606846975 : Int64))), .second, .val (.long (((q1 &&& (1152921504606846975 : Int64)).toUInt64 >>> ((12 : Int32) &&& 0x3f).toInt64.toUInt64).toInt64)), .second, .val (.long part), .second, .unset, .unset] []))
    refine own_lift (fun t k => XS.lload X1.here hx rfl (hb hby at_39) rfl k) ?_
    show own_Fin p e below _ (T1.setTop (mkF m 41 #[.val (.long q1), .second, .val (.long q2), .second, .val (.long (q1 &&& (1152921504606846975 : Int64))), .second, .val (.long (q2 &&& (1152921504606846975 : Int64))), .second, .val (.long (((q1 &&& (1152921504606846975 : Int64)).toUInt64 >>> ((12 : Int32) &&& 0x3f).toInt64.toUInt64).toInt64)), .second, .val (.long part), .second, .unset, .unset] [(.long (((q1 &&& (1152921504606846975 : Int64)).toUInt64 >>> ((12 : Int32) &&& 0x3f).toInt64.toUInt64).toInt64))]))
    refine own_lift (fun t k => XS.lload X1.here hx rfl (hb hby at_41) rfl k) ?_
    show own_Fin p e below _ (T1.setTop (mkF m 43 #[.val (.long q1), .second, .val (.long q2), .second, .val (.long (q1 &&& (1152921504606846975 : Int64))), .second, .val (.long (q2 &&& (1152921504606846975 : Int64))), .second, .val (.long (((q1 &&& (1152921504606846975 : Int64)).toUInt64 >>> ((12 : Int32) &&& 0x3f).toInt64.toUInt64).toInt64)), .second, .val (.long part), .second, .unset, .unset] [(.long part), (.long (((q1 &&& (1152921504606846975 : Int64)).toUInt64 >>> ((12 : Int32) &&& 0x3f).toInt64.toUInt64).toInt64))]))
    refine own_lift (fun t k => XS.ladd X1.here hx rfl (hb hby at_43) rfl k) ?_
    show own_Fin p e below _ (T1.setTop (mkF m 44 #[.val (.long q1), .second, .val (.long q2), .second, .val (.long (q1 &&& (1152921504606846975 : Int64))), .second, .val (.long (q2 &&& (1152921504606846975 : Int64))), .second, .val (.long (((q1 &&& (1152921504606846975 : Int64)).toUInt64 >>> ((12 : Int32) &&& 0x3f).toInt64.toUInt64).toInt64)), .second, .val (.long part), .second, .unset, .unset] [(.long ((((q1 &&& (1152921504606846975 : Int64)).toUInt64 >>> ((12 : Int32) &&& 0x3f).toInt64.toUInt64).toInt64) + part))]))
    refine own_lift (fun t k => XS.lload X1.here hx rfl (hb hby at_44) rfl k) ?_
    show own_Fin p e below _ (T1.setTop (mkF m 46 #[.val (.long q1), .second, .val (.long q2), .second, .val (.long (q1 &&& (1152921504606846975 : Int64))), .second, .val (.long (q2 &&& (1152921504606846975 : Int64))), .second, .val (.long (((q1 &&& (1152921504606846975 : Int64)).toUInt64 >>> ((12 : Int32) &&& 0x3f).toInt64.toUInt64).toInt64)), .second, .val (.long part), .second, .unset, .unset] [(.long (q1 &&& (1152921504606846975 : Int64))), (.long ((((q1 &&& (1152921504606846975 : Int64)).toUInt64 >>> ((12 : Int32) &&& 0x3f).toInt64.toUInt64).toInt64) + part))]))
    refine own_lift (fun t k => XS.ladd X1.here hx rfl (hb hby at_46) rfl k) ?_
    show own_Fin p e below _ (T1.setTop (mkF m 47 #[.val (.long q1), .second, .val (.long q2), .second, .val (.long (q1 &&& (1152921504606846975 : Int64))), .second, .val (.long (q2 &&& (1152921504606846975 : Int64))), .second, .val (.long (((q1 &&& (1152921504606846975 : Int64)).toUInt64 >>> ((12 : Int32) &&& 0x3f).toInt64.toUInt64).toInt64)), .second, .val (.long part), .second, .unset, .unset] [(.long (((((q1 &&& (1152921504606846975 : Int64)).toUInt64 >>> ((12 : Int32) &&& 0x3f).toInt64.toUInt64).toInt64) + part) + (q1 &&& (1152921504606846975 : Int64))))]))
    refine own_lift (fun t k => XS.lload X1.here hx rfl (hb hby at_47) rfl k) ?_
    show own_Fin p e below _ (T1.setTop (mkF m 49 #[.val (.long q1), .second, .val (.long q2), .second, .val (.long (q1 &&& (1152921504606846975 : Int64))), .second, .val (.long (q2 &&& (1152921504606846975 : Int64))), .second, .val (.long (((q1 &&& (1152921504606846975 : Int64)).toUInt64 >>> ((12 : Int32) &&& 0x3f).toInt64.toUInt64).toInt64)), .second, .val (.long part), .second, .unset, .unset] [(.long (q1 &&& (1152921504606846975 : Int64))), (.long (((((q1 &&& (1152921504606846975 : Int64)).toUInt64 >>> ((12 : Int32) &&& 0x3f).toInt64.toUInt64).toInt64) + part) + (q1 &&& (1152921504606846975 : Int64))))]))
    refine own_lift (fun t k => XS.ladd X1.here hx rfl (hb hby at_49) rfl k) ?_
    show own_Fin p e below _ (T1.setTop (mkF m 50 #[.val (.long q1), .second, .val (.long q2), .second, .val (.long (q1 &&& (1152921504606846975 : Int64))), .second, .val (.long (q2 &&& (1152921504606846975 : Int64))), .second, .val (.long (((q1 &&& (1152921504606846975 : Int64)).toUInt64 >>> ((12 : Int32) &&& 0x3f).toInt64.toUInt64).toInt64)), .second, .val (.long part), .second, .unset, .unset] [(.long ((((((q1 &&& (1152921504606846975 : Int64)).toUInt64 >>> ((12 : Int32) &&& 0x3f).toInt64.toUInt64).toInt64) + part) + (q1 &&& (1152921504606846975 : Int64))) + (q1 &&& (1152921504606846975 : Int64))))]))
    refine own_lift (fun t k => XS.lload X1.here hx rfl (hb hby at_50) rfl k) ?_
    show own_Fin p e below _ (T1.setTop (mkF m 52 #[.val (.long q1), .second, .val (.long q2), .second, .val (.long (q1 &&& (1152921504606846975 : Int64))), .second, .val (.long (q2 &&& (1152921504606846975 : Int64))), .second, .val (.long (((q1 &&& (1152921504606846975 : Int64)).toUInt64 >>> ((12 : Int32) &&& 0x3f).toInt64.toUInt64).toInt64)), .second, .val (.long part), .second, .unset, .unset] [(.long (q2 &&& (1152921504606846975 : Int64))), (.long ((((((q1 &&& (1152921504606846975 : Int64)).toUInt64 >>> ((12 : Int32) &&& 0x3f).toInt64.toUInt64).toInt64) + part) + (q1 &&& (1152921504606846975 : Int64))) + (q1 &&& (1152921504606846975 : Int64))))]))
    refine own_lift (fun t k => XS.ladd X1.here hx rfl (hb hby at_52) rfl k) ?_
    show own_Fin p e below _ (T1.setTop (mkF m 53 #[.val (.long q1), .second, .val (.long q2), .second, .val (.long (q1 &&& (1152921504606846975 : Int64))), .second, .val (.long (q2 &&& (1152921504606846975 : Int64))), .second, .val (.long (((q1 &&& (1152921504606846975 : Int64)).toUInt64 >>> ((12 : Int32) &&& 0x3f).toInt64.toUInt64).toInt64)), .second, .val (.long part), .second, .unset, .unset] [(.long (((((((q1 &&& (1152921504606846975 : Int64)).toUInt64 >>> ((12 : Int32) &&& 0x3f).toInt64.toUInt64).toInt64) + part) + (q1 &&& (1152921504606846975 : Int64))) + (q1 &&& (1152921504606846975 : Int64))) + (q2 &&& (1152921504606846975 : Int64))))]))
    refine own_lift (fun t k => XS.lstore X1.here hx rfl (hb hby at_53) rfl (l' := #[.val (.long q1), .second, .val (.long q2), .second, .val (.long (q1 &&& (1152921504606846975 : Int64))), .second, .val (.long (q2 &&& (1152921504606846975 : Int64))), .second, .val (.long (((q1 &&& (1152921504606846975 : Int64)).toUInt64 >>> ((12 : Int32) &&& 0x3f).toInt64.toUInt64).toInt64)), .second, .val (.long part), .second, .val (.long (((((((q1 &&& (1152921504606846975 : Int64)).toUInt64 >>> ((12 : Int32) &&& 0x3f).toInt64.toUInt64).toInt64) + part) + (q1 &&& (1152921504606846975 : Int64))) + (q1 &&& (1152921504606846975 : Int64))) + (q2 &&& (1152921504606846975 : Int64)))), .second]) rfl k) ?_
    show own_Fin p e below _ (T1.setTop (mkF m 55 #[.val (.long q1), .second, .val (.long q2), .second, .val (.long (q1 &&& (1152921504606846975 : Int64))), .second, .val (.long (q2 &&& (1152921504606846975 : Int64))), .second, .val (.long (((q1 &&& (1152921504606846975 : Int64)).toUInt64 >>> ((12 : Int32) &&& 0x3f).toInt64.toUInt64).toInt64)), .second, .val (.long part), .second, .val (.long (((((((q1 &&& (1152921504606846975 : Int64)).toUInt64 >>> ((12 : Int32) &&& 0x3f).toInt64.toUInt64).toInt64) + part) + (q1 &&& (1152921504606846975 : Int64))) + (q1 &&& (1152921504606846975 : Int64))) + (q2 &&& (1152921504606846975 : Int64)))), .second] []))
    refine own_lift (fun t k => XS.lload X1.here hx rfl (hb hby at_55) rfl k) ?_
    show own_Fin p e below _ (T1.setTop (mkF m 57 #[.val (.long q1), .second, .val (.long q2), .second, .val (.long (q1 &&& (1152921504606846975 : Int64))), .second, .val (.long (q2 &&& (1152921504606846975 : Int64))), .second, .val (.long (((q1 &&& (1152921504606846975 : Int64)).toUInt64 >>> ((12 : Int32) &&& 0x3f).toInt64.toUInt64).toInt64)), .second, .val (.long part), .second, .val (.long (((((((q1 &&& (1152921504606846975 : Int64)).toUInt64 >>> ((12 : Int32) &&& 0x3f).toInt64.toUInt64).toInt64) + part) + (q1 &&& (1152921504606846975 : Int64))) + (q1 &&& (1152921504606846975 : Int64))) + (q2 &&& (1152921504606846975 : Int64)))), .second] [(.long (q1 &&& (1152921504606846975 : Int64)))]))
    refine own_lift (fun t k => XS.lload X1.here hx rfl (hb hby at_57) rfl k) ?_
    show own_Fin p e below _ (T1.setTop (mkF m 59 #[.val (.long q1), .second, .val (.long q2), .second, .val (.long (q1 &&& (1152921504606846975 : Int64))), .second, .val (.long (q2 &&& (1152921504606846975 : Int64))), .second, .val (.long (((q1 &&& (1152921504606846975 : Int64)).toUInt64 >>> ((12 : Int32) &&& 0x3f).toInt64.toUInt64).toInt64)), .second, .val (.long part), .second, .val (.long (((((((q1 &&& (1152921504606846975 : Int64)).toUInt64 >>> ((12 : Int32) &&& 0x3f).toInt64.toUInt64).toInt64) + part) + (q1 &&& (1152921504606846975 : Int64))) + (q1 &&& (1152921504606846975 : Int64))) + (q2 &&& (1152921504606846975 : Int64)))), .second] [(.long (q2 &&& (1152921504606846975 : Int64))), (.long (q1 &&& (1152921504606846975 : Int64)))]))
    obtain ⟨_, _, ⟨Tk_1, Lk_1, kk_1, nk_1⟩, -, Xk_1, ⟨Lck_1, hQk_1, lk_1, yk_1, zk_1⟩, stk_1⟩ := Jvm.LawKit.callS X1 hx (y := (⟨"com/example/grain_lineage/grainlineage/JobGraphCodec", "entries", "(JJ)J"⟩ : MethodName)) hown (mvT hZ (hw _ (List.mem_of_getElem? (i := 2) rfl))) (mvT hZ (hw _ (List.mem_of_getElem? (i := 3) rfl))) (mvT hZ (hw _ (List.mem_of_getElem? (i := 4) rfl))) (mvT hZ (hw _ (List.mem_of_getElem? (i := 5) rfl))) (by decide) (backOf (W := 0) (rm1 l Z a0 hw [] (q1 &&& (1152921504606846975 : Int64)) (q2 &&& (1152921504606846975 : Int64)) h0 n0 Z0) hZ (hw _ (List.mem_of_getElem? (i := 5) rfl)) (hw _ (List.mem_of_getElem? (i := 4) rfl)) (by decide) (by decide)) (g := (mkF m 59 #[.val (.long q1), .second, .val (.long q2), .second, .val (.long (q1 &&& (1152921504606846975 : Int64))), .second, .val (.long (q2 &&& (1152921504606846975 : Int64))), .second, .val (.long (((q1 &&& (1152921504606846975 : Int64)).toUInt64 >>> ((12 : Int32) &&& 0x3f).toInt64.toUInt64).toInt64)), .second, .val (.long part), .second, .val (.long (((((((q1 &&& (1152921504606846975 : Int64)).toUInt64 >>> ((12 : Int32) &&& 0x3f).toInt64.toUInt64).toInt64) + part) + (q1 &&& (1152921504606846975 : Int64))) + (q1 &&& (1152921504606846975 : Int64))) + (q2 &&& (1152921504606846975 : Int64)))), .second] [(.long (q2 &&& (1152921504606846975 : Int64))), (.long (q1 &&& (1152921504606846975 : Int64)))])) rfl (by rw [hml]; rfl) (argsL := [(.long (q1 &&& (1152921504606846975 : Int64))), (.long (q2 &&& (1152921504606846975 : Int64)))]) (rest := []) (lenOf pd_1 rfl) rfl (by show 2 * 0 + _ ≤ _; exact Nat.le_of_eq rfl) (hb hby at_59) (fun _ _ => ⟨rfl, e1, (by decide : 0 + 0 ≤ _), (by decide : 0 + 0 ≤ _)⟩)
    dsimp only [Pt.U, Pt.locs, Pt.cells, Pt.slots] at Xk_1 lk_1 yk_1 zk_1 stk_1 hQk_1
    subst lk_1 yk_1 zk_1
    obtain ⟨rfl, Nk_1q, ek_1⟩ := hQk_1
    have Nk_1 := Fr.app N1 Nk_1q
    refine own_lift (fun t k => stk_1 _ k) ?_
    show own_Fin p e below _ (Tk_1.setTop (mkF m 62 #[.val (.long q1), .second, .val (.long q2), .second, .val (.long (q1 &&& (1152921504606846975 : Int64))), .second, .val (.long (q2 &&& (1152921504606846975 : Int64))), .second, .val (.long (((q1 &&& (1152921504606846975 : Int64)).toUInt64 >>> ((12 : Int32) &&& 0x3f).toInt64.toUInt64).toInt64)), .second, .val (.long part), .second, .val (.long (((((((q1 &&& (1152921504606846975 : Int64)).toUInt64 >>> ((12 : Int32) &&& 0x3f).toInt64.toUInt64).toInt64) + part) + (q1 &&& (1152921504606846975 : Int64))) + (q1 &&& (1152921504606846975 : Int64))) + (q2 &&& (1152921504606846975 : Int64)))), .second] [(.long (own_ent (q1 &&& (1152921504606846975 : Int64)) (q2 &&& (1152921504606846975 : Int64))))]))
    refine own_lift (fun t k => XS.lload Xk_1.here hx rfl (hb hby at_62) rfl k) ?_
    show own_Fin p e below _ (Tk_1.setTop (mkF m 64 #[.val (.long q1), .second, .val (.long q2), .second, .val (.long (q1 &&& (1152921504606846975 : Int64))), .second, .val (.long (q2 &&& (1152921504606846975 : Int64))), .second, .val (.long (((q1 &&& (1152921504606846975 : Int64)).toUInt64 >>> ((12 : Int32) &&& 0x3f).toInt64.toUInt64).toInt64)), .second, .val (.long part), .second, .val (.long (((((((q1 &&& (1152921504606846975 : Int64)).toUInt64 >>> ((12 : Int32) &&& 0x3f).toInt64.toUInt64).toInt64) + part) + (q1 &&& (1152921504606846975 : Int64))) + (q1 &&& (1152921504606846975 : Int64))) + (q2 &&& (1152921504606846975 : Int64)))), .second] [(.long (((((((q1 &&& (1152921504606846975 : Int64)).toUInt64 >>> ((12 : Int32) &&& 0x3f).toInt64.toUInt64).toInt64) + part) + (q1 &&& (1152921504606846975 : Int64))) + (q1 &&& (1152921504606846975 : Int64))) + (q2 &&& (1152921504606846975 : Int64)))), (.long (own_ent (q1 &&& (1152921504606846975 : Int64)) (q2 &&& (1152921504606846975 : Int64))))]))
    refine own_lift (fun t k => XS.lcmp Xk_1.here hx rfl (hb hby at_64) rfl k) ?_
    show own_Fin p e below _ (Tk_1.setTop (mkF m 65 #[.val (.long q1), .second, .val (.long q2), .second, .val (.long (q1 &&& (1152921504606846975 : Int64))), .second, .val (.long (q2 &&& (1152921504606846975 : Int64))), .second, .val (.long (((q1 &&& (1152921504606846975 : Int64)).toUInt64 >>> ((12 : Int32) &&& 0x3f).toInt64.toUInt64).toInt64)), .second, .val (.long part), .second, .val (.long (((((((q1 &&& (1152921504606846975 : Int64)).toUInt64 >>> ((12 : Int32) &&& 0x3f).toInt64.toUInt64).toInt64) + part) + (q1 &&& (1152921504606846975 : Int64))) + (q1 &&& (1152921504606846975 : Int64))) + (q2 &&& (1152921504606846975 : Int64)))), .second] [(.int (lcmpW (own_ent (q1 &&& (1152921504606846975 : Int64)) (q2 &&& (1152921504606846975 : Int64))) (((((((q1 &&& (1152921504606846975 : Int64)).toUInt64 >>> ((12 : Int32) &&& 0x3f).toInt64.toUInt64).toInt64) + part) + (q1 &&& (1152921504606846975 : Int64))) + (q1 &&& (1152921504606846975 : Int64))) + (q2 &&& (1152921504606846975 : Int64)))))]))
    refine own_lift (fun t k => XS.ifNo Xk_1.here hx rfl (hb hby at_65) rfl ((if0 _ _).trans (teq hL).2) k) ?_
    show own_Fin p e below _ (Tk_1.setTop (mkF m 68 #[.val (.long q1), .second, .val (.long q2), .second, .val (.long (q1 &&& (1152921504606846975 : Int64))), .second, .val (.long (q2 &&& (1152921504606846975 : Int64))), .second, .val (.long (((q1 &&& (1152921504606846975 : Int64)).toUInt64 >>> ((12 : Int32) &&& 0x3f).toInt64.toUInt64).toInt64)), .second, .val (.long part), .second, .val (.long (((((((q1 &&& (1152921504606846975 : Int64)).toUInt64 >>> ((12 : Int32) &&& 0x3f).toInt64.toUInt64).toInt64) + part) + (q1 &&& (1152921504606846975 : Int64))) + (q1 &&& (1152921504606846975 : Int64))) + (q2 &&& (1152921504606846975 : Int64)))), .second] []))
    refine own_lift (fun t k => XS.iconst Xk_1.here hx rfl (hb hby at_68) k) ?_
    show own_Fin p e below _ (Tk_1.setTop (mkF m 69 #[.val (.long q1), .second, .val (.long q2), .second, .val (.long (q1 &&& (1152921504606846975 : Int64))), .second, .val (.long (q2 &&& (1152921504606846975 : Int64))), .second, .val (.long (((q1 &&& (1152921504606846975 : Int64)).toUInt64 >>> ((12 : Int32) &&& 0x3f).toInt64.toUInt64).toInt64)), .second, .val (.long part), .second, .val (.long (((((((q1 &&& (1152921504606846975 : Int64)).toUInt64 >>> ((12 : Int32) &&& 0x3f).toInt64.toUInt64).toInt64) + part) + (q1 &&& (1152921504606846975 : Int64))) + (q1 &&& (1152921504606846975 : Int64))) + (q2 &&& (1152921504606846975 : Int64)))), .second] [(.int (1 : Int32))]))
    refine own_lift (fun t k => XS.goto Xk_1.here hx rfl (pc0 := 69) (pc' := 73) rfl (hb hby at_69) (by decide) (by decide) k) ?_
    show own_Fin p e below _ (Tk_1.setTop (mkF m 73 #[.val (.long q1), .second, .val (.long q2), .second, .val (.long (q1 &&& (1152921504606846975 : Int64))), .second, .val (.long (q2 &&& (1152921504606846975 : Int64))), .second, .val (.long (((q1 &&& (1152921504606846975 : Int64)).toUInt64 >>> ((12 : Int32) &&& 0x3f).toInt64.toUInt64).toInt64)), .second, .val (.long part), .second, .val (.long (((((((q1 &&& (1152921504606846975 : Int64)).toUInt64 >>> ((12 : Int32) &&& 0x3f).toInt64.toUInt64).toInt64) + part) + (q1 &&& (1152921504606846975 : Int64))) + (q1 &&& (1152921504606846975 : Int64))) + (q2 &&& (1152921504606846975 : Int64)))), .second] [(.int (1 : Int32))]))
    obtain ⟨fs, hr, hrun, hended, hW, hsame⟩ := Xk_1.leave (v := some (.int (1 : Int32))) (fun h => by rw [Bd.returns] at h; cases h)
    exact ⟨_, _, retN Xk_1 hx (t := .boolean) Bd.returns (by simp) (hb hby at_73) hr, hrun, hended, _, _, rfl, ⟨rfl, Nk_1⟩, ⟨_, rfl⟩, hW, hsame.mono (by decide) (by decide)⟩
  refine own_lift (fun t k => castTop (ef_0 m q1 q2) k) ?_
  show own_Fin p e below _ (s₁.setTop (mkF m 0 #[.val (.long q1), .second, .val (.long q2), .second, .unset, .unset, .unset, .unset, .unset, .unset, .unset, .unset, .unset, .unset] []))
  refine own_lift (fun t k => XS.lloadN X0.here hx rfl (hb hby at_0) rfl k) ?_
  show own_Fin p e below _ (s₁.setTop (mkF m 1 #[.val (.long q1), .second, .val (.long q2), .second, .unset, .unset, .unset, .unset, .unset, .unset, .unset, .unset, .unset, .unset] [(.long q1)]))
  refine own_lift (fun t k => X0.ldc2J hx hown (mvT hZ (hw _ (List.mem_of_getElem? (i := 0) rfl))) rfl (hb hby at_1) k) ?_
  show own_Fin p e below _ (s₁.setTop (mkF m 4 #[.val (.long q1), .second, .val (.long q2), .second, .unset, .unset, .unset, .unset, .unset, .unset, .unset, .unset, .unset, .unset] [(.long (1152921504606846975 : Int64)), (.long q1)]))
  refine own_lift (fun t k => XS.land X0.here hx rfl (hb hby at_4) rfl k) ?_
  show own_Fin p e below _ (s₁.setTop (mkF m 5 #[.val (.long q1), .second, .val (.long q2), .second, .unset, .unset, .unset, .unset, .unset, .unset, .unset, .unset, .unset, .unset] [(.long (q1 &&& (1152921504606846975 : Int64)))]))
  refine own_lift (fun t k => XS.lstore X0.here hx rfl (hb hby at_5) rfl (l' := #[.val (.long q1), .second, .val (.long q2), .second, .val (.long (q1 &&& (1152921504606846975 : Int64))), .second, .unset, .unset, .unset, .unset, .unset, .unset, .unset, .unset]) rfl k) ?_
  show own_Fin p e below _ (s₁.setTop (mkF m 7 #[.val (.long q1), .second, .val (.long q2), .second, .val (.long (q1 &&& (1152921504606846975 : Int64))), .second, .unset, .unset, .unset, .unset, .unset, .unset, .unset, .unset] []))
  refine own_lift (fun t k => XS.lloadN X0.here hx rfl (hb hby at_7) rfl k) ?_
  show own_Fin p e below _ (s₁.setTop (mkF m 8 #[.val (.long q1), .second, .val (.long q2), .second, .val (.long (q1 &&& (1152921504606846975 : Int64))), .second, .unset, .unset, .unset, .unset, .unset, .unset, .unset, .unset] [(.long q2)]))
  refine own_lift (fun t k => X0.ldc2J hx hown (mvT hZ (hw _ (List.mem_of_getElem? (i := 0) rfl))) rfl (hb hby at_8) k) ?_
  show own_Fin p e below _ (s₁.setTop (mkF m 11 #[.val (.long q1), .second, .val (.long q2), .second, .val (.long (q1 &&& (1152921504606846975 : Int64))), .second, .unset, .unset, .unset, .unset, .unset, .unset, .unset, .unset] [(.long (1152921504606846975 : Int64)), (.long q2)]))
  refine own_lift (fun t k => XS.land X0.here hx rfl (hb hby at_11) rfl k) ?_
  show own_Fin p e below _ (s₁.setTop (mkF m 12 #[.val (.long q1), .second, .val (.long q2), .second, .val (.long (q1 &&& (1152921504606846975 : Int64))), .second, .unset, .unset, .unset, .unset, .unset, .unset, .unset, .unset] [(.long (q2 &&& (1152921504606846975 : Int64)))]))
  refine own_lift (fun t k => XS.lstore X0.here hx rfl (hb hby at_12) rfl (l' := #[.val (.long q1), .second, .val (.long q2), .second, .val (.long (q1 &&& (1152921504606846975 : Int64))), .second, .val (.long (q2 &&& (1152921504606846975 : Int64))), .second, .unset, .unset, .unset, .unset, .unset, .unset]) rfl k) ?_
  show own_Fin p e below _ (s₁.setTop (mkF m 14 #[.val (.long q1), .second, .val (.long q2), .second, .val (.long (q1 &&& (1152921504606846975 : Int64))), .second, .val (.long (q2 &&& (1152921504606846975 : Int64))), .second, .unset, .unset, .unset, .unset, .unset, .unset] []))
  refine own_lift (fun t k => XS.lload X0.here hx rfl (hb hby at_14) rfl k) ?_
  show own_Fin p e below _ (s₁.setTop (mkF m 16 #[.val (.long q1), .second, .val (.long q2), .second, .val (.long (q1 &&& (1152921504606846975 : Int64))), .second, .val (.long (q2 &&& (1152921504606846975 : Int64))), .second, .unset, .unset, .unset, .unset, .unset, .unset] [(.long (q1 &&& (1152921504606846975 : Int64)))]))
  refine own_lift (fun t k => XS.bipush X0.here hx rfl (hb hby at_16) k) ?_
  show own_Fin p e below _ (s₁.setTop (mkF m 18 #[.val (.long q1), .second, .val (.long q2), .second, .val (.long (q1 &&& (1152921504606846975 : Int64))), .second, .val (.long (q2 &&& (1152921504606846975 : Int64))), .second, .unset, .unset, .unset, .unset, .unset, .unset] [(.int (12 : Int32)), (.long (q1 &&& (1152921504606846975 : Int64)))]))
  refine own_lift (fun t k => XS.lushr X0.here hx rfl (hb hby at_18) rfl k) ?_
  show own_Fin p e below _ (s₁.setTop (mkF m 19 #[.val (.long q1), .second, .val (.long q2), .second, .val (.long (q1 &&& (1152921504606846975 : Int64))), .second, .val (.long (q2 &&& (1152921504606846975 : Int64))), .second, .unset, .unset, .unset, .unset, .unset, .unset] [(.long (((q1 &&& (1152921504606846975 : Int64)).toUInt64 >>> ((12 : Int32) &&& 0x3f).toInt64.toUInt64).toInt64))]))
  refine own_lift (fun t k => XS.lstore X0.here hx rfl (hb hby at_19) rfl (l' := #[.val (.long q1), .second, .val (.long q2), .second, .val (.long (q1 &&& (1152921504606846975 : Int64))), .second, .val (.long (q2 &&& (1152921504606846975 : Int64))), .second, .val (.long (((q1 &&& (1152921504606846975 : Int64)).toUInt64 >>> ((12 : Int32) &&& 0x3f).toInt64.toUInt64).toInt64)), .second, .unset, .unset, .unset, .unset]) rfl k) ?_
  show own_Fin p e below _ (s₁.setTop (mkF m 21 #[.val (.long q1), .second, .val (.long q2), .second, .val (.long (q1 &&& (1152921504606846975 : Int64))), .second, .val (.long (q2 &&& (1152921504606846975 : Int64))), .second, .val (.long (((q1 &&& (1152921504606846975 : Int64)).toUInt64 >>> ((12 : Int32) &&& 0x3f).toInt64.toUInt64).toInt64)), .second, .unset, .unset, .unset, .unset] []))
  refine own_lift (fun t k => XS.lload X0.here hx rfl (hb hby at_21) rfl k) ?_
  show own_Fin p e below _ (s₁.setTop (mkF m 23 #[.val (.long q1), .second, .val (.long q2), .second, .val (.long (q1 &&& (1152921504606846975 : Int64))), .second, .val (.long (q2 &&& (1152921504606846975 : Int64))), .second, .val (.long (((q1 &&& (1152921504606846975 : Int64)).toUInt64 >>> ((12 : Int32) &&& 0x3f).toInt64.toUInt64).toInt64)), .second, .unset, .unset, .unset, .unset] [(.long (q1 &&& (1152921504606846975 : Int64)))]))
  refine own_lift (fun t k => X0.ldc2J hx hown (mvT hZ (hw _ (List.mem_of_getElem? (i := 1) rfl))) rfl (hb hby at_23) k) ?_
  show own_Fin p e below _ (s₁.setTop (mkF m 26 #[.val (.long q1), .second, .val (.long q2), .second, .val (.long (q1 &&& (1152921504606846975 : Int64))), .second, .val (.long (q2 &&& (1152921504606846975 : Int64))), .second, .val (.long (((q1 &&& (1152921504606846975 : Int64)).toUInt64 >>> ((12 : Int32) &&& 0x3f).toInt64.toUInt64).toInt64)), .second, .unset, .unset, .unset, .unset] [(.long (4095 : Int64)), (.long (q1 &&& (1152921504606846975 : Int64)))]))
  refine own_lift (fun t k => XS.land X0.here hx rfl (hb hby at_26) rfl k) ?_
  show own_Fin p e below _ (s₁.setTop (mkF m 27 #[.val (.long q1), .second, .val (.long q2), .second, .val (.long (q1 &&& (1152921504606846975 : Int64))), .second, .val (.long (q2 &&& (1152921504606846975 : Int64))), .second, .val (.long (((q1 &&& (1152921504606846975 : Int64)).toUInt64 >>> ((12 : Int32) &&& 0x3f).toInt64.toUInt64).toInt64)), .second, .unset, .unset, .unset, .unset] [(.long ((q1 &&& (1152921504606846975 : Int64)) &&& (4095 : Int64)))]))
  refine own_lift (fun t k => XS.lconst X0.here hx rfl (hb hby at_27) k) ?_
  show own_Fin p e below _ (s₁.setTop (mkF m 28 #[.val (.long q1), .second, .val (.long q2), .second, .val (.long (q1 &&& (1152921504606846975 : Int64))), .second, .val (.long (q2 &&& (1152921504606846975 : Int64))), .second, .val (.long (((q1 &&& (1152921504606846975 : Int64)).toUInt64 >>> ((12 : Int32) &&& 0x3f).toInt64.toUInt64).toInt64)), .second, .unset, .unset, .unset, .unset] [(.long (0 : Int64)), (.long ((q1 &&& (1152921504606846975 : Int64)) &&& (4095 : Int64)))]))
  refine own_lift (fun t k => XS.lcmp X0.here hx rfl (hb hby at_28) rfl k) ?_
  show own_Fin p e below _ (s₁.setTop (mkF m 29 #[.val (.long q1), .second, .val (.long q2), .second, .val (.long (q1 &&& (1152921504606846975 : Int64))), .second, .val (.long (q2 &&& (1152921504606846975 : Int64))), .second, .val (.long (((q1 &&& (1152921504606846975 : Int64)).toUInt64 >>> ((12 : Int32) &&& 0x3f).toInt64.toUInt64).toInt64)), .second, .unset, .unset, .unset, .unset] [(.int (lcmpW ((q1 &&& (1152921504606846975 : Int64)) &&& (4095 : Int64)) (0 : Int64)))]))
  by_cases hc29_3 : (lcmpW ((q1 &&& (1152921504606846975 : Int64)) &&& (4095 : Int64)) (0 : Int64)) = (0 : Int32)
  · refine own_lift (fun t k => XS.ifNo X0.here hx rfl (hb hby at_29) rfl ((if0 _ _).trans (teq hc29_3).2) k) ?_
    show own_Fin p e below _ (s₁.setTop (mkF m 32 #[.val (.long q1), .second, .val (.long q2), .second, .val (.long (q1 &&& (1152921504606846975 : Int64))), .second, .val (.long (q2 &&& (1152921504606846975 : Int64))), .second, .val (.long (((q1 &&& (1152921504606846975 : Int64)).toUInt64 >>> ((12 : Int32) &&& 0x3f).toInt64.toUInt64).toInt64)), .second, .unset, .unset, .unset, .unset] []))
    refine own_lift (fun t k => XS.lconst X0.here hx rfl (hb hby at_32) k) ?_
    show own_Fin p e below _ (s₁.setTop (mkF m 33 #[.val (.long q1), .second, .val (.long q2), .second, .val (.long (q1 &&& (1152921504606846975 : Int64))), .second, .val (.long (q2 &&& (1152921504606846975 : Int64))), .second, .val (.long (((q1 &&& (1152921504606846975 : Int64)).toUInt64 >>> ((12 : Int32) &&& 0x3f).toInt64.toUInt64).toInt64)), .second, .unset, .unset, .unset, .unset] [(.long (0 : Int64))]))
    refine own_lift (fun t k => XS.goto X0.here hx rfl (pc0 := 33) (pc' := 37) rfl (hb hby at_33) (by decide) (by decide) k) ?_
    show own_Fin p e below _ (s₁.setTop (mkF m 37 #[.val (.long q1), .second, .val (.long q2), .second, .val (.long (q1 &&& (1152921504606846975 : Int64))), .second, .val (.long (q2 &&& (1152921504606846975 : Int64))), .second, .val (.long (((q1 &&& (1152921504606846975 : Int64)).toUInt64 >>> ((12 : Int32) &&& 0x3f).toInt64.toUInt64).toInt64)), .second, .unset, .unset, .unset, .unset] [(.long (0 : Int64))]))
    exact j37 _ _ _ X0 e0 N0 (by rw [if_pos ((lw_eq _ _).mp hc29_3)])
  · refine own_lift (fun t k => XS.ifYes X0.here hx rfl (pc0 := 29) (pc' := 36) rfl (hb hby at_29) rfl ((if0 _ _).trans (feq hc29_3).2) (by decide) (by decide) k) ?_
    show own_Fin p e below _ (s₁.setTop (mkF m 36 #[.val (.long q1), .second, .val (.long q2), .second, .val (.long (q1 &&& (1152921504606846975 : Int64))), .second, .val (.long (q2 &&& (1152921504606846975 : Int64))), .second, .val (.long (((q1 &&& (1152921504606846975 : Int64)).toUInt64 >>> ((12 : Int32) &&& 0x3f).toInt64.toUInt64).toInt64)), .second, .unset, .unset, .unset, .unset] []))
    refine own_lift (fun t k => XS.lconst X0.here hx rfl (hb hby at_36) k) ?_
    show own_Fin p e below _ (s₁.setTop (mkF m 37 #[.val (.long q1), .second, .val (.long q2), .second, .val (.long (q1 &&& (1152921504606846975 : Int64))), .second, .val (.long (q2 &&& (1152921504606846975 : Int64))), .second, .val (.long (((q1 &&& (1152921504606846975 : Int64)).toUInt64 >>> ((12 : Int32) &&& 0x3f).toInt64.toUInt64).toInt64)), .second, .unset, .unset, .unset, .unset] [(.long (1 : Int64))]))
    exact j37 _ _ _ X0 e0 N0 (by rw [if_neg (fun q => hc29_3 ((lw_eq _ _).mpr q))])
set_option maxRecDepth 65536 in
set_option maxHeartbeats 40000000 in
theorem comes_1 {Post : Tables → Env → Array Value → State → Outcome → State → Prop} (hpost : ∀ tb e args s v u, (limb_1_1.after args s (.returned v) u = true ∧ limb_1_2.after args s (.returned v) u = true ∧ True) → FrameEnd s (.returned v) u (Jvm.fieldLocs frame_1_writes args s ++ Jvm.arrayLocs frame_1_arrays args s ++ Jvm.staticLocs frame_1_statics s) 0 0 → Post tb e args s (.returned v) u) :
    ArmFor flags0 classFile x code maxLocals ret World_1 tables_1 room_1 Calls_1 rest_1 Pre_1 Post := by
  intro l hfl _ _ p e ha hc hk s m args below hf hA hF happ hP
  obtain ⟨hcalls, hrest, hpre⟩ := hP
  obtain ⟨-, -, -, hnamed, -, -, -, hat⟩ := (Spec.applies_iff hf).mp happ
  obtain ⟨hg, hn⟩ := and_e (Cond.before_iff.mp (show (Jvm.Cond.and given_1 narrow_1).before args s = true from hpre))
  obtain ⟨gc, g0⟩ := and_e hg
  obtain ⟨c0, g1⟩ := and_e g0
  obtain ⟨w0, w1, rfl⟩ : ∃ w0 w1 : Value, args = #[w0, w1] := by
    have hs : args.size = 2 := by simpa [Cond.value, given_1] using gc
    obtain ⟨L⟩ := args
    match L, hs with
    | [w0, w1], _ => exact ⟨w0, w1, rfl⟩
  have hw := fun d (hd : d ∈ tables_1) => atoms_spec (ws := Jvm.Cond.code x code maxLocals ret :: tables_1) hat d (List.mem_cons_of_mem _ hd)
  obtain ⟨i0, ei0⟩ := isL_v c0
  obtain rfl : w0 = (.long i0) := Option.some.inj ei0
  obtain ⟨i1, ei1⟩ := isL_v g1
  obtain rfl : w1 = (.long i1) := Option.some.inj ei1
  obtain ⟨n, o, h1, h2, h3, _, L, rfl, ⟨rfl, N⟩, hq⟩ := rm0 l s _ hw tables_1 i0 i1 s.heap s.heap.size (Nat.le_refl _) p e ha hc hk s m _ below hf ((Spec.applies_iff_loose hf).mp happ).1 ⟨rfl, State.Warmed39.refl s, rfl⟩ trivial
  refine ⟨n, _, h1, h2, h3, hpost _ _ _ _ _ _ ⟨Cond.after_iff.mpr rfl, Cond.after_iff.mpr (eq_i res_at (Term.int_eval (1)) rfl), trivial⟩ ⟨hq.1, hq.2.1, (hq.2.2.sift fun y hy => Or.inr (N y hy)).mono (by decide) (by decide)⟩⟩
theorem main_1_1 : Claimed_1_1 := comes_1 fun _ _ _ _ _ _ h hF => ⟨h.1, hF⟩
theorem main_1_2 : Claimed_1_2 := comes_1 fun _ _ _ _ _ _ h hF => ⟨h.2.1, hF⟩
end Jvm.Pilot.@@N@@
namespace Jvm.Pilot.@@N@@
open Jvm Jvm.ClassFile Sem Op Lib Jvm.Free Jvm.Stand Jvm.Pilot.@@N@@.Jvm.D
/-! MADE BY PROGRAM (witnessworld.py) out of the Statement's table words and the real class files: 9 classes; the members and pool entries that the words name. The judged class is class 1, her method 1. -/
namespace start1
open Jvm.ClassFile
def u (s : String) : CpInfo := .utf8 (stringToUtf16 s)
/-- a pool by its gaps: so many unusable entries, then the entry; so many at the end -/
def gap : Nat → List CpInfo → List CpInfo
  | 0, r => r
  | n + 1, r => .unusable :: gap n r
def poolList (es : List (Nat × CpInfo)) (last : Nat) : List CpInfo := es.foldr (fun e r => gap e.1 (e.2 :: r)) (gap last [])
def pool (es : List (Nat × CpInfo)) (last : Nat) : Array CpInfo := ⟨poolList es last⟩
def fileOf (pool : Array CpInfo) (this : Nat) (attrs : Array Attribute := #[]) (ms : Array MethodInfo := #[]) (fl : Nat := 33) (sup : Nat := 0) (ifs : Array Nat := #[]) (fds : Array FieldInfo := #[]) : ClassFile where
  minorVersion := 0
  majorVersion := 65
  constantPool := pool
  accessFlags := fl
  thisClass := this
  superClass := sup
  interfaces := ifs
  fields := fds
  methods := ms
  attributes := attrs
def plain (name : String) (sup : Option ClassId) : Class where
  name := name
  kind := .ordinary
  loader := none
  accessFlags := 33
  super := sup
  interfaces := #[]
  cf := none
  fields := #[]
  methods := #[]
  instanceTypes := #[]
  staticTypes := #[]
  resolved := #[]
  callSites := []
  init := .initialized
  statics := none
  mirror := none

def pool0 : Array CpInfo := pool [(5, u "<init>"), (0, u "()V"), (1, .class_ 10), (1, u "java/lang/Object")] 113

def k0m0 : Method := { name := "<init>", desc := "()V", sig := { parameters := [], returnType := none }, accessFlags := 1, code := none }
/-- java/lang/Object -/
def k0 : Class := { plain "java/lang/Object" none with
  accessFlags := 33
  interfaces := #[]
  cf := some (fileOf pool0 8 #[] #[{ accessFlags := 1, nameIndex := 5, descriptorIndex := 6, attributes := #[] }] 33 0 #[] #[])
  fields := #[]
  methods := #[k0m0]
  instanceTypes := #[]
  staticTypes := #[]
  resolved := Array.replicate 124 none
  statics := none }

def pool1 : Array CpInfo := pool [(2, .class_ 4), (1, u "java/lang/Object"), (0, u "<init>"), (0, u "()V"), (0, .long 1152921504606846975), (1, .long 4095), (1, .methodref 12 13), (0, .class_ 14), (0, .nameAndType 15 16), (0, u "com/example/grain_lineage/grainlineage/JobGraphCodec"), (0, u "entries"), (0, u "(JJ)J"), (0, .class_ 18), (0, u "com/example/grain_lineage/grainlineage/JobGraphCodecEntriesPinLaw"), (2, u "law"), (0, u "(JJ)Z")] 3

def k1m0 : Method := { name := "<init>", desc := "()V", sig := { parameters := [], returnType := none }, accessFlags := 2, code := none }
def k1c1 : Code := { maxStack := 4, maxLocals := 14, code := code, exceptionTable := #[], attributes := #[] }
def k1m1 : Method := { name := "law", desc := "(JJ)Z", sig := { parameters := [.long, .long], returnType := some .boolean }, accessFlags := 9, code := some k1c1 }
/-- com/example/grain_lineage/grainlineage/JobGraphCodecEntriesPinLaw -/
def k1 : Class := { plain "com/example/grain_lineage/grainlineage/JobGraphCodecEntriesPinLaw" (some 0) with
  accessFlags := 49
  interfaces := #[]
  cf := some (fileOf pool1 17 #[] #[{ accessFlags := 2, nameIndex := 5, descriptorIndex := 6, attributes := #[] }, { accessFlags := 9, nameIndex := 21, descriptorIndex := 22, attributes := #[] }] 49 2 #[] #[])
  fields := #[]
  methods := #[k1m0, k1m1]
  instanceTypes := #[]
  staticTypes := #[]
  resolved := Array.replicate 26 none
  statics := none }

def pool2 : Array CpInfo := pool [(2, .class_ 4), (1, u "java/lang/Object"), (0, u "<init>"), (0, u "()V"), (10, u "[B"), (28, .class_ 48), (1, u "com/example/grain_lineage/grainlineage/JobGraphCodec"), (2, .class_ 52), (0, u "com/example/grain_lineage/grainlineage/JobGraphCodec$Coder"), (38, u "EMPTY"), (15, .class_ 109), (1, u "com/example/grain_lineage/grainlineage/JobGraphCodec$Writes"), (57, .class_ 168), (0, u "com/example/grain_lineage/grainlineage/JobGraphCodec$Listed"), (16, .long 4096), (1, .long 2), (48, .class_ 238), (1, u "com/example/grain_lineage/grainlineage/JobGraphCodec$Entry"), (6, .class_ 247), (1, u "com/example/grain_lineage/grainlineage/JobGraphCodec$Way"), (1, .class_ 251), (1, u "com/example/grain_lineage/grainlineage/JobGraphCodec$Execution"), (112, .class_ 366), (1, u "com/example/grain_lineage/grainlineage/JobGraphCodec$Reads"), (62, .class_ 430), (0, u "com/example/grain_lineage/grainlineage/JobGraphCodec$Keyed"), (29, u "LIST_TAG"), (0, u "C"), (2, u "EXECUTION_TAG"), (1, u "END_TAG"), (1, u "NAME_END"), (0, u "B"), (1, u "LISTED_PER_ENTRY"), (0, u "I"), (1, u "EXECUTION_MARK"), (0, u "Ljava/lang/String;"), (13, u "entries"), (0, u "(JJ)J")] 90

def k2m0 : Method := { name := "<init>", desc := "()V", sig := { parameters := [], returnType := none }, accessFlags := 2, code := none }
def k2c1 : Code := { maxStack := 6, maxLocals := 4, code := prog_10_method_8_code, exceptionTable := #[], attributes := #[] }
def k2m1 : Method := { name := "entries", desc := "(JJ)J", sig := { parameters := [.long, .long], returnType := some .long }, accessFlags := 8, code := some k2c1 }
/-- com/example/grain_lineage/grainlineage/JobGraphCodec -/
def k2 : Class := { plain "com/example/grain_lineage/grainlineage/JobGraphCodec" (some 0) with
  accessFlags := 48
  interfaces := #[]
  cf := some (fileOf pool2 46 #[.nestMembers #[51, 245, 236, 429, 249, 167, 364, 107]] #[{ accessFlags := 2, nameIndex := 5, descriptorIndex := 6, attributes := #[] }, { accessFlags := 8, nameIndex := 489, descriptorIndex := 490, attributes := #[] }] 48 2 #[] #[{ accessFlags := 24, nameIndex := 460, descriptorIndex := 461, attributes := #[] }, { accessFlags := 24, nameIndex := 464, descriptorIndex := 461, attributes := #[] }, { accessFlags := 24, nameIndex := 466, descriptorIndex := 461, attributes := #[] }, { accessFlags := 26, nameIndex := 468, descriptorIndex := 469, attributes := #[] }, { accessFlags := 26, nameIndex := 471, descriptorIndex := 472, attributes := #[] }, { accessFlags := 26, nameIndex := 91, descriptorIndex := 17, attributes := #[] }, { accessFlags := 26, nameIndex := 474, descriptorIndex := 475, attributes := #[] }])
  fields := #[{ name := "LIST_TAG", type := .char, accessFlags := 24, slot := 0, constantValue := 0 }, { name := "EXECUTION_TAG", type := .char, accessFlags := 24, slot := 1, constantValue := 0 }, { name := "END_TAG", type := .char, accessFlags := 24, slot := 2, constantValue := 0 }, { name := "NAME_END", type := .byte, accessFlags := 26, slot := 3, constantValue := 0 }, { name := "LISTED_PER_ENTRY", type := .int, accessFlags := 26, slot := 4, constantValue := 0 }, { name := "EMPTY", type := (.array .byte), accessFlags := 26, slot := 5, constantValue := 0 }, { name := "EXECUTION_MARK", type := (.object "java/lang/String"), accessFlags := 26, slot := 6, constantValue := 0 }]
  methods := #[k2m0, k2m1]
  instanceTypes := #[]
  staticTypes := #[.char, .char, .char, .byte, .int, (.array .byte), (.object "java/lang/String")]
  resolved := Array.replicate 581 none
  statics := none }

def pool3 : Array CpInfo := pool [(1, u "java/lang/Cloneable"), (0, .class_ 1), (0, u "java/lang/Object"), (0, .class_ 3)] 3

/-- java/lang/Cloneable -/
def k3 : Class := { plain "java/lang/Cloneable" (some 0) with
  accessFlags := 1537
  interfaces := #[]
  cf := some (fileOf pool3 2 #[] #[] 1537 4 #[] #[])
  fields := #[]
  methods := #[]
  instanceTypes := #[]
  staticTypes := #[]
  resolved := Array.replicate 8 none
  statics := none }

def pool4 : Array CpInfo := pool [(1, u "java/io/Serializable"), (0, .class_ 1), (0, u "java/lang/Object"), (0, .class_ 3)] 3

/-- java/io/Serializable -/
def k4 : Class := { plain "java/io/Serializable" (some 0) with
  accessFlags := 1537
  interfaces := #[]
  cf := some (fileOf pool4 2 #[] #[] 1537 4 #[] #[])
  fields := #[]
  methods := #[]
  instanceTypes := #[]
  staticTypes := #[]
  resolved := Array.replicate 8 none
  statics := none }

/-- the primitive byte -/
def k5 : Class := { plain "byte" none with kind := .primitive 'B', accessFlags := 0x411 }
/-- [B -/
def k6 : Class := { plain "[B" (some 0) with kind := .array 5 .byte, interfaces := #[3, 4], accessFlags := 1041 }

/-- the primitive int -/
def k7 : Class := { plain "int" none with kind := .primitive 'I', accessFlags := 0x411 }
/-- [I -/
def k8 : Class := { plain "[I" (some 0) with kind := .array 7 .int, interfaces := #[3, 4], accessFlags := 1041 }

def heap : Heap := #[]
def classes : Array Class := #[k0, k1, k2, k3, k4, k5, k6, k7, k8]
def interned : List (Array UInt16 × Addr) := []
def slotsUsed : Nat := 0
def theMethod : MethodId := ⟨1, 1⟩
def args0 : Array Value := #[.long 5, .long 7]
def aboutOver (below : List Frame) : State where
  vm := { classes := classes, interned := interned.toArray }
  heap := heap
  slotsUsed := slotsUsed
  threads := #[{ frames := .invoking theMethod args0 :: below }]
def below0 : List Frame := [.native { method := ⟨0, 0⟩, args := #[] }]
def about1 : State := aboutOver below0
def p0 : Program := .bare "" "" ""
def e0 : Env := launch0.env 0 0 0
theorem w_frames : about1.frames = Frame.invoking theMethod args0 :: below0 := rfl
set_option maxRecDepth 65536 in
theorem w_args : argsFit about1.vm theMethod args0 = true := by decide +kernel
set_option maxRecDepth 65536 in
theorem w_heap : heapFits about1 = true := by decide +kernel
set_option maxRecDepth 65536 in
theorem w_runnable : about1.curStatus? = some .runnable := by decide +kernel
set_option maxRecDepth 65536 in
theorem w_alone : about1.alone = true := by decide +kernel
set_option maxRecDepth 65536 in
theorem w_named : about1.methodNamed? x = some theMethod := by decide +kernel
set_option maxRecDepth 65536 in
theorem w_hears : about1.hears theMethod below0 = true := by decide +kernel
set_option maxRecDepth 65536 in
theorem w_ripe : about1.ripe theMethod args0 below0 = true := by decide +kernel
theorem w_running : about1.status = .running := rfl
set_option maxRecDepth 65536 in
theorem w_room : about1.hasRoom e0.platform room_1 = true :=
  launch0.hasRoom_least _ room_1 (by decide +kernel) (by decide +kernel) (by decide +kernel) (by decide +kernel) (by decide +kernel) (by decide +kernel)
theorem allAtoms_all (ts : List Jvm.Cond) (a : Array Jvm.Value) (st : Jvm.State) : (allAtoms ts).before a st = ts.all (fun c => c.before a st) := by
  induction ts with
  | nil => rfl
  | cons c t ih =>
    show (Jvm.Cond.and c (allAtoms t)).before a st = _
    rw [Jvm.Cond.before_and, ih, List.all_cons]
def words1 : List Jvm.Cond := Jvm.Cond.code x code maxLocals ret :: tables_1
/-- a 'code' word, met by the world's own term for the bytes: nothing is compared byte by byte -/
theorem code_word {y : MethodName} {bytes : ByteArray} {mx : Nat} {rt : Option FieldType} {a : Array Value} {s : State} {m : MethodId} {meth : Method} {c : Code} (h1 : s.methodNamed? y = some m) (h2 : s.vm.method? m = some meth) (h3 : meth.code = some c) (h4 : c.code = bytes)
    (h5 : (c.maxLocals == mx && c.exceptionTable.isEmpty && decide (c.maxStack ≤ mostOperands) && decide (meth.sig.returnType = rt) && !meth.locks && decide (parseMethodDescriptor y.desc = some meth.sig)) = true) : (Jvm.Cond.code y bytes mx rt).before a s = true := by
  simp only [Bool.and_eq_true, beq_iff_eq, Bool.not_eq_true', decide_eq_true_eq] at h5
  obtain ⟨⟨⟨⟨⟨g1, g2⟩, g3⟩, g4⟩, g5⟩, g6⟩ := h5
  simp [Cond.before, Cond.holds, Cond.value, h1, h2, h3, h4, g1, g2, g3, g4, g5, g6]
def isCode : Jvm.Cond → Bool
  | .code _ _ _ _ => true
  | _ => false
theorem all_split {L : List Jvm.Cond} {P : Jvm.Cond → Bool} (h1 : L.all (fun c => isCode c || P c) = true) (h2 : ∀ c ∈ L.filter isCode, P c = true) : L.all P = true := by
  refine List.all_eq_true.mpr fun c hc => ?_
  have h := List.all_eq_true.mp h1 c hc
  rcases Bool.eq_false_or_eq_true (isCode c) with hi | hi
  · exact h2 c (List.mem_filter.mpr ⟨hc, hi⟩)
  · simpa [hi] using h
set_option maxRecDepth 65536 in
theorem w_c0 : (Jvm.Cond.code x code maxLocals ret).before args0 about1 = true := code_word (m := ⟨1, 1⟩) (meth := k1m1) (c := k1c1) (by decide +kernel) rfl rfl rfl (by decide +kernel)
set_option maxRecDepth 65536 in
theorem w_c1 : (Jvm.Cond.code ({ cls := "com/example/grain_lineage/grainlineage/JobGraphCodec", name := "entries", desc := "(JJ)J" } : Jvm.MethodName) prog_10_method_8_code (4 : Nat) (Option.some Jvm.ClassFile.FieldType.long)).before args0 about1 = true := code_word (m := ⟨2, 1⟩) (meth := k2m1) (c := k2c1) (by decide +kernel) rfl rfl rfl (by decide +kernel)
def codes1 : List Jvm.Cond := [Jvm.Cond.code x code maxLocals ret, Jvm.Cond.code ({ cls := "com/example/grain_lineage/grainlineage/JobGraphCodec", name := "entries", desc := "(JJ)J" } : Jvm.MethodName) prog_10_method_8_code (4 : Nat) (Option.some Jvm.ClassFile.FieldType.long)]
set_option maxRecDepth 65536 in
theorem codes_eq : words1.filter isCode = codes1 := rfl
theorem w_codes : ∀ c ∈ words1.filter isCode, c.before args0 about1 = true := by
  rw [codes_eq]
  intro c hc
  simp only [codes1, List.mem_cons, List.not_mem_nil, or_false] at hc
  rcases hc with rfl | rfl
  · exact w_c0
  · exact w_c1
set_option maxRecDepth 65536 in
theorem w_t1 : words1.all (fun c => isCode c || c.before args0 about1) = true := by decide +kernel
theorem w_tables : (allAtoms (Jvm.Cond.code x code maxLocals ret :: tables_1)).before args0 about1 = true := by
  rw [allAtoms_all]
  show words1.all (fun c => c.before args0 about1) = true
  refine all_split ?_ w_codes
  rw [w_t1]
set_option maxRecDepth 65536 in
theorem w_case : (Jvm.Cond.and given_1 narrow_1).before args0 about1 = true := by decide +kernel
theorem w_applies : (headSpec (Jvm.Cond.code x code maxLocals ret :: tables_1) room_1).applies x e0.platform about1 = true :=
  (Spec.applies_iff w_frames).mpr ⟨w_running, w_runnable, w_alone, w_named, w_hears, w_ripe, w_room, w_tables⟩
theorem atStart : AtStart classFile x code maxLocals ret World_1 tables_1 room_1 Calls_1 rest_1 Pre_1 launch0 p0 e0 about1 theMethod args0 below0 :=
  ⟨lists_1, trivial, launch0.admits_env _ _ _, launch0.least_env, fairChoices_fair.cas, fairChoices_fair.clock, w_frames, w_args, w_heap, w_applies, trivial, trivial, w_case⟩
end start1
theorem witness_1 : WitnessClaimed_1 := ⟨start1.p0, start1.e0, start1.about1, start1.theMethod, start1.args0, start1.below0, start1.atStart⟩
end Jvm.Pilot.@@N@@
