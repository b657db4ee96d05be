import JvmDerived
import JvmDerived.Pilot.@@N@@Statement
import JvmDerived.Pilot.@@N@@Code
set_option linter.unusedVariables false
set_option linter.unusedSimpArgs false
namespace Jvm.RoadKit
open Sem ClassFile Op Lib Jvm.Stand Jvm.Free Jvm.LawKit
section New
variable {p : Program} {l : Launch} {e : Env} {R : Room} {s : State} {m : MethodId} {args : Array Value} {below : List Frame} {meth : Method} {c : Code} {T : State} {locs : List Loc} {cells slots : Nat}
theorem retI (X : Stand p l e R s m args below meth c T locs cells slots) (hx : p.tables.exec = Jvm.exec) {pc : Nat} {Ls : Array Slot} {z : Int32} {rest : List Value} (hret : meth.sig.returnType = some .int) (hd : decode c.code pc = .ok (.ireturn, 1)) {fs : List Frame}
    (hl : ∀ (f : JFrame) (acts : List Action), f.method = m → f.locked = none → f.entered = [] → (doReturn e (T.setTop f) acts (some (.int z))).1 = T.setFrames fs) : Steps p.tables e below (T.setTop (mkF m pc Ls (.int z :: rest))) (T.setFrames fs) := by
  have hm' : T.vm.method? m = some meth := X.method'
  have hn : narrow .int (.int z) = .int z := rfl
  show Steps p.tables e below (T.setTop { method := m, pc := pc, locals := Ls, stack := _ :: rest, locked := none }) _
  jvm_step X.here [X.here.top, hx, hd, hm', hret, hn]
  first | (intro acts; rw [hl _ acts rfl rfl rfl]) | rw [hl _ _ rfl rfl rfl]
  exact Steps.refl _
end New
end Jvm.RoadKit
namespace Jvm.Pilot.@@N@@
open Jvm Jvm.ClassFile Sem Op Lib Jvm.Free Jvm.Stand Jvm.LawKit Jvm.RoadKit Bundle Jvm.Pilot.@@N@@.Jvm.D
def own_Fin (p : Program) (e : Env) (below : List Frame) (G : Outcome → State → Prop) (st : State) : Prop :=
  ∃ s₂ o, Steps p.tables e below st s₂ ∧ s₂.status = .running ∧ Ended s₂ below o ∧ G o s₂
theorem own_lift {p : Program} {e : Env} {below : List Frame} {G : Outcome → State → Prop} {st st' : State} (k : ∀ t, Steps p.tables e below st' t → Steps p.tables e below st t) (h : own_Fin p e below G st') : own_Fin p e below G st := by
  obtain ⟨t, o, h1, h2⟩ := h
  exact ⟨t, o, k t h1, h2⟩

def own_sh (v : Int64) : Nat → Int64
  | 0 => v
  | i + 1 => v >>> ((Int32.ofNat (8 * (i + 1))) &&& 0x3f).toInt64
def own_by (v : Int64) (i : Nat) : Int32 := (own_sh v i).toInt32.toInt8.toInt32
def own_f (lo hi : Int64) (j : Nat) : Int32 := if j < 8 then own_by lo j else own_by hi (j - 8)
def own_read (f : Nat → Int32) (A : Nat) : Nat → Int64 → Int64
  | 0, acc => acc
  | k + 1, acc => own_read f A k ((acc <<< ((8 : Int32) &&& 0x3f).toInt64) ||| ((f (A + k) &&& (255 : Int32)).toInt64))
/-- the bit n of a long -/
def own_bit (x : Int64) (n : Nat) : Bool := x.toBitVec.getLsbD n

theorem own_ext {x y : Int64} (h : ∀ n, n < 64 → own_bit x n = own_bit y n) : x = y := by
  apply Int64.toBitVec_inj.mp
  apply BitVec.eq_of_getLsbD_eq
  intro n hn
  exact h n hn
theorem own_bor (x y : Int64) (n : Nat) : own_bit (x ||| y) n = (own_bit x n || own_bit y n) := by
  simp [own_bit]
theorem own_band (x y : Int64) (n : Nat) : own_bit (x &&& y) n = (own_bit x n && own_bit y n) := by
  simp [own_bit]
theorem own_bshl8 (x : Int64) (n : Nat) (hn : n < 64) : own_bit (x <<< ((8 : Int32) &&& 0x3f).toInt64) n = (decide (8 ≤ n) && own_bit x (n - 8)) := by
  have e : (x <<< ((8 : Int32) &&& 0x3f).toInt64).toBitVec = x.toBitVec <<< 8 := rfl
  simp only [own_bit, e, BitVec.getLsbD_shiftLeft]
  by_cases h : n < 8
  · have h8 : ¬ 8 ≤ n := by omega
    simp [h, h8]
  · have h8 : 8 ≤ n := by omega
    simp [h, hn, h8]
/-- the low eight bits of an int, as a long -/
theorem own_blow (x : Int32) (n : Nat) (hn : n < 64) : own_bit ((x &&& (255 : Int32)).toInt64) n = (decide (n < 8) && x.toBitVec.getLsbD n) := by
  have e : ((x &&& (255 : Int32)).toInt64).toBitVec = (x.toBitVec &&& 255#32).signExtend 64 := rfl
  simp only [own_bit, e, BitVec.getLsbD_signExtend]
  have h255 : ∀ m, (255#32).getLsbD m = decide (m < 8) := by
    intro m
    have : (255#32).getLsbD m = Nat.testBit (2 ^ 8 - 1) m := rfl
    rw [this, Nat.testBit_two_pow_sub_one]
  simp only [BitVec.getLsbD_and, h255, BitVec.msb_and]
  have hm : (255#32).msb = false := by decide
  rw [hm]
  by_cases h : n < 8
  · have : n < 32 := by omega
    simp [h, this, hn]
  · simp [h]
theorem own_read_bit (f : Nat → Int32) (A : Nat) : ∀ k acc n, n < 64 → own_bit (own_read f A k acc) n = if n < 8 * k then (f (A + n / 8)).toBitVec.getLsbD (n % 8) else own_bit acc (n - 8 * k) := by
  intro k
  induction k with
  | zero => intro acc n hn; simp [own_read]
  | succ k ih =>
    intro acc n hn
    rw [own_read, ih _ n hn]
    by_cases h1 : n < 8 * k
    · rw [if_pos h1, if_pos (by omega)]
    · rw [if_neg h1, own_bor, own_bshl8 _ _ (by omega), own_blow _ _ (by omega)]
      by_cases h2 : n < 8 * (k + 1)
      · have h3 : n - 8 * k < 8 := by omega
        have h4 : n / 8 = k := by omega
        have h5 : n % 8 = n - 8 * k := by omega
        have h6 : ¬ 8 ≤ n - 8 * k := by omega
        rw [if_pos h2, h4, h5]
        simp [h3, h6]
      · have h3 : ¬ n - 8 * k < 8 := by omega
        have h4 : 8 ≤ n - 8 * k := by omega
        rw [if_neg h2]
        simp only [h3, h4, decide_true, decide_false, Bool.true_and, Bool.false_and, Bool.or_false]
        rw [show n - 8 * k - 8 = n - 8 * (k + 1) by omega]
/-- a byte of a long -/
theorem own_by_bit (v : Int64) (i m : Nat) (hi : i < 8) (hm : m < 8) : (own_by v i).toBitVec.getLsbD m = own_bit v (8 * i + m) := by
  have e : ∀ w : Int64, (w.toInt32.toInt8.toInt32).toBitVec = ((w.toBitVec.signExtend 32).signExtend 8).signExtend 32 := fun _ => rfl
  have e2 : ∀ w : Int64, (w.toInt32.toInt8.toInt32).toBitVec.getLsbD m = own_bit w m := by
    intro w
    rw [e]
    have h1 : m < 32 := by omega
    have h2 : m < 64 := by omega
    simp only [BitVec.getLsbD_signExtend, own_bit, hm, h1, h2, decide_true, Bool.true_and, if_true]
  rw [own_by, e2]
  have e3 : ∀ s : Nat, s < 64 → own_bit (⟨⟨v.toBitVec.sshiftRight s⟩⟩ : Int64) m = if s + m < 64 then own_bit v (s + m) else v.toBitVec.msb := by
    intro s hs
    have h2 : m < 64 := by omega
    show (v.toBitVec.sshiftRight s).getLsbD m = _
    rw [BitVec.getLsbD_sshiftRight]
    simp [h2, own_bit]
  match i, hi with
  | 0, _ => simp [own_sh]
  | 1, _ => exact (e3 8 (by omega)).trans (if_pos (by omega))
  | 2, _ => exact (e3 16 (by omega)).trans (if_pos (by omega))
  | 3, _ => exact (e3 24 (by omega)).trans (if_pos (by omega))
  | 4, _ => exact (e3 32 (by omega)).trans (if_pos (by omega))
  | 5, _ => exact (e3 40 (by omega)).trans (if_pos (by omega))
  | 6, _ => exact (e3 48 (by omega)).trans (if_pos (by omega))
  | 7, _ => exact (e3 56 (by omega)).trans (if_pos (by omega))
theorem own_f_bit (lo hi : Int64) (j m : Nat) (hj : j < 16) (hm : m < 8) : (own_f lo hi j).toBitVec.getLsbD m = if 8 * j + m < 64 then own_bit lo (8 * j + m) else own_bit hi (8 * j + m - 64) := by
  unfold own_f
  by_cases h : j < 8
  · rw [if_pos h, own_by_bit _ _ _ h hm, if_pos (by omega)]
  · rw [if_neg h, own_by_bit _ _ _ (by omega) hm, if_neg (by omega)]
    congr 1; omega

def own_win (lo hi : Int64) (a : Int32) : Int64 := if a = 0 then lo else ((lo.toUInt64 >>> (((8 : Int32) * a) &&& 0x3f).toInt64.toUInt64).toInt64) ||| (hi <<< (((64 : Int32) - ((8 : Int32) * a)) &&& 0x3f).toInt64)
def own_exp (w : Int64) (c : Int32) : Int64 := if c = 8 then w else w &&& (((1 : Int64) <<< (((8 : Int32) * c) &&& 0x3f).toInt64) - (1 : Int64))
theorem own_win_bit (lo hi : Int64) (A n : Nat) (hA : A < 8) (hn : n < 64) : own_bit (own_win lo hi (Int32.ofNat A)) n = if 8 * A + n < 64 then own_bit lo (8 * A + n) else own_bit hi (8 * A + n - 64) := by
  have e1 : ∀ s : Nat, own_bit (⟨⟨lo.toBitVec >>> s⟩⟩ : Int64) n = own_bit lo (s + n) := by
    intro s
    show (lo.toBitVec >>> s).getLsbD n = _
    rw [BitVec.getLsbD_ushiftRight]; rfl
  have e2 : ∀ s : Nat, own_bit (⟨⟨hi.toBitVec <<< s⟩⟩ : Int64) n = (decide (s ≤ n) && own_bit hi (n - s)) := by
    intro s
    show (hi.toBitVec <<< s).getLsbD n = _
    rw [BitVec.getLsbD_shiftLeft]
    by_cases h : n < s
    · have : ¬ s ≤ n := by omega
      simp [h, this]
    · have : s ≤ n := by omega
      simp [h, this, hn, own_bit]
  have e3 : ∀ s, 0 < s → s < 64 → (own_bit (⟨⟨lo.toBitVec >>> s⟩⟩ : Int64) n || own_bit (⟨⟨hi.toBitVec <<< (64 - s)⟩⟩ : Int64) n) = if s + n < 64 then own_bit lo (s + n) else own_bit hi (s + n - 64) := by
    intro s h0 hs
    rw [e1, e2]
    by_cases h : s + n < 64
    · have : ¬ 64 - s ≤ n := by omega
      rw [if_pos h]; simp [this]
    · have h1 : 64 - s ≤ n := by omega
      have h2 : own_bit lo (s + n) = false := by
        unfold own_bit; exact BitVec.getLsbD_of_ge _ _ (by omega)
      rw [if_neg h, h2, show s + n - 64 = n - (64 - s) by omega]; simp [h1]
  match A, hA with
  | 0, _ => rw [if_pos (by omega), show 8 * 0 + n = n by omega]; rfl
  | 1, _ => exact (own_bor _ _ n).trans (e3 8 (by omega) (by omega))
  | 2, _ => exact (own_bor _ _ n).trans (e3 16 (by omega) (by omega))
  | 3, _ => exact (own_bor _ _ n).trans (e3 24 (by omega) (by omega))
  | 4, _ => exact (own_bor _ _ n).trans (e3 32 (by omega) (by omega))
  | 5, _ => exact (own_bor _ _ n).trans (e3 40 (by omega) (by omega))
  | 6, _ => exact (own_bor _ _ n).trans (e3 48 (by omega) (by omega))
  | 7, _ => exact (own_bor _ _ n).trans (e3 56 (by omega) (by omega))
theorem own_exp_bit (w : Int64) (K n : Nat) (hK : K < 9) (hn : n < 64) : own_bit (own_exp w (Int32.ofNat K)) n = (decide (n < 8 * K) && own_bit w n) := by
  have e1 : ∀ s : Nat, s < 64 → own_bit (⟨⟨BitVec.ofNat 64 (2 ^ s - 1)⟩⟩ : Int64) n = decide (n < s) := by
    intro s hs
    show (BitVec.ofNat 64 (2 ^ s - 1)).getLsbD n = _
    rw [BitVec.getLsbD_ofNat, Nat.testBit_two_pow_sub_one]
    simp [hn]
  have e2 : ∀ s : Nat, s < 64 → own_bit (w &&& (⟨⟨BitVec.ofNat 64 (2 ^ s - 1)⟩⟩ : Int64)) n = (decide (n < s) && own_bit w n) := by
    intro s hs
    rw [own_band, e1 s hs, Bool.and_comm]
  match K, hK with
  | 0, _ => exact e2 0 (by omega)
  | 1, _ => exact e2 8 (by omega)
  | 2, _ => exact e2 16 (by omega)
  | 3, _ => exact e2 24 (by omega)
  | 4, _ => exact e2 32 (by omega)
  | 5, _ => exact e2 40 (by omega)
  | 6, _ => exact e2 48 (by omega)
  | 7, _ => exact e2 56 (by omega)
  | 8, _ =>
    have : n < 8 * 8 := by omega
    simp only [this, decide_true, Bool.true_and]
    rfl
theorem own_main (lo hi : Int64) (A K : Nat) (hA : A < 8) (hK : K < 9) : own_read (own_f lo hi) A K 0 = own_exp (own_win lo hi (Int32.ofNat A)) (Int32.ofNat K) := by
  apply own_ext
  intro n hn
  rw [own_read_bit _ _ _ _ _ hn, own_exp_bit _ _ _ hK hn, own_win_bit _ _ _ _ hA hn]
  by_cases h : n < 8 * K
  · rw [if_pos h, own_f_bit _ _ _ _ (by omega) (by omega), show 8 * (A + n / 8) + n % 8 = 8 * A + n by omega]
    simp only [h, decide_true, Bool.true_and]
  · rw [if_neg h]
    simp [h, own_bit]
/-- small numbers -/
theorem own_and7 (x : Int32) : ∃ A : Nat, A < 8 ∧ (x &&& (7 : Int32)) = Int32.ofNat A := by
  refine ⟨(x &&& 7).toBitVec.toNat, ?_, ?_⟩
  · simp only [Int32.toBitVec_and, BitVec.toNat_and]
    have : x.toBitVec.toNat &&& (7 : Int32).toBitVec.toNat ≤ 7 := Nat.and_le_right
    omega
  · apply Int32.toBitVec_inj.mp
    show _ = BitVec.ofNat 32 _
    rw [BitVec.ofNat_toNat]; simp
theorem own_nat (x : Int32) (n : Nat) (h : x.toInt = n) : x = Int32.ofNat n := by
  apply Int32.toInt_inj.mp
  have := x.toInt_lt
  rw [h, Int32.toInt_ofNat_of_lt (by omega)]
theorem own_rem9 (x : Int32) : ∃ K : Nat, K < 9 ∧ ((x &&& (2147483647 : Int32)) % (9 : Int32)) = Int32.ofNat K := by
  have h0 : 0 ≤ (x &&& (2147483647 : Int32)).toInt := by
    have e : (x &&& (2147483647 : Int32)).toInt = (x.toBitVec &&& 2147483647#32).toInt := rfl
    rw [e, BitVec.toInt_eq_toNat_cond]
    have : (x.toBitVec &&& 2147483647#32).toNat ≤ 2147483647 := by
      rw [BitVec.toNat_and]; exact Nat.and_le_right
    split <;> omega
  have h1 : ((x &&& (2147483647 : Int32)) % (9 : Int32)).toInt = (x &&& (2147483647 : Int32)).toInt % 9 := by
    rw [Int32.toInt_mod, Int.tmod_eq_emod_of_nonneg h0]; rfl
  refine ⟨((x &&& (2147483647 : Int32)).toInt % 9).toNat, by omega, own_nat _ _ (by omega)⟩
theorem own_idx (A k : Nat) (hA : A < 8) (hk : k < 9) : (Int32.ofNat A + (Int32.ofNat (k + 1) - 1)) = Int32.ofNat (A + k) := by
  rw [Int32.ofNat_add k 1, show (Int32.ofNat 1) = 1 from rfl, Int32.add_sub_cancel, Int32.ofNat_add]
theorem own_i (k : Nat) : Int32.ofNat (k + 1) - 1 = Int32.ofNat k := by
  rw [Int32.ofNat_add k 1, show (Int32.ofNat 1) = 1 from rfl, Int32.add_sub_cancel]
theorem own_dec (k : Nat) : (Int32.ofNat (k + 1) - 1) + (-1 : Int32) = Int32.ofNat k - 1 := by
  rw [own_i, Int32.sub_eq_add_neg]
theorem own_nn {n : Nat} (hn : n ≤ 255) : ¬ Int32.ofNat n < 0 := by
  rw [Int32.lt_iff_toInt_lt, Int32.toInt_ofNat_of_lt (by omega), show (0 : Int32).toInt = 0 from rfl]
  omega
theorem own_n32 {n : Nat} (hn : n ≤ 255) : (Int32.ofNat n).toNatClampNeg = n := by
  rw [Int32.toNatClampNeg, Int32.toInt_ofNat_of_lt (by omega)]; rfl
theorem own_bb (x : Int32) : x.toInt8.toInt32.toInt8.toInt32 = x.toInt8.toInt32 := by simp
theorem own_by0 (v : Int64) : own_by v 0 = v.toInt32.toInt8.toInt32 := rfl
theorem own_by1 (v : Int64) : own_by v 1 = (v >>> ((8 : Int32) &&& 0x3f).toInt64).toInt32.toInt8.toInt32 := rfl
theorem own_by2 (v : Int64) : own_by v 2 = (v >>> ((16 : Int32) &&& 0x3f).toInt64).toInt32.toInt8.toInt32 := rfl
theorem own_by3 (v : Int64) : own_by v 3 = (v >>> ((24 : Int32) &&& 0x3f).toInt64).toInt32.toInt8.toInt32 := rfl
theorem own_by4 (v : Int64) : own_by v 4 = (v >>> ((32 : Int32) &&& 0x3f).toInt64).toInt32.toInt8.toInt32 := rfl
theorem own_by5 (v : Int64) : own_by v 5 = (v >>> ((40 : Int32) &&& 0x3f).toInt64).toInt32.toInt8.toInt32 := rfl
theorem own_by6 (v : Int64) : own_by v 6 = (v >>> ((48 : Int32) &&& 0x3f).toInt64).toInt32.toInt8.toInt32 := rfl
theorem own_by7 (v : Int64) : own_by v 7 = (v >>> ((56 : Int32) &&& 0x3f).toInt64).toInt32.toInt8.toInt32 := rfl

theorem own_list (lo hi : Int64) (j : Nat) (hj : j < 16) : ([(.int (own_by lo 0)), (.int (own_by lo 1)), (.int (own_by lo 2)), (.int (own_by lo 3)), (.int (own_by lo 4)), (.int (own_by lo 5)), (.int (own_by lo 6)), (.int (own_by lo 7)), (.int (own_by hi 0)), (.int (own_by hi 1)), (.int (own_by hi 2)), (.int (own_by hi 3)), (.int (own_by hi 4)), (.int (own_by hi 5)), (.int (own_by hi 6)), (.int (own_by hi 7))] : List Value).getD j (.int (0 : Int32)) = .int (own_f lo hi j) := by
  match j, hj with
  | 0, _ => rfl
  | 1, _ => rfl
  | 2, _ => rfl
  | 3, _ => rfl
  | 4, _ => rfl
  | 5, _ => rfl
  | 6, _ => rfl
  | 7, _ => rfl
  | 8, _ => rfl
  | 9, _ => rfl
  | 10, _ => rfl
  | 11, _ => rfl
  | 12, _ => rfl
  | 13, _ => rfl
  | 14, _ => rfl
  | 15, _ => rfl
  | n + 16, h => exact absurd h (by omega)
theorem d1_0 : decode method_2_code 0 = .ok (.aload_n 0, 1) := by decide +kernel
theorem d1_1 : decode method_2_code 1 = .ok (.iload_n 1, 1) := by decide +kernel
theorem d1_2 : decode method_2_code 2 = .ok (.lload_n 2, 1) := by decide +kernel
theorem d1_3 : decode method_2_code 3 = .ok (.l2i, 1) := by decide +kernel
theorem d1_4 : decode method_2_code 4 = .ok (.i2b, 1) := by decide +kernel
theorem d1_5 : decode method_2_code 5 = .ok (.bastore, 1) := by decide +kernel
theorem d1_6 : decode method_2_code 6 = .ok (.aload_n 0, 1) := by decide +kernel
theorem d1_7 : decode method_2_code 7 = .ok (.iload_n 1, 1) := by decide +kernel
theorem d1_8 : decode method_2_code 8 = .ok (.iconst 1, 1) := by decide +kernel
theorem d1_9 : decode method_2_code 9 = .ok (.iadd, 1) := by decide +kernel
theorem d1_10 : decode method_2_code 10 = .ok (.lload_n 2, 1) := by decide +kernel
theorem d1_11 : decode method_2_code 11 = .ok (.bipush 8, 2) := by decide +kernel
theorem d1_13 : decode method_2_code 13 = .ok (.lshr, 1) := by decide +kernel
theorem d1_14 : decode method_2_code 14 = .ok (.l2i, 1) := by decide +kernel
theorem d1_15 : decode method_2_code 15 = .ok (.i2b, 1) := by decide +kernel
theorem d1_16 : decode method_2_code 16 = .ok (.bastore, 1) := by decide +kernel
theorem d1_17 : decode method_2_code 17 = .ok (.aload_n 0, 1) := by decide +kernel
theorem d1_18 : decode method_2_code 18 = .ok (.iload_n 1, 1) := by decide +kernel
theorem d1_19 : decode method_2_code 19 = .ok (.iconst 2, 1) := by decide +kernel
theorem d1_20 : decode method_2_code 20 = .ok (.iadd, 1) := by decide +kernel
theorem d1_21 : decode method_2_code 21 = .ok (.lload_n 2, 1) := by decide +kernel
theorem d1_22 : decode method_2_code 22 = .ok (.bipush 16, 2) := by decide +kernel
theorem d1_24 : decode method_2_code 24 = .ok (.lshr, 1) := by decide +kernel
theorem d1_25 : decode method_2_code 25 = .ok (.l2i, 1) := by decide +kernel
theorem d1_26 : decode method_2_code 26 = .ok (.i2b, 1) := by decide +kernel
theorem d1_27 : decode method_2_code 27 = .ok (.bastore, 1) := by decide +kernel
theorem d1_28 : decode method_2_code 28 = .ok (.aload_n 0, 1) := by decide +kernel
theorem d1_29 : decode method_2_code 29 = .ok (.iload_n 1, 1) := by decide +kernel
theorem d1_30 : decode method_2_code 30 = .ok (.iconst 3, 1) := by decide +kernel
theorem d1_31 : decode method_2_code 31 = .ok (.iadd, 1) := by decide +kernel
theorem d1_32 : decode method_2_code 32 = .ok (.lload_n 2, 1) := by decide +kernel
theorem d1_33 : decode method_2_code 33 = .ok (.bipush 24, 2) := by decide +kernel
theorem d1_35 : decode method_2_code 35 = .ok (.lshr, 1) := by decide +kernel
theorem d1_36 : decode method_2_code 36 = .ok (.l2i, 1) := by decide +kernel
theorem d1_37 : decode method_2_code 37 = .ok (.i2b, 1) := by decide +kernel
theorem d1_38 : decode method_2_code 38 = .ok (.bastore, 1) := by decide +kernel
theorem d1_39 : decode method_2_code 39 = .ok (.aload_n 0, 1) := by decide +kernel
theorem d1_40 : decode method_2_code 40 = .ok (.iload_n 1, 1) := by decide +kernel
theorem d1_41 : decode method_2_code 41 = .ok (.iconst 4, 1) := by decide +kernel
theorem d1_42 : decode method_2_code 42 = .ok (.iadd, 1) := by decide +kernel
theorem d1_43 : decode method_2_code 43 = .ok (.lload_n 2, 1) := by decide +kernel
theorem d1_44 : decode method_2_code 44 = .ok (.bipush 32, 2) := by decide +kernel
theorem d1_46 : decode method_2_code 46 = .ok (.lshr, 1) := by decide +kernel
theorem d1_47 : decode method_2_code 47 = .ok (.l2i, 1) := by decide +kernel
theorem d1_48 : decode method_2_code 48 = .ok (.i2b, 1) := by decide +kernel
theorem d1_49 : decode method_2_code 49 = .ok (.bastore, 1) := by decide +kernel
theorem d1_50 : decode method_2_code 50 = .ok (.aload_n 0, 1) := by decide +kernel
theorem d1_51 : decode method_2_code 51 = .ok (.iload_n 1, 1) := by decide +kernel
theorem d1_52 : decode method_2_code 52 = .ok (.iconst 5, 1) := by decide +kernel
theorem d1_53 : decode method_2_code 53 = .ok (.iadd, 1) := by decide +kernel
theorem d1_54 : decode method_2_code 54 = .ok (.lload_n 2, 1) := by decide +kernel
theorem d1_55 : decode method_2_code 55 = .ok (.bipush 40, 2) := by decide +kernel
theorem d1_57 : decode method_2_code 57 = .ok (.lshr, 1) := by decide +kernel
theorem d1_58 : decode method_2_code 58 = .ok (.l2i, 1) := by decide +kernel
theorem d1_59 : decode method_2_code 59 = .ok (.i2b, 1) := by decide +kernel
theorem d1_60 : decode method_2_code 60 = .ok (.bastore, 1) := by decide +kernel
theorem d1_61 : decode method_2_code 61 = .ok (.aload_n 0, 1) := by decide +kernel
theorem d1_62 : decode method_2_code 62 = .ok (.iload_n 1, 1) := by decide +kernel
theorem d1_63 : decode method_2_code 63 = .ok (.bipush 6, 2) := by decide +kernel
theorem d1_65 : decode method_2_code 65 = .ok (.iadd, 1) := by decide +kernel
theorem d1_66 : decode method_2_code 66 = .ok (.lload_n 2, 1) := by decide +kernel
theorem d1_67 : decode method_2_code 67 = .ok (.bipush 48, 2) := by decide +kernel
theorem d1_69 : decode method_2_code 69 = .ok (.lshr, 1) := by decide +kernel
theorem d1_70 : decode method_2_code 70 = .ok (.l2i, 1) := by decide +kernel
theorem d1_71 : decode method_2_code 71 = .ok (.i2b, 1) := by decide +kernel
theorem d1_72 : decode method_2_code 72 = .ok (.bastore, 1) := by decide +kernel
theorem d1_73 : decode method_2_code 73 = .ok (.aload_n 0, 1) := by decide +kernel
theorem d1_74 : decode method_2_code 74 = .ok (.iload_n 1, 1) := by decide +kernel
theorem d1_75 : decode method_2_code 75 = .ok (.bipush 7, 2) := by decide +kernel
theorem d1_77 : decode method_2_code 77 = .ok (.iadd, 1) := by decide +kernel
theorem d1_78 : decode method_2_code 78 = .ok (.lload_n 2, 1) := by decide +kernel
theorem d1_79 : decode method_2_code 79 = .ok (.bipush 56, 2) := by decide +kernel
theorem d1_81 : decode method_2_code 81 = .ok (.lshr, 1) := by decide +kernel
theorem d1_82 : decode method_2_code 82 = .ok (.l2i, 1) := by decide +kernel
theorem d1_83 : decode method_2_code 83 = .ok (.i2b, 1) := by decide +kernel
theorem d1_84 : decode method_2_code 84 = .ok (.bastore, 1) := by decide +kernel
theorem d1_85 : decode method_2_code 85 = .ok (.return_, 1) := by decide +kernel
theorem pn_1a : plainName "com/example/snapmark/snapmark/mysql/LittleEndianReadPinLaw" = true := by first | (simp [plainName, overriddenIn]; done) | decide +kernel
theorem ef_1a (m : MethodId) (x0 : Addr) (x1 : Int32) (x2 : Int64) : entryFrame m #[(.ref x0), (.int x1), (.long x2)] 4 = mkF m 0 #[.val (.ref x0), .val (.int x1), .val (.long x2), .second] [] := by first | (simp [entryFrame, mkF, argsToLocals, Value.category]; done) | rfl
def Q1a (Z : State) (a1 : Addr) (q3 : Int64) (kc : ClassId) (y0 y1 y2 y3 y4 y5 y6 y7 y8 y9 y10 y11 y12 y13 y14 y15 : Int32) (h0 : Heap) (n0 : Nat) (v : Option Value) (h : Heap) (L : List Loc) : Prop := v = none ∧ Fr n0 L ∧ Keep h0 h [a1] ∧ Arv Z h a1 kc .byte (16 : Int32) [(.int (own_by q3 0)), (.int (own_by q3 1)), (.int (own_by q3 2)), (.int (own_by q3 3)), (.int (own_by q3 4)), (.int (own_by q3 5)), (.int (own_by q3 6)), (.int (own_by q3 7)), (.int y8), (.int y9), (.int y10), (.int y11), (.int y12), (.int y13), (.int y14), (.int y15)] (.int (0 : Int32))
set_option maxRecDepth 65536 in
set_option maxHeartbeats 40000000 in
theorem rm1a (l : Launch) (Z : State) (a0 : Array Value) (hw : ∀ d ∈ tables_1, d.before a0 Z = true) (ws : List Jvm.Cond) (a1 : Addr) (q3 : Int64) (kc : ClassId) (y0 y1 y2 y3 y4 y5 y6 y7 y8 y9 y10 y11 y12 y13 y14 y15 : Int32) (h0 : Heap) (n0 : Nat) (Z0 : n0 ≤ h0.size) (V0 : Arv Z h0 a1 kc .byte (16 : Int32) [(.int y0), (.int y1), (.int y2), (.int y3), (.int y4), (.int y5), (.int y6), (.int y7), (.int y8), (.int y9), (.int y10), (.int y11), (.int y12), (.int y13), (.int y14), (.int y15)] (.int (0 : Int32))) (g_a1 : n0 ≤ a1) :
    MetFree l (⟨"com/example/snapmark/snapmark/mysql/LittleEndianReadPinLaw", "put8", "([BIJ)V"⟩ : MethodName) (head1 (Jvm.Cond.code (⟨"com/example/snapmark/snapmark/mysql/LittleEndianReadPinLaw", "put8", "([BIJ)V"⟩ : MethodName) method_2_code 4 none :: ws) ({ frames := 0, cells := 0, slots := 0, locals := 0 } : Room)) (fun a U => a = #[(.ref a1), (.int (0 : Int32)), (.long q3)] ∧ Z.Warmed39 U.vm ∧ U.heap = h0) (fun _ _ _ _ _ => True) (fun _ U o U' => ∃ v L, o = .returned v ∧ Q1a Z a1 q3 kc y0 y1 y2 y3 y4 y5 y6 y7 y8 y9 y10 y11 y12 y13 y14 y15 h0 n0 v U'.heap L ∧ FrameEnd U o U' L ({ frames := 0, cells := 0, slots := 0, locals := 0 } : Room).cells ({ frames := 0, cells := 0, slots := 0, locals := 0 } : Room).slots) := by
  refine MetFree.of_bodySF (plainFor_of_name pn_1a) hisR ?_
  intro p e s m args below meth c s₁ Bd hml0 hP hK
  obtain ⟨rfl, hZ, hh⟩ := hP
  have hx := Bd.exec
  have hby := Bd.bytes
  have hml : c.maxLocals = 4 := hml0
  have hown : s.vm.findClass "com/example/snapmark/snapmark/mysql/LittleEndianReadPinLaw" = some m.cls := findClass_of_methodNamed Bd.named
  have hnm := (name_of_methodNamed Bd.named Bd.method).1
  have X0 : Stand p l e ({ frames := 0, cells := 0, slots := 0, locals := 0 } : Room) s m #[(.ref a1), (.int (0 : Int32)), (.long q3)] below meth c s₁ [] 0 0 := Stand.of_body Bd
  have e0 : s₁.heap = h0 := by rw [← hh, Bd.state]; rfl
  have N0 := Fr.nil n0
  show own_Fin p e below (fun o U' => ∃ v L, o = .returned v ∧ Q1a Z a1 q3 kc y0 y1 y2 y3 y4 y5 y6 y7 y8 y9 y10 y11 y12 y13 y14 y15 h0 n0 v U'.heap L ∧ FrameEnd s o U' L ({ frames := 0, cells := 0, slots := 0, locals := 0 } : Room).cells ({ frames := 0, cells := 0, slots := 0, locals := 0 } : Room).slots) (s₁.setTop (entryFrame m #[(.ref a1), (.int (0 : Int32)), (.long q3)] 4))
  refine own_lift (fun tz kz => castTop (ef_1a m a1 (0 : Int32) q3) kz) ?_
  show own_Fin p e below _ (s₁.setTop (mkF m 0 #[.val (.ref a1), .val (.int (0 : Int32)), .val (.long q3), .second] []))
  refine own_lift (fun tz kz => XS.aloadN X0.here hx rfl (hb hby d1_0) rfl rfl kz) ?_
  show own_Fin p e below _ (s₁.setTop (mkF m 1 #[.val (.ref a1), .val (.int (0 : Int32)), .val (.long q3), .second] [(.ref a1)]))
  refine own_lift (fun tz kz => XS.iloadN X0.here hx rfl (hb hby d1_1) rfl kz) ?_
  show own_Fin p e below _ (s₁.setTop (mkF m 2 #[.val (.ref a1), .val (.int (0 : Int32)), .val (.long q3), .second] [(.int (0 : Int32)), (.ref a1)]))
  refine own_lift (fun tz kz => XS.lloadN X0.here hx rfl (hb hby d1_2) rfl kz) ?_
  show own_Fin p e below _ (s₁.setTop (mkF m 3 #[.val (.ref a1), .val (.int (0 : Int32)), .val (.long q3), .second] [(.long q3), (.int (0 : Int32)), (.ref a1)]))
  refine own_lift (fun tz kz => XS.l2i X0.here hx rfl (hb hby d1_3) rfl kz) ?_
  show own_Fin p e below _ (s₁.setTop (mkF m 4 #[.val (.ref a1), .val (.int (0 : Int32)), .val (.long q3), .second] [(.int (q3.toInt32)), (.int (0 : Int32)), (.ref a1)]))
  refine own_lift (fun tz kz => XS.i2b X0.here hx rfl (hb hby d1_4) rfl kz) ?_
  show own_Fin p e below _ (s₁.setTop (mkF m 5 #[.val (.ref a1), .val (.int (0 : Int32)), .val (.long q3), .second] [(.int ((q3.toInt32).toInt8.toInt32)), (.int (0 : Int32)), (.ref a1)]))
  have cpv_1 := V0
  obtain ⟨clv_1, Arv_1, qv_1, Sv_1, Mv_1, Hv_1, Gv_1⟩ := cpv_1
  obtain ⟨Tw_2, hw_2, Xw_2, ew_2, Ww_2, stw_2⟩ := stB X0 hx hZ e0 Arv_1 (j := (0 : Int32)) (inb_of Sv_1 ⟨by decide, by decide⟩) (g := (mkF m 5 #[.val (.ref a1), .val (.int (0 : Int32)), .val (.long q3), .second] [(.int ((q3.toInt32).toInt8.toInt32)), (.int (0 : Int32)), (.ref a1)])) rfl rfl (hb hby d1_5)
  have SZw_2 : n0 ≤ hw_2.size := Nat.le_trans Z0 (Keep.of_wr Ww_2).1
  have Kw_2 : Keep h0 hw_2 [a1] := (Keep.refl h0 [a1]).wr Ww_2 (Or.inl (List.mem_of_getElem? (i := 0) rfl))
  have Vw_2 : Arv Z hw_2 a1 kc .byte (16 : Int32) [(.int (((q3.toInt32).toInt8.toInt32).toInt8.toInt32)), (.int y1), (.int y2), (.int y3), (.int y4), (.int y5), (.int y6), (.int y7), (.int y8), (.int y9), (.int y10), (.int y11), (.int y12), (.int y13), (.int y14), (.int y15)] (.int (0 : Int32)) := Arv.set Arv_1 qv_1 Sv_1 Mv_1 Hv_1 Gv_1 (fits_nar_byte _) Ww_2 0 rfl (Nat.le_of_ble_eq_true rfl)
  rw [own_bb] at Vw_2
  have Nw_2 := Fr.snoc Xw_2 N0 g_a1
  refine own_lift (fun tz kz => stw_2 _ kz) ?_
  show own_Fin p e below _ (Tw_2.setTop (mkF m 6 #[.val (.ref a1), .val (.int (0 : Int32)), .val (.long q3), .second] []))
  refine own_lift (fun tz kz => XS.aloadN Xw_2.here hx rfl (hb hby d1_6) rfl rfl kz) ?_
  show own_Fin p e below _ (Tw_2.setTop (mkF m 7 #[.val (.ref a1), .val (.int (0 : Int32)), .val (.long q3), .second] [(.ref a1)]))
  refine own_lift (fun tz kz => XS.iloadN Xw_2.here hx rfl (hb hby d1_7) rfl kz) ?_
  show own_Fin p e below _ (Tw_2.setTop (mkF m 8 #[.val (.ref a1), .val (.int (0 : Int32)), .val (.long q3), .second] [(.int (0 : Int32)), (.ref a1)]))
  refine own_lift (fun tz kz => XS.iconst Xw_2.here hx rfl (hb hby d1_8) kz) ?_
  show own_Fin p e below _ (Tw_2.setTop (mkF m 9 #[.val (.ref a1), .val (.int (0 : Int32)), .val (.long q3), .second] [(.int (1 : Int32)), (.int (0 : Int32)), (.ref a1)]))
  refine own_lift (fun tz kz => XS.iadd Xw_2.here hx rfl (hb hby d1_9) rfl kz) ?_
  show own_Fin p e below _ (Tw_2.setTop (mkF m 10 #[.val (.ref a1), .val (.int (0 : Int32)), .val (.long q3), .second] [(.int (1 : Int32)), (.ref a1)]))
  refine own_lift (fun tz kz => XS.lloadN Xw_2.here hx rfl (hb hby d1_10) rfl kz) ?_
  show own_Fin p e below _ (Tw_2.setTop (mkF m 11 #[.val (.ref a1), .val (.int (0 : Int32)), .val (.long q3), .second] [(.long q3), (.int (1 : Int32)), (.ref a1)]))
  refine own_lift (fun tz kz => XS.bipush Xw_2.here hx rfl (hb hby d1_11) kz) ?_
  show own_Fin p e below _ (Tw_2.setTop (mkF m 13 #[.val (.ref a1), .val (.int (0 : Int32)), .val (.long q3), .second] [(.int (8 : Int32)), (.long q3), (.int (1 : Int32)), (.ref a1)]))
  refine own_lift (fun tz kz => XS.lshr Xw_2.here hx rfl (hb hby d1_13) rfl kz) ?_
  show own_Fin p e below _ (Tw_2.setTop (mkF m 14 #[.val (.ref a1), .val (.int (0 : Int32)), .val (.long q3), .second] [(.long (q3 >>> ((8 : Int32) &&& 0x3f).toInt64)), (.int (1 : Int32)), (.ref a1)]))
  refine own_lift (fun tz kz => XS.l2i Xw_2.here hx rfl (hb hby d1_14) rfl kz) ?_
  show own_Fin p e below _ (Tw_2.setTop (mkF m 15 #[.val (.ref a1), .val (.int (0 : Int32)), .val (.long q3), .second] [(.int ((q3 >>> ((8 : Int32) &&& 0x3f).toInt64).toInt32)), (.int (1 : Int32)), (.ref a1)]))
  refine own_lift (fun tz kz => XS.i2b Xw_2.here hx rfl (hb hby d1_15) rfl kz) ?_
  show own_Fin p e below _ (Tw_2.setTop (mkF m 16 #[.val (.ref a1), .val (.int (0 : Int32)), .val (.long q3), .second] [(.int (((q3 >>> ((8 : Int32) &&& 0x3f).toInt64).toInt32).toInt8.toInt32)), (.int (1 : Int32)), (.ref a1)]))
  have cpv_3 := Vw_2
  obtain ⟨clv_3, Arv_3, qv_3, Sv_3, Mv_3, Hv_3, Gv_3⟩ := cpv_3
  obtain ⟨Tw_4, hw_4, Xw_4, ew_4, Ww_4, stw_4⟩ := stB Xw_2 hx hZ ew_2 Arv_3 (j := (1 : Int32)) (inb_of Sv_3 ⟨by decide, by decide⟩) (g := (mkF m 16 #[.val (.ref a1), .val (.int (0 : Int32)), .val (.long q3), .second] [(.int (((q3 >>> ((8 : Int32) &&& 0x3f).toInt64).toInt32).toInt8.toInt32)), (.int (1 : Int32)), (.ref a1)])) rfl rfl (hb hby d1_16)
  have SZw_4 : n0 ≤ hw_4.size := Nat.le_trans SZw_2 (Keep.of_wr Ww_4).1
  have Kw_4 : Keep h0 hw_4 [a1] := Kw_2.wr Ww_4 (Or.inl (List.mem_of_getElem? (i := 0) rfl))
  have Vw_4 : Arv Z hw_4 a1 kc .byte (16 : Int32) [(.int ((q3.toInt32).toInt8.toInt32)), (.int ((((q3 >>> ((8 : Int32) &&& 0x3f).toInt64).toInt32).toInt8.toInt32).toInt8.toInt32)), (.int y2), (.int y3), (.int y4), (.int y5), (.int y6), (.int y7), (.int y8), (.int y9), (.int y10), (.int y11), (.int y12), (.int y13), (.int y14), (.int y15)] (.int (0 : Int32)) := Arv.set Arv_3 qv_3 Sv_3 Mv_3 Hv_3 Gv_3 (fits_nar_byte _) Ww_4 1 rfl (Nat.le_of_ble_eq_true rfl)
  rw [own_bb] at Vw_4
  have Nw_4 := Fr.snoc Xw_4 Nw_2 g_a1
  refine own_lift (fun tz kz => stw_4 _ kz) ?_
  show own_Fin p e below _ (Tw_4.setTop (mkF m 17 #[.val (.ref a1), .val (.int (0 : Int32)), .val (.long q3), .second] []))
  refine own_lift (fun tz kz => XS.aloadN Xw_4.here hx rfl (hb hby d1_17) rfl rfl kz) ?_
  show own_Fin p e below _ (Tw_4.setTop (mkF m 18 #[.val (.ref a1), .val (.int (0 : Int32)), .val (.long q3), .second] [(.ref a1)]))
  refine own_lift (fun tz kz => XS.iloadN Xw_4.here hx rfl (hb hby d1_18) rfl kz) ?_
  show own_Fin p e below _ (Tw_4.setTop (mkF m 19 #[.val (.ref a1), .val (.int (0 : Int32)), .val (.long q3), .second] [(.int (0 : Int32)), (.ref a1)]))
  refine own_lift (fun tz kz => XS.iconst Xw_4.here hx rfl (hb hby d1_19) kz) ?_
  show own_Fin p e below _ (Tw_4.setTop (mkF m 20 #[.val (.ref a1), .val (.int (0 : Int32)), .val (.long q3), .second] [(.int (2 : Int32)), (.int (0 : Int32)), (.ref a1)]))
  refine own_lift (fun tz kz => XS.iadd Xw_4.here hx rfl (hb hby d1_20) rfl kz) ?_
  show own_Fin p e below _ (Tw_4.setTop (mkF m 21 #[.val (.ref a1), .val (.int (0 : Int32)), .val (.long q3), .second] [(.int (2 : Int32)), (.ref a1)]))
  refine own_lift (fun tz kz => XS.lloadN Xw_4.here hx rfl (hb hby d1_21) rfl kz) ?_
  show own_Fin p e below _ (Tw_4.setTop (mkF m 22 #[.val (.ref a1), .val (.int (0 : Int32)), .val (.long q3), .second] [(.long q3), (.int (2 : Int32)), (.ref a1)]))
  refine own_lift (fun tz kz => XS.bipush Xw_4.here hx rfl (hb hby d1_22) kz) ?_
  show own_Fin p e below _ (Tw_4.setTop (mkF m 24 #[.val (.ref a1), .val (.int (0 : Int32)), .val (.long q3), .second] [(.int (16 : Int32)), (.long q3), (.int (2 : Int32)), (.ref a1)]))
  refine own_lift (fun tz kz => XS.lshr Xw_4.here hx rfl (hb hby d1_24) rfl kz) ?_
  show own_Fin p e below _ (Tw_4.setTop (mkF m 25 #[.val (.ref a1), .val (.int (0 : Int32)), .val (.long q3), .second] [(.long (q3 >>> ((16 : Int32) &&& 0x3f).toInt64)), (.int (2 : Int32)), (.ref a1)]))
  refine own_lift (fun tz kz => XS.l2i Xw_4.here hx rfl (hb hby d1_25) rfl kz) ?_
  show own_Fin p e below _ (Tw_4.setTop (mkF m 26 #[.val (.ref a1), .val (.int (0 : Int32)), .val (.long q3), .second] [(.int ((q3 >>> ((16 : Int32) &&& 0x3f).toInt64).toInt32)), (.int (2 : Int32)), (.ref a1)]))
  refine own_lift (fun tz kz => XS.i2b Xw_4.here hx rfl (hb hby d1_26) rfl kz) ?_
  show own_Fin p e below _ (Tw_4.setTop (mkF m 27 #[.val (.ref a1), .val (.int (0 : Int32)), .val (.long q3), .second] [(.int (((q3 >>> ((16 : Int32) &&& 0x3f).toInt64).toInt32).toInt8.toInt32)), (.int (2 : Int32)), (.ref a1)]))
  have cpv_5 := Vw_4
  obtain ⟨clv_5, Arv_5, qv_5, Sv_5, Mv_5, Hv_5, Gv_5⟩ := cpv_5
  obtain ⟨Tw_6, hw_6, Xw_6, ew_6, Ww_6, stw_6⟩ := stB Xw_4 hx hZ ew_4 Arv_5 (j := (2 : Int32)) (inb_of Sv_5 ⟨by decide, by decide⟩) (g := (mkF m 27 #[.val (.ref a1), .val (.int (0 : Int32)), .val (.long q3), .second] [(.int (((q3 >>> ((16 : Int32) &&& 0x3f).toInt64).toInt32).toInt8.toInt32)), (.int (2 : Int32)), (.ref a1)])) rfl rfl (hb hby d1_27)
  have SZw_6 : n0 ≤ hw_6.size := Nat.le_trans SZw_4 (Keep.of_wr Ww_6).1
  have Kw_6 : Keep h0 hw_6 [a1] := Kw_4.wr Ww_6 (Or.inl (List.mem_of_getElem? (i := 0) rfl))
  have Vw_6 : Arv Z hw_6 a1 kc .byte (16 : Int32) [(.int ((q3.toInt32).toInt8.toInt32)), (.int (((q3 >>> ((8 : Int32) &&& 0x3f).toInt64).toInt32).toInt8.toInt32)), (.int ((((q3 >>> ((16 : Int32) &&& 0x3f).toInt64).toInt32).toInt8.toInt32).toInt8.toInt32)), (.int y3), (.int y4), (.int y5), (.int y6), (.int y7), (.int y8), (.int y9), (.int y10), (.int y11), (.int y12), (.int y13), (.int y14), (.int y15)] (.int (0 : Int32)) := Arv.set Arv_5 qv_5 Sv_5 Mv_5 Hv_5 Gv_5 (fits_nar_byte _) Ww_6 2 rfl (Nat.le_of_ble_eq_true rfl)
  rw [own_bb] at Vw_6
  have Nw_6 := Fr.snoc Xw_6 Nw_4 g_a1
  refine own_lift (fun tz kz => stw_6 _ kz) ?_
  show own_Fin p e below _ (Tw_6.setTop (mkF m 28 #[.val (.ref a1), .val (.int (0 : Int32)), .val (.long q3), .second] []))
  refine own_lift (fun tz kz => XS.aloadN Xw_6.here hx rfl (hb hby d1_28) rfl rfl kz) ?_
  show own_Fin p e below _ (Tw_6.setTop (mkF m 29 #[.val (.ref a1), .val (.int (0 : Int32)), .val (.long q3), .second] [(.ref a1)]))
  refine own_lift (fun tz kz => XS.iloadN Xw_6.here hx rfl (hb hby d1_29) rfl kz) ?_
  show own_Fin p e below _ (Tw_6.setTop (mkF m 30 #[.val (.ref a1), .val (.int (0 : Int32)), .val (.long q3), .second] [(.int (0 : Int32)), (.ref a1)]))
  refine own_lift (fun tz kz => XS.iconst Xw_6.here hx rfl (hb hby d1_30) kz) ?_
  show own_Fin p e below _ (Tw_6.setTop (mkF m 31 #[.val (.ref a1), .val (.int (0 : Int32)), .val (.long q3), .second] [(.int (3 : Int32)), (.int (0 : Int32)), (.ref a1)]))
  refine own_lift (fun tz kz => XS.iadd Xw_6.here hx rfl (hb hby d1_31) rfl kz) ?_
  show own_Fin p e below _ (Tw_6.setTop (mkF m 32 #[.val (.ref a1), .val (.int (0 : Int32)), .val (.long q3), .second] [(.int (3 : Int32)), (.ref a1)]))
  refine own_lift (fun tz kz => XS.lloadN Xw_6.here hx rfl (hb hby d1_32) rfl kz) ?_
  show own_Fin p e below _ (Tw_6.setTop (mkF m 33 #[.val (.ref a1), .val (.int (0 : Int32)), .val (.long q3), .second] [(.long q3), (.int (3 : Int32)), (.ref a1)]))
  refine own_lift (fun tz kz => XS.bipush Xw_6.here hx rfl (hb hby d1_33) kz) ?_
  show own_Fin p e below _ (Tw_6.setTop (mkF m 35 #[.val (.ref a1), .val (.int (0 : Int32)), .val (.long q3), .second] [(.int (24 : Int32)), (.long q3), (.int (3 : Int32)), (.ref a1)]))
  refine own_lift (fun tz kz => XS.lshr Xw_6.here hx rfl (hb hby d1_35) rfl kz) ?_
  show own_Fin p e below _ (Tw_6.setTop (mkF m 36 #[.val (.ref a1), .val (.int (0 : Int32)), .val (.long q3), .second] [(.long (q3 >>> ((24 : Int32) &&& 0x3f).toInt64)), (.int (3 : Int32)), (.ref a1)]))
  refine own_lift (fun tz kz => XS.l2i Xw_6.here hx rfl (hb hby d1_36) rfl kz) ?_
  show own_Fin p e below _ (Tw_6.setTop (mkF m 37 #[.val (.ref a1), .val (.int (0 : Int32)), .val (.long q3), .second] [(.int ((q3 >>> ((24 : Int32) &&& 0x3f).toInt64).toInt32)), (.int (3 : Int32)), (.ref a1)]))
  refine own_lift (fun tz kz => XS.i2b Xw_6.here hx rfl (hb hby d1_37) rfl kz) ?_
  show own_Fin p e below _ (Tw_6.setTop (mkF m 38 #[.val (.ref a1), .val (.int (0 : Int32)), .val (.long q3), .second] [(.int (((q3 >>> ((24 : Int32) &&& 0x3f).toInt64).toInt32).toInt8.toInt32)), (.int (3 : Int32)), (.ref a1)]))
  have cpv_7 := Vw_6
  obtain ⟨clv_7, Arv_7, qv_7, Sv_7, Mv_7, Hv_7, Gv_7⟩ := cpv_7
  obtain ⟨Tw_8, hw_8, Xw_8, ew_8, Ww_8, stw_8⟩ := stB Xw_6 hx hZ ew_6 Arv_7 (j := (3 : Int32)) (inb_of Sv_7 ⟨by decide, by decide⟩) (g := (mkF m 38 #[.val (.ref a1), .val (.int (0 : Int32)), .val (.long q3), .second] [(.int (((q3 >>> ((24 : Int32) &&& 0x3f).toInt64).toInt32).toInt8.toInt32)), (.int (3 : Int32)), (.ref a1)])) rfl rfl (hb hby d1_38)
  have SZw_8 : n0 ≤ hw_8.size := Nat.le_trans SZw_6 (Keep.of_wr Ww_8).1
  have Kw_8 : Keep h0 hw_8 [a1] := Kw_6.wr Ww_8 (Or.inl (List.mem_of_getElem? (i := 0) rfl))
  have Vw_8 : Arv Z hw_8 a1 kc .byte (16 : Int32) [(.int ((q3.toInt32).toInt8.toInt32)), (.int (((q3 >>> ((8 : Int32) &&& 0x3f).toInt64).toInt32).toInt8.toInt32)), (.int (((q3 >>> ((16 : Int32) &&& 0x3f).toInt64).toInt32).toInt8.toInt32)), (.int ((((q3 >>> ((24 : Int32) &&& 0x3f).toInt64).toInt32).toInt8.toInt32).toInt8.toInt32)), (.int y4), (.int y5), (.int y6), (.int y7), (.int y8), (.int y9), (.int y10), (.int y11), (.int y12), (.int y13), (.int y14), (.int y15)] (.int (0 : Int32)) := Arv.set Arv_7 qv_7 Sv_7 Mv_7 Hv_7 Gv_7 (fits_nar_byte _) Ww_8 3 rfl (Nat.le_of_ble_eq_true rfl)
  rw [own_bb] at Vw_8
  have Nw_8 := Fr.snoc Xw_8 Nw_6 g_a1
  refine own_lift (fun tz kz => stw_8 _ kz) ?_
  show own_Fin p e below _ (Tw_8.setTop (mkF m 39 #[.val (.ref a1), .val (.int (0 : Int32)), .val (.long q3), .second] []))
  refine own_lift (fun tz kz => XS.aloadN Xw_8.here hx rfl (hb hby d1_39) rfl rfl kz) ?_
  show own_Fin p e below _ (Tw_8.setTop (mkF m 40 #[.val (.ref a1), .val (.int (0 : Int32)), .val (.long q3), .second] [(.ref a1)]))
  refine own_lift (fun tz kz => XS.iloadN Xw_8.here hx rfl (hb hby d1_40) rfl kz) ?_
  show own_Fin p e below _ (Tw_8.setTop (mkF m 41 #[.val (.ref a1), .val (.int (0 : Int32)), .val (.long q3), .second] [(.int (0 : Int32)), (.ref a1)]))
  refine own_lift (fun tz kz => XS.iconst Xw_8.here hx rfl (hb hby d1_41) kz) ?_
  show own_Fin p e below _ (Tw_8.setTop (mkF m 42 #[.val (.ref a1), .val (.int (0 : Int32)), .val (.long q3), .second] [(.int (4 : Int32)), (.int (0 : Int32)), (.ref a1)]))
  refine own_lift (fun tz kz => XS.iadd Xw_8.here hx rfl (hb hby d1_42) rfl kz) ?_
  show own_Fin p e below _ (Tw_8.setTop (mkF m 43 #[.val (.ref a1), .val (.int (0 : Int32)), .val (.long q3), .second] [(.int (4 : Int32)), (.ref a1)]))
  refine own_lift (fun tz kz => XS.lloadN Xw_8.here hx rfl (hb hby d1_43) rfl kz) ?_
  show own_Fin p e below _ (Tw_8.setTop (mkF m 44 #[.val (.ref a1), .val (.int (0 : Int32)), .val (.long q3), .second] [(.long q3), (.int (4 : Int32)), (.ref a1)]))
  refine own_lift (fun tz kz => XS.bipush Xw_8.here hx rfl (hb hby d1_44) kz) ?_
  show own_Fin p e below _ (Tw_8.setTop (mkF m 46 #[.val (.ref a1), .val (.int (0 : Int32)), .val (.long q3), .second] [(.int (32 : Int32)), (.long q3), (.int (4 : Int32)), (.ref a1)]))
  refine own_lift (fun tz kz => XS.lshr Xw_8.here hx rfl (hb hby d1_46) rfl kz) ?_
  show own_Fin p e below _ (Tw_8.setTop (mkF m 47 #[.val (.ref a1), .val (.int (0 : Int32)), .val (.long q3), .second] [(.long (q3 >>> ((32 : Int32) &&& 0x3f).toInt64)), (.int (4 : Int32)), (.ref a1)]))
  refine own_lift (fun tz kz => XS.l2i Xw_8.here hx rfl (hb hby d1_47) rfl kz) ?_
  show own_Fin p e below _ (Tw_8.setTop (mkF m 48 #[.val (.ref a1), .val (.int (0 : Int32)), .val (.long q3), .second] [(.int ((q3 >>> ((32 : Int32) &&& 0x3f).toInt64).toInt32)), (.int (4 : Int32)), (.ref a1)]))
  refine own_lift (fun tz kz => XS.i2b Xw_8.here hx rfl (hb hby d1_48) rfl kz) ?_
  show own_Fin p e below _ (Tw_8.setTop (mkF m 49 #[.val (.ref a1), .val (.int (0 : Int32)), .val (.long q3), .second] [(.int (((q3 >>> ((32 : Int32) &&& 0x3f).toInt64).toInt32).toInt8.toInt32)), (.int (4 : Int32)), (.ref a1)]))
  have cpv_9 := Vw_8
  obtain ⟨clv_9, Arv_9, qv_9, Sv_9, Mv_9, Hv_9, Gv_9⟩ := cpv_9
  obtain ⟨Tw_10, hw_10, Xw_10, ew_10, Ww_10, stw_10⟩ := stB Xw_8 hx hZ ew_8 Arv_9 (j := (4 : Int32)) (inb_of Sv_9 ⟨by decide, by decide⟩) (g := (mkF m 49 #[.val (.ref a1), .val (.int (0 : Int32)), .val (.long q3), .second] [(.int (((q3 >>> ((32 : Int32) &&& 0x3f).toInt64).toInt32).toInt8.toInt32)), (.int (4 : Int32)), (.ref a1)])) rfl rfl (hb hby d1_49)
  have SZw_10 : n0 ≤ hw_10.size := Nat.le_trans SZw_8 (Keep.of_wr Ww_10).1
  have Kw_10 : Keep h0 hw_10 [a1] := Kw_8.wr Ww_10 (Or.inl (List.mem_of_getElem? (i := 0) rfl))
  have Vw_10 : Arv Z hw_10 a1 kc .byte (16 : Int32) [(.int ((q3.toInt32).toInt8.toInt32)), (.int (((q3 >>> ((8 : Int32) &&& 0x3f).toInt64).toInt32).toInt8.toInt32)), (.int (((q3 >>> ((16 : Int32) &&& 0x3f).toInt64).toInt32).toInt8.toInt32)), (.int (((q3 >>> ((24 : Int32) &&& 0x3f).toInt64).toInt32).toInt8.toInt32)), (.int ((((q3 >>> ((32 : Int32) &&& 0x3f).toInt64).toInt32).toInt8.toInt32).toInt8.toInt32)), (.int y5), (.int y6), (.int y7), (.int y8), (.int y9), (.int y10), (.int y11), (.int y12), (.int y13), (.int y14), (.int y15)] (.int (0 : Int32)) := Arv.set Arv_9 qv_9 Sv_9 Mv_9 Hv_9 Gv_9 (fits_nar_byte _) Ww_10 4 rfl (Nat.le_of_ble_eq_true rfl)
  rw [own_bb] at Vw_10
  have Nw_10 := Fr.snoc Xw_10 Nw_8 g_a1
  refine own_lift (fun tz kz => stw_10 _ kz) ?_
  show own_Fin p e below _ (Tw_10.setTop (mkF m 50 #[.val (.ref a1), .val (.int (0 : Int32)), .val (.long q3), .second] []))
  refine own_lift (fun tz kz => XS.aloadN Xw_10.here hx rfl (hb hby d1_50) rfl rfl kz) ?_
  show own_Fin p e below _ (Tw_10.setTop (mkF m 51 #[.val (.ref a1), .val (.int (0 : Int32)), .val (.long q3), .second] [(.ref a1)]))
  refine own_lift (fun tz kz => XS.iloadN Xw_10.here hx rfl (hb hby d1_51) rfl kz) ?_
  show own_Fin p e below _ (Tw_10.setTop (mkF m 52 #[.val (.ref a1), .val (.int (0 : Int32)), .val (.long q3), .second] [(.int (0 : Int32)), (.ref a1)]))
  refine own_lift (fun tz kz => XS.iconst Xw_10.here hx rfl (hb hby d1_52) kz) ?_
  show own_Fin p e below _ (Tw_10.setTop (mkF m 53 #[.val (.ref a1), .val (.int (0 : Int32)), .val (.long q3), .second] [(.int (5 : Int32)), (.int (0 : Int32)), (.ref a1)]))
  refine own_lift (fun tz kz => XS.iadd Xw_10.here hx rfl (hb hby d1_53) rfl kz) ?_
  show own_Fin p e below _ (Tw_10.setTop (mkF m 54 #[.val (.ref a1), .val (.int (0 : Int32)), .val (.long q3), .second] [(.int (5 : Int32)), (.ref a1)]))
  refine own_lift (fun tz kz => XS.lloadN Xw_10.here hx rfl (hb hby d1_54) rfl kz) ?_
  show own_Fin p e below _ (Tw_10.setTop (mkF m 55 #[.val (.ref a1), .val (.int (0 : Int32)), .val (.long q3), .second] [(.long q3), (.int (5 : Int32)), (.ref a1)]))
  refine own_lift (fun tz kz => XS.bipush Xw_10.here hx rfl (hb hby d1_55) kz) ?_
  show own_Fin p e below _ (Tw_10.setTop (mkF m 57 #[.val (.ref a1), .val (.int (0 : Int32)), .val (.long q3), .second] [(.int (40 : Int32)), (.long q3), (.int (5 : Int32)), (.ref a1)]))
  refine own_lift (fun tz kz => XS.lshr Xw_10.here hx rfl (hb hby d1_57) rfl kz) ?_
  show own_Fin p e below _ (Tw_10.setTop (mkF m 58 #[.val (.ref a1), .val (.int (0 : Int32)), .val (.long q3), .second] [(.long (q3 >>> ((40 : Int32) &&& 0x3f).toInt64)), (.int (5 : Int32)), (.ref a1)]))
  refine own_lift (fun tz kz => XS.l2i Xw_10.here hx rfl (hb hby d1_58) rfl kz) ?_
  show own_Fin p e below _ (Tw_10.setTop (mkF m 59 #[.val (.ref a1), .val (.int (0 : Int32)), .val (.long q3), .second] [(.int ((q3 >>> ((40 : Int32) &&& 0x3f).toInt64).toInt32)), (.int (5 : Int32)), (.ref a1)]))
  refine own_lift (fun tz kz => XS.i2b Xw_10.here hx rfl (hb hby d1_59) rfl kz) ?_
  show own_Fin p e below _ (Tw_10.setTop (mkF m 60 #[.val (.ref a1), .val (.int (0 : Int32)), .val (.long q3), .second] [(.int (((q3 >>> ((40 : Int32) &&& 0x3f).toInt64).toInt32).toInt8.toInt32)), (.int (5 : Int32)), (.ref a1)]))
  have cpv_11 := Vw_10
  obtain ⟨clv_11, Arv_11, qv_11, Sv_11, Mv_11, Hv_11, Gv_11⟩ := cpv_11
  obtain ⟨Tw_12, hw_12, Xw_12, ew_12, Ww_12, stw_12⟩ := stB Xw_10 hx hZ ew_10 Arv_11 (j := (5 : Int32)) (inb_of Sv_11 ⟨by decide, by decide⟩) (g := (mkF m 60 #[.val (.ref a1), .val (.int (0 : Int32)), .val (.long q3), .second] [(.int (((q3 >>> ((40 : Int32) &&& 0x3f).toInt64).toInt32).toInt8.toInt32)), (.int (5 : Int32)), (.ref a1)])) rfl rfl (hb hby d1_60)
  have SZw_12 : n0 ≤ hw_12.size := Nat.le_trans SZw_10 (Keep.of_wr Ww_12).1
  have Kw_12 : Keep h0 hw_12 [a1] := Kw_10.wr Ww_12 (Or.inl (List.mem_of_getElem? (i := 0) rfl))
  have Vw_12 : Arv Z hw_12 a1 kc .byte (16 : Int32) [(.int ((q3.toInt32).toInt8.toInt32)), (.int (((q3 >>> ((8 : Int32) &&& 0x3f).toInt64).toInt32).toInt8.toInt32)), (.int (((q3 >>> ((16 : Int32) &&& 0x3f).toInt64).toInt32).toInt8.toInt32)), (.int (((q3 >>> ((24 : Int32) &&& 0x3f).toInt64).toInt32).toInt8.toInt32)), (.int (((q3 >>> ((32 : Int32) &&& 0x3f).toInt64).toInt32).toInt8.toInt32)), (.int ((((q3 >>> ((40 : Int32) &&& 0x3f).toInt64).toInt32).toInt8.toInt32).toInt8.toInt32)), (.int y6), (.int y7), (.int y8), (.int y9), (.int y10), (.int y11), (.int y12), (.int y13), (.int y14), (.int y15)] (.int (0 : Int32)) := Arv.set Arv_11 qv_11 Sv_11 Mv_11 Hv_11 Gv_11 (fits_nar_byte _) Ww_12 5 rfl (Nat.le_of_ble_eq_true rfl)
  rw [own_bb] at Vw_12
  have Nw_12 := Fr.snoc Xw_12 Nw_10 g_a1
  refine own_lift (fun tz kz => stw_12 _ kz) ?_
  show own_Fin p e below _ (Tw_12.setTop (mkF m 61 #[.val (.ref a1), .val (.int (0 : Int32)), .val (.long q3), .second] []))
  refine own_lift (fun tz kz => XS.aloadN Xw_12.here hx rfl (hb hby d1_61) rfl rfl kz) ?_
  show own_Fin p e below _ (Tw_12.setTop (mkF m 62 #[.val (.ref a1), .val (.int (0 : Int32)), .val (.long q3), .second] [(.ref a1)]))
  refine own_lift (fun tz kz => XS.iloadN Xw_12.here hx rfl (hb hby d1_62) rfl kz) ?_
  show own_Fin p e below _ (Tw_12.setTop (mkF m 63 #[.val (.ref a1), .val (.int (0 : Int32)), .val (.long q3), .second] [(.int (0 : Int32)), (.ref a1)]))
  refine own_lift (fun tz kz => XS.bipush Xw_12.here hx rfl (hb hby d1_63) kz) ?_
  show own_Fin p e below _ (Tw_12.setTop (mkF m 65 #[.val (.ref a1), .val (.int (0 : Int32)), .val (.long q3), .second] [(.int (6 : Int32)), (.int (0 : Int32)), (.ref a1)]))
  refine own_lift (fun tz kz => XS.iadd Xw_12.here hx rfl (hb hby d1_65) rfl kz) ?_
  show own_Fin p e below _ (Tw_12.setTop (mkF m 66 #[.val (.ref a1), .val (.int (0 : Int32)), .val (.long q3), .second] [(.int (6 : Int32)), (.ref a1)]))
  refine own_lift (fun tz kz => XS.lloadN Xw_12.here hx rfl (hb hby d1_66) rfl kz) ?_
  show own_Fin p e below _ (Tw_12.setTop (mkF m 67 #[.val (.ref a1), .val (.int (0 : Int32)), .val (.long q3), .second] [(.long q3), (.int (6 : Int32)), (.ref a1)]))
  refine own_lift (fun tz kz => XS.bipush Xw_12.here hx rfl (hb hby d1_67) kz) ?_
  show own_Fin p e below _ (Tw_12.setTop (mkF m 69 #[.val (.ref a1), .val (.int (0 : Int32)), .val (.long q3), .second] [(.int (48 : Int32)), (.long q3), (.int (6 : Int32)), (.ref a1)]))
  refine own_lift (fun tz kz => XS.lshr Xw_12.here hx rfl (hb hby d1_69) rfl kz) ?_
  show own_Fin p e below _ (Tw_12.setTop (mkF m 70 #[.val (.ref a1), .val (.int (0 : Int32)), .val (.long q3), .second] [(.long (q3 >>> ((48 : Int32) &&& 0x3f).toInt64)), (.int (6 : Int32)), (.ref a1)]))
  refine own_lift (fun tz kz => XS.l2i Xw_12.here hx rfl (hb hby d1_70) rfl kz) ?_
  show own_Fin p e below _ (Tw_12.setTop (mkF m 71 #[.val (.ref a1), .val (.int (0 : Int32)), .val (.long q3), .second] [(.int ((q3 >>> ((48 : Int32) &&& 0x3f).toInt64).toInt32)), (.int (6 : Int32)), (.ref a1)]))
  refine own_lift (fun tz kz => XS.i2b Xw_12.here hx rfl (hb hby d1_71) rfl kz) ?_
  show own_Fin p e below _ (Tw_12.setTop (mkF m 72 #[.val (.ref a1), .val (.int (0 : Int32)), .val (.long q3), .second] [(.int (((q3 >>> ((48 : Int32) &&& 0x3f).toInt64).toInt32).toInt8.toInt32)), (.int (6 : Int32)), (.ref a1)]))
  have cpv_13 := Vw_12
  obtain ⟨clv_13, Arv_13, qv_13, Sv_13, Mv_13, Hv_13, Gv_13⟩ := cpv_13
  obtain ⟨Tw_14, hw_14, Xw_14, ew_14, Ww_14, stw_14⟩ := stB Xw_12 hx hZ ew_12 Arv_13 (j := (6 : Int32)) (inb_of Sv_13 ⟨by decide, by decide⟩) (g := (mkF m 72 #[.val (.ref a1), .val (.int (0 : Int32)), .val (.long q3), .second] [(.int (((q3 >>> ((48 : Int32) &&& 0x3f).toInt64).toInt32).toInt8.toInt32)), (.int (6 : Int32)), (.ref a1)])) rfl rfl (hb hby d1_72)
  have SZw_14 : n0 ≤ hw_14.size := Nat.le_trans SZw_12 (Keep.of_wr Ww_14).1
  have Kw_14 : Keep h0 hw_14 [a1] := Kw_12.wr Ww_14 (Or.inl (List.mem_of_getElem? (i := 0) rfl))
  have Vw_14 : Arv Z hw_14 a1 kc .byte (16 : Int32) [(.int ((q3.toInt32).toInt8.toInt32)), (.int (((q3 >>> ((8 : Int32) &&& 0x3f).toInt64).toInt32).toInt8.toInt32)), (.int (((q3 >>> ((16 : Int32) &&& 0x3f).toInt64).toInt32).toInt8.toInt32)), (.int (((q3 >>> ((24 : Int32) &&& 0x3f).toInt64).toInt32).toInt8.toInt32)), (.int (((q3 >>> ((32 : Int32) &&& 0x3f).toInt64).toInt32).toInt8.toInt32)), (.int (((q3 >>> ((40 : Int32) &&& 0x3f).toInt64).toInt32).toInt8.toInt32)), (.int ((((q3 >>> ((48 : Int32) &&& 0x3f).toInt64).toInt32).toInt8.toInt32).toInt8.toInt32)), (.int y7), (.int y8), (.int y9), (.int y10), (.int y11), (.int y12), (.int y13), (.int y14), (.int y15)] (.int (0 : Int32)) := Arv.set Arv_13 qv_13 Sv_13 Mv_13 Hv_13 Gv_13 (fits_nar_byte _) Ww_14 6 rfl (Nat.le_of_ble_eq_true rfl)
  rw [own_bb] at Vw_14
  have Nw_14 := Fr.snoc Xw_14 Nw_12 g_a1
  refine own_lift (fun tz kz => stw_14 _ kz) ?_
  show own_Fin p e below _ (Tw_14.setTop (mkF m 73 #[.val (.ref a1), .val (.int (0 : Int32)), .val (.long q3), .second] []))
  refine own_lift (fun tz kz => XS.aloadN Xw_14.here hx rfl (hb hby d1_73) rfl rfl kz) ?_
  show own_Fin p e below _ (Tw_14.setTop (mkF m 74 #[.val (.ref a1), .val (.int (0 : Int32)), .val (.long q3), .second] [(.ref a1)]))
  refine own_lift (fun tz kz => XS.iloadN Xw_14.here hx rfl (hb hby d1_74) rfl kz) ?_
  show own_Fin p e below _ (Tw_14.setTop (mkF m 75 #[.val (.ref a1), .val (.int (0 : Int32)), .val (.long q3), .second] [(.int (0 : Int32)), (.ref a1)]))
  refine own_lift (fun tz kz => XS.bipush Xw_14.here hx rfl (hb hby d1_75) kz) ?_
  show own_Fin p e below _ (Tw_14.setTop (mkF m 77 #[.val (.ref a1), .val (.int (0 : Int32)), .val (.long q3), .second] [(.int (7 : Int32)), (.int (0 : Int32)), (.ref a1)]))
  refine own_lift (fun tz kz => XS.iadd Xw_14.here hx rfl (hb hby d1_77) rfl kz) ?_
  show own_Fin p e below _ (Tw_14.setTop (mkF m 78 #[.val (.ref a1), .val (.int (0 : Int32)), .val (.long q3), .second] [(.int (7 : Int32)), (.ref a1)]))
  refine own_lift (fun tz kz => XS.lloadN Xw_14.here hx rfl (hb hby d1_78) rfl kz) ?_
  show own_Fin p e below _ (Tw_14.setTop (mkF m 79 #[.val (.ref a1), .val (.int (0 : Int32)), .val (.long q3), .second] [(.long q3), (.int (7 : Int32)), (.ref a1)]))
  refine own_lift (fun tz kz => XS.bipush Xw_14.here hx rfl (hb hby d1_79) kz) ?_
  show own_Fin p e below _ (Tw_14.setTop (mkF m 81 #[.val (.ref a1), .val (.int (0 : Int32)), .val (.long q3), .second] [(.int (56 : Int32)), (.long q3), (.int (7 : Int32)), (.ref a1)]))
  refine own_lift (fun tz kz => XS.lshr Xw_14.here hx rfl (hb hby d1_81) rfl kz) ?_
  show own_Fin p e below _ (Tw_14.setTop (mkF m 82 #[.val (.ref a1), .val (.int (0 : Int32)), .val (.long q3), .second] [(.long (q3 >>> ((56 : Int32) &&& 0x3f).toInt64)), (.int (7 : Int32)), (.ref a1)]))
  refine own_lift (fun tz kz => XS.l2i Xw_14.here hx rfl (hb hby d1_82) rfl kz) ?_
  show own_Fin p e below _ (Tw_14.setTop (mkF m 83 #[.val (.ref a1), .val (.int (0 : Int32)), .val (.long q3), .second] [(.int ((q3 >>> ((56 : Int32) &&& 0x3f).toInt64).toInt32)), (.int (7 : Int32)), (.ref a1)]))
  refine own_lift (fun tz kz => XS.i2b Xw_14.here hx rfl (hb hby d1_83) rfl kz) ?_
  show own_Fin p e below _ (Tw_14.setTop (mkF m 84 #[.val (.ref a1), .val (.int (0 : Int32)), .val (.long q3), .second] [(.int (((q3 >>> ((56 : Int32) &&& 0x3f).toInt64).toInt32).toInt8.toInt32)), (.int (7 : Int32)), (.ref a1)]))
  have cpv_15 := Vw_14
  obtain ⟨clv_15, Arv_15, qv_15, Sv_15, Mv_15, Hv_15, Gv_15⟩ := cpv_15
  obtain ⟨Tw_16, hw_16, Xw_16, ew_16, Ww_16, stw_16⟩ := stB Xw_14 hx hZ ew_14 Arv_15 (j := (7 : Int32)) (inb_of Sv_15 ⟨by decide, by decide⟩) (g := (mkF m 84 #[.val (.ref a1), .val (.int (0 : Int32)), .val (.long q3), .second] [(.int (((q3 >>> ((56 : Int32) &&& 0x3f).toInt64).toInt32).toInt8.toInt32)), (.int (7 : Int32)), (.ref a1)])) rfl rfl (hb hby d1_84)
  have SZw_16 : n0 ≤ hw_16.size := Nat.le_trans SZw_14 (Keep.of_wr Ww_16).1
  have Kw_16 : Keep h0 hw_16 [a1] := Kw_14.wr Ww_16 (Or.inl (List.mem_of_getElem? (i := 0) rfl))
  have Vw_16 : Arv Z hw_16 a1 kc .byte (16 : Int32) [(.int ((q3.toInt32).toInt8.toInt32)), (.int (((q3 >>> ((8 : Int32) &&& 0x3f).toInt64).toInt32).toInt8.toInt32)), (.int (((q3 >>> ((16 : Int32) &&& 0x3f).toInt64).toInt32).toInt8.toInt32)), (.int (((q3 >>> ((24 : Int32) &&& 0x3f).toInt64).toInt32).toInt8.toInt32)), (.int (((q3 >>> ((32 : Int32) &&& 0x3f).toInt64).toInt32).toInt8.toInt32)), (.int (((q3 >>> ((40 : Int32) &&& 0x3f).toInt64).toInt32).toInt8.toInt32)), (.int (((q3 >>> ((48 : Int32) &&& 0x3f).toInt64).toInt32).toInt8.toInt32)), (.int ((((q3 >>> ((56 : Int32) &&& 0x3f).toInt64).toInt32).toInt8.toInt32).toInt8.toInt32)), (.int y8), (.int y9), (.int y10), (.int y11), (.int y12), (.int y13), (.int y14), (.int y15)] (.int (0 : Int32)) := Arv.set Arv_15 qv_15 Sv_15 Mv_15 Hv_15 Gv_15 (fits_nar_byte _) Ww_16 7 rfl (Nat.le_of_ble_eq_true rfl)
  rw [own_bb] at Vw_16
  have Nw_16 := Fr.snoc Xw_16 Nw_14 g_a1
  refine own_lift (fun tz kz => stw_16 _ kz) ?_
  show own_Fin p e below _ (Tw_16.setTop (mkF m 85 #[.val (.ref a1), .val (.int (0 : Int32)), .val (.long q3), .second] []))
  obtain ⟨fs, hr, hrun, hended, hW, hsame⟩ := Xw_16.leave (v := none) (fun _ => rfl)
  exact ⟨_, _, Xw_16.returnOut hx Bd.returns (hb hby d1_85) hr, hrun, hended, _, _, rfl, ⟨rfl, Nw_16, by show Keep h0 Tw_16.heap [a1]; rw [ew_16]; exact Kw_16, by show Arv Z Tw_16.heap _ _ _ _ _ _; rw [ew_16]; exact Vw_16⟩, ⟨_, rfl⟩, hW, hsame.mono (by decide) (by decide)⟩
theorem pn_1b : plainName "com/example/snapmark/snapmark/mysql/LittleEndianReadPinLaw" = true := by first | (simp [plainName, overriddenIn]; done) | decide +kernel
theorem ef_1b (m : MethodId) (x0 : Addr) (x1 : Int32) (x2 : Int64) : entryFrame m #[(.ref x0), (.int x1), (.long x2)] 4 = mkF m 0 #[.val (.ref x0), .val (.int x1), .val (.long x2), .second] [] := by first | (simp [entryFrame, mkF, argsToLocals, Value.category]; done) | rfl
def Q1b (Z : State) (a1 : Addr) (q3 : Int64) (kc : ClassId) (y0 y1 y2 y3 y4 y5 y6 y7 y8 y9 y10 y11 y12 y13 y14 y15 : Int32) (h0 : Heap) (n0 : Nat) (v : Option Value) (h : Heap) (L : List Loc) : Prop := v = none ∧ Fr n0 L ∧ Keep h0 h [a1] ∧ Arv Z h a1 kc .byte (16 : Int32) [(.int y0), (.int y1), (.int y2), (.int y3), (.int y4), (.int y5), (.int y6), (.int y7), (.int (own_by q3 0)), (.int (own_by q3 1)), (.int (own_by q3 2)), (.int (own_by q3 3)), (.int (own_by q3 4)), (.int (own_by q3 5)), (.int (own_by q3 6)), (.int (own_by q3 7))] (.int (0 : Int32))
set_option maxRecDepth 65536 in
set_option maxHeartbeats 40000000 in
theorem rm1b (l : Launch) (Z : State) (a0 : Array Value) (hw : ∀ d ∈ tables_1, d.before a0 Z = true) (ws : List Jvm.Cond) (a1 : Addr) (q3 : Int64) (kc : ClassId) (y0 y1 y2 y3 y4 y5 y6 y7 y8 y9 y10 y11 y12 y13 y14 y15 : Int32) (h0 : Heap) (n0 : Nat) (Z0 : n0 ≤ h0.size) (V0 : Arv Z h0 a1 kc .byte (16 : Int32) [(.int y0), (.int y1), (.int y2), (.int y3), (.int y4), (.int y5), (.int y6), (.int y7), (.int y8), (.int y9), (.int y10), (.int y11), (.int y12), (.int y13), (.int y14), (.int y15)] (.int (0 : Int32))) (g_a1 : n0 ≤ a1) :
    MetFree l (⟨"com/example/snapmark/snapmark/mysql/LittleEndianReadPinLaw", "put8", "([BIJ)V"⟩ : MethodName) (head1 (Jvm.Cond.code (⟨"com/example/snapmark/snapmark/mysql/LittleEndianReadPinLaw", "put8", "([BIJ)V"⟩ : MethodName) method_2_code 4 none :: ws) ({ frames := 0, cells := 0, slots := 0, locals := 0 } : Room)) (fun a U => a = #[(.ref a1), (.int (8 : Int32)), (.long q3)] ∧ Z.Warmed39 U.vm ∧ U.heap = h0) (fun _ _ _ _ _ => True) (fun _ U o U' => ∃ v L, o = .returned v ∧ Q1b Z a1 q3 kc y0 y1 y2 y3 y4 y5 y6 y7 y8 y9 y10 y11 y12 y13 y14 y15 h0 n0 v U'.heap L ∧ FrameEnd U o U' L ({ frames := 0, cells := 0, slots := 0, locals := 0 } : Room).cells ({ frames := 0, cells := 0, slots := 0, locals := 0 } : Room).slots) := by
  refine MetFree.of_bodySF (plainFor_of_name pn_1b) hisR ?_
  intro p e s m args below meth c s₁ Bd hml0 hP hK
  obtain ⟨rfl, hZ, hh⟩ := hP
  have hx := Bd.exec
  have hby := Bd.bytes
  have hml : c.maxLocals = 4 := hml0
  have hown : s.vm.findClass "com/example/snapmark/snapmark/mysql/LittleEndianReadPinLaw" = some m.cls := findClass_of_methodNamed Bd.named
  have hnm := (name_of_methodNamed Bd.named Bd.method).1
  have X0 : Stand p l e ({ frames := 0, cells := 0, slots := 0, locals := 0 } : Room) s m #[(.ref a1), (.int (8 : Int32)), (.long q3)] below meth c s₁ [] 0 0 := Stand.of_body Bd
  have e0 : s₁.heap = h0 := by rw [← hh, Bd.state]; rfl
  have N0 := Fr.nil n0
  show own_Fin p e below (fun o U' => ∃ v L, o = .returned v ∧ Q1b Z a1 q3 kc y0 y1 y2 y3 y4 y5 y6 y7 y8 y9 y10 y11 y12 y13 y14 y15 h0 n0 v U'.heap L ∧ FrameEnd s o U' L ({ frames := 0, cells := 0, slots := 0, locals := 0 } : Room).cells ({ frames := 0, cells := 0, slots := 0, locals := 0 } : Room).slots) (s₁.setTop (entryFrame m #[(.ref a1), (.int (8 : Int32)), (.long q3)] 4))
  refine own_lift (fun tz kz => castTop (ef_1b m a1 (8 : Int32) q3) kz) ?_
  show own_Fin p e below _ (s₁.setTop (mkF m 0 #[.val (.ref a1), .val (.int (8 : Int32)), .val (.long q3), .second] []))
  refine own_lift (fun tz kz => XS.aloadN X0.here hx rfl (hb hby d1_0) rfl rfl kz) ?_
  show own_Fin p e below _ (s₁.setTop (mkF m 1 #[.val (.ref a1), .val (.int (8 : Int32)), .val (.long q3), .second] [(.ref a1)]))
  refine own_lift (fun tz kz => XS.iloadN X0.here hx rfl (hb hby d1_1) rfl kz) ?_
  show own_Fin p e below _ (s₁.setTop (mkF m 2 #[.val (.ref a1), .val (.int (8 : Int32)), .val (.long q3), .second] [(.int (8 : Int32)), (.ref a1)]))
  refine own_lift (fun tz kz => XS.lloadN X0.here hx rfl (hb hby d1_2) rfl kz) ?_
  show own_Fin p e below _ (s₁.setTop (mkF m 3 #[.val (.ref a1), .val (.int (8 : Int32)), .val (.long q3), .second] [(.long q3), (.int (8 : Int32)), (.ref a1)]))
  refine own_lift (fun tz kz => XS.l2i X0.here hx rfl (hb hby d1_3) rfl kz) ?_
  show own_Fin p e below _ (s₁.setTop (mkF m 4 #[.val (.ref a1), .val (.int (8 : Int32)), .val (.long q3), .second] [(.int (q3.toInt32)), (.int (8 : Int32)), (.ref a1)]))
  refine own_lift (fun tz kz => XS.i2b X0.here hx rfl (hb hby d1_4) rfl kz) ?_
  show own_Fin p e below _ (s₁.setTop (mkF m 5 #[.val (.ref a1), .val (.int (8 : Int32)), .val (.long q3), .second] [(.int ((q3.toInt32).toInt8.toInt32)), (.int (8 : Int32)), (.ref a1)]))
  have cpv_1 := V0
  obtain ⟨clv_1, Arv_1, qv_1, Sv_1, Mv_1, Hv_1, Gv_1⟩ := cpv_1
  obtain ⟨Tw_2, hw_2, Xw_2, ew_2, Ww_2, stw_2⟩ := stB X0 hx hZ e0 Arv_1 (j := (8 : Int32)) (inb_of Sv_1 ⟨by decide, by decide⟩) (g := (mkF m 5 #[.val (.ref a1), .val (.int (8 : Int32)), .val (.long q3), .second] [(.int ((q3.toInt32).toInt8.toInt32)), (.int (8 : Int32)), (.ref a1)])) rfl rfl (hb hby d1_5)
  have SZw_2 : n0 ≤ hw_2.size := Nat.le_trans Z0 (Keep.of_wr Ww_2).1
  have Kw_2 : Keep h0 hw_2 [a1] := (Keep.refl h0 [a1]).wr Ww_2 (Or.inl (List.mem_of_getElem? (i := 0) rfl))
  have Vw_2 : Arv Z hw_2 a1 kc .byte (16 : Int32) [(.int y0), (.int y1), (.int y2), (.int y3), (.int y4), (.int y5), (.int y6), (.int y7), (.int (((q3.toInt32).toInt8.toInt32).toInt8.toInt32)), (.int y9), (.int y10), (.int y11), (.int y12), (.int y13), (.int y14), (.int y15)] (.int (0 : Int32)) := Arv.set Arv_1 qv_1 Sv_1 Mv_1 Hv_1 Gv_1 (fits_nar_byte _) Ww_2 8 rfl (Nat.le_of_ble_eq_true rfl)
  rw [own_bb] at Vw_2
  have Nw_2 := Fr.snoc Xw_2 N0 g_a1
  refine own_lift (fun tz kz => stw_2 _ kz) ?_
  show own_Fin p e below _ (Tw_2.setTop (mkF m 6 #[.val (.ref a1), .val (.int (8 : Int32)), .val (.long q3), .second] []))
  refine own_lift (fun tz kz => XS.aloadN Xw_2.here hx rfl (hb hby d1_6) rfl rfl kz) ?_
  show own_Fin p e below _ (Tw_2.setTop (mkF m 7 #[.val (.ref a1), .val (.int (8 : Int32)), .val (.long q3), .second] [(.ref a1)]))
  refine own_lift (fun tz kz => XS.iloadN Xw_2.here hx rfl (hb hby d1_7) rfl kz) ?_
  show own_Fin p e below _ (Tw_2.setTop (mkF m 8 #[.val (.ref a1), .val (.int (8 : Int32)), .val (.long q3), .second] [(.int (8 : Int32)), (.ref a1)]))
  refine own_lift (fun tz kz => XS.iconst Xw_2.here hx rfl (hb hby d1_8) kz) ?_
  show own_Fin p e below _ (Tw_2.setTop (mkF m 9 #[.val (.ref a1), .val (.int (8 : Int32)), .val (.long q3), .second] [(.int (1 : Int32)), (.int (8 : Int32)), (.ref a1)]))
  refine own_lift (fun tz kz => XS.iadd Xw_2.here hx rfl (hb hby d1_9) rfl kz) ?_
  show own_Fin p e below _ (Tw_2.setTop (mkF m 10 #[.val (.ref a1), .val (.int (8 : Int32)), .val (.long q3), .second] [(.int (9 : Int32)), (.ref a1)]))
  refine own_lift (fun tz kz => XS.lloadN Xw_2.here hx rfl (hb hby d1_10) rfl kz) ?_
  show own_Fin p e below _ (Tw_2.setTop (mkF m 11 #[.val (.ref a1), .val (.int (8 : Int32)), .val (.long q3), .second] [(.long q3), (.int (9 : Int32)), (.ref a1)]))
  refine own_lift (fun tz kz => XS.bipush Xw_2.here hx rfl (hb hby d1_11) kz) ?_
  show own_Fin p e below _ (Tw_2.setTop (mkF m 13 #[.val (.ref a1), .val (.int (8 : Int32)), .val (.long q3), .second] [(.int (8 : Int32)), (.long q3), (.int (9 : Int32)), (.ref a1)]))
  refine own_lift (fun tz kz => XS.lshr Xw_2.here hx rfl (hb hby d1_13) rfl kz) ?_
  show own_Fin p e below _ (Tw_2.setTop (mkF m 14 #[.val (.ref a1), .val (.int (8 : Int32)), .val (.long q3), .second] [(.long (q3 >>> ((8 : Int32) &&& 0x3f).toInt64)), (.int (9 : Int32)), (.ref a1)]))
  refine own_lift (fun tz kz => XS.l2i Xw_2.here hx rfl (hb hby d1_14) rfl kz) ?_
  show own_Fin p e below _ (Tw_2.setTop (mkF m 15 #[.val (.ref a1), .val (.int (8 : Int32)), .val (.long q3), .second] [(.int ((q3 >>> ((8 : Int32) &&& 0x3f).toInt64).toInt32)), (.int (9 : Int32)), (.ref a1)]))
  refine own_lift (fun tz kz => XS.i2b Xw_2.here hx rfl (hb hby d1_15) rfl kz) ?_
  show own_Fin p e below _ (Tw_2.setTop (mkF m 16 #[.val (.ref a1), .val (.int (8 : Int32)), .val (.long q3), .second] [(.int (((q3 >>> ((8 : Int32) &&& 0x3f).toInt64).toInt32).toInt8.toInt32)), (.int (9 : Int32)), (.ref a1)]))
  have cpv_3 := Vw_2
  obtain ⟨clv_3, Arv_3, qv_3, Sv_3, Mv_3, Hv_3, Gv_3⟩ := cpv_3
  obtain ⟨Tw_4, hw_4, Xw_4, ew_4, Ww_4, stw_4⟩ := stB Xw_2 hx hZ ew_2 Arv_3 (j := (9 : Int32)) (inb_of Sv_3 ⟨by decide, by decide⟩) (g := (mkF m 16 #[.val (.ref a1), .val (.int (8 : Int32)), .val (.long q3), .second] [(.int (((q3 >>> ((8 : Int32) &&& 0x3f).toInt64).toInt32).toInt8.toInt32)), (.int (9 : Int32)), (.ref a1)])) rfl rfl (hb hby d1_16)
  have SZw_4 : n0 ≤ hw_4.size := Nat.le_trans SZw_2 (Keep.of_wr Ww_4).1
  have Kw_4 : Keep h0 hw_4 [a1] := Kw_2.wr Ww_4 (Or.inl (List.mem_of_getElem? (i := 0) rfl))
  have Vw_4 : Arv Z hw_4 a1 kc .byte (16 : Int32) [(.int y0), (.int y1), (.int y2), (.int y3), (.int y4), (.int y5), (.int y6), (.int y7), (.int ((q3.toInt32).toInt8.toInt32)), (.int ((((q3 >>> ((8 : Int32) &&& 0x3f).toInt64).toInt32).toInt8.toInt32).toInt8.toInt32)), (.int y10), (.int y11), (.int y12), (.int y13), (.int y14), (.int y15)] (.int (0 : Int32)) := Arv.set Arv_3 qv_3 Sv_3 Mv_3 Hv_3 Gv_3 (fits_nar_byte _) Ww_4 9 rfl (Nat.le_of_ble_eq_true rfl)
  rw [own_bb] at Vw_4
  have Nw_4 := Fr.snoc Xw_4 Nw_2 g_a1
  refine own_lift (fun tz kz => stw_4 _ kz) ?_
  show own_Fin p e below _ (Tw_4.setTop (mkF m 17 #[.val (.ref a1), .val (.int (8 : Int32)), .val (.long q3), .second] []))
  refine own_lift (fun tz kz => XS.aloadN Xw_4.here hx rfl (hb hby d1_17) rfl rfl kz) ?_
  show own_Fin p e below _ (Tw_4.setTop (mkF m 18 #[.val (.ref a1), .val (.int (8 : Int32)), .val (.long q3), .second] [(.ref a1)]))
  refine own_lift (fun tz kz => XS.iloadN Xw_4.here hx rfl (hb hby d1_18) rfl kz) ?_
  show own_Fin p e below _ (Tw_4.setTop (mkF m 19 #[.val (.ref a1), .val (.int (8 : Int32)), .val (.long q3), .second] [(.int (8 : Int32)), (.ref a1)]))
  refine own_lift (fun tz kz => XS.iconst Xw_4.here hx rfl (hb hby d1_19) kz) ?_
  show own_Fin p e below _ (Tw_4.setTop (mkF m 20 #[.val (.ref a1), .val (.int (8 : Int32)), .val (.long q3), .second] [(.int (2 : Int32)), (.int (8 : Int32)), (.ref a1)]))
  refine own_lift (fun tz kz => XS.iadd Xw_4.here hx rfl (hb hby d1_20) rfl kz) ?_
  show own_Fin p e below _ (Tw_4.setTop (mkF m 21 #[.val (.ref a1), .val (.int (8 : Int32)), .val (.long q3), .second] [(.int (10 : Int32)), (.ref a1)]))
  refine own_lift (fun tz kz => XS.lloadN Xw_4.here hx rfl (hb hby d1_21) rfl kz) ?_
  show own_Fin p e below _ (Tw_4.setTop (mkF m 22 #[.val (.ref a1), .val (.int (8 : Int32)), .val (.long q3), .second] [(.long q3), (.int (10 : Int32)), (.ref a1)]))
  refine own_lift (fun tz kz => XS.bipush Xw_4.here hx rfl (hb hby d1_22) kz) ?_
  show own_Fin p e below _ (Tw_4.setTop (mkF m 24 #[.val (.ref a1), .val (.int (8 : Int32)), .val (.long q3), .second] [(.int (16 : Int32)), (.long q3), (.int (10 : Int32)), (.ref a1)]))
  refine own_lift (fun tz kz => XS.lshr Xw_4.here hx rfl (hb hby d1_24) rfl kz) ?_
  show own_Fin p e below _ (Tw_4.setTop (mkF m 25 #[.val (.ref a1), .val (.int (8 : Int32)), .val (.long q3), .second] [(.long (q3 >>> ((16 : Int32) &&& 0x3f).toInt64)), (.int (10 : Int32)), (.ref a1)]))
  refine own_lift (fun tz kz => XS.l2i Xw_4.here hx rfl (hb hby d1_25) rfl kz) ?_
  show own_Fin p e below _ (Tw_4.setTop (mkF m 26 #[.val (.ref a1), .val (.int (8 : Int32)), .val (.long q3), .second] [(.int ((q3 >>> ((16 : Int32) &&& 0x3f).toInt64).toInt32)), (.int (10 : Int32)), (.ref a1)]))
  refine own_lift (fun tz kz => XS.i2b Xw_4.here hx rfl (hb hby d1_26) rfl kz) ?_
  show own_Fin p e below _ (Tw_4.setTop (mkF m 27 #[.val (.ref a1), .val (.int (8 : Int32)), .val (.long q3), .second] [(.int (((q3 >>> ((16 : Int32) &&& 0x3f).toInt64).toInt32).toInt8.toInt32)), (.int (10 : Int32)), (.ref a1)]))
  have cpv_5 := Vw_4
  obtain ⟨clv_5, Arv_5, qv_5, Sv_5, Mv_5, Hv_5, Gv_5⟩ := cpv_5
  obtain ⟨Tw_6, hw_6, Xw_6, ew_6, Ww_6, stw_6⟩ := stB Xw_4 hx hZ ew_4 Arv_5 (j := (10 : Int32)) (inb_of Sv_5 ⟨by decide, by decide⟩) (g := (mkF m 27 #[.val (.ref a1), .val (.int (8 : Int32)), .val (.long q3), .second] [(.int (((q3 >>> ((16 : Int32) &&& 0x3f).toInt64).toInt32).toInt8.toInt32)), (.int (10 : Int32)), (.ref a1)])) rfl rfl (hb hby d1_27)
  have SZw_6 : n0 ≤ hw_6.size := Nat.le_trans SZw_4 (Keep.of_wr Ww_6).1
  have Kw_6 : Keep h0 hw_6 [a1] := Kw_4.wr Ww_6 (Or.inl (List.mem_of_getElem? (i := 0) rfl))
  have Vw_6 : Arv Z hw_6 a1 kc .byte (16 : Int32) [(.int y0), (.int y1), (.int y2), (.int y3), (.int y4), (.int y5), (.int y6), (.int y7), (.int ((q3.toInt32).toInt8.toInt32)), (.int (((q3 >>> ((8 : Int32) &&& 0x3f).toInt64).toInt32).toInt8.toInt32)), (.int ((((q3 >>> ((16 : Int32) &&& 0x3f).toInt64).toInt32).toInt8.toInt32).toInt8.toInt32)), (.int y11), (.int y12), (.int y13), (.int y14), (.int y15)] (.int (0 : Int32)) := Arv.set Arv_5 qv_5 Sv_5 Mv_5 Hv_5 Gv_5 (fits_nar_byte _) Ww_6 10 rfl (Nat.le_of_ble_eq_true rfl)
  rw [own_bb] at Vw_6
  have Nw_6 := Fr.snoc Xw_6 Nw_4 g_a1
  refine own_lift (fun tz kz => stw_6 _ kz) ?_
  show own_Fin p e below _ (Tw_6.setTop (mkF m 28 #[.val (.ref a1), .val (.int (8 : Int32)), .val (.long q3), .second] []))
  refine own_lift (fun tz kz => XS.aloadN Xw_6.here hx rfl (hb hby d1_28) rfl rfl kz) ?_
  show own_Fin p e below _ (Tw_6.setTop (mkF m 29 #[.val (.ref a1), .val (.int (8 : Int32)), .val (.long q3), .second] [(.ref a1)]))
  refine own_lift (fun tz kz => XS.iloadN Xw_6.here hx rfl (hb hby d1_29) rfl kz) ?_
  show own_Fin p e below _ (Tw_6.setTop (mkF m 30 #[.val (.ref a1), .val (.int (8 : Int32)), .val (.long q3), .second] [(.int (8 : Int32)), (.ref a1)]))
  refine own_lift (fun tz kz => XS.iconst Xw_6.here hx rfl (hb hby d1_30) kz) ?_
  show own_Fin p e below _ (Tw_6.setTop (mkF m 31 #[.val (.ref a1), .val (.int (8 : Int32)), .val (.long q3), .second] [(.int (3 : Int32)), (.int (8 : Int32)), (.ref a1)]))
  refine own_lift (fun tz kz => XS.iadd Xw_6.here hx rfl (hb hby d1_31) rfl kz) ?_
  show own_Fin p e below _ (Tw_6.setTop (mkF m 32 #[.val (.ref a1), .val (.int (8 : Int32)), .val (.long q3), .second] [(.int (11 : Int32)), (.ref a1)]))
  refine own_lift (fun tz kz => XS.lloadN Xw_6.here hx rfl (hb hby d1_32) rfl kz) ?_
  show own_Fin p e below _ (Tw_6.setTop (mkF m 33 #[.val (.ref a1), .val (.int (8 : Int32)), .val (.long q3), .second] [(.long q3), (.int (11 : Int32)), (.ref a1)]))
  refine own_lift (fun tz kz => XS.bipush Xw_6.here hx rfl (hb hby d1_33) kz) ?_
  show own_Fin p e below _ (Tw_6.setTop (mkF m 35 #[.val (.ref a1), .val (.int (8 : Int32)), .val (.long q3), .second] [(.int (24 : Int32)), (.long q3), (.int (11 : Int32)), (.ref a1)]))
  refine own_lift (fun tz kz => XS.lshr Xw_6.here hx rfl (hb hby d1_35) rfl kz) ?_
  show own_Fin p e below _ (Tw_6.setTop (mkF m 36 #[.val (.ref a1), .val (.int (8 : Int32)), .val (.long q3), .second] [(.long (q3 >>> ((24 : Int32) &&& 0x3f).toInt64)), (.int (11 : Int32)), (.ref a1)]))
  refine own_lift (fun tz kz => XS.l2i Xw_6.here hx rfl (hb hby d1_36) rfl kz) ?_
  show own_Fin p e below _ (Tw_6.setTop (mkF m 37 #[.val (.ref a1), .val (.int (8 : Int32)), .val (.long q3), .second] [(.int ((q3 >>> ((24 : Int32) &&& 0x3f).toInt64).toInt32)), (.int (11 : Int32)), (.ref a1)]))
  refine own_lift (fun tz kz => XS.i2b Xw_6.here hx rfl (hb hby d1_37) rfl kz) ?_
  show own_Fin p e below _ (Tw_6.setTop (mkF m 38 #[.val (.ref a1), .val (.int (8 : Int32)), .val (.long q3), .second] [(.int (((q3 >>> ((24 : Int32) &&& 0x3f).toInt64).toInt32).toInt8.toInt32)), (.int (11 : Int32)), (.ref a1)]))
  have cpv_7 := Vw_6
  obtain ⟨clv_7, Arv_7, qv_7, Sv_7, Mv_7, Hv_7, Gv_7⟩ := cpv_7
  obtain ⟨Tw_8, hw_8, Xw_8, ew_8, Ww_8, stw_8⟩ := stB Xw_6 hx hZ ew_6 Arv_7 (j := (11 : Int32)) (inb_of Sv_7 ⟨by decide, by decide⟩) (g := (mkF m 38 #[.val (.ref a1), .val (.int (8 : Int32)), .val (.long q3), .second] [(.int (((q3 >>> ((24 : Int32) &&& 0x3f).toInt64).toInt32).toInt8.toInt32)), (.int (11 : Int32)), (.ref a1)])) rfl rfl (hb hby d1_38)
  have SZw_8 : n0 ≤ hw_8.size := Nat.le_trans SZw_6 (Keep.of_wr Ww_8).1
  have Kw_8 : Keep h0 hw_8 [a1] := Kw_6.wr Ww_8 (Or.inl (List.mem_of_getElem? (i := 0) rfl))
  have Vw_8 : Arv Z hw_8 a1 kc .byte (16 : Int32) [(.int y0), (.int y1), (.int y2), (.int y3), (.int y4), (.int y5), (.int y6), (.int y7), (.int ((q3.toInt32).toInt8.toInt32)), (.int (((q3 >>> ((8 : Int32) &&& 0x3f).toInt64).toInt32).toInt8.toInt32)), (.int (((q3 >>> ((16 : Int32) &&& 0x3f).toInt64).toInt32).toInt8.toInt32)), (.int ((((q3 >>> ((24 : Int32) &&& 0x3f).toInt64).toInt32).toInt8.toInt32).toInt8.toInt32)), (.int y12), (.int y13), (.int y14), (.int y15)] (.int (0 : Int32)) := Arv.set Arv_7 qv_7 Sv_7 Mv_7 Hv_7 Gv_7 (fits_nar_byte _) Ww_8 11 rfl (Nat.le_of_ble_eq_true rfl)
  rw [own_bb] at Vw_8
  have Nw_8 := Fr.snoc Xw_8 Nw_6 g_a1
  refine own_lift (fun tz kz => stw_8 _ kz) ?_
  show own_Fin p e below _ (Tw_8.setTop (mkF m 39 #[.val (.ref a1), .val (.int (8 : Int32)), .val (.long q3), .second] []))
  refine own_lift (fun tz kz => XS.aloadN Xw_8.here hx rfl (hb hby d1_39) rfl rfl kz) ?_
  show own_Fin p e below _ (Tw_8.setTop (mkF m 40 #[.val (.ref a1), .val (.int (8 : Int32)), .val (.long q3), .second] [(.ref a1)]))
  refine own_lift (fun tz kz => XS.iloadN Xw_8.here hx rfl (hb hby d1_40) rfl kz) ?_
  show own_Fin p e below _ (Tw_8.setTop (mkF m 41 #[.val (.ref a1), .val (.int (8 : Int32)), .val (.long q3), .second] [(.int (8 : Int32)), (.ref a1)]))
  refine own_lift (fun tz kz => XS.iconst Xw_8.here hx rfl (hb hby d1_41) kz) ?_
  show own_Fin p e below _ (Tw_8.setTop (mkF m 42 #[.val (.ref a1), .val (.int (8 : Int32)), .val (.long q3), .second] [(.int (4 : Int32)), (.int (8 : Int32)), (.ref a1)]))
  refine own_lift (fun tz kz => XS.iadd Xw_8.here hx rfl (hb hby d1_42) rfl kz) ?_
  show own_Fin p e below _ (Tw_8.setTop (mkF m 43 #[.val (.ref a1), .val (.int (8 : Int32)), .val (.long q3), .second] [(.int (12 : Int32)), (.ref a1)]))
  refine own_lift (fun tz kz => XS.lloadN Xw_8.here hx rfl (hb hby d1_43) rfl kz) ?_
  show own_Fin p e below _ (Tw_8.setTop (mkF m 44 #[.val (.ref a1), .val (.int (8 : Int32)), .val (.long q3), .second] [(.long q3), (.int (12 : Int32)), (.ref a1)]))
  refine own_lift (fun tz kz => XS.bipush Xw_8.here hx rfl (hb hby d1_44) kz) ?_
  show own_Fin p e below _ (Tw_8.setTop (mkF m 46 #[.val (.ref a1), .val (.int (8 : Int32)), .val (.long q3), .second] [(.int (32 : Int32)), (.long q3), (.int (12 : Int32)), (.ref a1)]))
  refine own_lift (fun tz kz => XS.lshr Xw_8.here hx rfl (hb hby d1_46) rfl kz) ?_
  show own_Fin p e below _ (Tw_8.setTop (mkF m 47 #[.val (.ref a1), .val (.int (8 : Int32)), .val (.long q3), .second] [(.long (q3 >>> ((32 : Int32) &&& 0x3f).toInt64)), (.int (12 : Int32)), (.ref a1)]))
  refine own_lift (fun tz kz => XS.l2i Xw_8.here hx rfl (hb hby d1_47) rfl kz) ?_
  show own_Fin p e below _ (Tw_8.setTop (mkF m 48 #[.val (.ref a1), .val (.int (8 : Int32)), .val (.long q3), .second] [(.int ((q3 >>> ((32 : Int32) &&& 0x3f).toInt64).toInt32)), (.int (12 : Int32)), (.ref a1)]))
  refine own_lift (fun tz kz => XS.i2b Xw_8.here hx rfl (hb hby d1_48) rfl kz) ?_
  show own_Fin p e below _ (Tw_8.setTop (mkF m 49 #[.val (.ref a1), .val (.int (8 : Int32)), .val (.long q3), .second] [(.int (((q3 >>> ((32 : Int32) &&& 0x3f).toInt64).toInt32).toInt8.toInt32)), (.int (12 : Int32)), (.ref a1)]))
  have cpv_9 := Vw_8
  obtain ⟨clv_9, Arv_9, qv_9, Sv_9, Mv_9, Hv_9, Gv_9⟩ := cpv_9
  obtain ⟨Tw_10, hw_10, Xw_10, ew_10, Ww_10, stw_10⟩ := stB Xw_8 hx hZ ew_8 Arv_9 (j := (12 : Int32)) (inb_of Sv_9 ⟨by decide, by decide⟩) (g := (mkF m 49 #[.val (.ref a1), .val (.int (8 : Int32)), .val (.long q3), .second] [(.int (((q3 >>> ((32 : Int32) &&& 0x3f).toInt64).toInt32).toInt8.toInt32)), (.int (12 : Int32)), (.ref a1)])) rfl rfl (hb hby d1_49)
  have SZw_10 : n0 ≤ hw_10.size := Nat.le_trans SZw_8 (Keep.of_wr Ww_10).1
  have Kw_10 : Keep h0 hw_10 [a1] := Kw_8.wr Ww_10 (Or.inl (List.mem_of_getElem? (i := 0) rfl))
  have Vw_10 : Arv Z hw_10 a1 kc .byte (16 : Int32) [(.int y0), (.int y1), (.int y2), (.int y3), (.int y4), (.int y5), (.int y6), (.int y7), (.int ((q3.toInt32).toInt8.toInt32)), (.int (((q3 >>> ((8 : Int32) &&& 0x3f).toInt64).toInt32).toInt8.toInt32)), (.int (((q3 >>> ((16 : Int32) &&& 0x3f).toInt64).toInt32).toInt8.toInt32)), (.int (((q3 >>> ((24 : Int32) &&& 0x3f).toInt64).toInt32).toInt8.toInt32)), (.int ((((q3 >>> ((32 : Int32) &&& 0x3f).toInt64).toInt32).toInt8.toInt32).toInt8.toInt32)), (.int y13), (.int y14), (.int y15)] (.int (0 : Int32)) := Arv.set Arv_9 qv_9 Sv_9 Mv_9 Hv_9 Gv_9 (fits_nar_byte _) Ww_10 12 rfl (Nat.le_of_ble_eq_true rfl)
  rw [own_bb] at Vw_10
  have Nw_10 := Fr.snoc Xw_10 Nw_8 g_a1
  refine own_lift (fun tz kz => stw_10 _ kz) ?_
  show own_Fin p e below _ (Tw_10.setTop (mkF m 50 #[.val (.ref a1), .val (.int (8 : Int32)), .val (.long q3), .second] []))
  refine own_lift (fun tz kz => XS.aloadN Xw_10.here hx rfl (hb hby d1_50) rfl rfl kz) ?_
  show own_Fin p e below _ (Tw_10.setTop (mkF m 51 #[.val (.ref a1), .val (.int (8 : Int32)), .val (.long q3), .second] [(.ref a1)]))
  refine own_lift (fun tz kz => XS.iloadN Xw_10.here hx rfl (hb hby d1_51) rfl kz) ?_
  show own_Fin p e below _ (Tw_10.setTop (mkF m 52 #[.val (.ref a1), .val (.int (8 : Int32)), .val (.long q3), .second] [(.int (8 : Int32)), (.ref a1)]))
  refine own_lift (fun tz kz => XS.iconst Xw_10.here hx rfl (hb hby d1_52) kz) ?_
  show own_Fin p e below _ (Tw_10.setTop (mkF m 53 #[.val (.ref a1), .val (.int (8 : Int32)), .val (.long q3), .second] [(.int (5 : Int32)), (.int (8 : Int32)), (.ref a1)]))
  refine own_lift (fun tz kz => XS.iadd Xw_10.here hx rfl (hb hby d1_53) rfl kz) ?_
  show own_Fin p e below _ (Tw_10.setTop (mkF m 54 #[.val (.ref a1), .val (.int (8 : Int32)), .val (.long q3), .second] [(.int (13 : Int32)), (.ref a1)]))
  refine own_lift (fun tz kz => XS.lloadN Xw_10.here hx rfl (hb hby d1_54) rfl kz) ?_
  show own_Fin p e below _ (Tw_10.setTop (mkF m 55 #[.val (.ref a1), .val (.int (8 : Int32)), .val (.long q3), .second] [(.long q3), (.int (13 : Int32)), (.ref a1)]))
  refine own_lift (fun tz kz => XS.bipush Xw_10.here hx rfl (hb hby d1_55) kz) ?_
  show own_Fin p e below _ (Tw_10.setTop (mkF m 57 #[.val (.ref a1), .val (.int (8 : Int32)), .val (.long q3), .second] [(.int (40 : Int32)), (.long q3), (.int (13 : Int32)), (.ref a1)]))
  refine own_lift (fun tz kz => XS.lshr Xw_10.here hx rfl (hb hby d1_57) rfl kz) ?_
  show own_Fin p e below _ (Tw_10.setTop (mkF m 58 #[.val (.ref a1), .val (.int (8 : Int32)), .val (.long q3), .second] [(.long (q3 >>> ((40 : Int32) &&& 0x3f).toInt64)), (.int (13 : Int32)), (.ref a1)]))
  refine own_lift (fun tz kz => XS.l2i Xw_10.here hx rfl (hb hby d1_58) rfl kz) ?_
  show own_Fin p e below _ (Tw_10.setTop (mkF m 59 #[.val (.ref a1), .val (.int (8 : Int32)), .val (.long q3), .second] [(.int ((q3 >>> ((40 : Int32) &&& 0x3f).toInt64).toInt32)), (.int (13 : Int32)), (.ref a1)]))
  refine own_lift (fun tz kz => XS.i2b Xw_10.here hx rfl (hb hby d1_59) rfl kz) ?_
  show own_Fin p e below _ (Tw_10.setTop (mkF m 60 #[.val (.ref a1), .val (.int (8 : Int32)), .val (.long q3), .second] [(.int (((q3 >>> ((40 : Int32) &&& 0x3f).toInt64).toInt32).toInt8.toInt32)), (.int (13 : Int32)), (.ref a1)]))
  have cpv_11 := Vw_10
  obtain ⟨clv_11, Arv_11, qv_11, Sv_11, Mv_11, Hv_11, Gv_11⟩ := cpv_11
  obtain ⟨Tw_12, hw_12, Xw_12, ew_12, Ww_12, stw_12⟩ := stB Xw_10 hx hZ ew_10 Arv_11 (j := (13 : Int32)) (inb_of Sv_11 ⟨by decide, by decide⟩) (g := (mkF m 60 #[.val (.ref a1), .val (.int (8 : Int32)), .val (.long q3), .second] [(.int (((q3 >>> ((40 : Int32) &&& 0x3f).toInt64).toInt32).toInt8.toInt32)), (.int (13 : Int32)), (.ref a1)])) rfl rfl (hb hby d1_60)
  have SZw_12 : n0 ≤ hw_12.size := Nat.le_trans SZw_10 (Keep.of_wr Ww_12).1
  have Kw_12 : Keep h0 hw_12 [a1] := Kw_10.wr Ww_12 (Or.inl (List.mem_of_getElem? (i := 0) rfl))
  have Vw_12 : Arv Z hw_12 a1 kc .byte (16 : Int32) [(.int y0), (.int y1), (.int y2), (.int y3), (.int y4), (.int y5), (.int y6), (.int y7), (.int ((q3.toInt32).toInt8.toInt32)), (.int (((q3 >>> ((8 : Int32) &&& 0x3f).toInt64).toInt32).toInt8.toInt32)), (.int (((q3 >>> ((16 : Int32) &&& 0x3f).toInt64).toInt32).toInt8.toInt32)), (.int (((q3 >>> ((24 : Int32) &&& 0x3f).toInt64).toInt32).toInt8.toInt32)), (.int (((q3 >>> ((32 : Int32) &&& 0x3f).toInt64).toInt32).toInt8.toInt32)), (.int ((((q3 >>> ((40 : Int32) &&& 0x3f).toInt64).toInt32).toInt8.toInt32).toInt8.toInt32)), (.int y14), (.int y15)] (.int (0 : Int32)) := Arv.set Arv_11 qv_11 Sv_11 Mv_11 Hv_11 Gv_11 (fits_nar_byte _) Ww_12 13 rfl (Nat.le_of_ble_eq_true rfl)
  rw [own_bb] at Vw_12
  have Nw_12 := Fr.snoc Xw_12 Nw_10 g_a1
  refine own_lift (fun tz kz => stw_12 _ kz) ?_
  show own_Fin p e below _ (Tw_12.setTop (mkF m 61 #[.val (.ref a1), .val (.int (8 : Int32)), .val (.long q3), .second] []))
  refine own_lift (fun tz kz => XS.aloadN Xw_12.here hx rfl (hb hby d1_61) rfl rfl kz) ?_
  show own_Fin p e below _ (Tw_12.setTop (mkF m 62 #[.val (.ref a1), .val (.int (8 : Int32)), .val (.long q3), .second] [(.ref a1)]))
  refine own_lift (fun tz kz => XS.iloadN Xw_12.here hx rfl (hb hby d1_62) rfl kz) ?_
  show own_Fin p e below _ (Tw_12.setTop (mkF m 63 #[.val (.ref a1), .val (.int (8 : Int32)), .val (.long q3), .second] [(.int (8 : Int32)), (.ref a1)]))
  refine own_lift (fun tz kz => XS.bipush Xw_12.here hx rfl (hb hby d1_63) kz) ?_
  show own_Fin p e below _ (Tw_12.setTop (mkF m 65 #[.val (.ref a1), .val (.int (8 : Int32)), .val (.long q3), .second] [(.int (6 : Int32)), (.int (8 : Int32)), (.ref a1)]))
  refine own_lift (fun tz kz => XS.iadd Xw_12.here hx rfl (hb hby d1_65) rfl kz) ?_
  show own_Fin p e below _ (Tw_12.setTop (mkF m 66 #[.val (.ref a1), .val (.int (8 : Int32)), .val (.long q3), .second] [(.int (14 : Int32)), (.ref a1)]))
  refine own_lift (fun tz kz => XS.lloadN Xw_12.here hx rfl (hb hby d1_66) rfl kz) ?_
  show own_Fin p e below _ (Tw_12.setTop (mkF m 67 #[.val (.ref a1), .val (.int (8 : Int32)), .val (.long q3), .second] [(.long q3), (.int (14 : Int32)), (.ref a1)]))
  refine own_lift (fun tz kz => XS.bipush Xw_12.here hx rfl (hb hby d1_67) kz) ?_
  show own_Fin p e below _ (Tw_12.setTop (mkF m 69 #[.val (.ref a1), .val (.int (8 : Int32)), .val (.long q3), .second] [(.int (48 : Int32)), (.long q3), (.int (14 : Int32)), (.ref a1)]))
  refine own_lift (fun tz kz => XS.lshr Xw_12.here hx rfl (hb hby d1_69) rfl kz) ?_
  show own_Fin p e below _ (Tw_12.setTop (mkF m 70 #[.val (.ref a1), .val (.int (8 : Int32)), .val (.long q3), .second] [(.long (q3 >>> ((48 : Int32) &&& 0x3f).toInt64)), (.int (14 : Int32)), (.ref a1)]))
  refine own_lift (fun tz kz => XS.l2i Xw_12.here hx rfl (hb hby d1_70) rfl kz) ?_
  show own_Fin p e below _ (Tw_12.setTop (mkF m 71 #[.val (.ref a1), .val (.int (8 : Int32)), .val (.long q3), .second] [(.int ((q3 >>> ((48 : Int32) &&& 0x3f).toInt64).toInt32)), (.int (14 : Int32)), (.ref a1)]))
  refine own_lift (fun tz kz => XS.i2b Xw_12.here hx rfl (hb hby d1_71) rfl kz) ?_
  show own_Fin p e below _ (Tw_12.setTop (mkF m 72 #[.val (.ref a1), .val (.int (8 : Int32)), .val (.long q3), .second] [(.int (((q3 >>> ((48 : Int32) &&& 0x3f).toInt64).toInt32).toInt8.toInt32)), (.int (14 : Int32)), (.ref a1)]))
  have cpv_13 := Vw_12
  obtain ⟨clv_13, Arv_13, qv_13, Sv_13, Mv_13, Hv_13, Gv_13⟩ := cpv_13
  obtain ⟨Tw_14, hw_14, Xw_14, ew_14, Ww_14, stw_14⟩ := stB Xw_12 hx hZ ew_12 Arv_13 (j := (14 : Int32)) (inb_of Sv_13 ⟨by decide, by decide⟩) (g := (mkF m 72 #[.val (.ref a1), .val (.int (8 : Int32)), .val (.long q3), .second] [(.int (((q3 >>> ((48 : Int32) &&& 0x3f).toInt64).toInt32).toInt8.toInt32)), (.int (14 : Int32)), (.ref a1)])) rfl rfl (hb hby d1_72)
  have SZw_14 : n0 ≤ hw_14.size := Nat.le_trans SZw_12 (Keep.of_wr Ww_14).1
  have Kw_14 : Keep h0 hw_14 [a1] := Kw_12.wr Ww_14 (Or.inl (List.mem_of_getElem? (i := 0) rfl))
  have Vw_14 : Arv Z hw_14 a1 kc .byte (16 : Int32) [(.int y0), (.int y1), (.int y2), (.int y3), (.int y4), (.int y5), (.int y6), (.int y7), (.int ((q3.toInt32).toInt8.toInt32)), (.int (((q3 >>> ((8 : Int32) &&& 0x3f).toInt64).toInt32).toInt8.toInt32)), (.int (((q3 >>> ((16 : Int32) &&& 0x3f).toInt64).toInt32).toInt8.toInt32)), (.int (((q3 >>> ((24 : Int32) &&& 0x3f).toInt64).toInt32).toInt8.toInt32)), (.int (((q3 >>> ((32 : Int32) &&& 0x3f).toInt64).toInt32).toInt8.toInt32)), (.int (((q3 >>> ((40 : Int32) &&& 0x3f).toInt64).toInt32).toInt8.toInt32)), (.int ((((q3 >>> ((48 : Int32) &&& 0x3f).toInt64).toInt32).toInt8.toInt32).toInt8.toInt32)), (.int y15)] (.int (0 : Int32)) := Arv.set Arv_13 qv_13 Sv_13 Mv_13 Hv_13 Gv_13 (fits_nar_byte _) Ww_14 14 rfl (Nat.le_of_ble_eq_true rfl)
  rw [own_bb] at Vw_14
  have Nw_14 := Fr.snoc Xw_14 Nw_12 g_a1
  refine own_lift (fun tz kz => stw_14 _ kz) ?_
  show own_Fin p e below _ (Tw_14.setTop (mkF m 73 #[.val (.ref a1), .val (.int (8 : Int32)), .val (.long q3), .second] []))
  refine own_lift (fun tz kz => XS.aloadN Xw_14.here hx rfl (hb hby d1_73) rfl rfl kz) ?_
  show own_Fin p e below _ (Tw_14.setTop (mkF m 74 #[.val (.ref a1), .val (.int (8 : Int32)), .val (.long q3), .second] [(.ref a1)]))
  refine own_lift (fun tz kz => XS.iloadN Xw_14.here hx rfl (hb hby d1_74) rfl kz) ?_
  show own_Fin p e below _ (Tw_14.setTop (mkF m 75 #[.val (.ref a1), .val (.int (8 : Int32)), .val (.long q3), .second] [(.int (8 : Int32)), (.ref a1)]))
  refine own_lift (fun tz kz => XS.bipush Xw_14.here hx rfl (hb hby d1_75) kz) ?_
  show own_Fin p e below _ (Tw_14.setTop (mkF m 77 #[.val (.ref a1), .val (.int (8 : Int32)), .val (.long q3), .second] [(.int (7 : Int32)), (.int (8 : Int32)), (.ref a1)]))
  refine own_lift (fun tz kz => XS.iadd Xw_14.here hx rfl (hb hby d1_77) rfl kz) ?_
  show own_Fin p e below _ (Tw_14.setTop (mkF m 78 #[.val (.ref a1), .val (.int (8 : Int32)), .val (.long q3), .second] [(.int (15 : Int32)), (.ref a1)]))
  refine own_lift (fun tz kz => XS.lloadN Xw_14.here hx rfl (hb hby d1_78) rfl kz) ?_
  show own_Fin p e below _ (Tw_14.setTop (mkF m 79 #[.val (.ref a1), .val (.int (8 : Int32)), .val (.long q3), .second] [(.long q3), (.int (15 : Int32)), (.ref a1)]))
  refine own_lift (fun tz kz => XS.bipush Xw_14.here hx rfl (hb hby d1_79) kz) ?_
  show own_Fin p e below _ (Tw_14.setTop (mkF m 81 #[.val (.ref a1), .val (.int (8 : Int32)), .val (.long q3), .second] [(.int (56 : Int32)), (.long q3), (.int (15 : Int32)), (.ref a1)]))
  refine own_lift (fun tz kz => XS.lshr Xw_14.here hx rfl (hb hby d1_81) rfl kz) ?_
  show own_Fin p e below _ (Tw_14.setTop (mkF m 82 #[.val (.ref a1), .val (.int (8 : Int32)), .val (.long q3), .second] [(.long (q3 >>> ((56 : Int32) &&& 0x3f).toInt64)), (.int (15 : Int32)), (.ref a1)]))
  refine own_lift (fun tz kz => XS.l2i Xw_14.here hx rfl (hb hby d1_82) rfl kz) ?_
  show own_Fin p e below _ (Tw_14.setTop (mkF m 83 #[.val (.ref a1), .val (.int (8 : Int32)), .val (.long q3), .second] [(.int ((q3 >>> ((56 : Int32) &&& 0x3f).toInt64).toInt32)), (.int (15 : Int32)), (.ref a1)]))
  refine own_lift (fun tz kz => XS.i2b Xw_14.here hx rfl (hb hby d1_83) rfl kz) ?_
  show own_Fin p e below _ (Tw_14.setTop (mkF m 84 #[.val (.ref a1), .val (.int (8 : Int32)), .val (.long q3), .second] [(.int (((q3 >>> ((56 : Int32) &&& 0x3f).toInt64).toInt32).toInt8.toInt32)), (.int (15 : Int32)), (.ref a1)]))
  have cpv_15 := Vw_14
  obtain ⟨clv_15, Arv_15, qv_15, Sv_15, Mv_15, Hv_15, Gv_15⟩ := cpv_15
  obtain ⟨Tw_16, hw_16, Xw_16, ew_16, Ww_16, stw_16⟩ := stB Xw_14 hx hZ ew_14 Arv_15 (j := (15 : Int32)) (inb_of Sv_15 ⟨by decide, by decide⟩) (g := (mkF m 84 #[.val (.ref a1), .val (.int (8 : Int32)), .val (.long q3), .second] [(.int (((q3 >>> ((56 : Int32) &&& 0x3f).toInt64).toInt32).toInt8.toInt32)), (.int (15 : Int32)), (.ref a1)])) rfl rfl (hb hby d1_84)
  have SZw_16 : n0 ≤ hw_16.size := Nat.le_trans SZw_14 (Keep.of_wr Ww_16).1
  have Kw_16 : Keep h0 hw_16 [a1] := Kw_14.wr Ww_16 (Or.inl (List.mem_of_getElem? (i := 0) rfl))
  have Vw_16 : Arv Z hw_16 a1 kc .byte (16 : Int32) [(.int y0), (.int y1), (.int y2), (.int y3), (.int y4), (.int y5), (.int y6), (.int y7), (.int ((q3.toInt32).toInt8.toInt32)), (.int (((q3 >>> ((8 : Int32) &&& 0x3f).toInt64).toInt32).toInt8.toInt32)), (.int (((q3 >>> ((16 : Int32) &&& 0x3f).toInt64).toInt32).toInt8.toInt32)), (.int (((q3 >>> ((24 : Int32) &&& 0x3f).toInt64).toInt32).toInt8.toInt32)), (.int (((q3 >>> ((32 : Int32) &&& 0x3f).toInt64).toInt32).toInt8.toInt32)), (.int (((q3 >>> ((40 : Int32) &&& 0x3f).toInt64).toInt32).toInt8.toInt32)), (.int (((q3 >>> ((48 : Int32) &&& 0x3f).toInt64).toInt32).toInt8.toInt32)), (.int ((((q3 >>> ((56 : Int32) &&& 0x3f).toInt64).toInt32).toInt8.toInt32).toInt8.toInt32))] (.int (0 : Int32)) := Arv.set Arv_15 qv_15 Sv_15 Mv_15 Hv_15 Gv_15 (fits_nar_byte _) Ww_16 15 rfl (Nat.le_of_ble_eq_true rfl)
  rw [own_bb] at Vw_16
  have Nw_16 := Fr.snoc Xw_16 Nw_14 g_a1
  refine own_lift (fun tz kz => stw_16 _ kz) ?_
  show own_Fin p e below _ (Tw_16.setTop (mkF m 85 #[.val (.ref a1), .val (.int (8 : Int32)), .val (.long q3), .second] []))
  obtain ⟨fs, hr, hrun, hended, hW, hsame⟩ := Xw_16.leave (v := none) (fun _ => rfl)
  exact ⟨_, _, Xw_16.returnOut hx Bd.returns (hb hby d1_85) hr, hrun, hended, _, _, rfl, ⟨rfl, Nw_16, by show Keep h0 Tw_16.heap [a1]; rw [ew_16]; exact Kw_16, by show Arv Z Tw_16.heap _ _ _ _ _ _; rw [ew_16]; exact Vw_16⟩, ⟨_, rfl⟩, hW, hsame.mono (by decide) (by decide)⟩
theorem d2_0 : decode prog_46_method_2_code 0 = .ok (.lconst 0, 1) := by decide +kernel
theorem d2_1 : decode prog_46_method_2_code 1 = .ok (.lstore_n 3, 1) := by decide +kernel
theorem d2_2 : decode prog_46_method_2_code 2 = .ok (.iload_n 2, 1) := by decide +kernel
theorem d2_3 : decode prog_46_method_2_code 3 = .ok (.iconst 1, 1) := by decide +kernel
theorem d2_4 : decode prog_46_method_2_code 4 = .ok (.isub, 1) := by decide +kernel
theorem d2_5 : decode prog_46_method_2_code 5 = .ok (.istore 5, 2) := by decide +kernel
theorem d2_7 : decode prog_46_method_2_code 7 = .ok (.iload 5, 2) := by decide +kernel
theorem d2_9 : decode prog_46_method_2_code 9 = .ok (.ifCond .lt 26, 3) := by decide +kernel
theorem d2_12 : decode prog_46_method_2_code 12 = .ok (.lload_n 3, 1) := by decide +kernel
theorem d2_13 : decode prog_46_method_2_code 13 = .ok (.bipush 8, 2) := by decide +kernel
theorem d2_15 : decode prog_46_method_2_code 15 = .ok (.lshl, 1) := by decide +kernel
theorem d2_16 : decode prog_46_method_2_code 16 = .ok (.aload_n 0, 1) := by decide +kernel
theorem d2_17 : decode prog_46_method_2_code 17 = .ok (.iload_n 1, 1) := by decide +kernel
theorem d2_18 : decode prog_46_method_2_code 18 = .ok (.iload 5, 2) := by decide +kernel
theorem d2_20 : decode prog_46_method_2_code 20 = .ok (.iadd, 1) := by decide +kernel
theorem d2_21 : decode prog_46_method_2_code 21 = .ok (.baload, 1) := by decide +kernel
theorem d2_22 : decode prog_46_method_2_code 22 = .ok (.sipush 255, 3) := by decide +kernel
theorem d2_25 : decode prog_46_method_2_code 25 = .ok (.iand, 1) := by decide +kernel
theorem d2_26 : decode prog_46_method_2_code 26 = .ok (.i2l, 1) := by decide +kernel
theorem d2_27 : decode prog_46_method_2_code 27 = .ok (.lor, 1) := by decide +kernel
theorem d2_28 : decode prog_46_method_2_code 28 = .ok (.lstore_n 3, 1) := by decide +kernel
theorem d2_29 : decode prog_46_method_2_code 29 = .ok (.iinc 5 (-1), 3) := by decide +kernel
theorem d2_32 : decode prog_46_method_2_code 32 = .ok (.goto (-25), 3) := by decide +kernel
theorem d2_35 : decode prog_46_method_2_code 35 = .ok (.lload_n 3, 1) := by decide +kernel
theorem d2_36 : decode prog_46_method_2_code 36 = .ok (.lreturn, 1) := by decide +kernel
theorem pn_2 : plainName "com/example/snapmark/snapmark/mysql/LittleEndian" = true := by first | (simp [plainName, overriddenIn]; done) | decide +kernel
theorem ef_2 (m : MethodId) (x0 : Addr) (x1 : Int32) (x2 : Int32) : entryFrame m #[(.ref x0), (.int x1), (.int x2)] 6 = mkF m 0 #[.val (.ref x0), .val (.int x1), .val (.int x2), .unset, .unset, .unset] [] := by first | (simp [entryFrame, mkF, argsToLocals, Value.category]; done) | rfl
def Q2 (Z : State) (a1 : Addr) (A K : Nat) (cl : Cell) (f : Nat → Int32) (h0 : Heap) (n0 : Nat) (v : Option Value) (h : Heap) (L : List Loc) : Prop := v = some (.long (own_read f A K 0)) ∧ Fr n0 L ∧ h = h0
set_option maxRecDepth 65536 in
set_option maxHeartbeats 40000000 in
theorem rm2 (l : Launch) (Z : State) (a0 : Array Value) (hw : ∀ d ∈ tables_1, d.before a0 Z = true) (ws : List Jvm.Cond) (a1 : Addr) (A K : Nat) (cl : Cell) (f : Nat → Int32) (h0 : Heap) (n0 : Nat) (Z0 : n0 ≤ h0.size) (Ar : Arr Z h0 a1 cl .byte) (S : cl.slots.size = 16) (hf : ∀ j, j < 16 → cl.slots[j]? = some (.int (f j))) (hA : A < 8) (hKb : K < 9) :
    MetFree l (⟨"com/example/snapmark/snapmark/mysql/LittleEndian", "read", "([BII)J"⟩ : MethodName) (head1 (Jvm.Cond.code (⟨"com/example/snapmark/snapmark/mysql/LittleEndian", "read", "([BII)J"⟩ : MethodName) prog_46_method_2_code 6 (some .long) :: ws) ({ frames := 0, cells := 0, slots := 0, locals := 0 } : Room)) (fun a U => a = #[(.ref a1), (.int (Int32.ofNat A)), (.int (Int32.ofNat K))] ∧ Z.Warmed39 U.vm ∧ U.heap = h0) (fun _ _ _ _ _ => True) (fun _ U o U' => ∃ v L, o = .returned v ∧ Q2 Z a1 A K cl f h0 n0 v U'.heap L ∧ FrameEnd U o U' L ({ frames := 0, cells := 0, slots := 0, locals := 0 } : Room).cells ({ frames := 0, cells := 0, slots := 0, locals := 0 } : Room).slots) := by
  refine MetFree.of_bodySF (plainFor_of_name pn_2) hisR ?_
  intro p e s m args below meth c s₁ Bd hml0 hP hK
  obtain ⟨rfl, hZ, hh⟩ := hP
  have hx := Bd.exec
  have hby := Bd.bytes
  have hml : c.maxLocals = 6 := hml0
  have hown : s.vm.findClass "com/example/snapmark/snapmark/mysql/LittleEndian" = some m.cls := findClass_of_methodNamed Bd.named
  have hnm := (name_of_methodNamed Bd.named Bd.method).1
  have X0 : Stand p l e ({ frames := 0, cells := 0, slots := 0, locals := 0 } : Room) s m #[(.ref a1), (.int (Int32.ofNat A)), (.int (Int32.ofNat K))] below meth c s₁ [] 0 0 := Stand.of_body Bd
  have e0 : s₁.heap = h0 := by rw [← hh, Bd.state]; rfl
  have N0 := Fr.nil n0
  show own_Fin p e below (fun o U' => ∃ v L, o = .returned v ∧ Q2 Z a1 A K cl f h0 n0 v U'.heap L ∧ FrameEnd s o U' L ({ frames := 0, cells := 0, slots := 0, locals := 0 } : Room).cells ({ frames := 0, cells := 0, slots := 0, locals := 0 } : Room).slots) (s₁.setTop (entryFrame m #[(.ref a1), (.int (Int32.ofNat A)), (.int (Int32.ofNat K))] 6))
  have hd : ∀ (k : Nat), k < 9 → ∀ (T : State) (locs : List Loc) (acc : Int64), Stand p l e ({ frames := 0, cells := 0, slots := 0, locals := 0 } : Room) s m #[(.ref a1), (.int (Int32.ofNat A)), (.int (Int32.ofNat K))] below meth c T locs 0 0 → T.heap = h0 → Fr n0 locs → own_read f A K 0 = own_read f A k acc → own_Fin p e below (fun o U' => ∃ v L, o = .returned v ∧ Q2 Z a1 A K cl f h0 n0 v U'.heap L ∧ FrameEnd s o U' L ({ frames := 0, cells := 0, slots := 0, locals := 0 } : Room).cells ({ frames := 0, cells := 0, slots := 0, locals := 0 } : Room).slots) (T.setTop (mkF m 7 #[.val (.ref a1), .val (.int (Int32.ofNat A)), .val (.int (Int32.ofNat K)), .val (.long acc), .second, .val (.int ((Int32.ofNat k) - (1 : Int32)))] [])) := by
    intro k
    induction k with
    | zero =>
      intro hk T locs acc X e1 N hR
      have hneg : ((Int32.ofNat 0) - (1 : Int32)) < (0 : Int32) := by decide
      refine own_lift (fun tz kz => XS.iload X.here hx rfl (hb hby d2_7) rfl kz) ?_
      show own_Fin p e below _ (T.setTop (mkF m 9 #[.val (.ref a1), .val (.int (Int32.ofNat A)), .val (.int (Int32.ofNat K)), .val (.long acc), .second, .val (.int ((Int32.ofNat 0) - (1 : Int32)))] [(.int ((Int32.ofNat 0) - (1 : Int32)))]))
      refine own_lift (fun tz kz => XS.ifYes X.here hx rfl (pc0 := 9) (pc' := 35) rfl (hb hby d2_9) rfl ((if0 _ _).trans (tlt hneg).1) (by decide) (by decide) kz) ?_
      show own_Fin p e below _ (T.setTop (mkF m 35 #[.val (.ref a1), .val (.int (Int32.ofNat A)), .val (.int (Int32.ofNat K)), .val (.long acc), .second, .val (.int ((Int32.ofNat 0) - (1 : Int32)))] []))
      refine own_lift (fun tz kz => XS.lloadN X.here hx rfl (hb hby d2_35) rfl kz) ?_
      show own_Fin p e below _ (T.setTop (mkF m 36 #[.val (.ref a1), .val (.int (Int32.ofNat A)), .val (.int (Int32.ofNat K)), .val (.long acc), .second, .val (.int ((Int32.ofNat 0) - (1 : Int32)))] [(.long acc)]))
      obtain ⟨fs, hr, hrun, hended, hW, hsame⟩ := X.leave (v := some (.long acc)) (fun h => by rw [Bd.returns] at h; cases h)
      refine ⟨_, _, ?_, hrun, hended, _, _, rfl, ⟨by rw [hR]; rfl, N, e1⟩, ⟨_, rfl⟩, hW, hsame.mono (by decide) (by decide)⟩
      jvm_step X.here [X.here.top, hx, (hb hby d2_36), X.method', Bd.returns, narrow]
      first | (intro acts; rw [hr _ acts rfl rfl rfl]) | rw [hr _ _ rfl rfl rfl]
      exact Steps.refl _
    | succ k ih =>
      intro hk T locs acc X e1 N hR
      have hneg : ¬ ((Int32.ofNat (k + 1)) - (1 : Int32)) < (0 : Int32) := by rw [own_i]; exact own_nn (by omega)
      have hj : ((Int32.ofNat A) + ((Int32.ofNat (k + 1)) - (1 : Int32))) = Int32.ofNat (A + k) := own_idx A k hA (by omega)
      have hn : (((Int32.ofNat A) + ((Int32.ofNat (k + 1)) - (1 : Int32)))).toNatClampNeg = A + k := by rw [hj]; exact own_n32 (by omega)
      have hin : ¬ (((Int32.ofNat A) + ((Int32.ofNat (k + 1)) - (1 : Int32))) < 0 ∨ cl.slots.size ≤ (((Int32.ofNat A) + ((Int32.ofNat (k + 1)) - (1 : Int32)))).toNatClampNeg) := by
        rw [hn, S, hj]
        intro q
        rcases q with q | q
        · exact own_nn (by omega) q
        · omega
      have hat : cl.slots[(((Int32.ofNat A) + ((Int32.ofNat (k + 1)) - (1 : Int32)))).toNatClampNeg]? = some (.int (f (A + k))) := by rw [hn]; exact hf _ (by omega)
      refine own_lift (fun tz kz => XS.iload X.here hx rfl (hb hby d2_7) rfl kz) ?_
      show own_Fin p e below _ (T.setTop (mkF m 9 #[.val (.ref a1), .val (.int (Int32.ofNat A)), .val (.int (Int32.ofNat K)), .val (.long acc), .second, .val (.int ((Int32.ofNat (k + 1)) - (1 : Int32)))] [(.int ((Int32.ofNat (k + 1)) - (1 : Int32)))]))
      refine own_lift (fun tz kz => XS.ifNo X.here hx rfl (hb hby d2_9) rfl ((if0 _ _).trans (flt hneg).1) kz) ?_
      show own_Fin p e below _ (T.setTop (mkF m 12 #[.val (.ref a1), .val (.int (Int32.ofNat A)), .val (.int (Int32.ofNat K)), .val (.long acc), .second, .val (.int ((Int32.ofNat (k + 1)) - (1 : Int32)))] []))
      refine own_lift (fun tz kz => XS.lloadN X.here hx rfl (hb hby d2_12) rfl kz) ?_
      show own_Fin p e below _ (T.setTop (mkF m 13 #[.val (.ref a1), .val (.int (Int32.ofNat A)), .val (.int (Int32.ofNat K)), .val (.long acc), .second, .val (.int ((Int32.ofNat (k + 1)) - (1 : Int32)))] [(.long acc)]))
      refine own_lift (fun tz kz => XS.bipush X.here hx rfl (hb hby d2_13) kz) ?_
      show own_Fin p e below _ (T.setTop (mkF m 15 #[.val (.ref a1), .val (.int (Int32.ofNat A)), .val (.int (Int32.ofNat K)), .val (.long acc), .second, .val (.int ((Int32.ofNat (k + 1)) - (1 : Int32)))] [(.int (8 : Int32)), (.long acc)]))
      refine own_lift (fun tz kz => XS.lshl X.here hx rfl (hb hby d2_15) rfl kz) ?_
      show own_Fin p e below _ (T.setTop (mkF m 16 #[.val (.ref a1), .val (.int (Int32.ofNat A)), .val (.int (Int32.ofNat K)), .val (.long acc), .second, .val (.int ((Int32.ofNat (k + 1)) - (1 : Int32)))] [(.long (acc <<< ((8 : Int32) &&& 0x3f).toInt64))]))
      refine own_lift (fun tz kz => XS.aloadN X.here hx rfl (hb hby d2_16) rfl rfl kz) ?_
      show own_Fin p e below _ (T.setTop (mkF m 17 #[.val (.ref a1), .val (.int (Int32.ofNat A)), .val (.int (Int32.ofNat K)), .val (.long acc), .second, .val (.int ((Int32.ofNat (k + 1)) - (1 : Int32)))] [(.ref a1), (.long (acc <<< ((8 : Int32) &&& 0x3f).toInt64))]))
      refine own_lift (fun tz kz => XS.iloadN X.here hx rfl (hb hby d2_17) rfl kz) ?_
      show own_Fin p e below _ (T.setTop (mkF m 18 #[.val (.ref a1), .val (.int (Int32.ofNat A)), .val (.int (Int32.ofNat K)), .val (.long acc), .second, .val (.int ((Int32.ofNat (k + 1)) - (1 : Int32)))] [(.int (Int32.ofNat A)), (.ref a1), (.long (acc <<< ((8 : Int32) &&& 0x3f).toInt64))]))
      refine own_lift (fun tz kz => XS.iload X.here hx rfl (hb hby d2_18) rfl kz) ?_
      show own_Fin p e below _ (T.setTop (mkF m 20 #[.val (.ref a1), .val (.int (Int32.ofNat A)), .val (.int (Int32.ofNat K)), .val (.long acc), .second, .val (.int ((Int32.ofNat (k + 1)) - (1 : Int32)))] [(.int ((Int32.ofNat (k + 1)) - (1 : Int32))), (.int (Int32.ofNat A)), (.ref a1), (.long (acc <<< ((8 : Int32) &&& 0x3f).toInt64))]))
      refine own_lift (fun tz kz => XS.iadd X.here hx rfl (hb hby d2_20) rfl kz) ?_
      show own_Fin p e below _ (T.setTop (mkF m 21 #[.val (.ref a1), .val (.int (Int32.ofNat A)), .val (.int (Int32.ofNat K)), .val (.long acc), .second, .val (.int ((Int32.ofNat (k + 1)) - (1 : Int32)))] [(.int ((Int32.ofNat A) + ((Int32.ofNat (k + 1)) - (1 : Int32)))), (.ref a1), (.long (acc <<< ((8 : Int32) &&& 0x3f).toInt64))]))
      refine own_lift (fun tz kz => X.baloadBytes hx (j := ((Int32.ofNat A) + ((Int32.ofNat (k + 1)) - (1 : Int32)))) (v := (.int (f (A + k)))) (by rw [e1]; exact Ar.1) (State.isArrayOf_alike hZ.alike Ar.2.1) Ar.2.2 hin hat (g := (mkF m 21 #[.val (.ref a1), .val (.int (Int32.ofNat A)), .val (.int (Int32.ofNat K)), .val (.long acc), .second, .val (.int ((Int32.ofNat (k + 1)) - (1 : Int32)))] [(.int ((Int32.ofNat A) + ((Int32.ofNat (k + 1)) - (1 : Int32)))), (.ref a1), (.long (acc <<< ((8 : Int32) &&& 0x3f).toInt64))])) rfl rfl (hb hby d2_21) _ kz) ?_
      show own_Fin p e below _ (T.setTop (mkF m 22 #[.val (.ref a1), .val (.int (Int32.ofNat A)), .val (.int (Int32.ofNat K)), .val (.long acc), .second, .val (.int ((Int32.ofNat (k + 1)) - (1 : Int32)))] [(.int (f (A + k))), (.long (acc <<< ((8 : Int32) &&& 0x3f).toInt64))]))
      refine own_lift (fun tz kz => XS.sipush X.here hx rfl (hb hby d2_22) kz) ?_
      show own_Fin p e below _ (T.setTop (mkF m 25 #[.val (.ref a1), .val (.int (Int32.ofNat A)), .val (.int (Int32.ofNat K)), .val (.long acc), .second, .val (.int ((Int32.ofNat (k + 1)) - (1 : Int32)))] [(.int (255 : Int32)), (.int (f (A + k))), (.long (acc <<< ((8 : Int32) &&& 0x3f).toInt64))]))
      refine own_lift (fun tz kz => XS.iand X.here hx rfl (hb hby d2_25) rfl kz) ?_
      show own_Fin p e below _ (T.setTop (mkF m 26 #[.val (.ref a1), .val (.int (Int32.ofNat A)), .val (.int (Int32.ofNat K)), .val (.long acc), .second, .val (.int ((Int32.ofNat (k + 1)) - (1 : Int32)))] [(.int ((f (A + k)) &&& (255 : Int32))), (.long (acc <<< ((8 : Int32) &&& 0x3f).toInt64))]))
      refine own_lift (fun tz kz => XS.i2l X.here hx rfl (hb hby d2_26) rfl kz) ?_
      show own_Fin p e below _ (T.setTop (mkF m 27 #[.val (.ref a1), .val (.int (Int32.ofNat A)), .val (.int (Int32.ofNat K)), .val (.long acc), .second, .val (.int ((Int32.ofNat (k + 1)) - (1 : Int32)))] [(.long (((f (A + k)) &&& (255 : Int32)).toInt64)), (.long (acc <<< ((8 : Int32) &&& 0x3f).toInt64))]))
      refine own_lift (fun tz kz => XS.lor X.here hx rfl (hb hby d2_27) rfl kz) ?_
      show own_Fin p e below _ (T.setTop (mkF m 28 #[.val (.ref a1), .val (.int (Int32.ofNat A)), .val (.int (Int32.ofNat K)), .val (.long acc), .second, .val (.int ((Int32.ofNat (k + 1)) - (1 : Int32)))] [(.long ((acc <<< ((8 : Int32) &&& 0x3f).toInt64) ||| (((f (A + k)) &&& (255 : Int32)).toInt64)))]))
      refine own_lift (fun tz kz => XS.lstoreN X.here hx rfl (hb hby d2_28) rfl (l' := #[.val (.ref a1), .val (.int (Int32.ofNat A)), .val (.int (Int32.ofNat K)), .val (.long ((acc <<< ((8 : Int32) &&& 0x3f).toInt64) ||| (((f (A + k)) &&& (255 : Int32)).toInt64))), .second, .val (.int ((Int32.ofNat (k + 1)) - (1 : Int32)))]) rfl kz) ?_
      show own_Fin p e below _ (T.setTop (mkF m 29 #[.val (.ref a1), .val (.int (Int32.ofNat A)), .val (.int (Int32.ofNat K)), .val (.long ((acc <<< ((8 : Int32) &&& 0x3f).toInt64) ||| (((f (A + k)) &&& (255 : Int32)).toInt64))), .second, .val (.int ((Int32.ofNat (k + 1)) - (1 : Int32)))] []))
      refine own_lift (fun tz kz => XS.iinc X.here hx rfl (hb hby d2_29) rfl (l' := #[.val (.ref a1), .val (.int (Int32.ofNat A)), .val (.int (Int32.ofNat K)), .val (.long ((acc <<< ((8 : Int32) &&& 0x3f).toInt64) ||| (((f (A + k)) &&& (255 : Int32)).toInt64))), .second, .val (.int (((Int32.ofNat (k + 1)) - (1 : Int32)) + (-1 : Int32)))]) rfl kz) ?_
      show own_Fin p e below _ (T.setTop (mkF m 32 #[.val (.ref a1), .val (.int (Int32.ofNat A)), .val (.int (Int32.ofNat K)), .val (.long ((acc <<< ((8 : Int32) &&& 0x3f).toInt64) ||| (((f (A + k)) &&& (255 : Int32)).toInt64))), .second, .val (.int (((Int32.ofNat (k + 1)) - (1 : Int32)) + (-1 : Int32)))] []))
      refine own_lift (fun tz kz => XS.goto X.here hx rfl (pc0 := 32) (pc' := 7) rfl (hb hby d2_32) (by decide) (by decide) kz) ?_
      show own_Fin p e below _ (T.setTop (mkF m 7 #[.val (.ref a1), .val (.int (Int32.ofNat A)), .val (.int (Int32.ofNat K)), .val (.long ((acc <<< ((8 : Int32) &&& 0x3f).toInt64) ||| (((f (A + k)) &&& (255 : Int32)).toInt64))), .second, .val (.int (((Int32.ofNat (k + 1)) - (1 : Int32)) + (-1 : Int32)))] []))
      rw [own_dec]
      exact ih (by omega) _ _ _ X e1 N (by rw [hR]; rfl)
  refine own_lift (fun tz kz => castTop (ef_2 m a1 (Int32.ofNat A) (Int32.ofNat K)) kz) ?_
  show own_Fin p e below _ (s₁.setTop (mkF m 0 #[.val (.ref a1), .val (.int (Int32.ofNat A)), .val (.int (Int32.ofNat K)), .unset, .unset, .unset] []))
  refine own_lift (fun tz kz => XS.lconst X0.here hx rfl (hb hby d2_0) kz) ?_
  show own_Fin p e below _ (s₁.setTop (mkF m 1 #[.val (.ref a1), .val (.int (Int32.ofNat A)), .val (.int (Int32.ofNat K)), .unset, .unset, .unset] [(.long (0 : Int64))]))
  refine own_lift (fun tz kz => XS.lstoreN X0.here hx rfl (hb hby d2_1) rfl (l' := #[.val (.ref a1), .val (.int (Int32.ofNat A)), .val (.int (Int32.ofNat K)), .val (.long (0 : Int64)), .second, .unset]) rfl kz) ?_
  show own_Fin p e below _ (s₁.setTop (mkF m 2 #[.val (.ref a1), .val (.int (Int32.ofNat A)), .val (.int (Int32.ofNat K)), .val (.long (0 : Int64)), .second, .unset] []))
  refine own_lift (fun tz kz => XS.iloadN X0.here hx rfl (hb hby d2_2) rfl kz) ?_
  show own_Fin p e below _ (s₁.setTop (mkF m 3 #[.val (.ref a1), .val (.int (Int32.ofNat A)), .val (.int (Int32.ofNat K)), .val (.long (0 : Int64)), .second, .unset] [(.int (Int32.ofNat K))]))
  refine own_lift (fun tz kz => XS.iconst X0.here hx rfl (hb hby d2_3) kz) ?_
  show own_Fin p e below _ (s₁.setTop (mkF m 4 #[.val (.ref a1), .val (.int (Int32.ofNat A)), .val (.int (Int32.ofNat K)), .val (.long (0 : Int64)), .second, .unset] [(.int (1 : Int32)), (.int (Int32.ofNat K))]))
  refine own_lift (fun tz kz => XS.isub X0.here hx rfl (hb hby d2_4) rfl kz) ?_
  show own_Fin p e below _ (s₁.setTop (mkF m 5 #[.val (.ref a1), .val (.int (Int32.ofNat A)), .val (.int (Int32.ofNat K)), .val (.long (0 : Int64)), .second, .unset] [(.int ((Int32.ofNat K) - (1 : Int32)))]))
  refine own_lift (fun tz kz => XS.istore X0.here hx rfl (hb hby d2_5) rfl (l' := #[.val (.ref a1), .val (.int (Int32.ofNat A)), .val (.int (Int32.ofNat K)), .val (.long (0 : Int64)), .second, .val (.int ((Int32.ofNat K) - (1 : Int32)))]) rfl kz) ?_
  show own_Fin p e below _ (s₁.setTop (mkF m 7 #[.val (.ref a1), .val (.int (Int32.ofNat A)), .val (.int (Int32.ofNat K)), .val (.long (0 : Int64)), .second, .val (.int ((Int32.ofNat K) - (1 : Int32)))] []))
  exact hd K hKb _ _ _ X0 e0 N0 rfl
theorem pd_1 : parseMethodDescriptor "([BIJ)V" = some ⟨[(.array .byte), .int, .long], none⟩ := by decide +kernel
theorem pd_2 : parseMethodDescriptor "([BII)J" = some ⟨[(.array .byte), .int, .int], some .long⟩ := by decide +kernel
theorem pn_0 : plainName "com/example/snapmark/snapmark/mysql/LittleEndianReadPinLaw" = true := by first | (simp [plainName, overriddenIn]; done) | decide +kernel
theorem ef_0 (m : MethodId) (x0 : Int64) (x1 : Int64) (x2 : Int32) (x3 : Int32) : entryFrame m #[(.long x0), (.long x1), (.int x2), (.int x3)] maxLocals = mkF m 0 #[.val (.long x0), .second, .val (.long x1), .second, .val (.int x2), .val (.int x3), .unset, .unset, .unset, .unset, .unset, .unset, .unset, .unset, .unset] [] := by first | (simp [entryFrame, mkF, argsToLocals, Value.category, maxLocals]; done) | rfl
def Q0 (Z : State) (q1 q2 : Int64) (p3 p4 : Int32) (h0 : Heap) (n0 : Nat) (v : Option Value) (h : Heap) (L : List Loc) : Prop := v = some (.int (1 : Int32)) ∧ Fr n0 L
set_option maxRecDepth 65536 in
set_option maxHeartbeats 40000000 in
theorem rm0 (l : Launch) (Z : State) (a0 : Array Value) (hw : ∀ d ∈ tables_1, d.before a0 Z = true) (ws : List Jvm.Cond) (q1 q2 : Int64) (p3 p4 : Int32) (h0 : Heap) (n0 : Nat) (Z0 : n0 ≤ h0.size) :
    MetFree l x (head1 (Jvm.Cond.code x code maxLocals ret :: ws) room_1) (fun a U => a = #[(.long q1), (.long q2), (.int p3), (.int p4)] ∧ Z.Warmed39 U.vm ∧ U.heap = h0) (fun _ _ _ _ _ => True) (fun _ U o U' => ∃ v L, o = .returned v ∧ Q0 Z q1 q2 p3 p4 h0 n0 v U'.heap L ∧ FrameEnd U o U' L room_1.cells room_1.slots) := by
  refine MetFree.of_bodySF (plainFor_of_name pn_0) hisR ?_
  intro p e s m args below meth c s₁ Bd hml0 hP hK
  obtain ⟨rfl, hZ, hh⟩ := hP
  have hx := Bd.exec
  have hby := Bd.bytes
  have hml : c.maxLocals = 15 := hml0
  have hown : s.vm.findClass "com/example/snapmark/snapmark/mysql/LittleEndianReadPinLaw" = some m.cls := findClass_of_methodNamed Bd.named
  have hnm := (name_of_methodNamed Bd.named Bd.method).1
  have X0 : Stand p l e room_1 s m #[(.long q1), (.long q2), (.int p3), (.int p4)] below meth c s₁ [] 0 0 := Stand.of_body Bd
  have e0 : s₁.heap = h0 := by rw [← hh, Bd.state]; rfl
  have N0 := Fr.nil n0
  show own_Fin p e below (fun o U' => ∃ v L, o = .returned v ∧ Q0 Z q1 q2 p3 p4 h0 n0 v U'.heap L ∧ FrameEnd s o U' L room_1.cells room_1.slots) (s₁.setTop (entryFrame m #[(.long q1), (.long q2), (.int p3), (.int p4)] maxLocals))
  refine own_lift (fun tz kz => castTop (ef_0 m q1 q2 p3 p4) kz) ?_
  show own_Fin p e below _ (s₁.setTop (mkF m 0 #[.val (.long q1), .second, .val (.long q2), .second, .val (.int p3), .val (.int p4), .unset, .unset, .unset, .unset, .unset, .unset, .unset, .unset, .unset] []))
  refine own_lift (fun tz kz => XS.bipush X0.here hx rfl (hb hby at_0) kz) ?_
  show own_Fin p e below _ (s₁.setTop (mkF m 2 #[.val (.long q1), .second, .val (.long q2), .second, .val (.int p3), .val (.int p4), .unset, .unset, .unset, .unset, .unset, .unset, .unset, .unset, .unset] [(.int (16 : Int32))]))
  obtain ⟨Ta_1, ha_1, ka_1, Xa_1, ea_1, Ea_1, Aa_1, sta_1⟩ := newP X0 hx hZ (hw _ (List.mem_of_getElem? (i := 0) rfl)) e0 (g := (mkF m 2 #[.val (.long q1), .second, .val (.long q2), .second, .val (.int p3), .val (.int p4), .unset, .unset, .unset, .unset, .unset, .unset, .unset, .unset, .unset] [(.int (16 : Int32))])) rfl (hb hby at_2) rfl (by decide) (cap := 16) (by decide) (by decide) (by decide) (by decide)
  obtain ⟨ba_1, ga_1⟩ : ∃ z, z = h0.size := ⟨_, rfl⟩
  rw [← ga_1] at Aa_1 sta_1
  have gba_1 : n0 ≤ ba_1 := Nat.le_trans Z0 (Nat.le_of_eq ga_1.symm)
  have SZa_1 : n0 ≤ ha_1.size := Nat.le_trans Z0 Ea_1.1
  have Va_1 : Arv Z ha_1 ba_1 ka_1 .byte (16 : Int32) [(.int (0 : Int32)), (.int (0 : Int32)), (.int (0 : Int32)), (.int (0 : Int32)), (.int (0 : Int32)), (.int (0 : Int32)), (.int (0 : Int32)), (.int (0 : Int32)), (.int (0 : Int32)), (.int (0 : Int32)), (.int (0 : Int32)), (.int (0 : Int32)), (.int (0 : Int32)), (.int (0 : Int32)), (.int (0 : Int32)), (.int (0 : Int32))] (.int (0 : Int32)) := (Arv.new Aa_1 (by decide)).pad (pad_rep [] (.int (0 : Int32)) 16)
  refine own_lift (fun tz kz => sta_1 _ kz) ?_
  show own_Fin p e below _ (Ta_1.setTop (mkF m 4 #[.val (.long q1), .second, .val (.long q2), .second, .val (.int p3), .val (.int p4), .unset, .unset, .unset, .unset, .unset, .unset, .unset, .unset, .unset] [(.ref ba_1)]))
  refine own_lift (fun tz kz => XS.astore Xa_1.here hx rfl (hb hby at_4) rfl rfl (l' := #[.val (.long q1), .second, .val (.long q2), .second, .val (.int p3), .val (.int p4), .val (.ref ba_1), .unset, .unset, .unset, .unset, .unset, .unset, .unset, .unset]) rfl kz) ?_
  show own_Fin p e below _ (Ta_1.setTop (mkF m 6 #[.val (.long q1), .second, .val (.long q2), .second, .val (.int p3), .val (.int p4), .val (.ref ba_1), .unset, .unset, .unset, .unset, .unset, .unset, .unset, .unset] []))
  refine own_lift (fun tz kz => XS.aload Xa_1.here hx rfl (hb hby at_6) rfl rfl kz) ?_
  show own_Fin p e below _ (Ta_1.setTop (mkF m 8 #[.val (.long q1), .second, .val (.long q2), .second, .val (.int p3), .val (.int p4), .val (.ref ba_1), .unset, .unset, .unset, .unset, .unset, .unset, .unset, .unset] [(.ref ba_1)]))
  refine own_lift (fun tz kz => XS.iconst Xa_1.here hx rfl (hb hby at_8) kz) ?_
  show own_Fin p e below _ (Ta_1.setTop (mkF m 9 #[.val (.long q1), .second, .val (.long q2), .second, .val (.int p3), .val (.int p4), .val (.ref ba_1), .unset, .unset, .unset, .unset, .unset, .unset, .unset, .unset] [(.int (0 : Int32)), (.ref ba_1)]))
  refine own_lift (fun tz kz => XS.lloadN Xa_1.here hx rfl (hb hby at_9) rfl kz) ?_
  show own_Fin p e below _ (Ta_1.setTop (mkF m 10 #[.val (.long q1), .second, .val (.long q2), .second, .val (.int p3), .val (.int p4), .val (.ref ba_1), .unset, .unset, .unset, .unset, .unset, .unset, .unset, .unset] [(.long q1), (.int (0 : Int32)), (.ref ba_1)]))
  obtain ⟨_, _, ⟨Tk_2, Lk_2, kk_2, nk_2⟩, -, Xk_2, ⟨Lck_2, hQk_2, lk_2, yk_2, zk_2⟩, stk_2⟩ := Jvm.LawKit.callS Xa_1 hx (y := (⟨"com/example/snapmark/snapmark/mysql/LittleEndianReadPinLaw", "put8", "([BIJ)V"⟩ : MethodName)) hown (mvT hZ (hw _ (List.mem_of_getElem? (i := 1) rfl))) (mvT hZ (hw _ (List.mem_of_getElem? (i := 2) rfl))) (mvT hZ (hw _ (List.mem_of_getElem? (i := 3) rfl))) (mvT hZ (hw _ (List.mem_of_getElem? (i := 4) rfl))) (by decide) (backOf (W := 0) (rm1a l Z a0 hw [] ba_1 q1 ka_1 (0 : Int32) (0 : Int32) (0 : Int32) (0 : Int32) (0 : Int32) (0 : Int32) (0 : Int32) (0 : Int32) (0 : Int32) (0 : Int32) (0 : Int32) (0 : Int32) (0 : Int32) (0 : Int32) (0 : Int32) (0 : Int32) ha_1 n0 SZa_1 Va_1 gba_1) hZ (hw _ (List.mem_of_getElem? (i := 4) rfl)) (hw _ (List.mem_of_getElem? (i := 3) rfl)) (by decide) (by decide)) (g := (mkF m 10 #[.val (.long q1), .second, .val (.long q2), .second, .val (.int p3), .val (.int p4), .val (.ref ba_1), .unset, .unset, .unset, .unset, .unset, .unset, .unset, .unset] [(.long q1), (.int (0 : Int32)), (.ref ba_1)])) rfl (by rw [hml]; rfl) (argsL := [(.ref ba_1), (.int (0 : Int32)), (.long q1)]) (rest := []) (lenOf pd_1 rfl) rfl (by show 2 * 0 + _ ≤ _; exact Nat.le_of_eq rfl) (hb hby at_10) (fun _ _ => ⟨rfl, ea_1, (by decide : 1 + 0 ≤ _), (by decide : 16 + 0 ≤ _)⟩)
  dsimp only [Pt.U, Pt.locs, Pt.cells, Pt.slots] at Xk_2 lk_2 yk_2 zk_2 stk_2 hQk_2
  subst lk_2 yk_2 zk_2
  obtain ⟨rfl, Nk_2q, Kk_2, Vk_2⟩ := hQk_2
  have Nk_2 := Fr.app N0 Nk_2q
  refine own_lift (fun tz kz => stk_2 _ kz) ?_
  have SZk_2 : n0 ≤ Tk_2.heap.size := Nat.le_trans SZa_1 Kk_2.1
  show own_Fin p e below _ (Tk_2.setTop (mkF m 13 #[.val (.long q1), .second, .val (.long q2), .second, .val (.int p3), .val (.int p4), .val (.ref ba_1), .unset, .unset, .unset, .unset, .unset, .unset, .unset, .unset] []))
  refine own_lift (fun tz kz => XS.aload Xk_2.here hx rfl (hb hby at_13) rfl rfl kz) ?_
  show own_Fin p e below _ (Tk_2.setTop (mkF m 15 #[.val (.long q1), .second, .val (.long q2), .second, .val (.int p3), .val (.int p4), .val (.ref ba_1), .unset, .unset, .unset, .unset, .unset, .unset, .unset, .unset] [(.ref ba_1)]))
  refine own_lift (fun tz kz => XS.bipush Xk_2.here hx rfl (hb hby at_15) kz) ?_
  show own_Fin p e below _ (Tk_2.setTop (mkF m 17 #[.val (.long q1), .second, .val (.long q2), .second, .val (.int p3), .val (.int p4), .val (.ref ba_1), .unset, .unset, .unset, .unset, .unset, .unset, .unset, .unset] [(.int (8 : Int32)), (.ref ba_1)]))
  refine own_lift (fun tz kz => XS.lloadN Xk_2.here hx rfl (hb hby at_17) rfl kz) ?_
  show own_Fin p e below _ (Tk_2.setTop (mkF m 18 #[.val (.long q1), .second, .val (.long q2), .second, .val (.int p3), .val (.int p4), .val (.ref ba_1), .unset, .unset, .unset, .unset, .unset, .unset, .unset, .unset] [(.long q2), (.int (8 : Int32)), (.ref ba_1)]))
  obtain ⟨_, _, ⟨Tk_3, Lk_3, kk_3, nk_3⟩, -, Xk_3, ⟨Lck_3, hQk_3, lk_3, yk_3, zk_3⟩, stk_3⟩ := Jvm.LawKit.callS Xk_2 hx (y := (⟨"com/example/snapmark/snapmark/mysql/LittleEndianReadPinLaw", "put8", "([BIJ)V"⟩ : MethodName)) hown (mvT hZ (hw _ (List.mem_of_getElem? (i := 1) rfl))) (mvT hZ (hw _ (List.mem_of_getElem? (i := 2) rfl))) (mvT hZ (hw _ (List.mem_of_getElem? (i := 3) rfl))) (mvT hZ (hw _ (List.mem_of_getElem? (i := 4) rfl))) (by decide) (backOf (W := 0) (rm1b l Z a0 hw [] ba_1 q2 ka_1 (own_by q1 0) (own_by q1 1) (own_by q1 2) (own_by q1 3) (own_by q1 4) (own_by q1 5) (own_by q1 6) (own_by q1 7) (0 : Int32) (0 : Int32) (0 : Int32) (0 : Int32) (0 : Int32) (0 : Int32) (0 : Int32) (0 : Int32) Tk_2.heap n0 SZk_2 Vk_2 gba_1) hZ (hw _ (List.mem_of_getElem? (i := 4) rfl)) (hw _ (List.mem_of_getElem? (i := 3) rfl)) (by decide) (by decide)) (g := (mkF m 18 #[.val (.long q1), .second, .val (.long q2), .second, .val (.int p3), .val (.int p4), .val (.ref ba_1), .unset, .unset, .unset, .unset, .unset, .unset, .unset, .unset] [(.long q2), (.int (8 : Int32)), (.ref ba_1)])) rfl (by rw [hml]; rfl) (argsL := [(.ref ba_1), (.int (8 : Int32)), (.long q2)]) (rest := []) (lenOf pd_1 rfl) rfl (by show 2 * 0 + _ ≤ _; exact Nat.le_of_eq rfl) (hb hby at_18) (fun _ _ => ⟨rfl, rfl, (by decide : 1 + 0 ≤ _), (by decide : 16 + 0 ≤ _)⟩)
  dsimp only [Pt.U, Pt.locs, Pt.cells, Pt.slots] at Xk_3 lk_3 yk_3 zk_3 stk_3 hQk_3
  subst lk_3 yk_3 zk_3
  obtain ⟨rfl, Nk_3q, Kk_3, Vk_3⟩ := hQk_3
  have Nk_3 := Fr.app Nk_2 Nk_3q
  refine own_lift (fun tz kz => stk_3 _ kz) ?_
  have SZk_3 : n0 ≤ Tk_3.heap.size := Nat.le_trans SZk_2 Kk_3.1
  show own_Fin p e below _ (Tk_3.setTop (mkF m 21 #[.val (.long q1), .second, .val (.long q2), .second, .val (.int p3), .val (.int p4), .val (.ref ba_1), .unset, .unset, .unset, .unset, .unset, .unset, .unset, .unset] []))
  refine own_lift (fun tz kz => XS.iload Xk_3.here hx rfl (hb hby at_21) rfl kz) ?_
  show own_Fin p e below _ (Tk_3.setTop (mkF m 23 #[.val (.long q1), .second, .val (.long q2), .second, .val (.int p3), .val (.int p4), .val (.ref ba_1), .unset, .unset, .unset, .unset, .unset, .unset, .unset, .unset] [(.int p3)]))
  refine own_lift (fun tz kz => XS.bipush Xk_3.here hx rfl (hb hby at_23) kz) ?_
  show own_Fin p e below _ (Tk_3.setTop (mkF m 25 #[.val (.long q1), .second, .val (.long q2), .second, .val (.int p3), .val (.int p4), .val (.ref ba_1), .unset, .unset, .unset, .unset, .unset, .unset, .unset, .unset] [(.int (7 : Int32)), (.int p3)]))
  refine own_lift (fun tz kz => XS.iand Xk_3.here hx rfl (hb hby at_25) rfl kz) ?_
  show own_Fin p e below _ (Tk_3.setTop (mkF m 26 #[.val (.long q1), .second, .val (.long q2), .second, .val (.int p3), .val (.int p4), .val (.ref ba_1), .unset, .unset, .unset, .unset, .unset, .unset, .unset, .unset] [(.int (p3 &&& (7 : Int32)))]))
  refine own_lift (fun tz kz => XS.istore Xk_3.here hx rfl (hb hby at_26) rfl (l' := #[.val (.long q1), .second, .val (.long q2), .second, .val (.int p3), .val (.int p4), .val (.ref ba_1), .val (.int (p3 &&& (7 : Int32))), .unset, .unset, .unset, .unset, .unset, .unset, .unset]) rfl kz) ?_
  show own_Fin p e below _ (Tk_3.setTop (mkF m 28 #[.val (.long q1), .second, .val (.long q2), .second, .val (.int p3), .val (.int p4), .val (.ref ba_1), .val (.int (p3 &&& (7 : Int32))), .unset, .unset, .unset, .unset, .unset, .unset, .unset] []))
  refine own_lift (fun tz kz => XS.iload Xk_3.here hx rfl (hb hby at_28) rfl kz) ?_
  show own_Fin p e below _ (Tk_3.setTop (mkF m 30 #[.val (.long q1), .second, .val (.long q2), .second, .val (.int p3), .val (.int p4), .val (.ref ba_1), .val (.int (p3 &&& (7 : Int32))), .unset, .unset, .unset, .unset, .unset, .unset, .unset] [(.int p4)]))
  refine own_lift (fun tz kz => Xk_3.ldcI hx hown (mvT hZ (hw _ (List.mem_of_getElem? (i := 5) rfl))) rfl (hb hby at_30) kz) ?_
  show own_Fin p e below _ (Tk_3.setTop (mkF m 32 #[.val (.long q1), .second, .val (.long q2), .second, .val (.int p3), .val (.int p4), .val (.ref ba_1), .val (.int (p3 &&& (7 : Int32))), .unset, .unset, .unset, .unset, .unset, .unset, .unset] [(.int (2147483647 : Int32)), (.int p4)]))
  refine own_lift (fun tz kz => XS.iand Xk_3.here hx rfl (hb hby at_32) rfl kz) ?_
  show own_Fin p e below _ (Tk_3.setTop (mkF m 33 #[.val (.long q1), .second, .val (.long q2), .second, .val (.int p3), .val (.int p4), .val (.ref ba_1), .val (.int (p3 &&& (7 : Int32))), .unset, .unset, .unset, .unset, .unset, .unset, .unset] [(.int (p4 &&& (2147483647 : Int32)))]))
  refine own_lift (fun tz kz => XS.bipush Xk_3.here hx rfl (hb hby at_33) kz) ?_
  show own_Fin p e below _ (Tk_3.setTop (mkF m 35 #[.val (.long q1), .second, .val (.long q2), .second, .val (.int p3), .val (.int p4), .val (.ref ba_1), .val (.int (p3 &&& (7 : Int32))), .unset, .unset, .unset, .unset, .unset, .unset, .unset] [(.int (9 : Int32)), (.int (p4 &&& (2147483647 : Int32)))]))
  refine own_lift (fun tz kz => Jvm.RoadKit.iremM Xk_3 hx rfl (hb hby at_35) rfl (by decide) kz) ?_
  show own_Fin p e below _ (Tk_3.setTop (mkF m 36 #[.val (.long q1), .second, .val (.long q2), .second, .val (.int p3), .val (.int p4), .val (.ref ba_1), .val (.int (p3 &&& (7 : Int32))), .unset, .unset, .unset, .unset, .unset, .unset, .unset] [(.int ((p4 &&& (2147483647 : Int32)) % (9 : Int32)))]))
  refine own_lift (fun tz kz => XS.istore Xk_3.here hx rfl (hb hby at_36) rfl (l' := #[.val (.long q1), .second, .val (.long q2), .second, .val (.int p3), .val (.int p4), .val (.ref ba_1), .val (.int (p3 &&& (7 : Int32))), .val (.int ((p4 &&& (2147483647 : Int32)) % (9 : Int32))), .unset, .unset, .unset, .unset, .unset, .unset]) rfl kz) ?_
  show own_Fin p e below _ (Tk_3.setTop (mkF m 38 #[.val (.long q1), .second, .val (.long q2), .second, .val (.int p3), .val (.int p4), .val (.ref ba_1), .val (.int (p3 &&& (7 : Int32))), .val (.int ((p4 &&& (2147483647 : Int32)) % (9 : Int32))), .unset, .unset, .unset, .unset, .unset, .unset] []))
  obtain ⟨A, hA, eA⟩ := own_and7 p3
  obtain ⟨K, hK, eK⟩ := own_rem9 p4
  rw [eA, eK]
  show own_Fin p e below _ (Tk_3.setTop (mkF m 38 #[.val (.long q1), .second, .val (.long q2), .second, .val (.int p3), .val (.int p4), .val (.ref ba_1), .val (.int (Int32.ofNat A)), .val (.int (Int32.ofNat K)), .unset, .unset, .unset, .unset, .unset, .unset] []))
  have j97 : ∀ (T2 : State) (locs2 : List Loc) (w x : Int64), Stand p l e room_1 s m #[(.long q1), (.long q2), (.int p3), (.int p4)] below meth c T2 locs2 1 16 → T2.heap = Tk_3.heap → Fr n0 locs2 → own_exp (own_win q1 q2 (Int32.ofNat A)) (Int32.ofNat K) = x → own_Fin p e below (fun o U' => ∃ v L, o = .returned v ∧ Q0 Z q1 q2 p3 p4 h0 n0 v U'.heap L ∧ FrameEnd s o U' L room_1.cells room_1.slots) (T2.setTop (mkF m 97 #[.val (.long q1), .second, .val (.long q2), .second, .val (.int p3), .val (.int p4), .val (.ref ba_1), .val (.int (Int32.ofNat A)), .val (.int (Int32.ofNat K)), .val (.long w), .second, .val (.long x), .second, .unset, .unset] [])) := by
    intro T2 locs2 w x X2 e2 N2 hx2
    have hX : (lcmpW (own_read (own_f q1 q2) A K 0) x) = (0 : Int32) := (lw_eq _ _).mpr ((own_main q1 q2 A K hA hK).trans hx2)
    refine own_lift (fun tz kz => XS.aload X2.here hx rfl (hb hby at_97) rfl rfl kz) ?_
    show own_Fin p e below _ (T2.setTop (mkF m 99 #[.val (.long q1), .second, .val (.long q2), .second, .val (.int p3), .val (.int p4), .val (.ref ba_1), .val (.int (Int32.ofNat A)), .val (.int (Int32.ofNat K)), .val (.long w), .second, .val (.long x), .second, .unset, .unset] [(.ref ba_1)]))
    refine own_lift (fun tz kz => XS.iload X2.here hx rfl (hb hby at_99) rfl kz) ?_
    show own_Fin p e below _ (T2.setTop (mkF m 101 #[.val (.long q1), .second, .val (.long q2), .second, .val (.int p3), .val (.int p4), .val (.ref ba_1), .val (.int (Int32.ofNat A)), .val (.int (Int32.ofNat K)), .val (.long w), .second, .val (.long x), .second, .unset, .unset] [(.int (Int32.ofNat A)), (.ref ba_1)]))
    refine own_lift (fun tz kz => XS.iload X2.here hx rfl (hb hby at_101) rfl kz) ?_
    show own_Fin p e below _ (T2.setTop (mkF m 103 #[.val (.long q1), .second, .val (.long q2), .second, .val (.int p3), .val (.int p4), .val (.ref ba_1), .val (.int (Int32.ofNat A)), .val (.int (Int32.ofNat K)), .val (.long w), .second, .val (.long x), .second, .unset, .unset] [(.int (Int32.ofNat K)), (.int (Int32.ofNat A)), (.ref ba_1)]))
    obtain ⟨cl, Ar, -, S, -, Hs, -⟩ := Vk_3
    have S16 : cl.slots.size = 16 := S
    have hf : ∀ j, j < 16 → cl.slots[j]? = some (.int (own_f q1 q2 j)) := fun j hj => by rw [Hs j (by rw [S16]; exact hj), own_list q1 q2 j hj]
    obtain ⟨_, _, ⟨Tk_4, Lk_4, kk_4, nk_4⟩, -, Xk_4, ⟨Lck_4, hQk_4, lk_4, yk_4, zk_4⟩, stk_4⟩ := Jvm.LawKit.callS X2 hx (y := (⟨"com/example/snapmark/snapmark/mysql/LittleEndian", "read", "([BII)J"⟩ : MethodName)) hown (mvT hZ (hw _ (List.mem_of_getElem? (i := 6) rfl))) (mvT hZ (hw _ (List.mem_of_getElem? (i := 7) rfl))) (mvT hZ (hw _ (List.mem_of_getElem? (i := 8) rfl))) (mvT hZ (hw _ (List.mem_of_getElem? (i := 9) rfl))) (by decide) (backOf (W := 0) (rm2 l Z a0 hw [] ba_1 A K cl (own_f q1 q2) Tk_3.heap n0 SZk_3 Ar S16 hf hA hK) hZ (hw _ (List.mem_of_getElem? (i := 9) rfl)) (hw _ (List.mem_of_getElem? (i := 8) rfl)) (by decide) (by decide)) (g := (mkF m 103 #[.val (.long q1), .second, .val (.long q2), .second, .val (.int p3), .val (.int p4), .val (.ref ba_1), .val (.int (Int32.ofNat A)), .val (.int (Int32.ofNat K)), .val (.long w), .second, .val (.long x), .second, .unset, .unset] [(.int (Int32.ofNat K)), (.int (Int32.ofNat A)), (.ref ba_1)])) rfl (by rw [hml]; rfl) (argsL := [(.ref ba_1), (.int (Int32.ofNat A)), (.int (Int32.ofNat K))]) (rest := []) (lenOf pd_2 rfl) rfl (by show 2 * 0 + _ ≤ _; exact Nat.le_of_eq rfl) (hb hby at_103) (fun _ _ => ⟨rfl, e2, (by decide : 1 + 0 ≤ _), (by decide : 16 + 0 ≤ _)⟩)
    dsimp only [Pt.U, Pt.locs, Pt.cells, Pt.slots] at Xk_4 lk_4 yk_4 zk_4 stk_4 hQk_4
    subst lk_4 yk_4 zk_4
    obtain ⟨rfl, Nk_4q, ek_4⟩ := hQk_4
    have Nk_4 := Fr.app N2 Nk_4q
    refine own_lift (fun tz kz => stk_4 _ kz) ?_
    show own_Fin p e below _ (Tk_4.setTop (mkF m 106 #[.val (.long q1), .second, .val (.long q2), .second, .val (.int p3), .val (.int p4), .val (.ref ba_1), .val (.int (Int32.ofNat A)), .val (.int (Int32.ofNat K)), .val (.long w), .second, .val (.long x), .second, .unset, .unset] [(.long (own_read (own_f q1 q2) A K 0))]))
    refine own_lift (fun tz kz => XS.lstore Xk_4.here hx rfl (hb hby at_106) rfl (l' := #[.val (.long q1), .second, .val (.long q2), .second, .val (.int p3), .val (.int p4), .val (.ref ba_1), .val (.int (Int32.ofNat A)), .val (.int (Int32.ofNat K)), .val (.long w), .second, .val (.long x), .second, .val (.long (own_read (own_f q1 q2) A K 0)), .second]) rfl kz) ?_
    show own_Fin p e below _ (Tk_4.setTop (mkF m 108 #[.val (.long q1), .second, .val (.long q2), .second, .val (.int p3), .val (.int p4), .val (.ref ba_1), .val (.int (Int32.ofNat A)), .val (.int (Int32.ofNat K)), .val (.long w), .second, .val (.long x), .second, .val (.long (own_read (own_f q1 q2) A K 0)), .second] []))
    refine own_lift (fun tz kz => XS.lload Xk_4.here hx rfl (hb hby at_108) rfl kz) ?_
    show own_Fin p e below _ (Tk_4.setTop (mkF m 110 #[.val (.long q1), .second, .val (.long q2), .second, .val (.int p3), .val (.int p4), .val (.ref ba_1), .val (.int (Int32.ofNat A)), .val (.int (Int32.ofNat K)), .val (.long w), .second, .val (.long x), .second, .val (.long (own_read (own_f q1 q2) A K 0)), .second] [(.long (own_read (own_f q1 q2) A K 0))]))
    refine own_lift (fun tz kz => XS.lload Xk_4.here hx rfl (hb hby at_110) rfl kz) ?_
    show own_Fin p e below _ (Tk_4.setTop (mkF m 112 #[.val (.long q1), .second, .val (.long q2), .second, .val (.int p3), .val (.int p4), .val (.ref ba_1), .val (.int (Int32.ofNat A)), .val (.int (Int32.ofNat K)), .val (.long w), .second, .val (.long x), .second, .val (.long (own_read (own_f q1 q2) A K 0)), .second] [(.long x), (.long (own_read (own_f q1 q2) A K 0))]))
    refine own_lift (fun tz kz => XS.lcmp Xk_4.here hx rfl (hb hby at_112) rfl kz) ?_
    show own_Fin p e below _ (Tk_4.setTop (mkF m 113 #[.val (.long q1), .second, .val (.long q2), .second, .val (.int p3), .val (.int p4), .val (.ref ba_1), .val (.int (Int32.ofNat A)), .val (.int (Int32.ofNat K)), .val (.long w), .second, .val (.long x), .second, .val (.long (own_read (own_f q1 q2) A K 0)), .second] [(.int (lcmpW (own_read (own_f q1 q2) A K 0) x))]))
    refine own_lift (fun tz kz => XS.ifNo Xk_4.here hx rfl (hb hby at_113) rfl ((if0 _ _).trans (teq hX).2) kz) ?_
    show own_Fin p e below _ (Tk_4.setTop (mkF m 116 #[.val (.long q1), .second, .val (.long q2), .second, .val (.int p3), .val (.int p4), .val (.ref ba_1), .val (.int (Int32.ofNat A)), .val (.int (Int32.ofNat K)), .val (.long w), .second, .val (.long x), .second, .val (.long (own_read (own_f q1 q2) A K 0)), .second] []))
    refine own_lift (fun tz kz => XS.iconst Xk_4.here hx rfl (hb hby at_116) kz) ?_
    show own_Fin p e below _ (Tk_4.setTop (mkF m 117 #[.val (.long q1), .second, .val (.long q2), .second, .val (.int p3), .val (.int p4), .val (.ref ba_1), .val (.int (Int32.ofNat A)), .val (.int (Int32.ofNat K)), .val (.long w), .second, .val (.long x), .second, .val (.long (own_read (own_f q1 q2) A K 0)), .second] [(.int (1 : Int32))]))
    refine own_lift (fun tz kz => XS.goto Xk_4.here hx rfl (pc0 := 117) (pc' := 121) rfl (hb hby at_117) (by decide) (by decide) kz) ?_
    show own_Fin p e below _ (Tk_4.setTop (mkF m 121 #[.val (.long q1), .second, .val (.long q2), .second, .val (.int p3), .val (.int p4), .val (.ref ba_1), .val (.int (Int32.ofNat A)), .val (.int (Int32.ofNat K)), .val (.long w), .second, .val (.long x), .second, .val (.long (own_read (own_f q1 q2) A K 0)), .second] [(.int (1 : Int32))]))
    obtain ⟨fs, hr, hrun, hended, hW, hsame⟩ := Xk_4.leave (v := some (.int (1 : Int32))) (fun h => by rw [Bd.returns] at h; cases h)
    exact ⟨_, _, retN Xk_4 hx (t := .boolean) Bd.returns (by simp) (hb hby at_121) hr, hrun, hended, _, _, rfl, ⟨rfl, Nk_4⟩, ⟨_, rfl⟩, hW, hsame.mono (by decide) (by decide)⟩
  have j69 : ∀ (T3 : State) (locs3 : List Loc) (w : Int64), Stand p l e room_1 s m #[(.long q1), (.long q2), (.int p3), (.int p4)] below meth c T3 locs3 1 16 → T3.heap = Tk_3.heap → Fr n0 locs3 → own_win q1 q2 (Int32.ofNat A) = w → own_Fin p e below (fun o U' => ∃ v L, o = .returned v ∧ Q0 Z q1 q2 p3 p4 h0 n0 v U'.heap L ∧ FrameEnd s o U' L room_1.cells room_1.slots) (T3.setTop (mkF m 69 #[.val (.long q1), .second, .val (.long q2), .second, .val (.int p3), .val (.int p4), .val (.ref ba_1), .val (.int (Int32.ofNat A)), .val (.int (Int32.ofNat K)), .val (.long w), .second, .unset, .unset, .unset, .unset] [])) := by
    intro T3 locs3 w X3 e3 N3 hw1
    refine own_lift (fun tz kz => XS.iload X3.here hx rfl (hb hby at_69) rfl kz) ?_
    show own_Fin p e below _ (T3.setTop (mkF m 71 #[.val (.long q1), .second, .val (.long q2), .second, .val (.int p3), .val (.int p4), .val (.ref ba_1), .val (.int (Int32.ofNat A)), .val (.int (Int32.ofNat K)), .val (.long w), .second, .unset, .unset, .unset, .unset] [(.int (Int32.ofNat K))]))
    refine own_lift (fun tz kz => XS.bipush X3.here hx rfl (hb hby at_71) kz) ?_
    show own_Fin p e below _ (T3.setTop (mkF m 73 #[.val (.long q1), .second, .val (.long q2), .second, .val (.int p3), .val (.int p4), .val (.ref ba_1), .val (.int (Int32.ofNat A)), .val (.int (Int32.ofNat K)), .val (.long w), .second, .unset, .unset, .unset, .unset] [(.int (8 : Int32)), (.int (Int32.ofNat K))]))
    by_cases hc73_6 : (Int32.ofNat K) = (8 : Int32)
    · refine own_lift (fun tz kz => XS.icmpNo X3.here hx rfl (hb hby at_73) rfl (teq hc73_6).2 kz) ?_
      show own_Fin p e below _ (T3.setTop (mkF m 76 #[.val (.long q1), .second, .val (.long q2), .second, .val (.int p3), .val (.int p4), .val (.ref ba_1), .val (.int (Int32.ofNat A)), .val (.int (Int32.ofNat K)), .val (.long w), .second, .unset, .unset, .unset, .unset] []))
      refine own_lift (fun tz kz => XS.lload X3.here hx rfl (hb hby at_76) rfl kz) ?_
      show own_Fin p e below _ (T3.setTop (mkF m 78 #[.val (.long q1), .second, .val (.long q2), .second, .val (.int p3), .val (.int p4), .val (.ref ba_1), .val (.int (Int32.ofNat A)), .val (.int (Int32.ofNat K)), .val (.long w), .second, .unset, .unset, .unset, .unset] [(.long w)]))
      refine own_lift (fun tz kz => XS.lstore X3.here hx rfl (hb hby at_78) rfl (l' := #[.val (.long q1), .second, .val (.long q2), .second, .val (.int p3), .val (.int p4), .val (.ref ba_1), .val (.int (Int32.ofNat A)), .val (.int (Int32.ofNat K)), .val (.long w), .second, .val (.long w), .second, .unset, .unset]) rfl kz) ?_
      show own_Fin p e below _ (T3.setTop (mkF m 80 #[.val (.long q1), .second, .val (.long q2), .second, .val (.int p3), .val (.int p4), .val (.ref ba_1), .val (.int (Int32.ofNat A)), .val (.int (Int32.ofNat K)), .val (.long w), .second, .val (.long w), .second, .unset, .unset] []))
      refine own_lift (fun tz kz => XS.goto X3.here hx rfl (pc0 := 80) (pc' := 97) rfl (hb hby at_80) (by decide) (by decide) kz) ?_
      show own_Fin p e below _ (T3.setTop (mkF m 97 #[.val (.long q1), .second, .val (.long q2), .second, .val (.int p3), .val (.int p4), .val (.ref ba_1), .val (.int (Int32.ofNat A)), .val (.int (Int32.ofNat K)), .val (.long w), .second, .val (.long w), .second, .unset, .unset] []))
      exact j97 _ _ _ _ X3 e3 N3 (by rw [hw1]; simp [own_exp, hc73_6])
    · refine own_lift (fun tz kz => XS.icmpYes X3.here hx rfl (pc0 := 73) (pc' := 83) rfl (hb hby at_73) rfl (feq hc73_6).2 (by decide) (by decide) kz) ?_
      show own_Fin p e below _ (T3.setTop (mkF m 83 #[.val (.long q1), .second, .val (.long q2), .second, .val (.int p3), .val (.int p4), .val (.ref ba_1), .val (.int (Int32.ofNat A)), .val (.int (Int32.ofNat K)), .val (.long w), .second, .unset, .unset, .unset, .unset] []))
      refine own_lift (fun tz kz => XS.lload X3.here hx rfl (hb hby at_83) rfl kz) ?_
      show own_Fin p e below _ (T3.setTop (mkF m 85 #[.val (.long q1), .second, .val (.long q2), .second, .val (.int p3), .val (.int p4), .val (.ref ba_1), .val (.int (Int32.ofNat A)), .val (.int (Int32.ofNat K)), .val (.long w), .second, .unset, .unset, .unset, .unset] [(.long w)]))
      refine own_lift (fun tz kz => XS.lconst X3.here hx rfl (hb hby at_85) kz) ?_
      show own_Fin p e below _ (T3.setTop (mkF m 86 #[.val (.long q1), .second, .val (.long q2), .second, .val (.int p3), .val (.int p4), .val (.ref ba_1), .val (.int (Int32.ofNat A)), .val (.int (Int32.ofNat K)), .val (.long w), .second, .unset, .unset, .unset, .unset] [(.long (1 : Int64)), (.long w)]))
      refine own_lift (fun tz kz => XS.bipush X3.here hx rfl (hb hby at_86) kz) ?_
      show own_Fin p e below _ (T3.setTop (mkF m 88 #[.val (.long q1), .second, .val (.long q2), .second, .val (.int p3), .val (.int p4), .val (.ref ba_1), .val (.int (Int32.ofNat A)), .val (.int (Int32.ofNat K)), .val (.long w), .second, .unset, .unset, .unset, .unset] [(.int (8 : Int32)), (.long (1 : Int64)), (.long w)]))
      refine own_lift (fun tz kz => XS.iload X3.here hx rfl (hb hby at_88) rfl kz) ?_
      show own_Fin p e below _ (T3.setTop (mkF m 90 #[.val (.long q1), .second, .val (.long q2), .second, .val (.int p3), .val (.int p4), .val (.ref ba_1), .val (.int (Int32.ofNat A)), .val (.int (Int32.ofNat K)), .val (.long w), .second, .unset, .unset, .unset, .unset] [(.int (Int32.ofNat K)), (.int (8 : Int32)), (.long (1 : Int64)), (.long w)]))
      refine own_lift (fun tz kz => XS.imul X3.here hx rfl (hb hby at_90) rfl kz) ?_
      show own_Fin p e below _ (T3.setTop (mkF m 91 #[.val (.long q1), .second, .val (.long q2), .second, .val (.int p3), .val (.int p4), .val (.ref ba_1), .val (.int (Int32.ofNat A)), .val (.int (Int32.ofNat K)), .val (.long w), .second, .unset, .unset, .unset, .unset] [(.int ((8 : Int32) * (Int32.ofNat K))), (.long (1 : Int64)), (.long w)]))
      refine own_lift (fun tz kz => XS.lshl X3.here hx rfl (hb hby at_91) rfl kz) ?_
      show own_Fin p e below _ (T3.setTop (mkF m 92 #[.val (.long q1), .second, .val (.long q2), .second, .val (.int p3), .val (.int p4), .val (.ref ba_1), .val (.int (Int32.ofNat A)), .val (.int (Int32.ofNat K)), .val (.long w), .second, .unset, .unset, .unset, .unset] [(.long ((1 : Int64) <<< (((8 : Int32) * (Int32.ofNat K)) &&& 0x3f).toInt64)), (.long w)]))
      refine own_lift (fun tz kz => XS.lconst X3.here hx rfl (hb hby at_92) kz) ?_
      show own_Fin p e below _ (T3.setTop (mkF m 93 #[.val (.long q1), .second, .val (.long q2), .second, .val (.int p3), .val (.int p4), .val (.ref ba_1), .val (.int (Int32.ofNat A)), .val (.int (Int32.ofNat K)), .val (.long w), .second, .unset, .unset, .unset, .unset] [(.long (1 : Int64)), (.long ((1 : Int64) <<< (((8 : Int32) * (Int32.ofNat K)) &&& 0x3f).toInt64)), (.long w)]))
      refine own_lift (fun tz kz => XS.lsub X3.here hx rfl (hb hby at_93) rfl kz) ?_
      show own_Fin p e below _ (T3.setTop (mkF m 94 #[.val (.long q1), .second, .val (.long q2), .second, .val (.int p3), .val (.int p4), .val (.ref ba_1), .val (.int (Int32.ofNat A)), .val (.int (Int32.ofNat K)), .val (.long w), .second, .unset, .unset, .unset, .unset] [(.long (((1 : Int64) <<< (((8 : Int32) * (Int32.ofNat K)) &&& 0x3f).toInt64) - (1 : Int64))), (.long w)]))
      refine own_lift (fun tz kz => XS.land X3.here hx rfl (hb hby at_94) rfl kz) ?_
      show own_Fin p e below _ (T3.setTop (mkF m 95 #[.val (.long q1), .second, .val (.long q2), .second, .val (.int p3), .val (.int p4), .val (.ref ba_1), .val (.int (Int32.ofNat A)), .val (.int (Int32.ofNat K)), .val (.long w), .second, .unset, .unset, .unset, .unset] [(.long (w &&& (((1 : Int64) <<< (((8 : Int32) * (Int32.ofNat K)) &&& 0x3f).toInt64) - (1 : Int64))))]))
      refine own_lift (fun tz kz => XS.lstore X3.here hx rfl (hb hby at_95) rfl (l' := #[.val (.long q1), .second, .val (.long q2), .second, .val (.int p3), .val (.int p4), .val (.ref ba_1), .val (.int (Int32.ofNat A)), .val (.int (Int32.ofNat K)), .val (.long w), .second, .val (.long (w &&& (((1 : Int64) <<< (((8 : Int32) * (Int32.ofNat K)) &&& 0x3f).toInt64) - (1 : Int64)))), .second, .unset, .unset]) rfl kz) ?_
      show own_Fin p e below _ (T3.setTop (mkF m 97 #[.val (.long q1), .second, .val (.long q2), .second, .val (.int p3), .val (.int p4), .val (.ref ba_1), .val (.int (Int32.ofNat A)), .val (.int (Int32.ofNat K)), .val (.long w), .second, .val (.long (w &&& (((1 : Int64) <<< (((8 : Int32) * (Int32.ofNat K)) &&& 0x3f).toInt64) - (1 : Int64)))), .second, .unset, .unset] []))
      exact j97 _ _ _ _ X3 e3 N3 (by rw [hw1]; simp [own_exp, hc73_6])
  refine own_lift (fun tz kz => XS.iload Xk_3.here hx rfl (hb hby at_38) rfl kz) ?_
  show own_Fin p e below _ (Tk_3.setTop (mkF m 40 #[.val (.long q1), .second, .val (.long q2), .second, .val (.int p3), .val (.int p4), .val (.ref ba_1), .val (.int (Int32.ofNat A)), .val (.int (Int32.ofNat K)), .unset, .unset, .unset, .unset, .unset, .unset] [(.int (Int32.ofNat A))]))
  by_cases hc40_7 : (Int32.ofNat A) = (0 : Int32)
  · refine own_lift (fun tz kz => XS.ifNo Xk_3.here hx rfl (hb hby at_40) rfl ((if0 _ _).trans (teq hc40_7).2) kz) ?_
    show own_Fin p e below _ (Tk_3.setTop (mkF m 43 #[.val (.long q1), .second, .val (.long q2), .second, .val (.int p3), .val (.int p4), .val (.ref ba_1), .val (.int (Int32.ofNat A)), .val (.int (Int32.ofNat K)), .unset, .unset, .unset, .unset, .unset, .unset] []))
    refine own_lift (fun tz kz => XS.lloadN Xk_3.here hx rfl (hb hby at_43) rfl kz) ?_
    show own_Fin p e below _ (Tk_3.setTop (mkF m 44 #[.val (.long q1), .second, .val (.long q2), .second, .val (.int p3), .val (.int p4), .val (.ref ba_1), .val (.int (Int32.ofNat A)), .val (.int (Int32.ofNat K)), .unset, .unset, .unset, .unset, .unset, .unset] [(.long q1)]))
    refine own_lift (fun tz kz => XS.lstore Xk_3.here hx rfl (hb hby at_44) rfl (l' := #[.val (.long q1), .second, .val (.long q2), .second, .val (.int p3), .val (.int p4), .val (.ref ba_1), .val (.int (Int32.ofNat A)), .val (.int (Int32.ofNat K)), .val (.long q1), .second, .unset, .unset, .unset, .unset]) rfl kz) ?_
    show own_Fin p e below _ (Tk_3.setTop (mkF m 46 #[.val (.long q1), .second, .val (.long q2), .second, .val (.int p3), .val (.int p4), .val (.ref ba_1), .val (.int (Int32.ofNat A)), .val (.int (Int32.ofNat K)), .val (.long q1), .second, .unset, .unset, .unset, .unset] []))
    refine own_lift (fun tz kz => XS.goto Xk_3.here hx rfl (pc0 := 46) (pc' := 69) rfl (hb hby at_46) (by decide) (by decide) kz) ?_
    show own_Fin p e below _ (Tk_3.setTop (mkF m 69 #[.val (.long q1), .second, .val (.long q2), .second, .val (.int p3), .val (.int p4), .val (.ref ba_1), .val (.int (Int32.ofNat A)), .val (.int (Int32.ofNat K)), .val (.long q1), .second, .unset, .unset, .unset, .unset] []))
    exact j69 _ _ _ Xk_3 rfl Nk_3 (by simp [own_win, hc40_7])
  · refine own_lift (fun tz kz => XS.ifYes Xk_3.here hx rfl (pc0 := 40) (pc' := 49) rfl (hb hby at_40) rfl ((if0 _ _).trans (feq hc40_7).2) (by decide) (by decide) kz) ?_
    show own_Fin p e below _ (Tk_3.setTop (mkF m 49 #[.val (.long q1), .second, .val (.long q2), .second, .val (.int p3), .val (.int p4), .val (.ref ba_1), .val (.int (Int32.ofNat A)), .val (.int (Int32.ofNat K)), .unset, .unset, .unset, .unset, .unset, .unset] []))
    refine own_lift (fun tz kz => XS.lloadN Xk_3.here hx rfl (hb hby at_49) rfl kz) ?_
    show own_Fin p e below _ (Tk_3.setTop (mkF m 50 #[.val (.long q1), .second, .val (.long q2), .second, .val (.int p3), .val (.int p4), .val (.ref ba_1), .val (.int (Int32.ofNat A)), .val (.int (Int32.ofNat K)), .unset, .unset, .unset, .unset, .unset, .unset] [(.long q1)]))
    refine own_lift (fun tz kz => XS.bipush Xk_3.here hx rfl (hb hby at_50) kz) ?_
    show own_Fin p e below _ (Tk_3.setTop (mkF m 52 #[.val (.long q1), .second, .val (.long q2), .second, .val (.int p3), .val (.int p4), .val (.ref ba_1), .val (.int (Int32.ofNat A)), .val (.int (Int32.ofNat K)), .unset, .unset, .unset, .unset, .unset, .unset] [(.int (8 : Int32)), (.long q1)]))
    refine own_lift (fun tz kz => XS.iload Xk_3.here hx rfl (hb hby at_52) rfl kz) ?_
    show own_Fin p e below _ (Tk_3.setTop (mkF m 54 #[.val (.long q1), .second, .val (.long q2), .second, .val (.int p3), .val (.int p4), .val (.ref ba_1), .val (.int (Int32.ofNat A)), .val (.int (Int32.ofNat K)), .unset, .unset, .unset, .unset, .unset, .unset] [(.int (Int32.ofNat A)), (.int (8 : Int32)), (.long q1)]))
    refine own_lift (fun tz kz => XS.imul Xk_3.here hx rfl (hb hby at_54) rfl kz) ?_
    show own_Fin p e below _ (Tk_3.setTop (mkF m 55 #[.val (.long q1), .second, .val (.long q2), .second, .val (.int p3), .val (.int p4), .val (.ref ba_1), .val (.int (Int32.ofNat A)), .val (.int (Int32.ofNat K)), .unset, .unset, .unset, .unset, .unset, .unset] [(.int ((8 : Int32) * (Int32.ofNat A))), (.long q1)]))
    refine own_lift (fun tz kz => XS.lushr Xk_3.here hx rfl (hb hby at_55) rfl kz) ?_
    show own_Fin p e below _ (Tk_3.setTop (mkF m 56 #[.val (.long q1), .second, .val (.long q2), .second, .val (.int p3), .val (.int p4), .val (.ref ba_1), .val (.int (Int32.ofNat A)), .val (.int (Int32.ofNat K)), .unset, .unset, .unset, .unset, .unset, .unset] [(.long ((q1.toUInt64 >>> (((8 : Int32) * (Int32.ofNat A)) &&& 0x3f).toInt64.toUInt64).toInt64))]))
    refine own_lift (fun tz kz => XS.lloadN Xk_3.here hx rfl (hb hby at_56) rfl kz) ?_
    show own_Fin p e below _ (Tk_3.setTop (mkF m 57 #[.val (.long q1), .second, .val (.long q2), .second, .val (.int p3), .val (.int p4), .val (.ref ba_1), .val (.int (Int32.ofNat A)), .val (.int (Int32.ofNat K)), .unset, .unset, .unset, .unset, .unset, .unset] [(.long q2), (.long ((q1.toUInt64 >>> (((8 : Int32) * (Int32.ofNat A)) &&& 0x3f).toInt64.toUInt64).toInt64))]))
    refine own_lift (fun tz kz => XS.bipush Xk_3.here hx rfl (hb hby at_57) kz) ?_
    show own_Fin p e below _ (Tk_3.setTop (mkF m 59 #[.val (.long q1), .second, .val (.long q2), .second, .val (.int p3), .val (.int p4), .val (.ref ba_1), .val (.int (Int32.ofNat A)), .val (.int (Int32.ofNat K)), .unset, .unset, .unset, .unset, .unset, .unset] [(.int (64 : Int32)), (.long q2), (.long ((q1.toUInt64 >>> (((8 : Int32) * (Int32.ofNat A)) &&& 0x3f).toInt64.toUInt64).toInt64))]))
    refine own_lift (fun tz kz => XS.bipush Xk_3.here hx rfl (hb hby at_59) kz) ?_
    show own_Fin p e below _ (Tk_3.setTop (mkF m 61 #[.val (.long q1), .second, .val (.long q2), .second, .val (.int p3), .val (.int p4), .val (.ref ba_1), .val (.int (Int32.ofNat A)), .val (.int (Int32.ofNat K)), .unset, .unset, .unset, .unset, .unset, .unset] [(.int (8 : Int32)), (.int (64 : Int32)), (.long q2), (.long ((q1.toUInt64 >>> (((8 : Int32) * (Int32.ofNat A)) &&& 0x3f).toInt64.toUInt64).toInt64))]))
    refine own_lift (fun tz kz => XS.iload Xk_3.here hx rfl (hb hby at_61) rfl kz) ?_
    show own_Fin p e below _ (Tk_3.setTop (mkF m 63 #[.val (.long q1), .second, .val (.long q2), .second, .val (.int p3), .val (.int p4), .val (.ref ba_1), .val (.int (Int32.ofNat A)), .val (.int (Int32.ofNat K)), .unset, .unset, .unset, .unset, .unset, .unset] [(.int (Int32.ofNat A)), (.int (8 : Int32)), (.int (64 : Int32)), (.long q2), (.long ((q1.toUInt64 >>> (((8 : Int32) * (Int32.ofNat A)) &&& 0x3f).toInt64.toUInt64).toInt64))]))
    refine own_lift (fun tz kz => XS.imul Xk_3.here hx rfl (hb hby at_63) rfl kz) ?_
    show own_Fin p e below _ (Tk_3.setTop (mkF m 64 #[.val (.long q1), .second, .val (.long q2), .second, .val (.int p3), .val (.int p4), .val (.ref ba_1), .val (.int (Int32.ofNat A)), .val (.int (Int32.ofNat K)), .unset, .unset, .unset, .unset, .unset, .unset] [(.int ((8 : Int32) * (Int32.ofNat A))), (.int (64 : Int32)), (.long q2), (.long ((q1.toUInt64 >>> (((8 : Int32) * (Int32.ofNat A)) &&& 0x3f).toInt64.toUInt64).toInt64))]))
    refine own_lift (fun tz kz => XS.isub Xk_3.here hx rfl (hb hby at_64) rfl kz) ?_
    show own_Fin p e below _ (Tk_3.setTop (mkF m 65 #[.val (.long q1), .second, .val (.long q2), .second, .val (.int p3), .val (.int p4), .val (.ref ba_1), .val (.int (Int32.ofNat A)), .val (.int (Int32.ofNat K)), .unset, .unset, .unset, .unset, .unset, .unset] [(.int ((64 : Int32) - ((8 : Int32) * (Int32.ofNat A)))), (.long q2), (.long ((q1.toUInt64 >>> (((8 : Int32) * (Int32.ofNat A)) &&& 0x3f).toInt64.toUInt64).toInt64))]))
    refine own_lift (fun tz kz => XS.lshl Xk_3.here hx rfl (hb hby at_65) rfl kz) ?_
    show own_Fin p e below _ (Tk_3.setTop (mkF m 66 #[.val (.long q1), .second, .val (.long q2), .second, .val (.int p3), .val (.int p4), .val (.ref ba_1), .val (.int (Int32.ofNat A)), .val (.int (Int32.ofNat K)), .unset, .unset, .unset, .unset, .unset, .unset] [(.long (q2 <<< (((64 : Int32) - ((8 : Int32) * (Int32.ofNat A))) &&& 0x3f).toInt64)), (.long ((q1.toUInt64 >>> (((8 : Int32) * (Int32.ofNat A)) &&& 0x3f).toInt64.toUInt64).toInt64))]))
    refine own_lift (fun tz kz => XS.lor Xk_3.here hx rfl (hb hby at_66) rfl kz) ?_
    show own_Fin p e below _ (Tk_3.setTop (mkF m 67 #[.val (.long q1), .second, .val (.long q2), .second, .val (.int p3), .val (.int p4), .val (.ref ba_1), .val (.int (Int32.ofNat A)), .val (.int (Int32.ofNat K)), .unset, .unset, .unset, .unset, .unset, .unset] [(.long (((q1.toUInt64 >>> (((8 : Int32) * (Int32.ofNat A)) &&& 0x3f).toInt64.toUInt64).toInt64) ||| (q2 <<< (((64 : Int32) - ((8 : Int32) * (Int32.ofNat A))) &&& 0x3f).toInt64)))]))
    refine own_lift (fun tz kz => XS.lstore Xk_3.here hx rfl (hb hby at_67) rfl (l' := #[.val (.long q1), .second, .val (.long q2), .second, .val (.int p3), .val (.int p4), .val (.ref ba_1), .val (.int (Int32.ofNat A)), .val (.int (Int32.ofNat K)), .val (.long (((q1.toUInt64 >>> (((8 : Int32) * (Int32.ofNat A)) &&& 0x3f).toInt64.toUInt64).toInt64) ||| (q2 <<< (((64 : Int32) - ((8 : Int32) * (Int32.ofNat A))) &&& 0x3f).toInt64))), .second, .unset, .unset, .unset, .unset]) rfl kz) ?_
    show own_Fin p e below _ (Tk_3.setTop (mkF m 69 #[.val (.long q1), .second, .val (.long q2), .second, .val (.int p3), .val (.int p4), .val (.ref ba_1), .val (.int (Int32.ofNat A)), .val (.int (Int32.ofNat K)), .val (.long (((q1.toUInt64 >>> (((8 : Int32) * (Int32.ofNat A)) &&& 0x3f).toInt64.toUInt64).toInt64) ||| (q2 <<< (((64 : Int32) - ((8 : Int32) * (Int32.ofNat A))) &&& 0x3f).toInt64))), .second, .unset, .unset, .unset, .unset] []))
    exact j69 _ _ _ Xk_3 rfl Nk_3 (by simp [own_win, hc40_7])
set_option maxRecDepth 65536 in
set_option maxHeartbeats 40000000 in
theorem comes_1 {Post : Tables → Env → Array Value → State → Outcome → State → Prop} (hpost : ∀ tb e args s v u, (limb_1_1.after args s (.returned v) u = true ∧ limb_1_2.after args s (.returned v) u = true ∧ True) → FrameEnd s (.returned v) u (Jvm.fieldLocs frame_1_writes args s ++ Jvm.arrayLocs frame_1_arrays args s ++ Jvm.staticLocs frame_1_statics s) 16 128 → Post tb e args s (.returned v) u) :
    ArmFor flags0 classFile x code maxLocals ret World_1 tables_1 room_1 Calls_1 rest_1 Pre_1 Post := by
  intro l hfl _ _ p e ha hc hk s m args below hf hA hF happ hP
  obtain ⟨hcalls, hrest, hpre⟩ := hP
  obtain ⟨-, -, -, hnamed, -, -, -, hat⟩ := (Spec.applies_iff hf).mp happ
  obtain ⟨hg, hn⟩ := and_e (Cond.before_iff.mp (show (Jvm.Cond.and given_1 narrow_1).before args s = true from hpre))
  obtain ⟨gc, g0⟩ := and_e hg
  obtain ⟨c0, g1⟩ := and_e g0
  obtain ⟨c1, g2⟩ := and_e g1
  obtain ⟨c2, g3⟩ := and_e g2
  obtain ⟨w0, w1, w2, w3, rfl⟩ : ∃ w0 w1 w2 w3 : Value, args = #[w0, w1, w2, w3] := by
    have hs : args.size = 4 := by simpa [Cond.value, given_1] using gc
    obtain ⟨L⟩ := args
    match L, hs with
    | [w0, w1, w2, w3], _ => exact ⟨w0, w1, w2, w3, rfl⟩
  have hw := fun d (hd : d ∈ tables_1) => atoms_spec (ws := Jvm.Cond.code x code maxLocals ret :: tables_1) hat d (List.mem_cons_of_mem _ hd)
  obtain ⟨i0, ei0⟩ := isL_v c0
  obtain rfl : w0 = (.long i0) := Option.some.inj ei0
  obtain ⟨i1, ei1⟩ := isL_v c1
  obtain rfl : w1 = (.long i1) := Option.some.inj ei1
  obtain ⟨i2, ei2⟩ := is_v c2
  obtain rfl : w2 = (.int i2) := Option.some.inj ei2
  obtain ⟨i3, ei3⟩ := is_v g3
  obtain rfl : w3 = (.int i3) := Option.some.inj ei3
  obtain ⟨n, o, h1, h2, h3, _, L, rfl, ⟨rfl, N⟩, hq⟩ := rm0 l s _ hw tables_1 i0 i1 i2 i3 s.heap s.heap.size (Nat.le_refl _) p e ha hc hk s m _ below hf ((Spec.applies_iff_loose hf).mp happ).1 ⟨rfl, State.Warmed39.refl s, rfl⟩ trivial
  refine ⟨n, _, h1, h2, h3, hpost _ _ _ _ _ _ ⟨Cond.after_iff.mpr rfl, Cond.after_iff.mpr (eq_i res_at (Term.int_eval (1)) rfl), trivial⟩ ⟨hq.1, hq.2.1, (hq.2.2.sift fun y hy => Or.inr (N y hy)).mono (by decide) (by decide)⟩⟩
theorem main_1_1 : Claimed_1_1 := comes_1 fun _ _ _ _ _ _ h hF => ⟨h.1, hF⟩
theorem main_1_2 : Claimed_1_2 := comes_1 fun _ _ _ _ _ _ h hF => ⟨h.2.1, hF⟩
end Jvm.Pilot.@@N@@
namespace Jvm.Pilot.@@N@@
open Jvm Jvm.ClassFile Sem Op Lib Jvm.Free Jvm.Stand Jvm.Pilot.@@N@@.Jvm.D
/-! MADE BY PROGRAM (witnessworld.py) out of the Statement's table words and the real class files: 9 classes; the members and pool entries that the words name. The judged class is class 1, her method 2. -/
namespace start1
open Jvm.ClassFile
def u (s : String) : CpInfo := .utf8 (stringToUtf16 s)
/-- a pool by its gaps: so many unusable entries, then the entry; so many at the end -/
def gap : Nat → List CpInfo → List CpInfo
  | 0, r => r
  | n + 1, r => .unusable :: gap n r
def poolList (es : List (Nat × CpInfo)) (last : Nat) : List CpInfo := es.foldr (fun e r => gap e.1 (e.2 :: r)) (gap last [])
def pool (es : List (Nat × CpInfo)) (last : Nat) : Array CpInfo := ⟨poolList es last⟩
def fileOf (pool : Array CpInfo) (this : Nat) (attrs : Array Attribute := #[]) (ms : Array MethodInfo := #[]) (fl : Nat := 33) (sup : Nat := 0) (ifs : Array Nat := #[]) (fds : Array FieldInfo := #[]) : ClassFile where
  minorVersion := 0
  majorVersion := 65
  constantPool := pool
  accessFlags := fl
  thisClass := this
  superClass := sup
  interfaces := ifs
  fields := fds
  methods := ms
  attributes := attrs
def plain (name : String) (sup : Option ClassId) : Class where
  name := name
  kind := .ordinary
  loader := none
  accessFlags := 33
  super := sup
  interfaces := #[]
  cf := none
  fields := #[]
  methods := #[]
  instanceTypes := #[]
  staticTypes := #[]
  resolved := #[]
  callSites := []
  init := .initialized
  statics := none
  mirror := none

def pool0 : Array CpInfo := pool [(5, u "<init>"), (0, u "()V"), (1, .class_ 10), (1, u "java/lang/Object")] 113

def k0m0 : Method := { name := "<init>", desc := "()V", sig := { parameters := [], returnType := none }, accessFlags := 1, code := none }
/-- java/lang/Object -/
def k0 : Class := { plain "java/lang/Object" none with
  accessFlags := 33
  interfaces := #[]
  cf := some (fileOf pool0 8 #[] #[{ accessFlags := 1, nameIndex := 5, descriptorIndex := 6, attributes := #[] }] 33 0 #[] #[])
  fields := #[]
  methods := #[k0m0]
  instanceTypes := #[]
  staticTypes := #[]
  resolved := Array.replicate 124 none
  statics := none }

def pool1 : Array CpInfo := pool [(2, .class_ 4), (1, u "java/lang/Object"), (0, u "<init>"), (0, u "()V"), (0, .methodref 8 9), (0, .class_ 10), (0, .nameAndType 11 12), (0, u "com/example/snapmark/snapmark/mysql/LittleEndianReadPinLaw"), (0, u "put8"), (0, u "([BIJ)V"), (0, .integer 2147483647), (0, .methodref 15 16), (0, .class_ 17), (0, .nameAndType 18 19), (0, u "com/example/snapmark/snapmark/mysql/LittleEndian"), (0, u "read"), (0, u "([BII)J"), (2, u "law"), (0, u "(JJII)Z")] 5

def k1m0 : Method := { name := "<init>", desc := "()V", sig := { parameters := [], returnType := none }, accessFlags := 1, code := none }
def k1c1 : Code := { maxStack := 5, maxLocals := 4, code := method_2_code, exceptionTable := #[], attributes := #[] }
def k1m1 : Method := { name := "put8", desc := "([BIJ)V", sig := { parameters := [(.array .byte), .int, .long], returnType := none }, accessFlags := 10, code := some k1c1 }
def k1c2 : Code := { maxStack := 7, maxLocals := 15, code := code, exceptionTable := #[], attributes := #[] }
def k1m2 : Method := { name := "law", desc := "(JJII)Z", sig := { parameters := [.long, .long, .int, .int], returnType := some .boolean }, accessFlags := 9, code := some k1c2 }
/-- com/example/snapmark/snapmark/mysql/LittleEndianReadPinLaw -/
def k1 : Class := { plain "com/example/snapmark/snapmark/mysql/LittleEndianReadPinLaw" (some 0) with
  accessFlags := 49
  interfaces := #[]
  cf := some (fileOf pool1 8 #[] #[{ accessFlags := 1, nameIndex := 5, descriptorIndex := 6, attributes := #[] }, { accessFlags := 10, nameIndex := 11, descriptorIndex := 12, attributes := #[] }, { accessFlags := 9, nameIndex := 22, descriptorIndex := 23, attributes := #[] }] 49 2 #[] #[])
  fields := #[]
  methods := #[k1m0, k1m1, k1m2]
  instanceTypes := #[]
  staticTypes := #[]
  resolved := Array.replicate 29 none
  statics := none }

def pool2 : Array CpInfo := pool [(2, .class_ 4), (1, u "java/lang/Object"), (0, u "<init>"), (0, u "()V"), (1, .class_ 10), (1, u "com/example/snapmark/snapmark/mysql/LittleEndian"), (0, u "read"), (0, u "([BII)J"), (0, u "LONGER_LENGTH"), (0, u "I")] 13

def k2m0 : Method := { name := "<init>", desc := "()V", sig := { parameters := [], returnType := none }, accessFlags := 2, code := none }
def k2c1 : Code := { maxStack := 5, maxLocals := 6, code := prog_46_method_2_code, exceptionTable := #[], attributes := #[] }
def k2m1 : Method := { name := "read", desc := "([BII)J", sig := { parameters := [(.array .byte), .int, .int], returnType := some .long }, accessFlags := 8, code := some k2c1 }
/-- com/example/snapmark/snapmark/mysql/LittleEndian -/
def k2 : Class := { plain "com/example/snapmark/snapmark/mysql/LittleEndian" (some 0) with
  accessFlags := 48
  interfaces := #[]
  cf := some (fileOf pool2 8 #[] #[{ accessFlags := 2, nameIndex := 5, descriptorIndex := 6, attributes := #[] }, { accessFlags := 8, nameIndex := 11, descriptorIndex := 12, attributes := #[] }] 48 2 #[] #[{ accessFlags := 24, nameIndex := 13, descriptorIndex := 14, attributes := #[] }])
  fields := #[{ name := "LONGER_LENGTH", type := .int, accessFlags := 24, slot := 0, constantValue := 0 }]
  methods := #[k2m0, k2m1]
  instanceTypes := #[]
  staticTypes := #[.int]
  resolved := Array.replicate 28 none
  statics := none }

def pool3 : Array CpInfo := pool [(1, u "java/lang/Cloneable"), (0, .class_ 1), (0, u "java/lang/Object"), (0, .class_ 3)] 3

/-- java/lang/Cloneable -/
def k3 : Class := { plain "java/lang/Cloneable" (some 0) with
  accessFlags := 1537
  interfaces := #[]
  cf := some (fileOf pool3 2 #[] #[] 1537 4 #[] #[])
  fields := #[]
  methods := #[]
  instanceTypes := #[]
  staticTypes := #[]
  resolved := Array.replicate 8 none
  statics := none }

def pool4 : Array CpInfo := pool [(1, u "java/io/Serializable"), (0, .class_ 1), (0, u "java/lang/Object"), (0, .class_ 3)] 3

/-- java/io/Serializable -/
def k4 : Class := { plain "java/io/Serializable" (some 0) with
  accessFlags := 1537
  interfaces := #[]
  cf := some (fileOf pool4 2 #[] #[] 1537 4 #[] #[])
  fields := #[]
  methods := #[]
  instanceTypes := #[]
  staticTypes := #[]
  resolved := Array.replicate 8 none
  statics := none }

/-- the primitive byte -/
def k5 : Class := { plain "byte" none with kind := .primitive 'B', accessFlags := 0x411 }
/-- [B -/
def k6 : Class := { plain "[B" (some 0) with kind := .array 5 .byte, interfaces := #[3, 4], accessFlags := 1041 }

/-- the primitive int -/
def k7 : Class := { plain "int" none with kind := .primitive 'I', accessFlags := 0x411 }
/-- [I -/
def k8 : Class := { plain "[I" (some 0) with kind := .array 7 .int, interfaces := #[3, 4], accessFlags := 1041 }

def heap : Heap := #[]
def classes : Array Class := #[k0, k1, k2, k3, k4, k5, k6, k7, k8]
def interned : List (Array UInt16 × Addr) := []
def slotsUsed : Nat := 0
def theMethod : MethodId := ⟨1, 2⟩
def args0 : Array Value := #[.long 5, .long 7, .int 1, .int 3]
def aboutOver (below : List Frame) : State where
  vm := { classes := classes, interned := interned.toArray }
  heap := heap
  slotsUsed := slotsUsed
  threads := #[{ frames := .invoking theMethod args0 :: below }]
def below0 : List Frame := [.native { method := ⟨0, 0⟩, args := #[] }]
def about1 : State := aboutOver below0
def p0 : Program := .bare "" "" ""
def e0 : Env := launch0.env 0 0 0
theorem w_frames : about1.frames = Frame.invoking theMethod args0 :: below0 := rfl
set_option maxRecDepth 65536 in
theorem w_args : argsFit about1.vm theMethod args0 = true := by decide +kernel
set_option maxRecDepth 65536 in
theorem w_heap : heapFits about1 = true := by decide +kernel
set_option maxRecDepth 65536 in
theorem w_runnable : about1.curStatus? = some .runnable := by decide +kernel
set_option maxRecDepth 65536 in
theorem w_alone : about1.alone = true := by decide +kernel
set_option maxRecDepth 65536 in
theorem w_named : about1.methodNamed? x = some theMethod := by decide +kernel
set_option maxRecDepth 65536 in
theorem w_hears : about1.hears theMethod below0 = true := by decide +kernel
set_option maxRecDepth 65536 in
theorem w_ripe : about1.ripe theMethod args0 below0 = true := by decide +kernel
theorem w_running : about1.status = .running := rfl
set_option maxRecDepth 65536 in
theorem w_room : about1.hasRoom e0.platform room_1 = true :=
  launch0.hasRoom_least _ room_1 (by decide +kernel) (by decide +kernel) (by decide +kernel) (by decide +kernel) (by decide +kernel) (by decide +kernel)
theorem allAtoms_all (ts : List Jvm.Cond) (a : Array Jvm.Value) (st : Jvm.State) : (allAtoms ts).before a st = ts.all (fun c => c.before a st) := by
  induction ts with
  | nil => rfl
  | cons c t ih =>
    show (Jvm.Cond.and c (allAtoms t)).before a st = _
    rw [Jvm.Cond.before_and, ih, List.all_cons]
def words1 : List Jvm.Cond := Jvm.Cond.code x code maxLocals ret :: tables_1
/-- a 'code' word, met by the world's own term for the bytes: nothing is compared byte by byte -/
theorem code_word {y : MethodName} {bytes : ByteArray} {mx : Nat} {rt : Option FieldType} {a : Array Value} {s : State} {m : MethodId} {meth : Method} {c : Code} (h1 : s.methodNamed? y = some m) (h2 : s.vm.method? m = some meth) (h3 : meth.code = some c) (h4 : c.code = bytes)
    (h5 : (c.maxLocals == mx && c.exceptionTable.isEmpty && decide (c.maxStack ≤ mostOperands) && decide (meth.sig.returnType = rt) && !meth.locks && decide (parseMethodDescriptor y.desc = some meth.sig)) = true) : (Jvm.Cond.code y bytes mx rt).before a s = true := by
  simp only [Bool.and_eq_true, beq_iff_eq, Bool.not_eq_true', decide_eq_true_eq] at h5
  obtain ⟨⟨⟨⟨⟨g1, g2⟩, g3⟩, g4⟩, g5⟩, g6⟩ := h5
  simp [Cond.before, Cond.holds, Cond.value, h1, h2, h3, h4, g1, g2, g3, g4, g5, g6]
def isCode : Jvm.Cond → Bool
  | .code _ _ _ _ => true
  | _ => false
theorem all_split {L : List Jvm.Cond} {P : Jvm.Cond → Bool} (h1 : L.all (fun c => isCode c || P c) = true) (h2 : ∀ c ∈ L.filter isCode, P c = true) : L.all P = true := by
  refine List.all_eq_true.mpr fun c hc => ?_
  have h := List.all_eq_true.mp h1 c hc
  rcases Bool.eq_false_or_eq_true (isCode c) with hi | hi
  · exact h2 c (List.mem_filter.mpr ⟨hc, hi⟩)
  · simpa [hi] using h
set_option maxRecDepth 65536 in
theorem w_c0 : (Jvm.Cond.code x code maxLocals ret).before args0 about1 = true := code_word (m := ⟨1, 2⟩) (meth := k1m2) (c := k1c2) (by decide +kernel) rfl rfl rfl (by decide +kernel)
set_option maxRecDepth 65536 in
theorem w_c1 : (Jvm.Cond.code ({ cls := "com/example/snapmark/snapmark/mysql/LittleEndianReadPinLaw", name := "put8", desc := "([BIJ)V" } : Jvm.MethodName) method_2_code (4 : Nat) (Option.none : Option Jvm.ClassFile.FieldType)).before args0 about1 = true := code_word (m := ⟨1, 1⟩) (meth := k1m1) (c := k1c1) (by decide +kernel) rfl rfl rfl (by decide +kernel)
set_option maxRecDepth 65536 in
theorem w_c2 : (Jvm.Cond.code ({ cls := "com/example/snapmark/snapmark/mysql/LittleEndian", name := "read", desc := "([BII)J" } : Jvm.MethodName) prog_46_method_2_code (6 : Nat) (Option.some Jvm.ClassFile.FieldType.long)).before args0 about1 = true := code_word (m := ⟨2, 1⟩) (meth := k2m1) (c := k2c1) (by decide +kernel) rfl rfl rfl (by decide +kernel)
def codes1 : List Jvm.Cond := [Jvm.Cond.code x code maxLocals ret, Jvm.Cond.code ({ cls := "com/example/snapmark/snapmark/mysql/LittleEndianReadPinLaw", name := "put8", desc := "([BIJ)V" } : Jvm.MethodName) method_2_code (4 : Nat) (Option.none : Option Jvm.ClassFile.FieldType), Jvm.Cond.code ({ cls := "com/example/snapmark/snapmark/mysql/LittleEndian", name := "read", desc := "([BII)J" } : Jvm.MethodName) prog_46_method_2_code (6 : Nat) (Option.some Jvm.ClassFile.FieldType.long)]
set_option maxRecDepth 65536 in
theorem codes_eq : words1.filter isCode = codes1 := rfl
theorem w_codes : ∀ c ∈ words1.filter isCode, c.before args0 about1 = true := by
  rw [codes_eq]
  intro c hc
  simp only [codes1, List.mem_cons, List.not_mem_nil, or_false] at hc
  rcases hc with rfl | rfl | rfl
  · exact w_c0
  · exact w_c1
  · exact w_c2
set_option maxRecDepth 65536 in
theorem w_t1 : words1.all (fun c => isCode c || c.before args0 about1) = true := by decide +kernel
theorem w_tables : (allAtoms (Jvm.Cond.code x code maxLocals ret :: tables_1)).before args0 about1 = true := by
  rw [allAtoms_all]
  show words1.all (fun c => c.before args0 about1) = true
  refine all_split ?_ w_codes
  rw [w_t1]
set_option maxRecDepth 65536 in
theorem w_case : (Jvm.Cond.and given_1 narrow_1).before args0 about1 = true := by decide +kernel
theorem w_applies : (headSpec (Jvm.Cond.code x code maxLocals ret :: tables_1) room_1).applies x e0.platform about1 = true :=
  (Spec.applies_iff w_frames).mpr ⟨w_running, w_runnable, w_alone, w_named, w_hears, w_ripe, w_room, w_tables⟩
theorem atStart : AtStart classFile x code maxLocals ret World_1 tables_1 room_1 Calls_1 rest_1 Pre_1 launch0 p0 e0 about1 theMethod args0 below0 :=
  ⟨lists_1, trivial, launch0.admits_env _ _ _, launch0.least_env, fairChoices_fair.cas, fairChoices_fair.clock, w_frames, w_args, w_heap, w_applies, trivial, trivial, w_case⟩
end start1
theorem witness_1 : WitnessClaimed_1 := ⟨start1.p0, start1.e0, start1.about1, start1.theMethod, start1.args0, start1.below0, start1.atStart⟩
end Jvm.Pilot.@@N@@
