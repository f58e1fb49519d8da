import PyProof.Rows.All
import Wide.All
import OpenK.AllK
import Wide.FinOn
import Lean
import PySem.Challenge.RW_pg0166_02
set_option Elab.async false
set_option maxRecDepth 100000
set_option linter.unusedVariables false
set_option linter.unusedSimpArgs false
section
set_option exponentiation.threshold 3000
open PySem PySem.W PyProof.Rows
namespace Mine
open PySem.Float64
noncomputable def SC : Nat := 2 ^ 1054
theorem SC_pos : 0 < SC := Nat.two_pow_pos _
theorem SC_20 : 2 ^ 1074 = 2 ^ 20 * SC := by unfold SC; rw [← Nat.pow_add]
noncomputable def FV (x : UInt64) (n : Int) : Prop := isFinite x = true ∧ val x = n * (SC : Int)
theorem fin_of {x : UInt64} (h : isFinite x = true) : ∃ a m e, decode x = .fin a m e := by
  unfold isFinite at h
  cases hd : decode x with
  | fin a m e => exact ⟨a, m, e, rfl⟩
  | nan => rw [hd] at h; cases h
  | inf b => rw [hd] at h; cases h
theorem finite_of {x : UInt64} {a m e} (h : decode x = .fin a m e) : isFinite x = true := by unfold isFinite; rw [h]
theorem V_has (n : Nat) (hn : n < 2 ^ 53) : ∃ t, V t = n * SC := by
  by_cases h0 : n = 0
  · exact ⟨0, by rw [V_zero, h0, Nat.zero_mul]⟩
  · have hl : n.log2 ≤ 52 := by
      have := (Nat.log2_lt h0 (k := 53)).mpr hn
      omega
    have h1 : 2 ^ n.log2 ≤ n := Nat.log2_self_le h0
    have h2 : n < 2 ^ (n.log2 + 1) := Nat.lt_log2_self
    refine ⟨(1054 - (52 - n.log2)) * 2 ^ 52 + n * 2 ^ (52 - n.log2), ?_⟩
    rw [V_at]
    · rw [Nat.mul_assoc, ← Nat.pow_add]
      have : 52 - n.log2 + (1054 - (52 - n.log2)) = 1054 := by omega
      rw [this]; rfl
    · have : n * 2 ^ (52 - n.log2) ≤ 2 ^ (n.log2 + 1) * 2 ^ (52 - n.log2) := Nat.mul_le_mul_right _ (Nat.le_of_lt h2)
      rw [← Nat.pow_add] at this
      have e : n.log2 + 1 + (52 - n.log2) = 53 := by omega
      rwa [e] at this
    · left
      have : 2 ^ n.log2 * 2 ^ (52 - n.log2) ≤ n * 2 ^ (52 - n.log2) := Nat.mul_le_mul_right _ h1
      rw [← Nat.pow_add] at this
      have e : n.log2 + (52 - n.log2) = 52 := by omega
      rwa [e] at this
theorem dist_zero {a b : Nat} (h : dist a b ≤ 0) : a = b := by unfold dist at h; omega
theorem dist_self (a : Nat) : dist a a = 0 := by unfold dist; omega
theorem big_bound {n : Nat} (hn : n < 2 ^ 53) : 2 * (n * SC) < (2 ^ 54 - 1) * 2 ^ 2045 := by
  have h1 : n * SC < 2 ^ 53 * SC := Nat.mul_lt_mul_of_pos_right hn SC_pos
  have h2 : 2 * (2 ^ 53 * SC) ≤ (2 ^ 54 - 1) * 2 ^ 2045 := by unfold SC; decide +kernel
  omega
theorem right_exact {r : UInt64} {neg : Bool} {W D n : Nat} (h : Right r neg W D) (hn : n < 2 ^ 53) (hD : 0 < D) (hW : W = D * (n * SC)) : isFinite r = true ∧ val r = sgn neg (n * SC) := by
  obtain ⟨t, rfl, ht, hinf, hnear⟩ := h
  obtain ⟨t0, ht0⟩ := V_has n hn
  have hlt : t < infMag := by
    rcases Nat.lt_or_ge t infMag with h | h
    · exact h
    · exfalso
      have h1 := hinf.mp (Nat.le_antisymm ht h)
      have h2 := Nat.mul_lt_mul_of_pos_left (big_bound hn) hD
      rw [hW] at h1
      have e : 2 * (D * (n * SC)) = D * (2 * (n * SC)) := by rw [Nat.mul_left_comm]
      rw [e] at h1
      omega
  have h1 := (hnear hlt t0).1
  rw [ht0, ← hW, dist_self] at h1
  have h2 := dist_zero h1
  rw [hW] at h2
  have h3 : n * SC = V t := Nat.eq_of_mul_eq_mul_left hD h2
  obtain ⟨m, e, hd, _⟩ := decode_pack neg hlt
  exact ⟨finite_of hd, by rw [val_pack neg hlt, h3]⟩
theorem sgn_val {c : Int} {neg : Bool} (h : c ≠ 0 → neg = decide (c < 0)) : sgn neg (c.natAbs * SC) = c * (SC : Int) := by
  rw [sgn_mul]
  congr 1
  by_cases h0 : c = 0
  · subst h0; cases neg <;> rfl
  · rw [h h0]
    unfold sgn
    by_cases h1 : c < 0
    · simp only [h1, decide_true, if_true]; omega
    · simp only [h1, decide_false, Bool.false_eq_true, if_false]; omega
theorem fv_zero (b : Bool) : FV (zero b) 0 := by cases b <;> exact ⟨by decide +kernel, by decide +kernel⟩
theorem SCi_pos : (0 : Int) < (SC : Int) := Int.ofNat_lt.mpr SC_pos
theorem mul_SC_zero {c : Int} : c * (SC : Int) = 0 ↔ c = 0 := by
  constructor
  · intro h
    rcases Int.mul_eq_zero.mp h with h | h
    · exact h
    · have := SCi_pos; omega
  · intro h; rw [h, Int.zero_mul]
theorem mul_SC_neg {c : Int} : c * (SC : Int) < 0 ↔ c < 0 := by
  constructor
  · intro h
    rcases Int.lt_or_le c 0 with h' | h'
    · exact h'
    · have := Int.mul_nonneg h' (Int.le_of_lt SCi_pos); omega
  · intro h
    exact Int.mul_neg_of_neg_of_pos h SCi_pos
theorem natAbs_SC (c : Int) : (c * (SC : Int)).natAbs = c.natAbs * SC := by rw [Int.natAbs_mul, Int.natAbs_natCast]
theorem fv_of_sum {r : UInt64} {c : Int} {neg : Bool} {z : Int} (hz : z = c * (SC : Int)) (h0 : z = 0 → r = zero neg) (h1 : z ≠ 0 → Right r (decide (z < 0)) z.natAbs 1) (hc : c.natAbs < 2 ^ 53) : FV r c := by
  subst hz
  by_cases h : c = 0
  · subst h
    rw [h0 (by rw [Int.zero_mul])]
    exact fv_zero neg
  · have hr := h1 (fun e => h (mul_SC_zero.mp e))
    obtain ⟨hf, hv⟩ := right_exact hr hc (by decide) (by rw [natAbs_SC, Nat.one_mul])
    refine ⟨hf, hv.trans (sgn_val fun _ => ?_)⟩
    exact decide_eq_decide.mpr mul_SC_neg
theorem FV.add {x y : UInt64} {a b : Int} (hx : FV x a) (hy : FV y b) (hc : (a + b).natAbs < 2 ^ 53) : FV (add x y) (a + b) := by
  obtain ⟨fx, vx⟩ := hx
  obtain ⟨fy, vy⟩ := hy
  obtain ⟨_, _, _, dx⟩ := fin_of fx
  obtain ⟨_, _, _, dy⟩ := fin_of fy
  have := add_right dx dy
  exact fv_of_sum (by rw [vx, vy, Int.add_mul]) this.1 this.2 hc
theorem FV.sub {x y : UInt64} {a b : Int} (hx : FV x a) (hy : FV y b) (hc : (a - b).natAbs < 2 ^ 53) : FV (sub x y) (a - b) := by
  obtain ⟨fx, vx⟩ := hx
  obtain ⟨fy, vy⟩ := hy
  obtain ⟨_, _, _, dx⟩ := fin_of fx
  obtain ⟨_, _, _, dy⟩ := fin_of fy
  have := sub_right dx dy
  exact fv_of_sum (by rw [vx, vy, Int.sub_mul]) this.1 this.2 hc
theorem sign_of {x : UInt64} {s : Bool} {m : Nat} {e : Int} {a : Int} (d : decode x = .fin s m e) (v : val x = a * (SC : Int)) (h : a ≠ 0) : s = decide (a < 0) := by
  rw [val_eq d] at v
  have hp : 0 ≤ (((m * 2 ^ (e + 1074).toNat : Nat)) : Int) := Int.natCast_nonneg _
  have h1 := mul_SC_neg (c := a)
  have h2 := mul_SC_zero (c := a)
  cases s with
  | true =>
    simp only [sgn, if_true] at v
    have : a < 0 := by
      apply h1.mp
      rcases Int.lt_or_eq_of_le hp with h3 | h3
      · omega
      · exfalso; apply h; apply h2.mp; omega
    simp [this]
  | false =>
    simp only [sgn, Bool.false_eq_true, if_false] at v
    have : ¬ a < 0 := fun h3 => by have := h1.mpr h3; omega
    simp [this]
theorem sign_xor {a b c k : Int} (hk : 0 < k) (h : a * b = c * k) (hc : c ≠ 0) : (decide (a < 0) != decide (b < 0)) = decide (c < 0) := by
  have hab : a * b ≠ 0 := by rw [h]; exact fun e => (Int.mul_eq_zero.mp e).elim hc (by omega)
  have ha : a ≠ 0 := fun e => hab (by rw [e, Int.zero_mul])
  have hb : b ≠ 0 := fun e => hab (by rw [e, Int.mul_zero])
  have key : a * b < 0 ↔ c < 0 := by
    rw [h]
    constructor
    · intro h1
      rcases Int.lt_or_le c 0 with h2 | h2
      · exact h2
      · have := Int.mul_nonneg h2 (Int.le_of_lt hk); omega
    · intro h1; exact Int.mul_neg_of_neg_of_pos h1 hk
  rcases Int.lt_or_le a 0 with h1 | h1 <;> rcases Int.lt_or_le b 0 with h2 | h2
  · have h3 := Int.mul_pos_of_neg_of_neg h1 h2
    have h4 : ¬ c < 0 := fun q => by have := key.mpr q; omega
    simp [h1, h2, h4]
  · have h3 := Int.mul_neg_of_neg_of_pos h1 (by omega : 0 < b)
    have h4 := key.mp h3
    have h5 : ¬ b < 0 := by omega
    simp [h1, h5, h4]
  · have h3 := Int.mul_neg_of_pos_of_neg (by omega : 0 < a) h2
    have h4 := key.mp h3
    have h5 : ¬ a < 0 := by omega
    simp [h5, h2, h4]
  · have h3 := Int.mul_pos (by omega : 0 < a) (by omega : 0 < b)
    have h4 : ¬ c < 0 := fun q => by have := key.mpr q; omega
    have h5 : ¬ a < 0 := by omega
    have h6 : ¬ b < 0 := by omega
    simp [h5, h6, h4]
theorem FV.mul {x y : UInt64} {a b : Int} (c : Int) (hx : FV x a) (hy : FV y b) (h : a * b = c * 2 ^ 20) (hc : c.natAbs < 2 ^ 53) : FV (mul x y) c := by
  obtain ⟨fx, vx⟩ := hx
  obtain ⟨fy, vy⟩ := hy
  obtain ⟨s1, _, _, dx⟩ := fin_of fx
  obtain ⟨s2, _, _, dy⟩ := fin_of fy
  have hr := mul_right dx dy
  have hn : a.natAbs * b.natAbs = c.natAbs * 2 ^ 20 := by rw [← Int.natAbs_mul, h, Int.natAbs_mul]; rfl
  obtain ⟨hf, hv⟩ := right_exact hr hc (Nat.two_pow_pos _) (by
    rw [vx, vy, natAbs_SC, natAbs_SC, SC_20]
    calc a.natAbs * SC * (b.natAbs * SC) = (a.natAbs * b.natAbs) * (SC * SC) := by
          rw [Nat.mul_assoc, Nat.mul_assoc, Nat.mul_left_comm SC]
      _ = c.natAbs * 2 ^ 20 * (SC * SC) := by rw [hn]
      _ = 2 ^ 20 * SC * (c.natAbs * SC) := by
          rw [Nat.mul_comm c.natAbs (2 ^ 20), Nat.mul_assoc, Nat.mul_assoc, Nat.mul_left_comm SC])
  refine ⟨hf, hv.trans (sgn_val fun h0 => ?_)⟩
  have hab : a * b ≠ 0 := by rw [h]; exact fun e => (Int.mul_eq_zero.mp e).elim h0 (by decide)
  rw [sign_of dx vx (fun e => hab (by rw [e, Int.zero_mul])), sign_of dy vy (fun e => hab (by rw [e, Int.mul_zero]))]
  exact sign_xor (by decide) h h0
theorem mant_ne {y : UInt64} {s : Bool} {k : Nat} {f : Int} {b : Int} (d : decode y = .fin s k f) (v : val y = b * (SC : Int)) (h : b ≠ 0) : k ≠ 0 := by
  intro hk
  subst hk
  rw [val_eq d, Nat.zero_mul] at v
  have : sgn s 0 = 0 := by cases s <;> rfl
  rw [this] at v
  exact h (mul_SC_zero.mp v.symm)
theorem FV.div {x y : UInt64} {a b : Int} (c : Int) (hx : FV x a) (hy : FV y b) (hb : b ≠ 0) (h : a * 2 ^ 20 = c * b) (hc : c.natAbs < 2 ^ 53) : FV (div x y) c := by
  obtain ⟨fx, vx⟩ := hx
  obtain ⟨fy, vy⟩ := hy
  obtain ⟨s1, _, _, dx⟩ := fin_of fx
  obtain ⟨s2, _, _, dy⟩ := fin_of fy
  have hr := div_right dx dy (mant_ne dy vy hb)
  have hn : a.natAbs * 2 ^ 20 = c.natAbs * b.natAbs := by rw [← Int.natAbs_mul, ← h, Int.natAbs_mul]; rfl
  have hbn : 0 < b.natAbs := Int.natAbs_pos.mpr hb
  obtain ⟨hf, hv⟩ := right_exact hr hc (by rw [vy, natAbs_SC]; exact Nat.mul_pos hbn SC_pos) (by
    rw [vx, vy, natAbs_SC, natAbs_SC, SC_20]
    calc a.natAbs * SC * (2 ^ 20 * SC) = (a.natAbs * 2 ^ 20) * (SC * SC) := by
          rw [Nat.mul_assoc, Nat.mul_assoc, Nat.mul_left_comm SC]
      _ = c.natAbs * b.natAbs * (SC * SC) := by rw [hn]
      _ = b.natAbs * SC * (c.natAbs * SC) := by
          rw [Nat.mul_comm c.natAbs b.natAbs, Nat.mul_assoc, Nat.mul_assoc, Nat.mul_left_comm SC])
  refine ⟨hf, hv.trans (sgn_val fun h0 => ?_)⟩
  have ha : a ≠ 0 := fun e => by
    rw [e, Int.zero_mul] at h
    exact (Int.mul_eq_zero.mp h.symm).elim h0 hb
  rw [sign_of dx vx ha, sign_of dy vy hb]
  have hc2 : c * b * b = a * b * 2 ^ 20 := by rw [← h, Int.mul_right_comm]
  -- the sign of a * b is that of c
  have hbb : 0 < b * b := by
    rcases Int.lt_or_gt_of_ne hb with h1 | h1
    · exact Int.mul_pos_of_neg_of_neg h1 h1
    · exact Int.mul_pos h1 h1
  have e1 : (a * 2 ^ 20) * b = c * (b * b) := by rw [h, Int.mul_assoc]
  have e2 := sign_xor hbb e1 h0
  have e3 : decide (a * 2 ^ 20 < 0) = decide (a < 0) := by
    apply decide_eq_decide.mpr; constructor <;> intro _ <;> omega
  rw [e3] at e2
  exact e2
theorem fv_frac {n k : Int} (c : Int) (hk : k ≠ 0) (h : n * 2 ^ 20 = c * k) (hc : c.natAbs < 2 ^ 53) : FV (ofFrac (decide (n < 0) != decide (k < 0)) n.natAbs k.natAbs) c := by
  have hkn : 0 < k.natAbs := Int.natAbs_pos.mpr hk
  have hn : n.natAbs * 2 ^ 20 = c.natAbs * k.natAbs := by rw [← Int.natAbs_mul, ← h, Int.natAbs_mul]; rfl
  have hr := ofFrac_right (neg := decide (n < 0) != decide (k < 0)) (n := n.natAbs) (d := k.natAbs) (W := n.natAbs * 2 ^ 1074) (D := k.natAbs) hkn rfl hkn
  obtain ⟨hf, hv⟩ := right_exact hr hc hkn (by
    rw [SC_20, ← Nat.mul_assoc, hn, Nat.mul_comm c.natAbs, Nat.mul_assoc])
  refine ⟨hf, hv.trans (sgn_val fun h0 => ?_)⟩
  have hbb : 0 < k * k := by
    rcases Int.lt_or_gt_of_ne hk with h1 | h1
    · exact Int.mul_pos_of_neg_of_neg h1 h1
    · exact Int.mul_pos h1 h1
  have e1 : (n * 2 ^ 20) * k = c * (k * k) := by rw [h, Int.mul_assoc]
  have e2 := sign_xor hbb e1 h0
  have e3 : decide (n * 2 ^ 20 < 0) = decide (n < 0) := by
    apply decide_eq_decide.mpr; constructor <;> intro _ <;> omega
  rw [e3] at e2
  exact e2
theorem fv_ofInt {n : Int} (hc : (n * 2 ^ 20).natAbs < 2 ^ 53) : FV (ofInt n) (n * 2 ^ 20) := by
  have hr := ofInt_right n
  obtain ⟨hf, hv⟩ := right_exact hr hc (by decide) (by
    have e : (n * 2 ^ 20).natAbs = n.natAbs * 2 ^ 20 := Int.natAbs_mul _ _
    rw [SC_20, Nat.one_mul, e, Nat.mul_assoc])
  refine ⟨hf, hv.trans (sgn_val fun _ => ?_)⟩
  apply decide_eq_decide.mpr; constructor <;> intro _ <;> omega
theorem compare_SC (a b : Int) : compare (a * (SC : Int)) (b * (SC : Int)) = compare a b := by
  rcases Int.lt_trichotomy a b with h | h | h
  · rw [Int.compare_eq_lt.mpr h, Int.compare_eq_lt.mpr (Int.mul_lt_mul_of_pos_right h SCi_pos)]
  · subst h; simp
  · rw [Int.compare_eq_gt.mpr h, Int.compare_eq_gt.mpr (Int.mul_lt_mul_of_pos_right h SCi_pos)]
theorem FV.cmp {x y : UInt64} {a b : Int} (hx : FV x a) (hy : FV y b) : Float64.cmp x y = some (compare a b) := by
  obtain ⟨fx, vx⟩ := hx
  obtain ⟨fy, vy⟩ := hy
  obtain ⟨_, _, _, dx⟩ := fin_of fx
  obtain ⟨_, _, _, dy⟩ := fin_of fy
  rw [cmp_right dx dy, vx, vy, compare_SC]
theorem FV.cmpInt {x : UInt64} {a : Int} (hx : FV x a) (i : Int) : Float64.cmpInt x i = some (compare a (i * 2 ^ 20)) := by
  obtain ⟨fx, vx⟩ := hx
  obtain ⟨_, _, _, dx⟩ := fin_of fx
  have e : (i * 2 ^ 1074 : Int) = (i * 2 ^ 20) * (SC : Int) := by
    have : (2 ^ 1074 : Int) = 2 ^ 20 * (SC : Int) := by
      have h := congrArg (fun n : Nat => (n : Int)) SC_20
      simpa using h
    rw [this, Int.mul_assoc]
  rw [cmpInt_right dx, vx, e, compare_SC]
theorem FV.lt {x y : UInt64} {a b : Int} (hx : FV x a) (hy : FV y b) : (Float64.cmp x y == some .lt) = decide (a < b) := by
  rw [hx.cmp hy]
  rcases Int.lt_trichotomy a b with h | h | h
  · rw [Int.compare_eq_lt.mpr h]; simp [h]
  · subst h; simp
  · rw [Int.compare_eq_gt.mpr h]; have : ¬ a < b := by omega
    simp [this]
theorem FV.gt {x y : UInt64} {a b : Int} (hx : FV x a) (hy : FV y b) : (Float64.cmp x y == some .gt) = decide (b < a) := by
  rw [hx.cmp hy]
  rcases Int.lt_trichotomy a b with h | h | h
  · rw [Int.compare_eq_lt.mpr h]; have : ¬ b < a := by omega
    simp [this]
  · subst h; simp
  · rw [Int.compare_eq_gt.mpr h]; simp [h]
theorem FV.isZero {x : UInt64} {a : Int} (hx : FV x a) : Float64.isZero x = decide (a = 0) := by
  rw [PySem.Flt.isZero_eq, hx.cmpInt, Int.zero_mul]
  rcases Int.lt_trichotomy a 0 with h | h | h
  · rw [Int.compare_eq_lt.mpr h]; have : ¬ a = 0 := by omega
    simp [this]
  · subst h; simp
  · rw [Int.compare_eq_gt.mpr h]; have : ¬ a = 0 := by omega
    simp [this]
end Mine
end
section
set_option exponentiation.threshold 3000
open PySem PySem.W PyProof.Rows
namespace Mine
open PySem.Float64
theorem val_abs {x : UInt64} {s : Bool} {m : Nat} {e a : Int} (d : decode x = .fin s m e) (v : val x = a * (SC : Int)) : m * 2 ^ (e + 1074).toNat = a.natAbs * SC := by
  rw [← val_natAbs d, v, natAbs_SC]
theorem floor_false {m : Nat} {e : Int} {A : Nat} (he : -1074 ≤ e) (h : m * 2 ^ (e + 1074).toNat = A * SC) : floorOf false m e = ((A / 2 ^ 20 : Nat) : Int) := by
  have hA : A / 2 ^ 20 = (m * 2 ^ (e + 1074).toNat) / 2 ^ 1074 := by
    rw [h, SC_20, Nat.mul_div_mul_right _ _ SC_pos]
  rw [hA]
  unfold floorOf
  split
  · rename_i h0
    have e1 : (e + 1074).toNat = e.toNat + 1074 := by omega
    rw [e1, Nat.pow_add, ← Nat.mul_assoc, Nat.mul_div_cancel _ (Nat.two_pow_pos _)]
    simp [sgn]
  · rename_i h0
    have e1 : 1074 = (-e).toNat + (e + 1074).toNat := by omega
    rw [show (2 : Nat) ^ 1074 = 2 ^ (-e).toNat * 2 ^ (e + 1074).toNat by rw [← Nat.pow_add, ← e1], Nat.mul_div_mul_right _ _ (Nat.two_pow_pos _)]
    simp only [sgn, Bool.false_eq_true, if_false]
    rw [show (2 : Int) ^ (-e).toNat = ((2 ^ (-e).toNat : Nat) : Int) by simp]
    rw [Int.fdiv_eq_ediv_of_nonneg _ (Int.natCast_nonneg _)]
    rfl
theorem FV.trunc {x : UInt64} {a : Int} (hx : FV x a) : Flt.toInt truncOf x = a.tdiv (2 ^ 20) := by
  obtain ⟨fx, vx⟩ := hx
  obtain ⟨s, m, e, d⟩ := fin_of fx
  have hf := floor_false (decode_ge d) (val_abs d vx)
  unfold Flt.toInt
  rw [d]
  show truncOf s m e = _
  unfold truncOf ceilOf
  by_cases h0 : a = 0
  · subst h0
    have : floorOf false m e = 0 := by rw [hf]; rfl
    cases s with
    | true => simp only [if_true, Bool.not_true]; rw [this]; rfl
    | false => simp only [Bool.false_eq_true, if_false]; rw [this]; rfl
  · have hs := sign_of d vx h0
    rcases Int.lt_or_le a 0 with h1 | h1
    · have hs' : s = true := by rw [hs]; simp [h1]
      subst hs'
      simp only [if_true, Bool.not_true]
      rw [hf]
      have : a = -((a.natAbs : Nat) : Int) := by omega
      rw [this, Int.neg_tdiv]
      simp only [Int.natAbs_neg, Int.natAbs_natCast]
      congr 1
    · have hs' : s = false := by rw [hs]; simp; omega
      subst hs'
      simp only [Bool.false_eq_true, if_false]
      rw [hf]
      have : a = ((a.natAbs : Nat) : Int) := by omega
      rw [this]
      simp only [Int.natAbs_natCast]
      rfl
theorem fv_zero' : FV 0 0 := ⟨by decide +kernel, by decide +kernel⟩
theorem fmod_fv {x y : UInt64} {a b : Int} (hx : FV x a) (hy : FV y b) (hb : b ≠ 0) (hbb : b.natAbs < 2 ^ 53) : FV (fmod x y) (if a < 0 then -((a.natAbs % b.natAbs : Nat) : Int) else ((a.natAbs % b.natAbs : Nat) : Int)) := by
  obtain ⟨fx, vx⟩ := hx
  obtain ⟨fy, vy⟩ := hy
  obtain ⟨s, m, e, dx⟩ := fin_of fx
  obtain ⟨s2, k, f, dy⟩ := fin_of fy
  have hk := mant_ne dy vy hb
  have hae := decode_ge dx
  have hbf := decode_ge dy
  have hA := val_abs dx vx
  have hB := val_abs dy vy
  have hfm : fmod x y = ofBin s (m * 2 ^ (e - min e f).toNat % (k * 2 ^ (f - min e f).toNat)) (min e f) := by
    unfold fmod
    rw [dx, dy]
    simp only [beq_iff_eq, hk, if_false, align, sgn, Bool.false_eq_true, Int.toNat_natCast]
  have hr := ofBin_right (neg := s) (M := m * 2 ^ (e - min e f).toNat % (k * 2 ^ (f - min e f).toNat)) (g := min e f) (by omega)
  rw [← hfm] at hr
  have hW : (m * 2 ^ (e - min e f).toNat % (k * 2 ^ (f - min e f).toNat)) * 2 ^ (min e f + 1074).toNat = (a.natAbs % b.natAbs) * SC := by
    rw [← Nat.mul_mod_mul_right]
    have e1 : (e - min e f).toNat + (min e f + 1074).toNat = (e + 1074).toNat := by omega
    have e2 : (f - min e f).toNat + (min e f + 1074).toNat = (f + 1074).toNat := by omega
    rw [Nat.mul_assoc, ← Nat.pow_add, e1, Nat.mul_assoc, ← Nat.pow_add, e2, hA, hB, Nat.mul_mod_mul_right]
  have hlt : a.natAbs % b.natAbs < b.natAbs := Nat.mod_lt _ (Int.natAbs_pos.mpr hb)
  rw [hW] at hr
  obtain ⟨hf, hv⟩ := right_exact (n := a.natAbs % b.natAbs) hr (by omega) (by decide) (by rw [Nat.one_mul])
  refine ⟨hf, hv.trans ?_⟩
  rw [sgn_mul]
  congr 1
  by_cases h0 : a = 0
  · subst h0; cases s <;> simp [sgn]
  · have hs := sign_of dx vx h0
    rw [hs]
    rcases Int.lt_or_le a 0 with h1 | h1
    · simp [sgn, h1]
    · have : ¬ a < 0 := by omega
      simp [sgn, this]
theorem fv_copysign (y : UInt64) : FV (copysign (zero false) y) 0 := by
  unfold copysign
  have h1 : isNaN (zero false) = false := by decide +kernel
  rw [h1]
  simp only [Bool.false_eq_true, if_false]
  have h2 : (zero false).toNat % 2 ^ 63 = 0 := by decide +kernel
  rw [h2]
  exact fv_zero (signBit y)
theorem FV.mod {x y : UInt64} {a b : Int} (hx : FV x a) (hy : FV y b) (hb : 0 < b) (hbb : b < 2 ^ 53) : FV (divmod x y).2 (a % b) := by
  have hm := fmod_fv hx hy (by omega) (by omega)
  have hsnd : (divmod x y).2 = (if Float64.isZero (fmod x y) then copysign (zero false) y else if Float64.lt y (zero false) != Float64.lt (fmod x y) (zero false) then Float64.add (fmod x y) y else fmod x y) := by
    unfold divmod
    simp only
    split
    · rfl
    · split <;> rfl
  rw [hsnd]
  have hz := hm.isZero
  have hlt : a.natAbs % b.natAbs < b.natAbs := Nat.mod_lt _ (by omega)
  have hab : (b.natAbs : Int) = b := by omega
  have hl1 : Float64.lt y (zero false) = false := by
    unfold Float64.lt; rw [hy.lt (fv_zero false)]; simp; omega
  have hl2 : Float64.lt (fmod x y) (zero false) = decide ((if a < 0 then -((a.natAbs % b.natAbs : Nat) : Int) else ((a.natAbs % b.natAbs : Nat) : Int)) < 0) := by
    unfold Float64.lt; exact hm.lt (fv_zero false)
  have hmod : ((a.natAbs % b.natAbs : Nat) : Int) = (a.natAbs : Int) % b := by rw [Int.natCast_emod, hab]
  by_cases h0 : a.natAbs % b.natAbs = 0
  · have e : Float64.isZero (fmod x y) = true := by rw [hz, h0]; simp
    rw [if_pos e]
    have : a % b = 0 := by
      have h1 : (a.natAbs : Int) % b = 0 := by rw [← hmod, h0]; rfl
      have h2 : b ∣ (a.natAbs : Int) := Int.dvd_of_emod_eq_zero h1
      exact Int.emod_eq_zero_of_dvd (Int.dvd_natAbs.mp h2)
    rw [this]
    exact fv_copysign y
  · rcases Int.lt_or_le a 0 with h1 | h1
    · rw [if_pos h1] at hm hz hl2
      have e : Float64.isZero (fmod x y) = false := by rw [hz]; simp; omega
      have e2 : Float64.lt (fmod x y) (zero false) = true := by rw [hl2]; simp; omega
      rw [e, hl1, e2]
      simp only [Bool.false_eq_true, if_false, bne_iff_ne, ne_eq, Bool.false_ne_true, not_false_eq_true, if_true, reduceCtorEq]
      have h3 := hm.add hy (by omega)
      have h4 : a % b = -((a.natAbs % b.natAbs : Nat) : Int) + b := by
        rw [hmod]
        have h5 := Int.emod_add_mul_ediv (a.natAbs : Int) b
        have h6 : a = (-((a.natAbs : Int) % b) + b) + b * (-((a.natAbs : Int) / b) - 1) := by
          rw [Int.mul_sub, Int.mul_neg, Int.mul_one]; omega
        have h7 : a % b = (-((a.natAbs : Int) % b) + b) % b := by
          conv => lhs; rw [h6]
          exact Int.add_mul_emod_self_left _ _ _
        rw [h7]
        apply Int.emod_eq_of_lt
        · have := Int.emod_lt_of_pos (a.natAbs : Int) hb; omega
        · have : (a.natAbs : Int) % b ≠ 0 := by rw [← hmod]; omega
          have := Int.emod_nonneg (a.natAbs : Int) (by omega : b ≠ 0); omega
      rw [h4]; exact h3
    · have hn : ¬ a < 0 := by omega
      rw [if_neg hn] at hm hz hl2
      have e : Float64.isZero (fmod x y) = false := by rw [hz]; simp; omega
      have e2 : Float64.lt (fmod x y) (zero false) = false := by rw [hl2]; simp; omega
      rw [e, hl1, e2]
      simp only [Bool.false_eq_true, if_false, bne_self_eq_false]
      have h4 : a % b = ((a.natAbs % b.natAbs : Nat) : Int) := by
        rw [hmod]; congr 1; omega
      rw [h4]; exact hm
end Mine
end
section
namespace Mine
open PySem
inductive V where
  | none
  | bool (b : Bool)
  | int (i : Int)
  | flt (x : UInt64)
  | tup (vs : List V)
  | list (vs : List V)
  | dict (es : List (Int × Int))
noncomputable def ups {α : Type} (m : Str → α) (x : Str) (v : α) : Str → α := fun y => if y = x then v else m y
theorem ups_here {α : Type} {m : Str → α} {x : Str} {v : α} : ups m x v x = v := if_pos rfl
theorem ups_ne {α : Type} {m : Str → α} {x y : Str} {v : α} (h : y ≠ x) : ups m x v y = m y := if_neg h
structure St where
  ns : List (Str × NameKind)
  fr : Str → Option V
  ow : Str → Option V
  bo : Option Str
  hd : Option Str
  lam : Bool
noncomputable def lamC : Nat := 107
noncomputable def lamP : Nat := 105
noncomputable def lamLine : Nat := 0
noncomputable def lamCol : Nat := 0
noncomputable def lamQual : Str := Str.ofString "_law_whole.<locals>."
noncomputable def okName (x : Str) : Bool := !(x == "__debug__") && !(x == "__classdict__")
theorem okName.d {x : Str} (h : okName x = true) : (x == ("__debug__" : Str)) = false := by
  have := (Bool.and_eq_true _ _ ▸ h : _ ∧ _).1
  simpa using this
theorem okName.c {x : Str} (h : okName x = true) : (x == ("__classdict__" : Str)) = false := by
  have := (Bool.and_eq_true _ _ ▸ h : _ ∧ _).2
  simpa using this
noncomputable def St.mine (ρ : St) (x : Str) : Bool := ρ.ns.lookup x == some .local || ρ.ns.lookup x == some .cell
noncomputable def St.set (ρ : St) (x : Str) (v : V) : St := { ρ with fr := ups ρ.fr x (some v), ow := ups ρ.ow x none }
noncomputable def St.setO (ρ : St) (x : Str) (v : V) : St := { ρ with fr := ups ρ.fr x none, ow := ups ρ.ow x (some v) }
noncomputable def St.drop (ρ : St) (x : Str) : St := { ρ with fr := ups ρ.fr x none, ow := ups ρ.ow x none }
noncomputable def St.upd (ρ : St) (x : Str) (v : V) : St := { ρ with ow := ups ρ.ow x (some v) }
noncomputable def St.hide (ρ : St) (x : Str) : St := { ρ with ow := ups ρ.ow x none }
noncomputable def Le (h h' : Heap) : Prop := ∀ b o, h.get? b = some o → h'.get? b = some o
theorem Le.rfl' (h : Heap) : Le h h := fun _ _ e => e
theorem Le.trans {a b c : Heap} (x : Le a b) (y : Le b c) : Le a c := fun _ _ e => y _ _ (x _ _ e)
theorem no_some {α : Type} {P : Prop} {o : Option α} {x : α} (h : o = none) (e : o = some x) : P := nomatch h.symm.trans e
theorem none_of {α : Type} {o : Option α} (h : ∀ x, o = some x → False) : o = none := match o, h with
  | .none, _ => rfl
  | .some x, h => (h x rfl).elim
theorem got {α : Type} {o : Option α} {x y : α} (e : o = some x) (e' : o = some y) : x = y := Option.some.inj (e.symm.trans e')
theorem Le.none {h h' : Heap} (x : Le h h') {a : Addr} (e : h'.get? a = none) : h.get? a = none := none_of fun _ q => no_some e (x _ _ q)
theorem ne_of_get {h : Heap} {a b : Addr} {o : Obj} (e : h.get? a = some o) (n : h.get? b = none) : a ≠ b := fun q => no_some n (q ▸ e)
theorem new_at {h : Heap} {a : Addr} (l : h.objs.size ≤ a) : h.get? a = none := none_of fun _ e => absurd (Heap.lt_size e) (Nat.not_lt.mpr l)
theorem new_none (h : Heap) : h.get? h.objs.size = none := new_at (Nat.le_refl _)
theorem le_push (h : Heap) (o : Obj) : Le h (h.push o) := fun _ _ e => Heap.get?_push_of_some o e
noncomputable def keepP (h : Heap) (p : Addr → Bool) : Heap := ⟨h.objs.mapIdx fun a o => if p a then o else { o with data := .freed }, h.life⟩
theorem get_keepP (h : Heap) (p : Addr → Bool) (a : Addr) : (keepP h p).get? a = if p a then h.get? a else none := by
  unfold keepP Heap.get?
  simp only [Array.getElem?_mapIdx]
  cases h.objs[a]? with
  | none => simp
  | some o => cases p a <;> simp
theorem keepP_some {h : Heap} {p : Addr → Bool} {a : Addr} {o : Obj} : (keepP h p).get? a = some o ↔ p a = true ∧ h.get? a = some o := by
  rw [get_keepP]
  cases p a <;> simp
theorem keepP_le (h : Heap) (p : Addr → Bool) : Le (keepP h p) h := fun _ _ e => (keepP_some.mp e).2
theorem keepP_none {h : Heap} {p : Addr → Bool} {a : Addr} (n : p a = false) : (keepP h p).get? a = none := none_of fun _ e => nomatch n.symm.trans (keepP_some.mp e).1
structure Fz where
  hp : Heap
  tk : Tok → Option UInt64
structure ZLe (Z Z' : Fz) : Prop where
  hp : Le Z.hp Z'.hp
  tk : ∀ t x, Z.tk t = some x → Z'.tk t = some x
theorem ZLe.rfl' (Z : Fz) : ZLe Z Z := ⟨Le.rfl' _, fun _ _ e => e⟩
theorem ZLe.trans {a b c : Fz} (x : ZLe a b) (y : ZLe b c) : ZLe a c := ⟨x.hp.trans y.hp, fun t b e => y.tk t b (x.tk t b e)⟩
structure TokOk (Z : Fz) (n : Nat) : Prop where
  pos : 0 < n
  lt : ∀ t x, Z.tk t = some x → t < n
theorem TokOk.mono {Z : Fz} {n m : Nat} (x : TokOk Z n) (h : n ≤ m) : TokOk Z m := ⟨Nat.lt_of_lt_of_le x.pos h, fun t b e => Nat.lt_of_lt_of_le (x.lt t b e) h⟩
noncomputable def Fz.float (Z : Fz) (n : Nat) (x : UInt64) : Fz := { Z with tk := fun t => if t = n then some x else Z.tk t }
theorem Fz.float_le {Z : Fz} {n : Nat} {x : UInt64} (k : TokOk Z n) : ZLe Z (Z.float n x) := ⟨Le.rfl' _, fun t b e => (if_neg (Nat.ne_of_lt (k.lt t b e))).trans e⟩
theorem Fz.float_ok {Z : Fz} {n : Nat} {x : UInt64} (k : TokOk Z n) : TokOk (Z.float n x) (n + 1) :=
  ⟨Nat.succ_pos _, fun t b e => by
    by_cases h : t = n
    · exact h ▸ Nat.lt_succ_self n
    · exact Nat.lt_succ_of_lt (k.lt t b ((if_neg h).symm.trans e))⟩
theorem Fz.float_tk {Z : Fz} {n : Nat} {x : UInt64} : (Z.float n x).tk n = some x := if_pos rfl
noncomputable def Fz.more (Z : Fz) (h : Heap) (p : Addr → Bool) : Fz := ⟨keepP h fun a => (Z.hp.get? a).isSome || p a, Z.tk⟩
theorem Fz.more_le {Z : Fz} {h : Heap} {p : Addr → Bool} (z : Le Z.hp h) : ZLe Z (Z.more h p) := ⟨fun a o e => keepP_some.mpr ⟨by rw [e]; rfl, z _ _ e⟩, fun _ _ e => e⟩
theorem Fz.more_in {Z : Fz} {h : Heap} {p : Addr → Bool} : Le (Z.more h p).hp h := keepP_le _ _
theorem Fz.more_here {Z : Fz} {h : Heap} {p : Addr → Bool} {a : Addr} {o : Obj} (n : p a = true) (e : h.get? a = some o) : (Z.more h p).hp.get? a = some o := keepP_some.mpr ⟨by rw [n, Bool.or_true], e⟩
theorem Fz.more_old {Z : Fz} {h : Heap} {p : Addr → Bool} (z : Le Z.hp h) {a : Addr} {o : Obj} (e : (Z.more h p).hp.get? a = some o) : Z.hp.get? a = some o ∨ p a = true := by
  obtain ⟨q, e'⟩ := keepP_some.mp e
  cases hz : Z.hp.get? a with
  | none => rw [hz] at q; exact .inr q
  | some o' => exact .inl (congrArg some (got (z _ _ hz) e'))
theorem Fz.more_none {Z : Fz} {h : Heap} {p : Addr → Bool} {a : Addr} (n : Z.hp.get? a = none) (m : p a = false) : (Z.more h p).hp.get? a = none := keepP_none (by rw [n, m]; rfl)
noncomputable def TabIs (Z : Fz) (h : Heap) : Prop := ∃ ps, h.get? lamP = some (W.tabObj ps) ∧ (ps = #[] ∨ ∃ c', ps = #[rawInt lamLine, rawInt lamCol, .ref c'] ∧ Z.hp.CodeRec (.ref c') (lamQual ++ "<lambda>"))
theorem TabIs.mono {Z Z' : Fz} {h h' : Heap} (t : TabIs Z h) (z : ZLe Z Z') (l : ∀ o, h.get? lamP = some o → h'.get? lamP = some o) : TabIs Z' h' :=
  let ⟨ps, e, q⟩ := t; ⟨ps, l _ e, q.imp id fun ⟨c', e', r⟩ => ⟨c', e', r.keeps z.hp⟩⟩
theorem TabIs.live {Z : Fz} {h : Heap} (t : TabIs Z h) : ∃ o, h.get? lamP = some o := let ⟨_, e, _⟩ := t; ⟨_, e⟩
structure Fn where
  ps : List Str
  ns : List (Str × NameKind)
  body : List Stmt
  lam : Bool
noncomputable def pr : Program := PySem.Challenge.pw_pg0166_02
noncomputable def vw : Program := W.view pr [1, 2, 3, 5, 6, 7, 8, 9, 11, 12, 13, 15, 16, 17, 18, 19, 20, 21, 22]
noncomputable def fnOf (d : DefRec) : Fn := ⟨d.params.args.map (·.arg), d.scope.names, d.body, d.name == "_law_whole"⟩
noncomputable def FT (x : Str) : Option Fn := ((PyProof.Rows.recsOf vw).find? fun d => d.name == x).map fnOf
noncomputable def fnAt (i : Nat) : Fn := match pr.main.body[i]? with
  | some (.FunctionDef n a b _ _ _ sc _ _ _) => ⟨a.args.map (·.arg), sc.names, b, n == "_law_whole"⟩
  | _ => ⟨[], [], [], false⟩
noncomputable def Told (h : Heap) : Prop := ∃ mc, h.Ns cStatics mc ∧ mc sharingNotToldKey = none
theorem Told.mono {h h' : Heap} (t : Told h) (l : Le h h') : Told h' := let ⟨m, n, e⟩ := t; ⟨m, n.keeps l, e⟩
structure Gd (h₀ : Heap) (gl : Str → Option Value) : Prop where
  names : ∃ mg mb, h₀.Ns mainGlobals mg ∧ h₀.Ns builtinsNs mb ∧ ∀ x v, gl x = some v → mg x = some v ∨ (mg x = none ∧ mb x = some v)
  told : Told h₀
  nolimit : h₀.NoLimit
  len : gl "len" = some (.builtin "len")
  max : gl "max" = some (.builtin "max")
  min : gl "min" = some (.builtin "min")
  sum : gl "sum" = some (.builtin "sum")
  abs : gl "abs" = some (.builtin "abs")
  int : gl "int" = some (.type "int")
  all : gl "all" = some (.builtin "all")
  range : gl "range" = some (.type "range")
  rev : gl "reversed" = some (.type "reversed")
  isi : gl "isinstance" = some (.builtin "isinstance")
  tup : gl "tuple" = some (.type "tuple")
structure FnAt (h₀ : Heap) (f : Fn) (a : Addr) : Prop where
  at_ : ∃ (o : Obj) (fd : FuncData) (as : List Arg), h₀.get? a = some o ∧ o.data = .func fd ∧ h₀.CodeRec fd.code fd.qualname ∧ fd.params = ⟨[], as, none, [], [], none, []⟩ ∧ fd.defaults = .none ∧ fd.body = .stmts f.body ∧ fd.closure = [] ∧
    fd.globals = mainGlobals ∧ fd.builtins = builtinsNs ∧ as.map (·.arg) = f.ps ∧ fd.scope.names = f.ns ∧ fd.scope.kind = .function ∧ fd.scope.isGenerator = false ∧ fd.scope.isCoroutine = false ∧ (f.lam = true → fd.code = .ref lamC ∧ fd.qualname ++ ".<locals>." = lamQual)
  nodup : f.ps.Nodup
  kinds : ∀ p ∈ f.ps, f.ns.lookup p = some .local ∨ f.ns.lookup p = some .cell
  nofree : ∀ x, f.ns.lookup x ≠ some .free
structure Cx where
  prog : Program
  w : World
  h₀ : Heap
  gl : Str → Option Value
  k : Nat
  G : Gd h₀ gl
  tab : ∀ x f, FT x = some f → ∃ a, gl x = some (.ref a) ∧ FnAt h₀ f a
noncomputable abbrev Cx.m (C : Cx) : Model := model C.prog C.w
noncomputable abbrev Cx.lv (C : Cx) (k : Nat) : Cx := { C with k := k }
noncomputable abbrev Cx.ki (C : Cx) : KeyKind C.prog C.w Int := intKind C.prog C.w
structure AOk (k : Nat) (A : Around) : Prop where
  hand : A.handled = none
  deep : A.depth + k < recursionLimit
  room : A.units + 10 * k + 80 < cLine
theorem AOk.deeper {k : Nat} {A : Around} (x : AOk (k + 1) A) (env : Env) : AOk k (A.deeper env) :=
  ⟨x.hand, by have := x.deep; simp only [Around.deeper]; omega, by have := x.room; simp only [Around.deeper]; omega⟩
theorem AOk.u {k : Nat} {A : Around} (x : AOk k A) {n : Nat} (h : n ≤ 80) : A.units + n < cLine := Nat.lt_of_le_of_lt (Nat.add_le_add (Nat.le_add_right _ _) h) x.room
noncomputable def PlainTuple (h : Heap) (a : Addr) (items : Array Value) : Prop := ∃ n, h.get? a = some { cls := .type "tuple", data := .seq items n }
noncomputable def RepD : List (Int × Value) → List (Int × Int) → Prop
  | kvs, [] => kvs = []
  | kvs, p :: es => ∃ t r, kvs = (p.1, .int p.2 t) :: r ∧ RepD r es
mutual
noncomputable def Rep (C : Cx) (Z : Fz) (v : Value) : V → Prop
  | .none => v = .none
  | .bool b => v = .bool b
  | .int i => ∃ t, v = .int i t
  | .flt x => ∃ t, v = .float x t ∧ 0 < t ∧ Z.tk t = some x
  | .tup ws => ∃ a vs, v = .ref a ∧ PlainTuple Z.hp a vs.toArray ∧ RepL C Z vs ws
  | .list ws => ∃ a vs, v = .ref a ∧ Z.hp.PlainList a vs.toArray ∧ RepL C Z vs ws
  | .dict es => ∃ a kvs, v = .ref a ∧ (a == sysModules) = false ∧ Z.hp.DictOf C.ki a kvs ∧ RepD kvs es
noncomputable def RepL (C : Cx) (Z : Fz) (vs : List Value) : List V → Prop
  | [] => vs = []
  | x :: ws => ∃ v r, vs = v :: r ∧ Rep C Z v x ∧ RepL C Z r ws
end
noncomputable def Own (C : Cx) (Z : Fz) (h : Heap) (a : Addr) : V → Prop
  | .list ws => ∃ vs, h.PlainList a vs.toArray ∧ RepL C Z vs ws
  | .dict es => ∃ kvs, (a == sysModules) = false ∧ h.DictOf C.ki a kvs ∧ RepD kvs es
  | _ => False
structure Cf where
  Z : Fz
  s : Shared
noncomputable def RT (C : Cx) (c : Cf) (v : Value) (x : V) : Prop := Rep C c.Z v x ∨ ∃ a, v = .ref a ∧ Own C c.Z c.s.heap a x
noncomputable def RTL (C : Cx) (c : Cf) : List Value → List V → Prop
  | vs, [] => vs = []
  | vs, x :: ws => ∃ v r, vs = v :: r ∧ RT C c v x ∧ RTL C c r ws
section
variable {C : Cx} {Z Z' : Fz} {h h' : Heap} {c c' : Cf}
theorem Rep.int' (i : Int) (t : Tok) : Rep C Z (.int i t) (.int i) := ⟨t, rfl⟩
theorem Rep.flt' {x : UInt64} {t : Tok} (ht : 0 < t) (hk : Z.tk t = some x) : Rep C Z (.float x t) (.flt x) := ⟨t, rfl, ht, hk⟩
theorem RepL.cons' {v : Value} {x : V} {vs : List Value} {ws : List V} (p : Rep C Z v x) (q : RepL C Z vs ws) : RepL C Z (v :: vs) (x :: ws) := ⟨v, vs, rfl, p, q⟩
theorem PlainTuple.mono {a items} (x : PlainTuple h a items) (l : Le h h') : PlainTuple h' a items := let ⟨n, e⟩ := x; ⟨n, l _ _ e⟩
theorem plist_mono {a items} (x : h.PlainList a items) (l : Le h h') : h'.PlainList a items := let ⟨n, e⟩ := x; ⟨n, l _ _ e⟩
theorem plist_live {T : String} {a items} (x : ∃ n, h.get? a = some { cls := .type T, data := .seq items n }) : ∃ o, h.get? a = some o := let ⟨_, e⟩ := x; ⟨_, e⟩
theorem dict_live {a kvs} (x : h.DictOf C.ki a kvs) : ∃ o, h.get? a = some o := let ⟨o, _, _, e, _⟩ := x; ⟨o, e⟩
theorem dict_at {a kvs} (x : h.DictOf C.ki a kvs) (l : ∀ o, h.get? a = some o → h'.get? a = some o) : h'.DictOf C.ki a kvs := let ⟨o, es, ep, e, r⟩ := x; ⟨o, es, ep, l _ e, r⟩
theorem plain_tuple {a : Addr} {vs : Array Value} (p : PlainTuple h a vs) : h.IsTuple a vs := let ⟨n, e⟩ := p; ⟨_, e, rfl, n, rfl⟩
mutual
theorem Rep.mono {v : Value} (l : ZLe Z Z') : ∀ {x : V}, Rep C Z v x → Rep C Z' v x
  | .none, r => r
  | .bool _, r => r
  | .int _, r => r
  | .flt _, ⟨t, e, ht, hk⟩ => ⟨t, e, ht, l.tk _ _ hk⟩
  | .tup _, ⟨a, vs, e, p, q⟩ => ⟨a, vs, e, p.mono l.hp, RepL.mono l q⟩
  | .list _, ⟨a, vs, e, p, q⟩ => ⟨a, vs, e, plist_mono p l.hp, RepL.mono l q⟩
  | .dict _, ⟨a, vs, e, n, p, q⟩ => ⟨a, vs, e, n, dict_at p (l.hp a), q⟩
theorem RepL.mono {vs : List Value} (l : ZLe Z Z') : ∀ {ws : List V}, RepL C Z vs ws → RepL C Z' vs ws
  | [], r => r
  | _ :: _, ⟨v, r, e, p, q⟩ => ⟨v, r, e, Rep.mono l p, RepL.mono l q⟩
end
theorem RepL.len : ∀ {ws : List V} {vs : List Value}, RepL C Z vs ws → vs.length = ws.length
  | [], _, e => congrArg List.length e
  | _ :: _, _, ⟨_, _, e, _, q⟩ => e ▸ congrArg (· + 1) (RepL.len q)
theorem RepL.append {us : List Value} {xs : List V} (q : RepL C Z us xs) : ∀ {ws : List V} {vs : List Value}, RepL C Z vs ws → RepL C Z (vs ++ us) (ws ++ xs)
  | [], _, e => e ▸ q
  | _ :: _, _, ⟨v, r, e, p, b⟩ => ⟨v, r ++ us, e ▸ rfl, p, RepL.append q b⟩
theorem RepL.get : ∀ {ws : List V} {vs : List Value}, RepL C Z vs ws → ∀ (i : Nat) {x : V}, ws[i]? = some x → ∃ v, vs[i]? = some v ∧ Rep C Z v x
  | [], _, _, _, _, e => nomatch e
  | _ :: _, _, ⟨v, _, e1, p, _⟩, 0, _, e => ⟨v, e1 ▸ rfl, Option.some.inj e ▸ p⟩
  | _ :: _, _, ⟨_, _, e1, _, q⟩, i + 1, _, e => let ⟨u, a, b⟩ := RepL.get q i e; ⟨u, e1 ▸ a, b⟩
theorem RepL.set {v : Value} {x : V} (q : Rep C Z v x) : ∀ {ws : List V} {vs : List Value}, RepL C Z vs ws → ∀ (i : Nat), RepL C Z (vs.set i v) (ws.set i x)
  | [], _, e, _ => e ▸ rfl
  | _ :: _, _, ⟨_, r, e, _, b⟩, 0 => ⟨v, r, e ▸ rfl, q, b⟩
  | _ :: _, _, ⟨u, r, e, a, b⟩, i + 1 => ⟨u, r.set i v, e ▸ rfl, a, RepL.set q b i⟩
theorem RepL.at {vs : List Value} {ws : List V} (r : RepL C Z vs ws) (j : Nat) (h1 : j < vs.length) (h2 : j < ws.length) : Rep C Z vs[j] ws[j] :=
  let ⟨_, e, q⟩ := r.get j (List.getElem?_eq_getElem h2); Option.some.inj ((List.getElem?_eq_getElem h1).symm.trans e) ▸ q
theorem RepL.pick {vs : List Value} {ws : List V} (r : RepL C Z vs ws) : ∀ (ix : List Nat), RepL C Z (ix.filterMap (vs[·]?)) (ix.filterMap (ws[·]?))
  | [] => rfl
  | i :: ix => by
    rw [List.filterMap_cons, List.filterMap_cons]
    cases e : ws[i]? with
    | none =>
      have : vs[i]? = none := List.getElem?_eq_none_iff.mpr (r.len ▸ List.getElem?_eq_none_iff.mp e)
      rw [this]; exact r.pick ix
    | some x =>
      obtain ⟨v, e', q⟩ := r.get i e
      rw [e']; exact .cons' q (r.pick ix)
theorem RepL.t : ∀ {ws : List V} {vs : List Value}, RepL C c.Z vs ws → RTL C c vs ws
  | [], _, e => e
  | _ :: _, _, ⟨v, r, e, p, q⟩ => ⟨v, r, e, .inl p, RepL.t q⟩
theorem RepD.len : ∀ {es kvs}, RepD kvs es → kvs.length = es.length
  | [], _, e => congrArg List.length e
  | _ :: _, _, ⟨_, _, e, q⟩ => e ▸ congrArg (· + 1) (RepD.len q)
theorem RepD.keys : ∀ {es kvs}, RepD kvs es → kvs.map (·.1) = es.map (·.1)
  | [], _, e => congrArg (List.map _) e
  | _ :: _, _, ⟨_, _, e, q⟩ => e ▸ congrArg _ (RepD.keys q)
theorem ref_eq {a b : Addr} (e : Value.ref a = .ref b) : a = b := Value.ref.inj e
theorem Own.live {a : Addr} {x : V} (r : Own C Z h a x) : ∃ o, h.get? a = some o := by
  cases x with
  | list _ => exact let ⟨_, p, _⟩ := r; plist_live p
  | dict _ => exact let ⟨_, _, p, _⟩ := r; dict_live p
  | _ => exact r.elim
theorem Own.mono {a : Addr} (z : ZLe Z Z') (l : ∀ o, h.get? a = some o → h'.get? a = some o) : ∀ {x : V}, Own C Z h a x → Own C Z' h' a x
  | .list _, ⟨vs, ⟨n, e⟩, q⟩ => ⟨vs, ⟨n, l _ e⟩, q.mono z⟩
  | .dict _, ⟨vs, n, p, q⟩ => ⟨vs, n, dict_at p l, q⟩
theorem Own.frozen {a : Addr} (z : ZLe Z Z') (l : ∀ o, h.get? a = some o → Z'.hp.get? a = some o) : ∀ {x : V}, Own C Z h a x → Rep C Z' (.ref a) x
  | .list _, ⟨vs, ⟨n, e⟩, q⟩ => ⟨a, vs, rfl, ⟨n, l _ e⟩, q.mono z⟩
  | .dict _, ⟨vs, n, p, q⟩ => ⟨a, vs, rfl, n, dict_at p l, q⟩
theorem Own.shape {a : Addr} {x : V} (r : Own C Z h a x) : ∃ o, h.get? a = some o ∧ ((∃ vs n, o.data = .seq vs n) ∨ o.cls = .type "dict" ∧ ∃ es ep, o.data = .dict es ep) := by
  cases x with
  | list _ => exact let ⟨_, ⟨_, e⟩, _⟩ := r; ⟨_, e, .inl ⟨_, _, rfl⟩⟩
  | dict _ => exact let ⟨_, _, ⟨o, es, ep, e, x, d, _⟩, _⟩ := r; ⟨o, e, .inr ⟨x.1, es, ep, d⟩⟩
  | _ => exact r.elim
theorem RT.toList {v : Value} {ws : List V} (r : RT C c v (.list ws)) (z : Le c.Z.hp c.s.heap) : ∃ a vs, v = .ref a ∧ c.s.heap.PlainList a vs.toArray ∧ RepL C c.Z vs ws :=
  r.elim (fun ⟨a, vs, e, p, q⟩ => ⟨a, vs, e, plist_mono p z, q⟩) fun ⟨a, e, vs, p, q⟩ => ⟨a, vs, e, p, q⟩
theorem RT.toDict {v : Value} {es} (r : RT C c v (.dict es)) (z : Le c.Z.hp c.s.heap) : ∃ a kvs, v = .ref a ∧ (a == sysModules) = false ∧ c.s.heap.DictOf C.ki a kvs ∧ RepD kvs es :=
  r.elim (fun ⟨a, vs, e, n, p, q⟩ => ⟨a, vs, e, n, dict_at p (z a), q⟩) fun ⟨a, e, vs, n, p, q⟩ => ⟨a, vs, e, n, p, q⟩
theorem RT.toTup {v : Value} {ws : List V} (r : RT C c v (.tup ws)) (z : Le c.Z.hp c.s.heap) : ∃ a vs, v = .ref a ∧ PlainTuple c.s.heap a vs.toArray ∧ RepL C c.Z vs ws :=
  r.elim (fun ⟨a, vs, e, p, q⟩ => ⟨a, vs, e, p.mono z, q⟩) fun ⟨_, _, q⟩ => q.elim
theorem RT.toInt {v : Value} {i : Int} (r : RT C c v (.int i)) : ∃ t, v = .int i t := r.elim id fun ⟨_, _, q⟩ => q.elim
theorem RT.toFlt {v : Value} {x : UInt64} (r : RT C c v (.flt x)) : ∃ t, v = .float x t ∧ 0 < t ∧ c.Z.tk t = some x := r.elim id fun ⟨_, _, q⟩ => q.elim
theorem RT.toBool {v : Value} {b : Bool} (r : RT C c v (.bool b)) : v = .bool b := r.elim id fun ⟨_, _, q⟩ => q.elim
theorem RT.toNone {v : Value} (r : RT C c v .none) : v = .none := r.elim id fun ⟨_, _, q⟩ => q.elim
end
end Mine
end
section
namespace Mine
open PySem PyProof.Rows
noncomputable def isVar (ns : List (Str × NameKind)) (x : Str) : Prop := ns.lookup x = some .local ∨ ns.lookup x = some .cell ∨ ns.lookup x = some .free
noncomputable def kindIs (env : Env) (x : Str) : NameKind → Prop
  | .local => env.kindOf x = some .local
  | .cell => env.kindOf x = some .cell
  | .free => env.kindOf x = some .cell ∨ env.kindOf x = some .free
  | .globalImplicit => env.kindOf x = some .globalImplicit
  | .globalExplicit => True
theorem mine_var {ρ : St} {x : Str} (m : ρ.mine x = true) : ρ.ns.lookup x = some .local ∨ ρ.ns.lookup x = some .cell := ((Bool.or_eq_true _ _).mp m).imp eq_of_beq eq_of_beq
theorem mine_is {ρ : St} {x : Str} (m : ρ.mine x = true) : isVar ρ.ns x := (mine_var m).imp id .inl
structure Fm where
  env : Env
  Kp : Heap
  bk : Addr
  hk : Addr
noncomputable def Fm.plc (F : Fm) (ns : List (Str × NameKind)) (a : Addr) : Prop := a = F.env.locals ∨ ∃ x, ns.lookup x = some .cell ∧ F.env.cells.lookup x = some a
structure Sta (F : Fm) (ns : List (Str × NameKind)) (lam : Bool) : Prop where
  kind : F.env.scope.kind = .function
  glob : F.env.globals = mainGlobals
  blt : F.env.builtins = builtinsNs
  names : ∀ x k, ns.lookup x = some k → kindIs F.env x k
  hasC : ∀ x, ns.lookup x = some .cell → ∃ a, F.env.cells.lookup x = some a
  apartC : ∀ x y a, ns.lookup x = some .cell → ns.lookup y = some .cell → F.env.cells.lookup x = some a → F.env.cells.lookup y = some a → x = y
  locC : ∀ x a, ns.lookup x = some .cell → F.env.cells.lookup x = some a → F.env.locals ≠ a
  outer : ∀ x, ns.lookup x = some .free → ∃ a o, F.env.cells.lookup x = some a ∧ F.Kp.get? a = some o
  plK : ∀ a, F.plc ns a → F.Kp.get? a = none
  plT : ∀ a, F.plc ns a → a ≠ lamP
  tabK : F.Kp.get? lamP = none
  lam : lam = true → F.env.code = .ref lamC ∧ F.env.qual = lamQual
structure Ok (C : Cx) (c : Cf) : Prop where
  base : Le C.h₀ c.Z.hp
  zin : Le c.Z.hp c.s.heap
  tok : TokOk c.Z c.s.toks
structure Hid (F : Fm) (ns : List (Str × NameKind)) (Z : Fz) (a : Addr) : Prop where
  z : Z.hp.get? a = none
  k : F.Kp.get? a = none
  p : ¬ F.plc ns a
  t : a ≠ lamP
structure Bas (C : Cx) (F : Fm) (val : Str → Option Value) (ns : List (Str × NameKind)) (c : Cf) : Prop where
  ok : Ok C c
  kin : Le F.Kp c.s.heap
  tab : TabIs c.Z c.s.heap
  tabZ : c.Z.hp.get? lamP = none
  plZ : ∀ a, F.plc ns a → c.Z.hp.get? a = none
  loc : ∃ m, c.s.heap.Ns F.env.locals m ∧ ∀ x, ns.lookup x = some .local → m x = val x
  cel : ∀ x a, ns.lookup x = some .cell ∨ ns.lookup x = some .free → F.env.cells.lookup x = some a → c.s.heap.IsCell a (val x)
structure OwnAt (C : Cx) (F : Fm) (ns : List (Str × NameKind)) (c : Cf) (y : V) (a : Addr) : Prop where
  own : Own C c.Z c.s.heap a y
  hid : Hid F ns c.Z a
structure Inv (C : Cx) (F : Fm) (val : Str → Option Value) (ρ : St) (c : Cf) : Prop where
  sta : Sta F ρ.ns ρ.lam
  bas : Bas C F val ρ.ns c
  fr : ∀ x y, ρ.fr x = some y → isVar ρ.ns x ∧ ∃ u, val x = some u ∧ Rep C c.Z u y
  ow : ∀ x y, ρ.ow x = some y → isVar ρ.ns x ∧ ∃ a, val x = some (.ref a) ∧ OwnAt C F ρ.ns c y a
  apart : ∀ x y v u, ρ.ow x = some v → ρ.ow y = some u → val x = val y → x = y
  bor : ∀ x, ρ.bo = some x → val x = some (.ref F.bk)
  hdv : ∀ x, ρ.hd = some x → val x = some (.ref F.hk)
structure Rst (s s' : Shared) : Prop where
  g : s'.gens = s.gens
  d : s'.drawn = s.drawn
  o : s'.os = s.os
theorem Rst.rfl' (s : Shared) : Rst s s := ⟨rfl, rfl, rfl⟩
theorem Rst.trans {a b c : Shared} (x : Rst a b) (y : Rst b c) : Rst a c := ⟨y.g.trans x.g, y.d.trans x.d, y.o.trans x.o⟩
structure Gro0 (d : Addr) (c c' : Cf) : Prop where
  le : ∀ b, b ≠ d → b ≠ lamP → ∀ o, c.s.heap.get? b = some o → c'.s.heap.get? b = some o
  tab : TabIs c.Z c.s.heap → TabIs c'.Z c'.s.heap
  zle : ZLe c.Z c'.Z
  zin : Le c'.Z.hp c'.s.heap
  old : ∀ a o, c'.Z.hp.get? a = some o → c.Z.hp.get? a = some o ∨ c.s.heap.get? a = none
  tok : TokOk c'.Z c'.s.toks
  rst : Rst c.s c'.s
structure Gro (d : Addr) (c c' : Cf) : Prop extends Gro0 d c c' where
  live : ∀ b, (∃ o, c.s.heap.get? b = some o) → ∃ o, c'.s.heap.get? b = some o
noncomputable abbrev Cf.at (c : Cf) (h : Heap) (t : Nat) : Cf := ⟨c.Z, { c.s with heap := h, toks := t }⟩
structure Stp (F : Fm) (c c' : Cf) : Prop where
  zle : ZLe c.Z c'.Z
  old : ∀ a o, c'.Z.hp.get? a = some o → c.Z.hp.get? a = some o ∨ F.Kp.get? a = none
  rst : Rst c.s c'.s
theorem Stp.rfl' (F : Fm) (c : Cf) : Stp F c c := ⟨ZLe.rfl' _, fun _ _ e => .inl e, Rst.rfl' _⟩
theorem Stp.trans {F : Fm} {a b c : Cf} (x : Stp F a b) (y : Stp F b c) : Stp F a c := ⟨x.zle.trans y.zle, fun q o e => (y.old q o e).elim (x.old q o) .inr, x.rst.trans y.rst⟩
section
variable {C : Cx} {F : Fm} {val : Str → Option Value} {ns : List (Str × NameKind)} {lam : Bool} {ρ ρ' : St} {c c' c'' : Cf} {a d L : Addr} {h h' : Heap} {x : Str} {y : V}
theorem ns_at {m} (n : h.Ns L m) (l : ∀ o, h.get? L = some o → h'.get? L = some o) : h'.Ns L m := let ⟨o, es, ep, e, r⟩ := n; ⟨o, es, ep, l _ e, r⟩
theorem cell_at {v} (n : h.IsCell a v) (l : ∀ o, h.get? a = some o → h'.get? a = some o) : h'.IsCell a v := let ⟨o, e, r⟩ := n; ⟨o, l _ e, r⟩
theorem live_ns {m} (n : h.Ns L m) : ∃ o, h.get? L = some o := let ⟨o, _, _, e, _⟩ := n; ⟨o, e⟩
theorem live_cell {v} (n : h.IsCell a v) : ∃ o, h.get? a = some o := let ⟨o, e, _⟩ := n; ⟨o, e⟩
theorem live_none (l : ∀ b, (∃ o, h.get? b = some o) → ∃ o, h'.get? b = some o) (e : h'.get? a = none) : h.get? a = none := none_of fun o q => let ⟨_, e'⟩ := l a ⟨o, q⟩; no_some e e'
theorem ne_none (l : ∃ o, h.get? a = some o) (e : h.get? d = none) : a ≠ d := let ⟨_, q⟩ := l; ne_of_get q e
theorem Gro.trans (p : Gro d c c') (q : Gro d c' c'') : Gro d c c'' :=
  ⟨⟨fun b n m o e => q.le b n m o (p.le b n m o e), fun t => q.tab (p.tab t), p.zle.trans q.zle, q.zin, fun a o e => (q.old a o e).elim (p.old a o) fun n => .inr (live_none p.live n), q.tok, p.rst.trans q.rst⟩, fun b l => q.live b (p.live b l)⟩
theorem Gro0.hid (g : Gro0 d c c') (e : c.Z.hp.get? a = none) (l : ∃ o, c.s.heap.get? a = some o) : c'.Z.hp.get? a = none :=
  none_of fun o q => (g.old a o q).elim (no_some e) fun n => let ⟨_, l⟩ := l; no_some n l
theorem Gro0.ok (g : Gro0 d c c') (k : Ok C c) : Ok C c' := ⟨k.base.trans g.zle.hp, g.zin, g.tok⟩
theorem Gro0.stp (g : Gro0 d c c') (k : Le F.Kp c.s.heap) : Stp F c c' := ⟨g.zle, fun a o e => (g.old a o e).imp id k.none, g.rst⟩
theorem Gro.le' {h' : Heap} {tk' : Nat} (k : Ok C c) (l : Le c.s.heap h') (t : c.s.toks ≤ tk') : Gro d c (c.at h' tk') :=
  ⟨⟨fun b _ _ o e => l b o e, fun q => q.mono (ZLe.rfl' _) (l _), ZLe.rfl' _, k.zin.trans l, fun _ _ e => .inl e, k.tok.mono t, ⟨rfl, rfl, rfl⟩⟩, fun _ ⟨o, e⟩ => ⟨o, l _ o e⟩⟩
theorem Gro0.one {h' : Heap} {tk' : Nat} (k : Ok C c) (l : ∀ b, b ≠ d → ∀ o, c.s.heap.get? b = some o → h'.get? b = some o) (z : c.Z.hp.get? d = none) (n : d ≠ lamP) (t : c.s.toks ≤ tk') : Gro0 d c (c.at h' tk') :=
  ⟨fun b nb _ => l b nb, fun q => q.mono (ZLe.rfl' _) (l _ (Ne.symm n)), ZLe.rfl' _, fun b o e => l b (ne_of_get e z) o (k.zin b o e), fun _ _ e => .inl e, k.tok.mono t, ⟨rfl, rfl, rfl⟩⟩
theorem Gro.one {h' : Heap} {tk' : Nat} (k : Ok C c) (l : ∀ b, b ≠ d → ∀ o, c.s.heap.get? b = some o → h'.get? b = some o) (ld : ∃ o, h'.get? d = some o) (z : c.Z.hp.get? d = none) (n : d ≠ lamP) (t : c.s.toks ≤ tk') : Gro d c (c.at h' tk') :=
  ⟨Gro0.one k l z n t, fun b ⟨o, e⟩ => (Classical.em (b = d)).elim (fun q => q ▸ ld) fun nb => ⟨o, l b nb o e⟩⟩
theorem Gro.frz (g : Gro d c c') : Gro d c ⟨c'.Z.more c'.s.heap fun a => (c.s.heap.get? a).isNone, c'.s⟩ :=
  ⟨⟨g.le, fun t => (g.tab t).mono (Fz.more_le g.zin) fun _ e => e, g.zle.trans (Fz.more_le g.zin), Fz.more_in, fun a o e => (Fz.more_old g.zin e).elim (g.old a o) fun n => .inr (Option.isNone_iff_eq_none.mp n), ⟨g.tok.pos, g.tok.lt⟩, g.rst⟩, g.live⟩
theorem Gro.rfl' (k : Ok C c) : Gro d c c := Gro.le' k (Le.rfl' _) (Nat.le_refl _)
theorem Sta.tabP (S : Sta F ns lam) : ¬ F.plc ns lamP := fun p => S.plT _ p rfl
theorem Bas.live (B : Bas C F val ns c) (p : F.plc ns a) : ∃ o, c.s.heap.get? a = some o :=
  p.elim (fun e => e ▸ let ⟨_, n, _⟩ := B.loc; live_ns n) fun ⟨x, k, e⟩ => live_cell (B.cel x a (.inl k) e)
theorem Bas.touch (S : Sta F ns lam) (B : Bas C F val ns c) (g : Gro0 d c c') (hk : F.Kp.get? d = none) (hp : ¬ F.plc ns d) : Bas C F val ns c' where
  ok := g.ok B.ok
  kin := fun b o e => g.le b (ne_of_get e hk) (ne_of_get e S.tabK) o (B.kin b o e)
  tab := g.tab B.tab
  tabZ := g.hid B.tabZ B.tab.live
  plZ := fun a p => g.hid (B.plZ a p) (B.live p)
  loc := let ⟨m, n, q⟩ := B.loc; ⟨m, ns_at n (g.le _ (fun e => hp (.inl e.symm)) (S.plT _ (.inl rfl))), q⟩
  cel := fun x a k e => cell_at (B.cel x a k e) (k.elim (fun k => g.le a (fun q => hp (.inr ⟨x, k, q ▸ e⟩)) (S.plT _ (.inr ⟨x, k, e⟩))) fun k => let ⟨b, o, e', q⟩ := S.outer x k; have n := got e e' ▸ q; g.le a (ne_of_get n hk) (ne_of_get n S.tabK))
theorem Inv.touch (I : Inv C F val ρ c) (g : Gro0 d c c') (hk : F.Kp.get? d = none) (hp : ¬ F.plc ρ.ns d) (ho : ∀ x v, ρ.ow x = some v → val x ≠ some (.ref d)) : Inv C F val ρ c' where
  sta := I.sta
  bas := I.bas.touch I.sta g hk hp
  fr := fun x y e => let ⟨k, u, q, r⟩ := I.fr x y e; ⟨k, u, q, r.mono g.zle⟩
  ow := fun x y e => let ⟨k, a, q, r⟩ := I.ow x y e; ⟨k, a, q, r.own.mono g.zle (g.le a (fun n => ho x y e (n ▸ q)) r.hid.t), g.hid r.hid.z r.own.live, r.hid.k, r.hid.p, r.hid.t⟩
  apart := I.apart
  bor := I.bor
  hdv := I.hdv
theorem Inv.tabOw (I : Inv C F val ρ c) (x : Str) (v : V) (e : ρ.ow x = some v) : val x ≠ some (.ref lamP) := fun q => let ⟨_, _, p, r⟩ := I.ow x v e; r.hid.t (ref_eq (got p q))
theorem Inv.gro (I : Inv C F val ρ c) (g : Gro lamP c c') : Inv C F val ρ c' := I.touch g.toGro0 I.sta.tabK I.sta.tabP I.tabOw
theorem Inv.ok (I : Inv C F val ρ c) : Ok C c := I.bas.ok
theorem Inv.stp (I : Inv C F val ρ c) (g : Gro0 d c c') : Stp F c c' := g.stp I.bas.kin
structure Free (F : Fm) (val : Str → Option Value) (ρ : St) (c : Cf) (a : Addr) : Prop where
  hid : Hid F ρ.ns c.Z a
  ow : ∀ x v, ρ.ow x = some v → val x ≠ some (.ref a)
theorem Inv.touchF (I : Inv C F val ρ c) (g : Gro0 d c c') (f : Free F val ρ c d) : Inv C F val ρ c' := I.touch g f.hid.k f.hid.p f.ow
theorem Inv.free (I : Inv C F val ρ c) (n : c.s.heap.get? a = none) (z : c'.Z.hp.get? a = none) : Free F val ρ c' a :=
  ⟨⟨z, I.bas.kin.none n, fun p => ne_none (I.bas.live p) n rfl, fun e => ne_none I.bas.tab.live n e.symm⟩, fun x v e q => let ⟨_, _, p, r⟩ := I.ow x v e; ne_none r.own.live n (ref_eq (got p q))⟩
theorem Inv.sub (I : Inv C F val ρ c) (hn : ρ'.ns = ρ.ns) (hl : ρ'.lam = ρ.lam) (hb : ρ'.bo = ρ.bo) (hh : ρ'.hd = ρ.hd) (hf : ∀ x y, ρ'.fr x = some y → ρ.fr x = some y) (ho : ∀ x y, ρ'.ow x = some y → ρ.ow x = some y) : Inv C F val ρ' c where
  sta := by rw [hn, hl]; exact I.sta
  bas := by rw [hn]; exact I.bas
  fr := fun x y e => by rw [hn]; exact I.fr x y (hf x y e)
  ow := fun x y e => by rw [hn]; exact I.ow x y (ho x y e)
  apart := fun x y v u e e' => I.apart x y v u (ho _ _ e) (ho _ _ e')
  bor := fun x e => I.bor x (hb ▸ e)
  hdv := fun x e => I.hdv x (hh ▸ e)
theorem ups_none {α : Type} {m : Str → Option α} {z : Str} {v : α} (e : ups m x none z = some v) : z ≠ x ∧ m z = some v := by
  unfold ups at e
  by_cases h : z = x
  · rw [if_pos h] at e; cases e
  · rw [if_neg h] at e; exact ⟨h, e⟩
theorem ups_some {α : Type} {m : Str → Option α} {z : Str} {u v : α} (e : ups m x (some u) z = some v) : z = x ∧ v = u ∨ z ≠ x ∧ m z = some v := by
  unfold ups at e
  by_cases h : z = x
  · rw [if_pos h] at e; exact .inl ⟨h, (Option.some.inj e).symm⟩
  · rw [if_neg h] at e; exact .inr ⟨h, e⟩
theorem ups_elim {α : Type} {m : Str → Option α} {P : Str → α → Prop} {z : Str} {u v : α} (e : ups m x (some u) z = some v) (hx : P x u) (h : z ≠ x → m z = some v → P z v) : P z v :=
  (ups_some e).elim (fun ⟨p, q⟩ => by rw [p, q]; exact hx) fun ⟨p, q⟩ => h p q
theorem Inv.hide (I : Inv C F val ρ c) (x : Str) : Inv C F val (ρ.hide x) c := I.sub rfl rfl rfl rfl (fun _ _ e => e) fun _ _ e => (ups_none e).2
theorem Inv.addF (I : Inv C F val (ρ.drop x) c) (iv : isVar ρ.ns x) {u : Value} (e : val x = some u) (r : Rep C c.Z u y) : Inv C F val (ρ.set x y) c where
  sta := I.sta
  bas := I.bas
  fr := fun z v q => ups_elim (P := fun z y => isVar ρ.ns z ∧ ∃ u, val z = some u ∧ Rep C c.Z u y) q ⟨iv, u, e, r⟩ fun q1 q2 => I.fr z v ((ups_ne q1).trans q2)
  ow := I.ow
  apart := I.apart
  bor := I.bor
  hdv := I.hdv
theorem Inv.addO (I : Inv C F val ρ c) (iv : isVar ρ.ns x) (e : val x = some (.ref a)) (r : OwnAt C F ρ.ns c y a) (ho : ∀ z v, z ≠ x → ρ.ow z = some v → val z ≠ some (.ref a)) : Inv C F val (ρ.upd x y) c where
  sta := I.sta
  bas := I.bas
  fr := I.fr
  ow := fun z v q => ups_elim (P := fun z y => isVar ρ.ns z ∧ ∃ a, val z = some (.ref a) ∧ OwnAt C F ρ.ns c y a) q ⟨iv, a, e, r⟩ fun _ q2 => I.ow z v q2
  apart := fun z z' v v' q q' n => (ups_some q).elim
    (fun ⟨q1, _⟩ => (ups_some q').elim (fun ⟨p1, _⟩ => q1.trans p1.symm) fun ⟨p1, p2⟩ => (ho z' v' p1 p2 (n ▸ q1 ▸ e)).elim)
    fun ⟨q1, q2⟩ => (ups_some q').elim (fun ⟨p1, _⟩ => (ho z v q1 q2 (n ▸ p1 ▸ e)).elim) fun ⟨_, p2⟩ => I.apart z z' v v' q2 p2 n
  bor := I.bor
  hdv := I.hdv
theorem Inv.upd {v : V} (I : Inv C F val ρ c) (e : ρ.ow x = some v) (q : val x = some (.ref a)) (g : Gro a c c') (o : Own C c'.Z c'.s.heap a y) : Inv C F val (ρ.upd x y) c' := by
  obtain ⟨iv, b, p, r⟩ := I.ow x v e
  have hb : b = a := ref_eq (got p q)
  rw [hb] at r
  have ho : ∀ z u, z ≠ x → ρ.ow z = some u → val z ≠ some (.ref a) := fun z u nz ez qz => nz (I.apart z x u v ez e (qz.trans q.symm))
  have J := (I.hide x).touch g.toGro0 r.hid.k r.hid.p fun z u ez => ho z u (ups_none ez).1 (ups_none ez).2
  refine (J.addO (y := y) iv q ⟨o, g.hid r.hid.z r.own.live, r.hid.k, r.hid.p, r.hid.t⟩ (fun z u nz ez => ho z u nz (ups_none ez).2)).sub rfl rfl rfl rfl (fun _ _ e => e) fun z u ez => ?_
  exact (ups_some ez).elim (fun ⟨p1, p2⟩ => p1 ▸ p2 ▸ ups_here) fun ⟨p1, p2⟩ => (ups_ne p1).trans ((ups_ne p1).trans p2)
end
end Mine
end
section
namespace Mine
open PySem PyProof.Rows
section
variable {C : Cx} {F : Fm} {val : Str → Option Value} {ns : List (Str × NameKind)} {lam : Bool} {ρ ρ' : St} {c c' : Cf} {a b d : Addr} {h h' : Heap} {x : Str} {y : V} {v : Value} {A : Around} {E : Value → Shared → Prop} {tk' : Nat}
theorem ups_val {α : Type} {m m' : Str → α} {u : α} (z : Str) (q : m z = m' z) : (if z = x then u else m z) = ups m' x u z := by unfold ups; rw [q]
theorem Bas.put (S : Sta F ns lam) (B : Bas C F val ns c) (p : F.plc ns b) (s : Heap.SameBut b c.s.heap h') (t : c.s.toks ≤ tk') {val' : Str → Option Value} (loc : ∃ m, h'.Ns F.env.locals m ∧ ∀ x, ns.lookup x = some .local → m x = val' x)
    (cel : ∀ x a, ns.lookup x = some .cell ∨ ns.lookup x = some .free → F.env.cells.lookup x = some a → h'.IsCell a (val' x)) : Bas C F val' ns (c.at h' tk') :=
  have z := B.plZ b p
  have k := S.plK b p
  ⟨⟨B.ok.base, fun a o e => (s.2 a (ne_of_get e z)).trans (B.ok.zin a o e), B.ok.tok.mono t⟩, fun a o e => (s.2 a (ne_of_get e k)).trans (B.kin a o e), B.tab.mono (ZLe.rfl' _) fun o e => (s.2 lamP (Ne.symm (S.plT b p))).trans e, B.tabZ, B.plZ, loc, cel⟩
theorem Sta.free_ne (S : Sta F ns lam) {z : Str} (k : ns.lookup z = some .free) (e : F.env.cells.lookup z = some a) (p : F.plc ns b) : a ≠ b :=
  let ⟨_, _, e', q⟩ := S.outer z k; fun n => no_some (S.plK b p) (n ▸ got e e' ▸ q)
theorem kind_ne {k k' : NameKind} {z : Str} (h : ns.lookup x = some k) (h' : ns.lookup z = some k') (n : k ≠ k') : z ≠ x := fun e => n (got h (e ▸ h'))
theorem wpAny_store {Q : Unit → Shared → Prop} (S : Sta F ns lam) (B : Bas C F val ns c) (hm : ns.lookup x = some .local ∨ ns.lookup x = some .cell)
    (h : ∀ h' tk', c.s.toks ≤ tk' → Bas C F (ups val x (some v)) ns (c.at h' tk') → ∀ b, F.plc ns b → Heap.SameBut b c.s.heap h' → Q () (c.at h' tk').s) : wpAny C.m A (storeName F.env x v) Q E c.s := by
  obtain ⟨m, n, q⟩ := B.loc
  refine hm.elim (fun k => ?_) fun k => ?_
  · have p : F.plc ns F.env.locals := .inl rfl
    refine wpAny_storeName_local (S.names x _ k) n (fun h' hn hs => h h' _ (Nat.le_succ _) (B.put S p hs (Nat.le_succ _) ⟨_, hn, fun z kz => ups_val z (q z kz)⟩ fun z a kz e => ?_) _ p hs) (by rw [S.kind]; rfl)
    have nz : z ≠ x := kz.elim (fun kz => kind_ne k kz nofun) fun kz => kind_ne k kz nofun
    rw [ups_ne nz]
    exact (B.cel z a kz e).sameBut hs (kz.elim (fun kz => Ne.symm (S.locC z a kz e)) fun kz => S.free_ne kz e p)
  · obtain ⟨a0, e0⟩ := S.hasC x k
    have p : F.plc ns a0 := .inr ⟨x, k, e0⟩
    refine wpAny_storeName_cell S.kind (S.names x _ k) e0 (B.cel x a0 (.inl k) e0) fun h' hc hs => h h' _ (Nat.le_refl _) (B.put S p hs (Nat.le_refl _) ⟨m, n.sameBut hs (S.locC x a0 k e0), fun z kz => (q z kz).trans (ups_ne (kind_ne k kz nofun)).symm⟩ fun z a kz e => ?_) a0 p hs
    by_cases nz : z = x
    · rw [got (show F.env.cells.lookup x = some a from nz ▸ e) e0, nz, ups_here]; exact hc
    · rw [ups_ne nz]
      exact (B.cel z a kz e).sameBut hs (kz.elim (fun kz q => nz (S.apartC z x a0 kz k (q ▸ e) e0)) fun kz => S.free_ne kz e p)
structure BoOk (ρ : St) (x : Str) : Prop where
  b : ρ.bo ≠ some x
  h : ρ.hd ≠ some x
theorem pin_ne {α : Type} {o : Option Str} {val : Str → Option α} {z : Str} {u v : α} (n : o ≠ some x) (e : o = some z) (q : val z = some u) : ups val x (some v) z = some u := (ups_ne fun h : z = x => n (h ▸ e)).trans q
theorem Inv.stored (I : Inv C F val ρ c) (hb : BoOk ρ x) (B : Bas C F (ups val x (some v)) ρ.ns (c.at h' tk')) (p : F.plc ρ.ns b) (s : Heap.SameBut b c.s.heap h') : Inv C F (ups val x (some v)) (ρ.drop x) (c.at h' tk') where
  sta := I.sta
  bas := B
  fr := fun z u e => let ⟨n, e⟩ := ups_none e; let ⟨k, w, q, r⟩ := I.fr z u e; ⟨k, w, (ups_ne n).trans q, r⟩
  ow := fun z u e => let ⟨n, e⟩ := ups_none e; let ⟨k, a, q, r⟩ := I.ow z u e; ⟨k, a, (ups_ne n).trans q, r.own.mono (ZLe.rfl' _) fun o e => (s.2 a fun n => r.hid.p (n ▸ p)).trans e, r.hid⟩
  apart := fun z z' u u' e e' q => let ⟨n, e⟩ := ups_none e; let ⟨n', e'⟩ := ups_none e'; I.apart z z' u u' e e' ((ups_ne n).symm.trans (q.trans (ups_ne n')))
  bor := fun z e => pin_ne hb.b e (I.bor z e)
  hdv := fun z e => pin_ne hb.h e (I.hdv z e)
theorem Inv.toF (I : Inv C F (ups val x (some v)) (ρ.drop x) c) (hm : ρ.mine x = true) (r : Rep C c.Z v y) : Inv C F (ups val x (some v)) (ρ.set x y) c := I.addF (mine_is hm) ups_here r
theorem setO_eq : ρ.setO x y = (ρ.drop x).upd x y := by
  unfold St.setO St.upd St.drop ups
  congr 1
  funext z
  by_cases h : z = x <;> simp [h]
theorem put_any {Q : Unit → Shared → Prop} (I : Inv C F val ρ c) (hm : ρ.mine x = true) (hb : BoOk ρ x) (r : Rep C c.Z v y) (h : ∀ h' tk', Inv C F (ups val x (some v)) (ρ.set x y) (c.at h' tk') → Q () (c.at h' tk').s) : wpAny C.m A (storeName F.env x v) Q E c.s :=
  wpAny_store I.sta I.bas (mine_var hm) fun h' tk' _ B _ p s => h h' tk' ((I.stored hb B p s).toF hm r)
theorem Inv.toO (I : Inv C F (ups val x (some (.ref a))) (ρ.drop x) c) (hm : ρ.mine x = true) (o : OwnAt C F ρ.ns c y a) (ho : ∀ z v, ρ.ow z = some v → val z ≠ some (.ref a)) : Inv C F (ups val x (some (.ref a))) (ρ.setO x y) c := by
  rw [setO_eq]
  exact I.addO (mine_is hm) ups_here o fun z v n e q => ho z v (ups_none e).2 ((ups_ne n).symm.trans q)
theorem own_any {Q : Unit → Shared → Prop} (I : Inv C F val ρ c) (hm : ρ.mine x = true) (hb : BoOk ρ x) (o : Own C c.Z c.s.heap a y) (f : Free F val ρ c a)
    (h : ∀ h' tk' b, c.s.toks ≤ tk' → Heap.SameBut b c.s.heap h' → F.plc ρ.ns b → Inv C F (ups val x (some (.ref a))) (ρ.setO x y) (c.at h' tk') → Q () (c.at h' tk').s) : wpAny C.m A (storeName F.env x (.ref a)) Q E c.s :=
  wpAny_store I.sta I.bas (mine_var hm) fun h' tk' t B b p s => h h' tk' b t s p ((I.stored hb B p s).toO hm ⟨o.mono (ZLe.rfl' _) fun o e => (s.2 a fun n => f.hid.p (n ▸ p)).trans e, f.hid⟩ f.ow)
noncomputable def St.frz (ρ : St) (S : Str → Bool) : St := { ρ with fr := fun x => if S x = true then (ρ.ow x).or (ρ.fr x) else ρ.fr x, ow := fun x => if S x = true then none else ρ.ow x }
theorem ite_none {α : Type} {p : Prop} [Decidable p] {o : Option α} {u : α} (e : (if p then none else o) = some u) : ¬ p ∧ o = some u := by
  by_cases h : p
  · rw [if_pos h] at e; cases e
  · exact ⟨h, (if_neg h).symm.trans e⟩
theorem Inv.frz (I : Inv C F val ρ c) (S : Str → Bool) : ∃ Z', Inv C F val (ρ.frz S) ⟨Z', c.s⟩ ∧ Stp F c ⟨Z', c.s⟩ := by
  classical
  let P : Addr → Bool := fun a => decide (∃ x v, ρ.ow x = some v ∧ S x = true ∧ val x = some (.ref a))
  have zin := I.ok.zin
  have own : ∀ {a}, P a = true → ∃ y, OwnAt C F ρ.ns c y a := fun e => let ⟨x, v, e1, _, e3⟩ := of_decide_eq_true e; let ⟨_, _, q, r⟩ := I.ow x v e1; ⟨v, ref_eq (got q e3) ▸ r⟩
  have zle : ZLe c.Z (c.Z.more c.s.heap P) := Fz.more_le zin
  have hide : ∀ {a}, c.Z.hp.get? a = none → ¬ P a = true → (c.Z.more c.s.heap P).hp.get? a = none := fun e n => Fz.more_none e (Bool.eq_false_iff.mpr n)
  refine ⟨c.Z.more c.s.heap P, ⟨I.sta, ⟨⟨I.ok.base.trans zle.hp, Fz.more_in, I.ok.tok.pos, I.ok.tok.lt⟩, I.bas.kin, I.bas.tab.mono zle fun _ e => e, hide I.bas.tabZ fun e => let ⟨_, r⟩ := own e; r.hid.t rfl, fun a p => hide (I.bas.plZ a p) fun e => let ⟨_, r⟩ := own e; r.hid.p p, I.bas.loc, I.bas.cel⟩, fun x y e => ?_, fun x y e => ?_, fun x y v u e e' => I.apart x y v u (ite_none e).2 (ite_none e').2, I.bor, I.hdv⟩,
    zle, fun a o e => (Fz.more_old zin e).imp id fun e => let ⟨_, r⟩ := own e; r.hid.k, Rst.rfl' _⟩
  · have old : ρ.fr x = some y → isVar ρ.ns x ∧ ∃ u, val x = some u ∧ Rep C (c.Z.more c.s.heap P) u y := fun e => let ⟨k, u, q, r⟩ := I.fr x y e; ⟨k, u, q, r.mono zle⟩
    by_cases hs : S x = true
    · have e := (if_pos hs).symm.trans e
      cases ho : ρ.ow x with
      | none => rw [ho] at e; exact old e
      | some v =>
        rw [ho] at e
        obtain ⟨k, a, q, r⟩ := I.ow x v ho
        exact ⟨k, _, q, Option.some.inj e ▸ r.own.frozen zle fun o => Fz.more_here (decide_eq_true ⟨x, v, ho, hs, q⟩)⟩
    · exact old ((if_neg hs).symm.trans e)
  · obtain ⟨hs, e⟩ := ite_none e
    obtain ⟨k, a, q, r⟩ := I.ow x y e
    exact ⟨k, a, q, r.own.mono zle fun _ e => e, hide r.hid.z fun n => let ⟨z, v, e1, e2, e3⟩ := of_decide_eq_true n; hs (I.apart x z y v e e1 (q.trans e3.symm) ▸ e2), r.hid.k, r.hid.p, r.hid.t⟩
noncomputable def addK (Kp h : Heap) (p : Addr → Bool) : Heap := keepP h fun a => (Kp.get? a).isSome || p a
noncomputable abbrev Fm.add (F : Fm) (h : Heap) (p : Addr → Bool) : Fm := { F with Kp := addK F.Kp h p }
theorem addK_here {Kp : Heap} {p : Addr → Bool} {o : Obj} (n : p a = true) (e : h.get? a = some o) : (addK Kp h p).get? a = some o := keepP_some.mpr ⟨by rw [n, Bool.or_true], e⟩
theorem addK_le {Kp : Heap} {p : Addr → Bool} (k : Le Kp h) : Le Kp (addK Kp h p) := fun a o e => keepP_some.mpr ⟨by rw [e]; rfl, k _ _ e⟩
theorem addK_none {Kp : Heap} {p : Addr → Bool} (n : Kp.get? a = none) (m : p a = false) : (addK Kp h p).get? a = none := keepP_none (by rw [n, m]; rfl)
theorem Inv.add (I : Inv C F val ρ c) (p : Addr → Bool) (hp : ∀ a, p a = true → ¬ F.plc ρ.ns a ∧ a ≠ lamP ∧ ∀ x v, ρ.ow x = some v → val x ≠ some (.ref a)) : Inv C (F.add c.s.heap p) val ρ c :=
  have nn : ∀ {a}, F.Kp.get? a = none → ¬ p a = true → (addK F.Kp c.s.heap p).get? a = none := fun n m => addK_none n (Bool.eq_false_iff.mpr m)
  { I with
    sta := { I.sta with
      outer := fun x k => let ⟨a, o, e, q⟩ := I.sta.outer x k; ⟨a, o, e, addK_le I.bas.kin _ _ q⟩
      plK := fun a q => nn (I.sta.plK a q) fun n => (hp a n).1 q
      tabK := nn I.sta.tabK fun n => (hp _ n).2.1 rfl }
    bas := { I.bas with kin := keepP_le _ _ }
    ow := fun x y e => let ⟨k, a, q, r⟩ := I.ow x y e; ⟨k, a, q, r.own, r.hid.z, nn r.hid.k fun n => (hp a n).2.2 x y e q, r.hid.p, r.hid.t⟩ }
theorem Inv.less {K' : Heap} (I : Inv C { F with Kp := K' } val ρ c) (S : Sta F ρ.ns ρ.lam) (k : ∀ a, K'.get? a = none → F.Kp.get? a = none) (l : Le F.Kp c.s.heap) : Inv C F val ρ c :=
  { I with
    sta := S
    bas := { I.bas with kin := l }
    ow := fun x y e => let ⟨kx, a, q, r⟩ := I.ow x y e; ⟨kx, a, q, r.own, r.hid.z, k a r.hid.k, r.hid.p, r.hid.t⟩ }
theorem Stp.less {K' : Heap} (s : Stp { F with Kp := K' } c c') (k : ∀ a, K'.get? a = none → F.Kp.get? a = none) : Stp F c c' := ⟨s.zle, fun a o e => (s.old a o e).imp id (k a), s.rst⟩
theorem add_none {p : Addr → Bool} (l : Le F.Kp h) (a : Addr) (n : (F.add h p).Kp.get? a = none) : F.Kp.get? a = none := (addK_le l).none n
end
end Mine
end
section
namespace Mine
open PySem PyProof.Rows SeqAt
noncomputable def binII (op : Operator) (i j : Int) : Option V :=
  match op with
  | .Add => some (.int (i + j))
  | .Sub => some (.int (i - j))
  | .Mult => if i.natAbs < 2 ^ 62 then some (.int (i * j)) else Option.none
  | .FloorDiv => if j = 0 ∨ ¬ j.natAbs < 2 ^ 30 then Option.none else some (.int (Int.fdiv i j))
  | .Mod => if j = 0 then Option.none else some (.int (Int.fmod i j))
  | .Div => if j = 0 ∨ ¬ i.natAbs < 2 ^ 53 ∨ ¬ j.natAbs < 2 ^ 53 then Option.none else some (.flt (Float64.ofFrac (decide (i < 0) != decide (j < 0)) i.natAbs j.natAbs))
  | .RShift => if j = 1 then some (.int (Int.fdiv i 2)) else Option.none
  | _ => Option.none
noncomputable def binF (op : Operator) (x y : UInt64) : Option V :=
  match op with
  | .Add => some (.flt (Float64.add x y))
  | .Sub => some (.flt (Float64.sub x y))
  | .Mult => some (.flt (Float64.mul x y))
  | .Div => if Float64.isZero y then Option.none else some (.flt (Float64.div x y))
  | _ => Option.none
noncomputable def binFF (op : Operator) (x y : UInt64) : Option V :=
  match op with
  | .Mod => if Float64.isZero y then Option.none else some (.flt (Float64.divmod x y).2)
  | op => binF op x y
noncomputable def binV (op : Operator) (a b : V) : Option V :=
  match a with
  | .int i => (match b with
    | .int j => binII op i j
    | .flt y => if i.natAbs < 2 ^ 33 then binF op (Float64.ofInt i) y else Option.none
    | _ => Option.none)
  | .flt x => (match b with
    | .int j => if j.natAbs < 2 ^ 33 then binF op x (Float64.ofInt j) else Option.none
    | .flt y => binFF op x y
    | _ => Option.none)
  | _ => Option.none
noncomputable def Gives (C : Cx) (A : Around) (t : Sem Value) (c : Cf) (y : V) : Prop := ∀ (Q E : Value → Shared → Prop), (∀ v c', Gro lamP c c' → Rep C c'.Z v y → Q v c'.s) → wpAny C.m A t Q E c.s
noncomputable def GivesNew (C : Cx) (A : Around) (t : Sem Value) (c : Cf) (y : V) : Prop :=
  ∀ (Q E : Value → Shared → Prop), (∀ a c', Gro lamP c c' → Own C c'.Z c'.s.heap a y → c.s.heap.get? a = none → c'.Z.hp.get? a = none → Q (.ref a) c'.s) → wpAny C.m A t Q E c.s
noncomputable def GivesB (C : Cx) (A : Around) (t : Sem Bool) (c : Cf) (r : Bool) : Prop := ∀ (Q : Bool → Shared → Prop) (E : Value → Shared → Prop), (∀ c', Gro lamP c c' → Q r c'.s) → wpAny C.m A t Q E c.s
section
variable {C : Cx} {c : Cf} {A : Around} {t : Sem Value} {y y' : V} {v u : Value} {i j : Int}
theorem Gives.cast (g : Gives C A t c y) (e : some y = some y') : Gives C A t c y' := Option.some.inj e ▸ g
theorem gives_int (k : Ok C c) (h : ∀ (Q E : Value → Shared → Prop), Q (.int i c.s.toks) { c.s with toks := c.s.toks + 1 } → wpAny C.m A t Q E c.s) : Gives C A t c (.int i) :=
  fun Q E hQ => h Q E (hQ _ (c.at c.s.heap _) (Gro.le' k (Le.rfl' _) (Nat.le_succ _)) (Rep.int' i _))
theorem gives_flt {x : UInt64} (k : Ok C c) (h : ∀ (Q E : Value → Shared → Prop), Q (.float x c.s.toks) { c.s with toks := c.s.toks + 1 } → wpAny C.m A t Q E c.s) : Gives C A t c (.flt x) :=
  fun Q E hQ => h Q E (hQ _ ⟨c.Z.float c.s.toks x, { c.s with toks := c.s.toks + 1 }⟩ ⟨⟨fun _ _ _ _ e => e, fun q => q.mono (Fz.float_le k.tok) fun _ e => e, Fz.float_le k.tok, k.zin, fun _ _ e => .inl e, Fz.float_ok k.tok, ⟨rfl, rfl, rfl⟩⟩, fun _ l => l⟩ (Rep.flt' k.tok.pos Fz.float_tk))
theorem gives_plain (k : Ok C c) (r : Rep C c.Z v y) (h : ∀ (Q E : Value → Shared → Prop), Q v c.s → wpAny C.m A t Q E c.s) : Gives C A t c y := fun Q E hQ => h Q E (hQ v c (Gro.rfl' k) r)
theorem gives_le (k : Ok C c) (h : ∀ (Q E : Value → Shared → Prop), (∀ v h' tk', Le c.s.heap h' → Rep C c.Z v y → Q v (c.at h' tk').s) → wpAny C.m A t Q E c.s) : Gives C A t c y := fun Q E hQ =>
  wpAny_with_toks (Nat.le_refl _) (h _ _ fun v h' tk' l r hle => hQ v (c.at h' tk') (Gro.le' k l hle) r)
theorem gives_bool {r : Bool} (k : Ok C c) (h : ∀ (Q E : Value → Shared → Prop), Q (.bool r) c.s → wpAny C.m A t Q E c.s) : Gives C A t c (.bool r) := gives_plain k rfl h
theorem made_int {s : Shared} {Q : Value → Shared → Prop} (h : Q (.int i s.toks) { s with toks := s.toks + 1 }) : (Made.int i).post Q s := h
theorem made_flt {s : Shared} {Q : Value → Shared → Prop} {x : UInt64} (h : Q (.float x s.toks) { s with toks := s.toks + 1 }) : (Made.float x).post Q s := h
theorem fits_of (h : i.natAbs < 2 ^ 33) : i.natAbs < 2 ^ 1023 := Nat.lt_of_lt_of_le h (Nat.pow_le_pow_right (by decide) (by decide))
theorem noInf (h : i.natAbs < 2 ^ 33) : ¬ Float64.isInf (Float64.ofInt i) = true := Float64.ofInt_fits (fits_of h)
theorem frac_big {n k t : Nat} (hn : n < 2 ^ 53) (hk : k ≠ 0) (h1 : k * ((2 ^ 54 - 1) * 2 ^ 2045) ≤ 2 * (n * 2 ^ 1074)) : t < Float64.infMag :=
  (Nat.lt_irrefl _ (Nat.lt_of_lt_of_le (show 2 * (2 ^ 53 * 2 ^ 1074) < 1 * ((2 ^ 54 - 1) * 2 ^ 2045) by decide +kernel)
    (Nat.le_trans (Nat.mul_le_mul_right _ (Nat.pos_of_ne_zero hk)) (Nat.le_trans h1 (Nat.mul_le_mul_left 2 (Nat.mul_le_mul_right _ (Nat.le_of_lt hn))))))).elim
theorem frac_fits {b : Bool} {n k : Nat} (hn : n < 2 ^ 53) (hk : k ≠ 0) : ¬ Float64.isInf (Float64.ofFrac b n k) = true := by
  obtain ⟨t, e, ht, hinf, _⟩ := Float64.ofFrac_right (neg := b) (n := n) (d := k) (W := n * 2 ^ 1074) (D := k) (Nat.pos_of_ne_zero hk) rfl (Nat.pos_of_ne_zero hk)
  rw [e]
  have hlt : t < Float64.infMag := (Nat.lt_or_ge t Float64.infMag).elim id fun h => frac_big hn hk (hinf.mp (Nat.le_antisymm ht h))
  rw [Float64.isInf_pack hlt]; simp
theorem bii_ok {op : Operator} {t u : Tok} (k : Ok C c) (e : binII op i j = some y) : Gives C A (binaryOp op (.int i t) (.int j u)) c y := by
  cases op with
  | Add => exact (gives_int k fun Q E h => add_int h).cast e
  | Sub => exact (gives_int k fun Q E h => sub_int h).cast e
  | Mult =>
    by_cases hb : i.natAbs < 2 ^ 62
    · exact (gives_int k fun Q E h => mul_int h (IntMulOk.of_left (Nat.le_trans (intBits_le hb) (by decide)))).cast ((if_pos hb).symm.trans e)
    · exact nomatch (if_neg hb).symm.trans e
  | FloorDiv =>
    by_cases hb : j = 0 ∨ ¬ j.natAbs < 2 ^ 30
    · exact nomatch (if_pos hb).symm.trans e
    · obtain ⟨h0, h1⟩ := not_or.mp hb
      exact (gives_int k fun Q E h => floordiv_int h0 h (Or.inl (PyProof.noPylong_small (Nat.lt_of_lt_of_le (Classical.not_not.mp h1) (by decide))))).cast ((if_neg hb).symm.trans e)
  | Mod =>
    by_cases hb : j = 0
    · exact nomatch (if_pos hb).symm.trans e
    · exact (gives_int k fun Q E h => mod_int' hb h).cast ((if_neg hb).symm.trans e)
  | Div =>
    by_cases hb : j = 0 ∨ ¬ i.natAbs < 2 ^ 53 ∨ ¬ j.natAbs < 2 ^ 53
    · exact nomatch (if_pos hb).symm.trans e
    · obtain ⟨h0, h1⟩ := not_or.mp hb
      have hi := Classical.not_not.mp (not_or.mp h1).1
      have hj := Classical.not_not.mp (not_or.mp h1).2
      exact (gives_flt k fun Q E h => AutoIntOps.truediv_2 (by simp; omega) (frac_fits hi (fun q => h0 (Int.natAbs_eq_zero.mp q))) (made_flt h)).cast ((if_neg hb).symm.trans e)
  | RShift =>
    by_cases hb : j = 1
    · subst hb
      exact (gives_int k fun Q E h => rshift_int (by decide) h).cast (show some (V.int (Int.fdiv i 2)) = some y from e)
    · exact nomatch (if_neg hb).symm.trans e
  | _ => exact nomatch e
theorem bff_ok {op : Operator} {p q : UInt64} {t u : Tok} (k : Ok C c) (e : binFF op p q = some y) : Gives C A (binaryOp op (.float p t) (.float q u)) c y := by
  cases op with
  | Add => exact (gives_flt k fun Q E h => add_float h).cast e
  | Sub => exact (gives_flt k fun Q E h => sub_float h).cast e
  | Mult => exact (gives_flt k fun Q E h => mul_float h).cast e
  | Div =>
    by_cases hb : Float64.isZero q = true
    · exact nomatch (if_pos hb).symm.trans e
    · exact (gives_flt k fun Q E h => AutoFloatOps.truediv_1 hb (made_flt h)).cast ((if_neg hb).symm.trans e)
  | Mod =>
    by_cases hb : Float64.isZero q = true
    · exact nomatch (if_pos hb).symm.trans e
    · exact (gives_flt k fun Q E h => AutoFloatOps.mod_1 hb (made_flt h)).cast ((if_neg hb).symm.trans e)
  | _ => exact nomatch e
theorem bfi_ok {op : Operator} {p : UInt64} {t u : Tok} (k : Ok C c) (hb : j.natAbs < 2 ^ 33) (e : binF op p (Float64.ofInt j) = some y) : Gives C A (binaryOp op (.float p t) (.int j u)) c y := by
  cases op with
  | Add => exact (gives_flt k fun Q E h => add_fi_fits (fits_of hb) h).cast e
  | Sub => exact (gives_flt k fun Q E h => sub_fi_fits (fits_of hb) h).cast e
  | Mult => exact (gives_flt k fun Q E h => mul_fi_fits (fits_of hb) h).cast e
  | Div =>
    by_cases hz : Float64.isZero (Float64.ofInt j) = true
    · exact nomatch (if_pos hz).symm.trans e
    · exact (gives_flt k fun Q E h => AutoFloatOps.truediv_fi_2 (noInf hb) hz (made_flt h)).cast ((if_neg hz).symm.trans e)
  | _ => exact nomatch e
theorem bif_ok {op : Operator} {p : UInt64} {t u : Tok} (k : Ok C c) (hb : j.natAbs < 2 ^ 33) (e : binF op (Float64.ofInt j) p = some y) : Gives C A (binaryOp op (.int j u) (.float p t)) c y := by
  cases op with
  | Add => exact (gives_flt k fun Q E h => add_if_fits (fits_of hb) h).cast e
  | Sub => exact (gives_flt k fun Q E h => sub_if_fits (fits_of hb) h).cast e
  | Mult => exact (gives_flt k fun Q E h => mul_if_fits (fits_of hb) h).cast e
  | Div =>
    by_cases hz : Float64.isZero p = true
    · exact nomatch (if_pos hz).symm.trans e
    · exact (gives_flt k fun Q E h => AutoFloatOps.truediv_if_2 (noInf hb) hz (made_flt h)).cast ((if_neg hz).symm.trans e)
  | _ => exact nomatch e
theorem of_ite {α : Type} {p : Prop} [Decidable p] {o : Option α} {x : α} (e : (if p then o else none) = some x) : p ∧ o = some x := by
  by_cases h : p
  · exact ⟨h, (if_pos h).symm.trans e⟩
  · exact nomatch (if_neg h).symm.trans e
theorem bin_if {op : Operator} {z : UInt64} (e : binV op (.int i) (.flt z) = some y) : i.natAbs < 2 ^ 33 ∧ binF op (Float64.ofInt i) z = some y := of_ite (p := i.natAbs < 2 ^ 33) (o := binF op (Float64.ofInt i) z) e
theorem bin_fi {op : Operator} {z : UInt64} (e : binV op (.flt z) (.int i) = some y) : i.natAbs < 2 ^ 33 ∧ binF op z (Float64.ofInt i) = some y := of_ite (p := i.natAbs < 2 ^ 33) (o := binF op z (Float64.ofInt i)) e
theorem bin_i {op : Operator} {b : V} {t : Tok} (k : Ok C c) (rb : RT C c u b) (e : binV op (.int i) b = some y) : Gives C A (binaryOp op (.int i t) u) c y := by
  cases b with
  | int j => exact let ⟨_, q⟩ := rb.toInt; q ▸ bii_ok k e
  | flt y => exact let ⟨_, q, _⟩ := rb.toFlt; have e := bin_if e; q ▸ bif_ok k e.1 e.2
  | _ => exact no_some (o := (none : Option V)) rfl e
theorem bin_f {op : Operator} {b : V} {p : UInt64} {t : Tok} (k : Ok C c) (rb : RT C c u b) (e : binV op (.flt p) b = some y) : Gives C A (binaryOp op (.float p t) u) c y := by
  cases b with
  | int j => exact let ⟨_, q⟩ := rb.toInt; have e := bin_fi e; q ▸ bfi_ok k e.1 e.2
  | flt y => exact let ⟨_, q, _⟩ := rb.toFlt; q ▸ bff_ok k e
  | _ => exact no_some (o := (none : Option V)) rfl e
theorem bin_ok {op : Operator} {a b : V} (k : Ok C c) (ra : RT C c v a) (rb : RT C c u b) (e : binV op a b = some y) : Gives C A (binaryOp op v u) c y := by
  cases a with
  | int i => exact let ⟨_, q⟩ := ra.toInt; q ▸ bin_i k rb e
  | flt x => exact let ⟨_, q, _⟩ := ra.toFlt; q ▸ bin_f k rb e
  | _ => exact no_some (o := (none : Option V)) rfl e
end
end Mine
end
section
namespace Mine
open PySem PyProof.Rows SeqAt
noncomputable def dictHit (y : List (Int × Int)) : List (Int × Int) → Bool
  | [] => true
  | p :: r => match y.lookup p.1 with
    | some j => (p.2 == j) && dictHit y r
    | none => false
noncomputable def dictEq (x y : List (Int × Int)) : Bool := x.length == y.length && dictHit y x
noncomputable def eqL (f : V → V → Option Bool) : List V → List V → Option Bool
  | [], ys => (match ys with
    | [] => some true
    | _ :: _ => none)
  | x :: xs, ys => (match ys with
    | [] => none
    | y :: ys => (f x y).bind fun b => (eqL f xs ys).map (b && ·))
noncomputable def eqV : Nat → V → V → Option Bool
  | 0, _, _ => none
  | n + 1, a, b => match a with
    | .list xs => (match b with
      | .list ys => if xs.length = ys.length then eqL (eqV n) xs ys else some false
      | _ => none)
    | .dict x => (match b with
      | .dict y => some (dictEq x y)
      | _ => none)
    | .int i => (match b with
      | .int j => some (i == j)
      | _ => none)
    | .flt x => (match b with
      | .flt y => (Float64.cmp x y).map (· == .eq)
      | .int j => some (Float64.cmpInt x j == some .eq)
      | _ => none)
    | _ => none
theorem cmp_self {p : UInt64} {o : Ordering} (e : Float64.cmp p p = some o) : o = .eq := by
  unfold Float64.cmp at e
  cases d : Float64.decode p with
  | nan => simp [d] at e
  | inf b => cases b <;> (simp [d] at e; try exact e.symm)
  | fin a m k =>
    simp [d, Float64.align] at e
    exact e.symm
theorem of_map {α β : Type} {f : α → β} {o : Option α} {y : β} (e : o.map f = some y) : ∃ x, o = some x ∧ f x = y := Option.map_eq_some_iff.mp e
theorem of_bind {α β : Type} {f : α → Option β} {o : Option α} {y : β} (e : o.bind f = some y) : ∃ x, o = some x ∧ f x = some y := Option.bind_eq_some_iff.mp e
section
variable {A : Around} {s : Shared}
theorem told_false {prog : Program} {w : World} {E : Value → Shared → Prop} (T : Told s.heap) {tk : Tok} {Q : Bool → Shared → Prop} (h : Q false s) : wpAny (model prog w) A (sharingNotTold tk) Q E s := by
  obtain ⟨mc, hn, hk⟩ := T
  unfold sharingNotTold
  refine wpAny_bind (wpAny_nsGet hn ?_)
  rw [hk]; exact wpAny_pure h
theorem same_flt {prog : Program} {w : World} {E : Value → Shared → Prop} {p q : UInt64} {t u : Tok} (ht : 0 < t) (hu : 0 < u) (same : t = u → p = q) (T : Told s.heap) {Q : Bool → Shared → Prop} (h : ∀ b, (b = true → p = q) → Q b s) :
    wpAny (model prog w) A (isSame (.float p t) (.float q u)) Q E s := by
  have ht0 : (t == 0) = false := by simpa using Nat.ne_of_gt ht
  have hu0 : (u == 0) = false := by simpa using Nat.ne_of_gt hu
  unfold isSame isSame.created
  simp only [ht0, hu0, Bool.or_self, Bool.false_eq_true, if_false]
  cases htu : t == u with
  | true => exact wpAny_pure (h true fun _ => same (eq_of_beq htu))
  | false =>
    simp only [Bool.false_eq_true, if_false]
    cases hpq : p == q && !Float64.isNaN p with
    | false => exact wpAny_pure (h false nofun)
    | true =>
      have e : p = q := eq_of_beq (Bool.and_eq_true _ _ ▸ hpq : _ ∧ _).1
      exact wpAny_bind (told_false (tk := t) T (wpAny_bind (told_false (tk := u) T (wpAny_bind (wpAny_rule (wpAny_bind (wpAny_askSetting (wpAny_pure (h _ fun _ => e)))))))))
theorem eqAt_fi {p : UInt64} {j : Int} {t u : Tok} : EqAt A s (.float p t) (.int j u) (Float64.cmpInt p j == some .eq) := fun prog w E Q h => by
  unfold eqBool
  refine wpAny_holding ?_
  cases hab : Value.float p t == Value.int j u with
  | true => exact absurd (eq_of_beq hab) nofun
  | false =>
  refine wpAny_bind (eq_fi ?_)
  show wpAny _ _ (truthy (.bool _)) _ _ _
  exact wpAny_truthy_bool h
theorem eqAt_flt {p q : UInt64} {t u : Tok} {o : Ordering} (ht : 0 < t) (hu : 0 < u) (same : t = u → p = q) (T : Told s.heap) (c : Float64.cmp p q = some o) : EqAt A s (.float p t) (.float q u) (o == .eq) := fun prog w E Q h => by
  have self : p = q → Q true s := fun e => by have := cmp_self (e ▸ c); rw [this] at h; exact h
  have rich : wpAny (model prog w) A (do let r ← richCompare .Eq (.float p t) (.float q u); truthOfDropped r) Q E s := by
    refine wpAny_bind (AutoFloatOps.eq_0 ?_)
    show wpAny _ _ (truthy (.bool _)) _ _ _
    refine wpAny_truthy_bool ?_
    rw [c]
    cases o <;> exact h
  unfold eqBool
  refine wpAny_holding ?_
  cases hab : Value.float p t == Value.float q u with
  | true => exact wpAny_bind (wpAny_rule (wpAny_pure (self (by injection eq_of_beq hab))))
  | false => exact wpAny_bind (same_flt ht hu same T fun b e => match b, e with
    | true, e => wpAny_pure (self (e rfl))
    | false, _ => rich)
end
section
variable {C : Cx} {Z : Fz} {c : Cf}
theorem eqL_all {f : V → V → Option Bool} : ∀ {xs ys : List V} {r : Bool}, eqL f xs ys = some r →
    xs.length = ys.length ∧ ∃ e : Nat → Bool, (∀ j (h1 : j < xs.length) (h2 : j < ys.length), f xs[j] ys[j] = some (e j)) ∧ r = (List.range xs.length).all e
  | [], [], r, h => ⟨rfl, fun _ => true, fun j h1 => absurd h1 (Nat.not_lt_zero _), (Option.some.inj h).symm⟩
  | [], _ :: _, r, h => no_some (o := (none : Option Bool)) rfl h
  | _ :: _, [], r, h => no_some (o := (none : Option Bool)) rfl h
  | x :: xs, y :: ys, r, h => by
    obtain ⟨b, hb, h⟩ := of_bind h
    obtain ⟨r', hr, h⟩ := of_map h
    obtain ⟨hl, e, he, hr'⟩ := eqL_all hr
    refine ⟨congrArg (· + 1) hl, fun j => Nat.casesOn j b e, fun j => Nat.casesOn j (fun _ _ => hb) fun j h1 h2 => he j (Nat.lt_of_succ_lt_succ h1) (Nat.lt_of_succ_lt_succ h2), ?_⟩
    rw [← h, hr', List.length_cons, List.range_succ_eq_map, List.all_cons, List.all_map]
    rfl
theorem valueAt_rep (k : Int) : ∀ {es : List (Int × Int)} {kvs : List (Int × Value)}, RepD kvs es → (es.lookup k = none ∧ valueAt kvs k = none) ∨ ∃ j t, es.lookup k = some j ∧ valueAt kvs k = some (.int j t)
  | [], _, e => e ▸ .inl ⟨rfl, rfl⟩
  | (k', j') :: es, _, ⟨t, r, e, q⟩ => by
    have ih := valueAt_rep k q
    subst e
    unfold valueAt at ih ⊢
    rw [List.lookup_cons, List.find?_cons]
    by_cases hk : k = k'
    · subst hk; exact .inr ⟨j', t, by simp, by simp⟩
    · have h1 : (k == k') = false := by simpa using hk
      have h2 : ¬ k' = k := fun e => hk e.symm
      simp only [h1, h2, decide_false]
      exact ih
theorem hits_ok {A : Around} {s : Shared} {kb : List (Int × Value)} {eb : List (Int × Int)} (rb : RepD kb eb) : ∀ {ea : List (Int × Int)} {ka : List (Int × Value)}, RepD ka ea → W.KeqHits A s kb ka (dictHit eb ea)
  | [], _, e => e ▸ .nil
  | (k, j) :: ea, _, ⟨t, r, e, q⟩ => by
    have ih := hits_ok (A := A) (s := s) rb q
    subst e
    unfold dictHit
    rcases valueAt_rep k rb with ⟨e1, e2⟩ | ⟨j', t', e1, e2⟩
    · simp only [e1]; exact .miss e2
    · simp only [e1]; exact .hit e2 (EqAt.int_int j t j' t') ih
theorem repD_fun : ∀ {es fs : List (Int × Int)} {kvs : List (Int × Value)}, RepD kvs es → RepD kvs fs → es = fs
  | [], [], _, _, _ => rfl
  | [], _ :: _, _, e, ⟨_, _, e', _⟩ => nomatch e.symm.trans e'
  | _ :: _, [], _, ⟨_, _, e', _⟩, e => nomatch e.symm.trans e'
  | (k, j) :: es, (k', j') :: fs, _, ⟨t, r, e, q⟩, ⟨t', r', e', q'⟩ => by
    have h := List.cons.inj (e.symm.trans e')
    have h1 := Prod.mk.inj h.1
    rw [show (k, j) = (k', j') from Prod.ext h1.1 (Value.int.inj h1.2).1, repD_fun q (h.2 ▸ q')]
theorem lookup_nodup : ∀ {es : List (Int × Int)}, (es.map (·.1)).Nodup → ∀ p ∈ es, es.lookup p.1 = some p.2
  | [], _, p, hp => nomatch hp
  | q :: r, hn, p, hp => by
    rw [List.map_cons, List.nodup_cons] at hn
    rw [List.lookup_cons]
    rcases List.mem_cons.mp hp with rfl | hp
    · simp
    · have : (p.1 == q.1) = false := beq_eq_false_iff_ne.mpr fun e => hn.1 (e ▸ List.mem_map_of_mem hp)
      rw [this]
      exact lookup_nodup hn.2 p hp
theorem dictHit_sub {es : List (Int × Int)} (hn : (es.map (·.1)).Nodup) : ∀ {r : List (Int × Int)}, (∀ p ∈ r, p ∈ es) → dictHit es r = true
  | [], _ => rfl
  | p :: r, h => by
    unfold dictHit
    rw [lookup_nodup hn p (h p List.mem_cons_self)]
    show (p.2 == p.2 && dictHit es r) = true
    rw [beq_self_eq_true, dictHit_sub hn fun q hq => h q (List.mem_cons_of_mem _ hq)]; rfl
theorem dictEq_self {es : List (Int × Int)} (hn : (es.map (·.1)).Nodup) : dictEq es es = true := by
  unfold dictEq
  rw [beq_self_eq_true, dictHit_sub hn fun _ h => h]; rfl
theorem range_all {n : Nat} {e : Nat → Bool} (h : ∀ j, j < n → e j = true) : (List.range n).all e = true := List.all_eq_true.mpr fun j hj => h j (List.mem_range.mp hj)
theorem plist_fun {h : Heap} {a : Addr} {vs us : List Value} (p : h.PlainList a vs.toArray) (q : h.PlainList a us.toArray) : vs = us := by
  obtain ⟨n, e⟩ := p
  obtain ⟨m, e'⟩ := q
  injection got e e' with _ _ e' _
  injection e' with e' _
  exact congrArg Array.toList e'
theorem pairs_fun {prog : Program} {w : World} {l : List DictEntry} {ka kb : List (Int × Value)} (p : Pairs (intKind prog w) l ka) (q : Pairs (intKind prog w) l kb) : ka = kb := by
  induction p generalizing kb with
  | nil => cases q; rfl
  | cons hk hv _ ih => cases q with
    | cons hk' hv' r' => exact ih r' ▸ congrArg (· :: _) (Prod.ext ((intKind prog w).inj _ _ _ hk hk') (hv.symm.trans hv'))
theorem dict_fun {prog : Program} {w : World} {h : Heap} {a : Addr} {ka kb : List (Int × Value)} (p : h.DictOf (intKind prog w) a ka) (q : h.DictOf (intKind prog w) a kb) : ka = kb := by
  obtain ⟨o, es, ep, e, _, d, _, pr, _⟩ := p
  obtain ⟨o', es', ep', e', _, d', _, pr', _⟩ := q
  rw [got e e', d'] at d
  injection d with d _
  exact pairs_fun pr (d ▸ pr')
theorem pairs_any {prog prog' : Program} {w w' : World} {l : List DictEntry} {kvs : List (Int × Value)} (p : Pairs (intKind prog w) l kvs) : Pairs (intKind prog' w') l kvs := by
  induction p with
  | nil => exact .nil
  | cons hk hv _ ih => exact .cons hk hv ih
theorem dictOf_any {prog' : Program} {w' : World} {h : Heap} {a : Addr} {kvs : List (Int × Value)} (p : h.DictOf C.ki a kvs) : h.DictOf (intKind prog' w') a kvs :=
  let ⟨o, es, ep, e, x, d, k, pr, n⟩ := p; ⟨o, es, ep, e, x, d, k, pairs_any pr, n⟩
theorem dict_nodup {h : Heap} {a : Addr} {kvs : List (Int × Value)} (p : h.DictOf C.ki a kvs) : (kvs.map (·.1)).Nodup := let ⟨_, _, _, _, _, _, _, _, n⟩ := p; n
theorem same_true : ∀ (n : Nat) {v : Value} {a b : V} {r : Bool}, Rep C Z v a → Rep C Z v b → eqV n a b = some r → r = true
  | 0, _, _, _, _, _, _, e => no_some (o := (none : Option Bool)) rfl e
  | n + 1, v, a, b, r, p, q, e => by
    cases a with
    | list xs => cases b with
      | list ys =>
        obtain ⟨l, vs, e1, p1, p2⟩ := p
        obtain ⟨l', us, e2, q1, q2⟩ := q
        have := plist_fun p1 ((ref_eq (e2.symm.trans e1)) ▸ q1)
        rw [← this] at q2
        have hl : xs.length = ys.length := p2.len.symm.trans q2.len
        obtain ⟨_, f, hf, h⟩ := eqL_all ((if_pos hl).symm.trans e)
        exact h ▸ range_all fun j hj => same_true n (p2.at j (p2.len ▸ hj) hj) (q2.at j (p2.len ▸ hj) (hl ▸ hj)) (hf j hj (hl ▸ hj))
      | _ => exact no_some (o := (none : Option Bool)) rfl e
    | dict x => cases b with
      | dict y =>
        obtain ⟨l, vs, e1, _, p1, p2⟩ := p
        obtain ⟨l', us, e2, _, q1, q2⟩ := q
        have := dict_fun p1 ((ref_eq (e2.symm.trans e1)) ▸ q1)
        rw [← this] at q2
        have h : some (dictEq x y) = some r := e
        rw [repD_fun p2 q2, dictEq_self (q2.keys ▸ dict_nodup p1)] at h
        exact (Option.some.inj h).symm
      | _ => exact no_some (o := (none : Option Bool)) rfl e
    | int i => cases b with
      | int j =>
        obtain ⟨t, e1⟩ := p
        obtain ⟨t', e2⟩ := q
        exact (Option.some.inj (show some (i == j) = some r from e)).symm.trans (beq_iff_eq.mpr (Value.int.inj (e1.symm.trans e2)).1)
      | _ => exact no_some (o := (none : Option Bool)) rfl e
    | flt x => cases b with
      | flt y =>
        obtain ⟨t, e1, _⟩ := p
        obtain ⟨t', e2, _⟩ := q
        obtain ⟨o, e, h⟩ := of_map e
        rw [(Value.float.inj (e1.symm.trans e2)).1] at e
        rw [← h, cmp_self e]; rfl
      | int j =>
        obtain ⟨t, e1, _⟩ := p
        obtain ⟨t', e2⟩ := q
        exact nomatch e1.symm.trans e2
      | _ => exact no_some (o := (none : Option Bool)) rfl e
    | _ => exact no_some (o := (none : Option Bool)) rfl e
theorem size_len {vs : List Value} : vs.toArray.size = vs.length := List.size_toArray
theorem list_eq {A : Around} {xs ys : List V} {vs us : List Value} {n : Nat} {r : Bool} (p : RepL C c.Z vs xs) (q : RepL C c.Z us ys) (e : (if xs.length = ys.length then eqL (eqV n) xs ys else some false) = some r)
    (h : ∀ {a b : V} {r : Bool}, eqV n a b = some r → ∀ (x y : Value), Rep C c.Z x a → Rep C c.Z y b → EqAt A c.s x y r) :
    (vs.toArray.size != us.toArray.size) = true ∧ r = false ∨ vs.toArray.size = us.toArray.size ∧ ∃ f, r = (List.range vs.toArray.size).all f ∧ ∀ j (h1 : j < vs.toArray.size) (h2 : j < us.toArray.size), EqAt A c.s vs.toArray[j] us.toArray[j] (f j) := by
  have e1 : vs.toArray.size = xs.length := size_len.trans p.len
  have e2 : us.toArray.size = ys.length := size_len.trans q.len
  by_cases hl : xs.length = ys.length
  · obtain ⟨_, f, hf, hr⟩ := eqL_all ((if_pos hl).symm.trans e)
    exact .inr ⟨e1.trans (hl.trans e2.symm), f, e1 ▸ hr, fun j h1 h2 => h (hf j (e1 ▸ h1) (e2 ▸ h2)) _ _ (p.at j (size_len ▸ h1) (e1 ▸ h1)) (q.at j (size_len ▸ h2) (e2 ▸ h2))⟩
  · exact .inl ⟨bne_iff_ne.mpr fun n => hl (e1.symm.trans (n.trans e2)), (Option.some.inj ((if_neg hl).symm.trans e)).symm⟩
theorem flt_same {p q : UInt64} {t u : Tok} (h1 : Z.tk t = some p) (h2 : Z.tk u = some q) : t = u → p = q := fun e => got h1 (e ▸ h2)
theorem eq_ok : ∀ (n : Nat) {a b : V} {r : Bool}, eqV n a b = some r → ∀ (A : Around) (x y : Value), Rep C c.Z x a → Rep C c.Z y b → Le c.Z.hp c.s.heap → Told c.s.heap → A.units + n < cLine → EqAt A c.s x y r
  | 0, _, _, _, e => no_some (o := (none : Option Bool)) rfl e
  | n + 1, a, b, r, e => by
    intro A x y p q z T hu
    have hu0 : A.units < cLine := Nat.lt_of_le_of_lt (Nat.le_add_right _ _) hu
    cases a with
    | list xs => cases b with
      | list ys =>
        obtain ⟨l, vs, e1, p1, p2⟩ := id p
        obtain ⟨l', us, e2, q1, q2⟩ := id q
        by_cases hll : x = y
        · rw [same_true (n + 1) p (hll ▸ q) e, hll]; exact EqAt.same _
        · rw [e1, e2] at hll ⊢
          refine EqAt.of_refs (fun e => hll (e ▸ rfl)) ?_
          have il := (plist_mono p1 z).isList
          have ir := (plist_mono q1 z).isList
          rcases list_eq (A := A.in1) p2 q2 e fun e x y p q => eq_ok n e A.in1 x y p q z T (by show A.units + 1 + n < cLine; rw [Nat.add_right_comm]; exact hu) with ⟨h1, h2⟩ | ⟨h1, f, h2, h3⟩
          · rw [h2]; exact RcAt.lists_lengths il ir h1 hu0
          · rw [h2]; exact RcAt.lists il ir h1 hu0 h3
      | _ => exact no_some (o := (none : Option Bool)) rfl e
    | dict ea => cases b with
      | dict eb =>
        obtain ⟨l, ka, e1, pn, p1, p2⟩ := id p
        obtain ⟨l', kb, e2, qn, q1, q2⟩ := id q
        by_cases hll : x = y
        · rw [same_true (n + 1) p (hll ▸ q) e, hll]; exact EqAt.same _
        · rw [e1, e2] at hll ⊢
          refine EqAt.of_refs (fun e => hll (e ▸ rfl)) fun prog' w' E Q h => ?_
          have hr : (ka.length == kb.length && dictHit eb ea) = r := by rw [p2.len, q2.len]; exact Option.some.inj e
          exact W.keq_eq pn qn (dictOf_any (dict_at p1 (z l))) (dictOf_any (dict_at q1 (z l'))) hu0 (fun _ => hits_ok q2 p2) (hr.symm ▸ h)
      | _ => exact no_some (o := (none : Option Bool)) rfl e
    | int i => cases b with
      | int j => exact let ⟨_, e1⟩ := p; let ⟨_, e2⟩ := q; e1 ▸ e2 ▸ Option.some.inj (show some (i == j) = some r from e) ▸ EqAt.int_int _ _ _ _
      | _ => exact no_some (o := (none : Option Bool)) rfl e
    | flt i => cases b with
      | flt j => exact let ⟨_, e1, h1, h2⟩ := p; let ⟨_, e2, h3, h4⟩ := q; let ⟨_, e, h⟩ := of_map e; e1 ▸ e2 ▸ h ▸ eqAt_flt h1 h3 (flt_same h2 h4) T e
      | int j => exact let ⟨_, e1, _⟩ := p; let ⟨_, e2⟩ := q; e1 ▸ e2 ▸ Option.some.inj (show some (Float64.cmpInt i j == some .eq) = some r from e) ▸ eqAt_fi
      | _ => exact no_some (o := (none : Option Bool)) rfl e
    | _ => exact no_some (o := (none : Option Bool)) rfl e
end
end Mine
end
section
namespace Mine
open PySem PyProof.Rows SeqAt
open AutoSeq1 (wpAny_loadPart')
open MeetsSeq MeetsSeq2 MeetsSeq3 SeqRoads2
noncomputable def RcLtAt (A : Around) (s : Shared) (x y : Value) (b : Bool) : Prop :=
  ∀ (prog : Program) (w : World) (E : Value → Shared → Prop) (Q : Value → Shared → Prop), Q (.bool b) s → wpAny (model prog w) A (richCompare .Lt x y) Q E s
noncomputable def LexAt (A : Around) (s : Shared) (fin : Bool) : List (Value × Value) → Bool → Prop
  | [], r => r = fin
  | p :: l, r => (EqAt A s p.1 p.2 true ∧ LexAt A s fin l r) ∨ (EqAt A s p.1 p.2 false ∧ RcLtAt A s p.1 p.2 r)
theorem tuple_ltAt (l b : Addr) (items items2 : Array Value) (n n2 : Nat) (dd dd2 : Option Addr) (sl sl2 : Array (Option Value)) (c : Bool) :
    Meets (Builtin.«tuple.__lt__» ⟨[.ref l, .ref b], []⟩)
      (fun A R s => s.heap.get? l = some { cls := .type "tuple", dict := dd, data := .seq items n, slots := sl } ∧ s.heap.get? b = some { cls := .type "tuple", dict := dd2, data := .seq items2 n2, slots := sl2 } ∧
        LexAt A.in1 s (decide (items.size < items2.size)) (items.toList.zip items2.toList) c ∧ R (.ok (.ret (.bool c))) s) :=
  .of_wp fun prog w A R s h => by
    obtain ⟨hp, g, d, tk, os⟩ := s; obtain ⟨hl, hb, he, h⟩ := h
    have f2 := AutoSeq1.sub_tuple_tuple
    wp_walk using wpAny_loadPart' hl, wpAny_loadPart' hb, wpAny_forIn_list _ (fun rest b s' => b.1 = none ∧ s' = ⟨hp, g, d, tk, os⟩ ∧ LexAt A.in1 ⟨hp, g, d, tk, os⟩ (decide (items.size < items2.size)) rest c) _
    case turn =>
      rintro ⟨y, x⟩ rest b s' ⟨hb', rfl, hz⟩
      rcases hz with ⟨e, r⟩ | ⟨e, r⟩
      · refine wpAny_bind (e prog w _ _ ?_)
        wp_walk
        exact ⟨rfl, rfl, r⟩
      · refine wpAny_bind (e prog w _ _ ?_)
        simp only [Bool.not_false, if_true]
        refine wpAny_bind (wpAny_rule (wpAny_bind (r prog w _ _ ?_)))
        refine wpAny_bind (wpAny_pure (wpAny_pure ?_))
        exact wpAny_pure ⟨_, rfl, h⟩
    case fin =>
      rintro ⟨b1, b2⟩ s' ⟨hb', rfl, hz⟩
      simp only at hb'
      subst hb'
      cases hz
      wp_walk
      exact ⟨_, rfl, by simpa [Builtin.Tuple.tupleCompareSizes] using h⟩
    case h =>
      exact ⟨rfl, rfl, he⟩
theorem RcLtAt.tuples {A : Around} {s : Shared} {l b : Addr} {items items2 : Array Value} {c : Bool} (hl : PlainTuple s.heap l items) (hb : PlainTuple s.heap b items2) (hu : A.units < cLine)
    (he : LexAt A.in1 s (decide (items.size < items2.size)) (items.toList.zip items2.toList) c) : RcLtAt A s (.ref l) (.ref b) c := fun prog w E Q h =>
  let ⟨n, ho⟩ := hl; let ⟨n2, ho2⟩ := hb
  richCompare_meets_room (op := .Lt) ⟨_, ho, rfl⟩ ⟨_, ho2, rfl⟩ F.slot_tuple_lt F.entry_tuple_lt (F.args_tuple_lt_2 _ _) (tuple_ltAt l b items items2 n n2 _ _ _ _ c)
    ⟨ho, ho2, he, show Value.bool c ≠ Value.notImplemented ∧ Q (.bool c) s from ⟨(fun x => nomatch x), h⟩⟩ hu
noncomputable def ordV (a b : V) : Option Ordering :=
  match a with
  | .int i => (match b with
    | .int j => some (compare i j)
    | _ => none)
  | .flt x => (match b with
    | .flt y => Float64.cmp x y
    | _ => none)
  | _ => none
noncomputable def ltL : List V → List V → Option Bool
  | [], ys => some (!ys.isEmpty)
  | x :: xs, ys => (match ys with
    | [] => some false
    | y :: ys => (eqV 1 x y).bind fun b => if b = true then ltL xs ys else (ordV x y).map (· == .lt))
noncomputable def intsOf : List V → Option (List Int)
  | [] => some []
  | x :: r => (match x with
    | .int i => (intsOf r).map (i :: ·)
    | _ => none)
noncomputable def isNone : V → V → Option Bool
  | a, b => match b with
    | .none => (match a with
      | .none => some true
      | .int _ => some false
      | _ => none)
    | _ => none
noncomputable def cmpV (op : CmpOp) (a b : V) : Option Bool :=
  match op with
  | .Eq => eqV 4 a b
  | .NotEq => (eqV 4 a b).map (!·)
  | .Lt => (match a with
    | .tup x => (match b with
      | .tup y => ltL x y
      | _ => none)
    | a => (ordV a b).map (· == .lt))
  | .LtE => (ordV a b).map (· != .gt)
  | .Gt => (ordV a b).map (· == .gt)
  | .In => (match b with
    | .dict es => (match a with
      | .int i => some (es.lookup i).isSome
      | _ => none)
    | _ => none)
  | .NotIn => (match b with
    | .list xs => (match a with
      | .int i => (intsOf xs).map fun is => !is.contains i
      | _ => none)
    | _ => none)
  | .Is => isNone a b
  | .IsNot => (isNone a b).map (!·)
  | _ => none
section
variable {C : Cx} {c : Cf} {A : Around} {a b : V} {x y : Value}
theorem ord_lt (i j : Int) : (compare i j == Ordering.lt) = decide (i < j) := by
  rw [Bool.eq_iff_iff, beq_iff_eq, decide_eq_true_iff]; exact Int.compare_eq_lt
theorem ord_gt (i j : Int) : (compare i j == Ordering.gt) = decide (j < i) := by
  rw [Bool.eq_iff_iff, beq_iff_eq, decide_eq_true_iff]; exact Int.compare_eq_gt
theorem ord_le (i j : Int) : (compare i j != Ordering.gt) = decide (i ≤ j) := by
  rw [bne, ord_gt, Bool.eq_iff_iff, Bool.not_eq_true', decide_eq_true_iff, decide_eq_false_iff_not]; exact Int.not_lt
theorem le_of (o : Ordering) : (o != .gt) = (some o == some Ordering.lt || some o == some Ordering.eq) := by cases o <;> rfl
theorem some_beq (o p : Ordering) : (o == p) = (some o == some p) := by cases o <;> cases p <;> rfl
theorem ord_ok {o : Ordering} {P : Value → Value → Prop} (ra : RT C c x a) (rb : RT C c y b) (e : ordV a b = some o) (hi : ∀ i j t u, compare i j = o → P (.int i t) (.int j u)) (hf : ∀ p q t u, Float64.cmp p q = some o → P (.float p t) (.float q u)) : P x y := by
  cases a with
  | int i => cases b with
    | int j => exact let ⟨_, p⟩ := ra.toInt; let ⟨_, q⟩ := rb.toInt; p ▸ q ▸ hi i j _ _ (Option.some.inj e)
    | _ => exact no_some (o := (none : Option Ordering)) rfl e
  | flt p => cases b with
    | flt q => exact let ⟨_, p, _⟩ := ra.toFlt; let ⟨_, q, _⟩ := rb.toFlt; p ▸ q ▸ hf _ _ _ _ e
    | _ => exact no_some (o := (none : Option Ordering)) rfl e
  | _ => exact no_some (o := (none : Option Ordering)) rfl e
theorem lt_num {o : Ordering} (ra : RT C c x a) (rb : RT C c y b) (e : ordV a b = some o) : RcLtAt A c.s x y (o == .lt) :=
  ord_ok (P := fun x y => RcLtAt A c.s x y (o == .lt)) ra rb e (fun i j t u e _ _ _ Q h => lt_int (by rw [← e, ord_lt] at h; exact h)) fun p q t u e _ _ _ Q h => AutoFloatOps.lt_0 (by rw [e, ← some_beq]; exact h)
theorem lex_ok (T : Told c.s.heap) (z : Le c.Z.hp c.s.heap) (hu : A.units + 1 < cLine) : ∀ {ws xs : List V} {vs us : List Value} {r : Bool}, RepL C c.Z vs ws → RepL C c.Z us xs → ltL ws xs = some r → LexAt A c.s (decide (vs.length < us.length)) (vs.zip us) r
  | [], xs, vs, us, r, p, q, e => by
    have p : vs = [] := p
    subst p
    cases xs with
    | nil =>
      have q : us = [] := q
      subst q
      exact (Option.some.inj e).symm
    | cons x xs => exact let ⟨_, _, q, _⟩ := q; q ▸ (Option.some.inj e).symm
  | w :: ws, [], vs, us, r, p, q, e => by
    have q : us = [] := q
    obtain ⟨v, vs', p, _⟩ := p
    subst q p
    exact (Option.some.inj e).symm
  | w :: ws, x :: xs, vs, us, r, p, q, e => by
    obtain ⟨v, vs', p, p1, p2⟩ := p
    obtain ⟨u, us', q, q1, q2⟩ := q
    subst p q
    obtain ⟨b, hb, e⟩ := of_bind e
    have he := eq_ok 1 hb A v u p1 q1 z T hu
    have len : decide ((v :: vs').length < (u :: us').length) = decide (vs'.length < us'.length) := decide_eq_decide.mpr Nat.succ_lt_succ_iff
    rw [List.zip_cons_cons, len]
    cases b with
    | true => exact .inl ⟨he, lex_ok T z hu p2 q2 e⟩
    | false => exact let ⟨_, e, h⟩ := of_map e; .inr ⟨he, h ▸ lt_num (.inl p1) (.inl q1) e⟩
noncomputable def Ints : List Value → List Int → Prop
  | vs, [] => vs = []
  | vs, i :: is => ∃ t r, vs = .int i t :: r ∧ Ints r is
theorem ints_of {Z : Fz} : ∀ {ws : List V} {vs : List Value} {is : List Int}, RepL C Z vs ws → intsOf ws = some is → Ints vs is
  | [], vs, is, p, e => (Option.some.inj e) ▸ p
  | x :: ws, vs, is, ⟨v, r, p, q1, q2⟩, e => by
    cases x with
    | int i => exact let ⟨js, e, h⟩ := of_map e; let ⟨t, q⟩ := q1; h ▸ ⟨t, r, q ▸ p, ints_of q2 e⟩
    | _ => exact no_some (o := (none : Option (List Int))) rfl e
theorem Ints.len : ∀ {is : List Int} {vs : List Value}, Ints vs is → vs.length = is.length
  | [], _, e => congrArg List.length e
  | _ :: _, _, ⟨_, _, e, q⟩ => e ▸ congrArg (· + 1) (Ints.len q)
noncomputable def isI (k : Int) : Value → Bool
  | .int j _ => j == k
  | _ => false
theorem Ints.any (k : Int) : ∀ {is : List Int} {vs : List Value}, Ints vs is → vs.any (isI k) = is.contains k
  | [], _, e => by rw [show _ = [] from e]; rfl
  | i :: is, _, ⟨_, r, e, q⟩ => by rw [e, List.any_cons, List.contains_cons, Ints.any k q, Bool.beq_comm]; rfl
theorem Ints.eqAt (k : Int) (u : Tok) : ∀ {is : List Int} {vs : List Value}, Ints vs is → ∀ y ∈ vs, EqAt A c.s y (.int k u) (isI k y)
  | [], _, e, _, hy => nomatch (show _ ∈ ([] : List Value) from e ▸ hy)
  | i :: is, _, ⟨_, r, e, q⟩, y, hy => (List.mem_cons.mp (show y ∈ Value.int i _ :: r from e ▸ hy)).elim (fun h => h ▸ EqAt.int_int _ _ _ _) (Ints.eqAt k u q y)
theorem eq_top (k : Ok C c) (T : Told c.s.heap) (hu : ∀ n, n ≤ 80 → A.units + n < cLine) (ra : RT C c x a) (rb : RT C c y b) {r : Bool} (e : eqV 4 a b = some r) : Gives C A (compareOp .Eq x y) c (.bool r) ∧ Gives C A (compareOp .NotEq x y) c (.bool !r) := by
  have h0 : A.units < cLine := hu 0 (by decide)
  cases a with
  | list xs => cases b with
    | list ys =>
      obtain ⟨l, vs, e1, p1, p2⟩ := ra.toList k.zin
      obtain ⟨l', us, e2, q1, q2⟩ := rb.toList k.zin
      rw [e1, e2]
      rcases list_eq (A := A.in1) p2 q2 e fun e x y p q => eq_ok 3 e A.in1 x y p q k.zin T (hu 4 (by decide)) with ⟨h1, h2⟩ | ⟨h1, f, h2, h3⟩
      · rw [h2]; exact ⟨gives_bool k fun Q E hq => RcAt.lists_lengths p1.isList q1.isList h1 h0 _ _ E Q hq, gives_bool k fun Q E hq => RcNeAt.lists_lengths p1.isList q1.isList h1 h0 _ _ E Q hq⟩
      · rw [h2]; exact ⟨gives_bool k fun Q E hq => RcAt.lists p1.isList q1.isList h1 h0 h3 _ _ E Q hq, gives_bool k fun Q E hq => RcNeAt.lists p1.isList q1.isList h1 h0 h3 _ _ E Q hq⟩
    | _ => exact no_some (o := (none : Option Bool)) rfl e
  | int i => cases b with
    | int j => exact let ⟨_, p⟩ := ra.toInt; let ⟨_, q⟩ := rb.toInt; have e := Option.some.inj (show some (i == j) = some r from e); p ▸ q ▸ e ▸ ⟨gives_bool k fun Q E hq => eq_int hq, gives_bool k fun Q E hq => PyProof.Rows.ne_int hq⟩
    | _ => exact no_some (o := (none : Option Bool)) rfl e
  | flt i => cases b with
    | flt j =>
      exact let ⟨_, p, _⟩ := ra.toFlt; let ⟨_, q, _⟩ := rb.toFlt; let ⟨o, e, h⟩ := of_map e; p ▸ q ▸ h ▸
        ⟨gives_bool k fun Q E hq => AutoFloatOps.eq_0 (by rw [e, ← some_beq]; exact hq), gives_bool k fun Q E hq => AutoFloatOps.ne_0 (by rw [some_beq, ← e] at hq; exact hq)⟩
    | int j => exact let ⟨_, p, _⟩ := ra.toFlt; let ⟨_, q⟩ := rb.toInt; have e := Option.some.inj (show some (Float64.cmpInt i j == some .eq) = some r from e); p ▸ q ▸ e ▸ ⟨gives_bool k fun Q E hq => eq_fi hq, gives_bool k fun Q E hq => ne_fi hq⟩
    | _ => exact no_some (o := (none : Option Bool)) rfl e
  | dict es => cases b with
    | dict fs =>
      obtain ⟨l, ka, e1, pn, p1, p2⟩ := ra.toDict k.zin
      obtain ⟨l', kb, e2, qn, q1, q2⟩ := rb.toDict k.zin
      have hr : (ka.length == kb.length && dictHit fs es) = r := by rw [p2.len, q2.len]; exact Option.some.inj e
      rw [e1, e2, ← hr]
      exact ⟨gives_bool k fun Q E hq => W.keq_eq pn qn p1 q1 h0 (fun _ => hits_ok q2 p2) hq, gives_bool k fun Q E hq => W.keq_ne pn qn p1 q1 h0 (fun _ => hits_ok q2 p2) hq⟩
    | _ => exact no_some (o := (none : Option Bool)) rfl e
  | _ => exact no_some (o := (none : Option Bool)) rfl e
theorem gives_bool1 {t : Sem Value} {r : Bool} (k : Ok C c) (h : ∀ (Q E : Value → Shared → Prop), Q (.bool r) { c.s with toks := c.s.toks + 1 } → wpAny C.m A t Q E c.s) : Gives C A t c (.bool r) :=
  fun Q E hQ => h Q E (hQ _ (c.at c.s.heap _) (Gro.le' k (Le.rfl' _) (Nat.le_succ _)) rfl)
theorem none_ok (k : Ok C c) (ra : RT C c x a) (rb : RT C c y b) {r : Bool} (e : isNone a b = some r) : Gives C A (compareOp .Is x y) c (.bool r) ∧ Gives C A (compareOp .IsNot x y) c (.bool !r) := by
  cases b with
  | none => cases a with
    | none => rw [ra.toNone, rb.toNone]; exact Option.some.inj (show some true = some r from e) ▸ ⟨gives_bool k fun Q E hq => is_none hq, gives_bool k fun Q E hq => isNot_none hq⟩
    | int i => rw [rb.toNone]; exact let ⟨_, p⟩ := ra.toInt; p ▸ Option.some.inj (show some false = some r from e) ▸ ⟨gives_bool k fun Q E hq => is_none hq, gives_bool k fun Q E hq => isNot_none hq⟩
    | _ => exact no_some (o := (none : Option Bool)) rfl e
  | _ => exact no_some (o := (none : Option Bool)) rfl e
theorem in_ok (k : Ok C c) (ra : RT C c x a) (rb : RT C c y b) {r : Bool} (e : cmpV .In a b = some r) : Gives C A (compareOp .In x y) c (.bool r) := by
  cases b with
  | dict es => cases a with
    | int i =>
      obtain ⟨t, e1⟩ := ra.toInt
      obtain ⟨l, kvs, e2, n1, p1, p2⟩ := rb.toDict k.zin
      have e : (es.lookup i).isSome = r := Option.some.inj e
      rw [e1, e2, ← e]
      refine gives_bool1 k fun Q E hq => wpAny_in_of (k := i) (by simp [intKind, Value.isInt]) n1 p1.mapOf ?_
      rcases valueAt_rep i p2 with ⟨e1, e2⟩ | ⟨j, t', e1, e2⟩ <;> (rw [e2]; rw [e1] at hq; exact hq)
    | _ => exact no_some (o := (none : Option Bool)) rfl e
  | _ => exact no_some (o := (none : Option Bool)) rfl e
theorem notin_ok (k : Ok C c) (ra : RT C c x a) (rb : RT C c y b) {r : Bool} (e : cmpV .NotIn a b = some r) : Gives C A (compareOp .NotIn x y) c (.bool r) := by
  cases b with
  | list xs => cases a with
    | int i =>
      obtain ⟨t, e1⟩ := ra.toInt
      obtain ⟨l, vs, e2, p1, p2⟩ := rb.toList k.zin
      obtain ⟨is, e, h⟩ := of_map e
      rw [e1, e2, ← h]
      have I := ints_of p2 e
      refine gives_bool k fun Q E hq => notIn_listAt (isI i) p1.isList (fun y hy => I.eqAt _ _ y (by simpa using hy)) ?_
      rw [List.any_toArray, I.any]; exact hq
    | _ => exact no_some (o := (none : Option Bool)) rfl e
  | _ => exact no_some (o := (none : Option Bool)) rfl e
theorem lt_ok (k : Ok C c) (T : Told c.s.heap) (hu : ∀ n, n ≤ 80 → A.units + n < cLine) (ra : RT C c x a) (rb : RT C c y b) {r : Bool} (e : cmpV .Lt a b = some r) : Gives C A (compareOp .Lt x y) c (.bool r) := by
  have num : (ordV a b).map (· == .lt) = some r → Gives C A (compareOp .Lt x y) c (.bool r) := fun e => let ⟨o, e, h⟩ := of_map e; gives_bool k fun Q E hq => lt_num ra rb e _ _ E Q (h.symm ▸ hq)
  cases a with
  | tup xs => cases b with
    | tup ys =>
      obtain ⟨l, vs, e1, p1, p2⟩ := ra.toTup k.zin
      obtain ⟨l', us, e2, q1, q2⟩ := rb.toTup k.zin
      rw [e1, e2]
      exact gives_bool k fun Q E hq => RcLtAt.tuples p1 q1 (hu 0 (by decide)) (lex_ok T k.zin (hu 2 (by decide)) p2 q2 e) _ _ E Q hq
    | _ => exact no_some (o := (none : Option Bool)) rfl e
  | _ => exact num e
theorem cmp_ok {op : CmpOp} {r : Bool} (k : Ok C c) (T : Told c.s.heap) (hu : ∀ n, n ≤ 80 → A.units + n < cLine) (ra : RT C c x a) (rb : RT C c y b) (e : cmpV op a b = some r) : Gives C A (compareOp op x y) c (.bool r) := by
  cases op with
  | Eq => exact (eq_top k T hu ra rb e).1
  | NotEq => exact let ⟨_, e, h⟩ := of_map e; h ▸ (eq_top k T hu ra rb e).2
  | Lt => exact lt_ok k T hu ra rb e
  | LtE => exact let ⟨_, e, h⟩ := of_map e; h ▸ ord_ok (P := fun x y => Gives C A (compareOp .LtE x y) c _) ra rb e (fun i j t u e => e ▸ ord_le i j ▸ gives_bool k fun Q E hq => PyProof.Rows.le_int hq) fun p q t u e => gives_bool k fun Q E hq => AutoFloatOps.le_0 (by rw [e, ← le_of]; exact hq)
  | Gt => exact let ⟨_, e, h⟩ := of_map e; h ▸ ord_ok (P := fun x y => Gives C A (compareOp .Gt x y) c _) ra rb e (fun i j t u e => e ▸ ord_gt i j ▸ gives_bool k fun Q E hq => PyProof.Rows.gt_int hq) fun p q t u e => gives_bool k fun Q E hq => AutoFloatOps.gt_0 (by rw [e, ← some_beq]; exact hq)
  | In => exact in_ok k ra rb e
  | NotIn => exact notin_ok k ra rb e
  | Is => exact (none_ok k ra rb e).1
  | IsNot => exact let ⟨_, e, h⟩ := of_map e; h ▸ (none_ok k ra rb e).2
  | _ => exact no_some (o := (none : Option Bool)) rfl e
end
end Mine
end
section
namespace Mine
open PySem PyProof.Rows SeqAt
noncomputable def truV : V → Option Bool
  | .none => some false
  | .bool b => some b
  | .int i => some (decide (i ≠ 0))
  | .list xs => if xs.length < 2 ^ 62 then some (!xs.isEmpty) else Option.none
  | _ => Option.none
noncomputable def every (n k : Nat) (xs : List V) : List V :=
  let b := sliceBounds (some (k : Int)) none (some (n : Int)) xs.length
  (sliceRange b.1 b.2.1 b.2.2).filterMap (xs[·]?)
noncomputable def idxV (xs : List V) (i : Int) : Option V := if 2 ^ 62 ≤ i then Option.none else if 0 ≤ i then xs[i.toNat]? else if i = -1 ∧ 1 ≤ xs.length then xs[xs.length - 1]? else Option.none
noncomputable def subV (a i : V) : Option V :=
  match i with
  | .int i => (match a with
    | .list xs => idxV xs i
    | .tup xs => idxV xs i
    | .dict es => (es.lookup i).map .int
    | _ => Option.none)
  | _ => Option.none
section
variable {C : Cx} {c : Cf} {A : Around} {a b : V} {x y : Value}
theorem truthy_ok (k : Ok C c) (ra : RT C c x a) {r : Bool} (e : truV a = some r) : GivesB C A (truthy x) c r := fun Q E hQ => by
  have h0 := hQ c (Gro.rfl' k)
  cases a with
  | none => rw [ra.toNone]; exact PyProof.Rows.truthy_none ((Option.some.inj e) ▸ h0)
  | bool b => rw [ra.toBool]; exact wpAny_truthy_bool ((Option.some.inj e) ▸ h0)
  | int i =>
    have e : decide (i ≠ 0) = r := Option.some.inj e
    obtain ⟨t, p⟩ := ra.toInt
    rw [p]
    exact PyProof.Rows.truthy_int (show Q (i != 0) c.s from (show (i != 0) = decide (i ≠ 0) by by_cases h : i = 0 <;> simp [h]) ▸ e.symm ▸ h0)
  | list xs =>
    obtain ⟨l, vs, p, p1, p2⟩ := ra.toList k.zin
    have e := of_ite (p := xs.length < 2 ^ 62) e
    have len : vs.toArray.size = xs.length := size_len.trans p2.len
    rw [p]
    refine wpAny_truthy_list p1.isList (by have := e.1; omega) ?_
    have : (!vs.toArray.isEmpty) = r := by
      refine Eq.trans ?_ (Option.some.inj e.2)
      have := p2.len
      cases vs <;> cases xs <;> first | rfl | cases this
    rw [this]; exact hQ (c.at c.s.heap _) (Gro.le' k (Le.rfl' _) (Nat.le_succ_of_le (Nat.le_succ _)))
  | _ => exact no_some (o := (none : Option Bool)) rfl e
theorem sub_ops (slice : Expr) (o i : Value) : ∃ ops, subscripted slice false o i = operate ops (getItem o i) := by
  unfold subscripted
  split
  · exact ⟨_, rfl⟩
  · rename_i h; cases h
  · exact ⟨_, rfl⟩
theorem idx_of {xs : List V} {i : Int} {v : V} (e : idxV xs i = some v) : i < 2 ^ 62 ∧ ((0 ≤ i ∧ xs[i.toNat]? = some v) ∨ i = -1 ∧ 1 ≤ xs.length ∧ xs[xs.length - 1]? = some v) := by
  unfold idxV at e
  obtain ⟨h1, e⟩ := ite_none e
  refine ⟨Int.not_le.mp h1, ?_⟩
  by_cases h2 : 0 ≤ i
  · exact .inl ⟨h2, (if_pos h2).symm.trans e⟩
  · obtain ⟨h3, e⟩ := of_ite ((if_neg h2).symm.trans e)
    exact .inr ⟨h3.1, h3.2, e⟩
theorem lt_of_get {α : Type} {xs : List α} {i : Nat} {v : α} (e : xs[i]? = some v) : i < xs.length := (List.getElem?_eq_some_iff.mp e).1
theorem plainT {l : Addr} {vs : Array Value} (p : PlainTuple c.s.heap l vs) : IsTup c.s.heap l vs := plain_tuple p
theorem item_ok {v i : V} (k : Ok C c) (ra : RT C c x a) (ri : RT C c y i) (e : subV a i = some v) : Gives C A (getItem x y) c v := fun Q E hQ => by
  cases i with
  | int i =>
    obtain ⟨t, p⟩ := ri.toInt
    rw [p]
    cases a with
    | list xs =>
      obtain ⟨l, vs, p, p1, p2⟩ := ra.toList k.zin
      have len : vs.toArray.size = xs.length := size_len.trans p2.len
      rw [p]
      obtain ⟨h1, ⟨h2, e⟩ | ⟨h2, h3, e⟩⟩ := idx_of e
      · obtain ⟨u, hu, r⟩ := p2.get _ e
        exact wpAny_getItem_list (x := u) p1.isList h2 (by omega) (List.getElem?_toArray ▸ hu) (hQ _ c (Gro.rfl' k) r)
      · obtain ⟨u, hu, r⟩ := p2.get _ e
        refine wpAny_getItem_list_neg (x := u) p1.isList (by omega) (by omega) (by omega) ?_ (hQ _ c (Gro.rfl' k) r)
        rw [show (i + (vs.toArray.size : Int)).toNat = xs.length - 1 by omega, List.getElem?_toArray]; exact hu
    | tup xs =>
      obtain ⟨l, vs, p, p1, p2⟩ := ra.toTup k.zin
      have len : vs.toArray.size = xs.length := size_len.trans p2.len
      rw [p]
      obtain ⟨h1, ⟨h2, e⟩ | ⟨h2, h3, e⟩⟩ := idx_of e
      · obtain ⟨u, hu, r⟩ := p2.get _ e
        have hlt := lt_of_get hu
        refine getItem_tuple (j := i.toNat) (x := u) (plainT p1) (by omega) (by omega) ?_ (List.getElem?_toArray ▸ hu) (hQ _ c (Gro.rfl' k) r)
        have hn : ¬ i < 0 := by omega
        simp only [seqIndex?, hn, if_false, List.size_toArray]
        rw [if_pos (by simp; omega)]
      · obtain ⟨u, hu, r⟩ := p2.get _ e
        refine getItem_tuple (j := xs.length - 1) (x := u) (plainT p1) (by omega) (by omega) ?_ (List.getElem?_toArray ▸ hu) (hQ _ c (Gro.rfl' k) r)
        have hn : i < 0 := by omega
        have hl := p2.len
        simp only [seqIndex?, hn, if_true, List.size_toArray]
        rw [if_pos (by simp; omega), show (i + (vs.length : Int)).toNat = xs.length - 1 by omega]
    | dict es =>
      obtain ⟨l, kvs, p, n1, p1, p2⟩ := ra.toDict k.zin
      rw [p]
      obtain ⟨j, e, h⟩ := of_map e
      rcases valueAt_rep i p2 with ⟨e1, _⟩ | ⟨j', t', e1, e2⟩
      · exact no_some e1 e
      · exact wpAny_getItem_of (k := i) (by simp [intKind, Value.isInt]) p1.mapOf e2 (hQ _ (c.at c.s.heap _) (Gro.le' k (Le.rfl' _) (Nat.le_succ _)) (h ▸ got e1 e ▸ Rep.int' _ _))
    | _ => exact no_some (o := (none : Option V)) rfl e
  | _ => exact no_some (o := (none : Option V)) rfl e
theorem sub_ok {value slice : Expr} {v i : V} (k : Ok C c) (ra : RT C c x a) (ri : RT C c y i) (e : subV a i = some v) : Gives C A (subscriptTail value slice x y) c v := fun Q E hQ => by
  have g := item_ok (A := A) k ra ri e Q E hQ
  obtain ⟨ops, hops⟩ := sub_ops slice x y
  cases i with
  | int i => cases a with
    | list xs =>
      obtain ⟨l, vs, p, p1, p2⟩ := ra.toList k.zin
      subst p
      exact tail_any p1.isList.typeIs slot_list_getitem.lookup g hops
    | tup xs =>
      obtain ⟨l, vs, p, p1, p2⟩ := ra.toTup k.zin
      subst p
      exact tail_any (plainT p1).typeIs slot_tuple_getitem.lookup g hops
    | dict es =>
      obtain ⟨l, kvs, p, n1, p1, p2⟩ := ra.toDict k.zin
      subst p
      exact tail_any (let ⟨o, _, _, ho, hc, _⟩ := p1; ⟨o, ho, hc.1⟩) slot_dict_getitem.lookup g hops
    | _ => exact no_some (o := (none : Option V)) rfl e
  | _ => exact no_some (o := (none : Option V)) rfl e
end
end Mine
end
section
namespace Mine
open PySem PyProof.Rows SeqAt
noncomputable def pickF (o : Ordering) (x y : UInt64) : UInt64 := if Float64.cmp y x == some o then y else x
noncomputable def maxF (x y : UInt64) : UInt64 := if Float64.cmp y x == some .gt then y else x
noncomputable def minF (x y : UInt64) : UInt64 := if Float64.cmp y x == some .lt then y else x
noncomputable def allB : List V → Option Bool
  | [] => some true
  | x :: r => (match x with
    | .bool b => (allB r).map (b && ·)
    | _ => Option.none)
section
variable {C : Cx} {c : Cf} {A : Around} {a b : V} {x y : Value}
theorem Gro.push (k : Ok C c) (o : Obj) : Gro lamP c (c.at (c.s.heap.push o) c.s.toks) := Gro.le' k (le_push _ o) (Nat.le_refl _)
noncomputable abbrev Cf.frz (c c' : Cf) : Cf := ⟨c'.Z.more c'.s.heap fun a => (c.s.heap.get? a).isNone, c'.s⟩
theorem frz_push {Q : Value → Shared → Prop} {o : Obj} {y : V} (k : Ok C c) (hQ : ∀ v c', Gro lamP c c' → Rep C c'.Z v y → Q v c'.s) (r : ∀ Z : Fz, ZLe c.Z Z → Z.hp.get? c.s.heap.objs.size = some o → Rep C Z (.ref c.s.heap.objs.size) y) (n : o.isFreed = false) :
    Q (.ref c.s.heap.objs.size) { c.s with heap := c.s.heap.push o } :=
  have g := Gro.push k o
  hQ _ (Cf.frz c (c.at _ _)) g.frz (r _ (Fz.more_le g.zin) (Fz.more_here (by rw [new_none]; rfl) (Heap.get?_push_size _ n)))
theorem small_size {vs : List Value} {ws : List V} {Z : Fz} (r : RepL C Z vs ws) (hl : ws.length < 2 ^ 20) : vs.toArray.size ≤ sizeLine := size_len.symm ▸ r.len ▸ Nat.le_trans (Nat.le_of_lt hl) (by decide)
theorem list_new {vs : List Value} {ws : List V} (k : Ok C c) (r : RepL C c.Z vs ws) (hl : ws.length < 2 ^ 20) : GivesNew C A (newList vs) c (.list ws) := fun Q E hQ =>
  wpAny_newObj_type (hQ _ (c.at _ _) (Gro.push k _) ⟨vs, ⟨0, Heap.get?_push_size _ rfl⟩, r⟩ (new_none _) (k.zin.none (new_none _))) (small_size r hl)
theorem dict_own {h : Heap} (hs : sysModules < h.objs.size) : Own C c.Z (h.push { cls := .type "dict", data := .dict #[] }) h.objs.size (.dict []) :=
  ⟨[], by simpa using Nat.ne_of_gt hs, ⟨_, #[], 0, Heap.get?_push_size _ rfl, ⟨rfl, rfl, rfl⟩, rfl, fun _ he => by simp at he, .nil, List.nodup_nil⟩, rfl⟩
theorem dict_new (k : Ok C c) (hs : sysModules < c.s.heap.objs.size) : GivesNew C A newDict c (.dict []) := fun Q E hQ =>
  wpAny_newObj_type (T := "dict") (data := .dict #[]) (dict := none) (hQ _ (c.at _ _) (Gro.push k _) (dict_own hs) (new_none _) (k.zin.none (new_none _))) (by size_fits)
theorem slice_ok {value slice : Expr} {sl : Addr} {xs : List V} {k m : Nat} {t u : Tok} (ok : Ok C c) (ra : RT C c x (.list xs)) (hs : c.s.heap.IsSliceOf sl (.int k t) .none (.int m u)) (hm : 0 < m) (hl : xs.length < 2 ^ 20) :
    Gives C A (subscriptTail value slice x (.ref sl)) c (.list (every m k xs)) := fun Q E hQ => by
  obtain ⟨l, vs, p, p1, p2⟩ := ra.toList ok.zin
  rw [p]
  obtain ⟨ops, hops⟩ := sub_ops slice (.ref l) (.ref sl)
  refine tail_any p1.isList.typeIs slot_list_getitem.lookup (wpAny_getItem_list_slice p1.isList hs (.int _ _) .none (.int _ _) (by intro h; injection h with h; omega) ?_ (small_size p2 hl)) hops
  refine frz_push ok hQ (fun _ z e => ⟨_, _, rfl, ⟨0, ?_⟩, (p2.pick ((fun b : Int × Int × Int => sliceRange b.1 b.2.1 b.2.2) (sliceBounds (some (k : Int)) none (some (m : Int)) xs.length))).mono z⟩) rfl
  rw [e]
  unfold slicePick
  rw [size_len, p2.len]
  exact congrArg some (congrArg (fun l => ({ cls := .type "list", data := .seq (List.toArray l) } : Obj)) (congrArg (fun f => List.filterMap f _) (funext fun i => List.getElem?_toArray)))
theorem list_iter {l : Addr} {vs : List Value} {Q E : Value → Shared → Prop} (hh : A.handled = none) (p : c.s.heap.IsList l vs.toArray)
    (h : ∀ I h', h' = c.s.heap.push { cls := .type "list_iterator", data := .fields #[.ref l, .int 0 0] } → I = c.s.heap.objs.size → Walks C.prog C.w A I [I, l] [I] vs.length (fun i v => vs[i]? = some v) (fun i h => h.IsListIter I l i ∧ h.IsList l vs.toArray) →
      h'.IsListIter I l 0 ∧ h'.IsList l vs.toArray → (∀ b ∈ [I, l], b < h'.objs.size) → Q (.ref I) { c.s with heap := h' }) : wpAny C.m A (pyIter (.ref l)) Q E c.s := by
  obtain ⟨ol, hol, _⟩ := id p
  have hlt : l < c.s.heap.objs.size := Heap.lt_size hol
  have W := Walks.list (prog := C.prog) (w := C.w) hh c.s.heap.objs.size l (Nat.ne_of_lt hlt) vs.toArray
  refine wpAny_pyIter_list p (h _ _ rfl rfl (by simpa using W) ⟨⟨_, Heap.get?_push_size _ rfl, rfl, rfl⟩, p.push _⟩ fun b hb => ?_)
  rw [Heap.size_push]
  exact (List.mem_cons.mp hb).elim (fun e => e ▸ Nat.lt_succ_self _) fun hb => List.mem_singleton.mp hb ▸ Nat.lt_succ_of_lt hlt
theorem keep_new {h h' h'' : Heap} {I : Addr} (n : h.get? I = none) (l1 : Le h h') (l2 : ∀ b o, b ∉ [I] → h'.get? b = some o → h''.get? b = some o) : Le h h'' := fun b o e =>
  l2 b o (fun hm => no_some n (List.mem_singleton.mp hm ▸ e)) (l1 b o e)
theorem Ints.at : ∀ {is : List Int} {vs : List Value}, Ints vs is → ∀ (i : Nat) (v : Value), vs[i]? = some v → ∃ t, v = .int (is.getD i 0) t
  | [], _, e, _, _, h => by rw [show _ = [] from e] at h; cases h
  | _ :: _, _, ⟨t, _, e, _⟩, 0, _, h => ⟨t, by rw [e] at h; exact (Option.some.inj h).symm⟩
  | _ :: _, _, ⟨_, _, e, q⟩, i + 1, v, h => let ⟨t, p⟩ := Ints.at q i v (by rw [e] at h; exact h); ⟨t, p.trans (by simp)⟩
theorem presum_ints {is : List Int} : ∀ n, n ≤ is.length → preSum (fun i => is.getD i 0) n = (is.take n).sum
  | 0, _ => by simp [preSum]
  | n + 1, h => by
    have e : is[n]? = some (is.getD n 0) := by rw [List.getD_eq_getElem?_getD, List.getElem?_eq_getElem h]; rfl
    rw [preSum, presum_ints n (Nat.le_of_succ_le h), List.take_add_one, e, List.sum_append]
    simp
theorem sum_ok {xs : List V} {is : List Int} (hh : A.handled = none) (k : Ok C c) (ra : RT C c x (.list xs)) (e : intsOf xs = some is) : Gives C A (call (.builtin "sum") [x]) c (.int is.sum) := by
  obtain ⟨l, vs, p, p1, p2⟩ := ra.toList k.zin
  rw [p]
  have I := ints_of p2 e
  refine gives_le k fun Q E hQ => call_sum_walkG (list_iter (A := A.in1) hh p1.isList fun Ia h' he hI W st hfp => ⟨Ia, _, _, _, _, _, fun i => is.getD i 0, rfl, W, st, hfp, fun i v hv => I.at i v hv, fun h'' tk t' hk => ?_⟩)
  rw [I.len, presum_ints is.length (Nat.le_refl _), List.take_length]
  exact hQ _ h'' tk (keep_new (hI ▸ new_none _) (he ▸ le_push _ _) hk) (Rep.int' _ _)
theorem allB_spec {Z : Fz} : ∀ {xs : List V} {vs : List Value} {r : Bool}, RepL C Z vs xs → allB xs = some r → ∃ tr : Nat → Bool, (∀ (i : Nat) (v : Value), vs[i]? = some v → v = Value.bool (tr i)) ∧ r = (List.range vs.length).all tr
  | [], vs, r, q, e => by
    rw [show vs = [] from q]
    exact ⟨fun _ => true, nofun, (Option.some.inj e).symm⟩
  | x :: xs, vs, r, ⟨v, vs', p, q1, q2⟩, e => by
    cases x with
    | bool b =>
      obtain ⟨c, e, h⟩ := of_map e
      obtain ⟨tr, h1, h2⟩ := allB_spec q2 e
      refine ⟨fun i => Nat.casesOn i b tr, fun i u h => ?_, ?_⟩
      · rw [p] at h
        cases i with
        | zero => exact (Option.some.inj h).symm.trans q1
        | succ i => exact h1 i u h
      · rw [p, List.length_cons, List.range_succ_eq_map, List.all_cons, List.all_map, ← h, h2]
        rfl
    | _ => exact no_some (o := (none : Option Bool)) rfl e
theorem all_ok {xs : List V} {r : Bool} (hh : A.handled = none) (k : Ok C c) (ra : RT C c x (.list xs)) (e : allB xs = some r) : Gives C A (call (.builtin "all") [x]) c (.bool r) := by
  obtain ⟨l, vs, p, p1, p2⟩ := ra.toList k.zin
  obtain ⟨tr, h1, hr⟩ := allB_spec p2 e
  rw [p, hr]
  exact gives_le k fun Q E hQ => call_all_walk (list_iter (A := A.in1) hh p1.isList fun Ia h' he hI W st hfp =>
    ⟨Ia, _, _, _, _, _, tr, rfl, W, st, fun i v s' Q' E' hv hq => h1 i v hv ▸ wpAny_truthy_bool hq, fun h'' tk hk => hQ _ h'' tk (keep_new (hI ▸ new_none _) (he ▸ le_push _ _) hk) rfl⟩)
theorem tuple3_iter {a b d : Value} {Q E : Value → Shared → Prop} (hh : A.handled = none)
    (h : ∀ I h', Le c.s.heap h' → c.s.heap.get? I = none → Walks C.prog C.w A I [I, c.s.heap.objs.size] [I] 3 (fun i v => #[a, b, d][i]? = some v) (fun i h => h.IsTupleIter I c.s.heap.objs.size i ∧ h.IsTuple c.s.heap.objs.size #[a, b, d]) →
      h'.IsTupleIter I c.s.heap.objs.size 0 ∧ h'.IsTuple c.s.heap.objs.size #[a, b, d] → (∀ b ∈ [I, c.s.heap.objs.size], b < h'.objs.size) → Q (.ref I) { c.s with heap := h' }) :
    wpAny C.m A (pyIter (.ref c.s.heap.objs.size)) Q E { c.s with heap := c.s.heap.push { cls := .type "tuple", data := .seq #[a, b, d] } } := by
  have hT : (c.s.heap.push { cls := .type "tuple", data := .seq #[a, b, d] }).IsTuple c.s.heap.objs.size #[a, b, d] := ⟨_, Heap.get?_push_size _ rfl, rfl, 0, rfl⟩
  have hsz : (c.s.heap.push { cls := .type "tuple", data := .seq #[a, b, d] }).objs.size = c.s.heap.objs.size + 1 := Heap.size_push ..
  have hlt : c.s.heap.objs.size < (c.s.heap.push { cls := .type "tuple", data := .seq #[a, b, d] }).objs.size := hsz ▸ Nat.lt_succ_self _
  refine wpAny_pyIter_tuple hT (h _ _ ((le_push _ _).trans (le_push _ _)) (new_at (Nat.le_of_lt hlt)) (Walks.tuple (prog := C.prog) (w := C.w) (A := A) hh _ _ (Nat.ne_of_lt hlt) #[a, b, d]) ⟨⟨_, Heap.get?_push_size _ rfl, rfl, rfl⟩, hT.push _⟩ fun q hq => ?_)
  show q < ((c.s.heap.push _).push _).objs.size
  rw [Heap.size_push]
  exact (List.mem_cons.mp hq).elim (fun e => e ▸ Nat.lt_succ_self _) fun hq => List.mem_singleton.mp hq ▸ Nat.lt_succ_of_lt hlt
theorem best3 {o : Ordering} {p q r : UInt64} {t u v val : Value} (hp : Rep C c.Z t (.flt p)) (hq : Rep C c.Z u (.flt q)) (hr : Rep C c.Z v (.flt r))
    (h : (#[t, u, v] : Array Value)[argBest (fun i j => Float64.cmp ([p, q, r].getD i 0) ([p, q, r].getD j 0) == some o) 2]? = some val) : Rep C c.Z val (.flt (pickF o (pickF o p q) r)) := by
  have e : argBest (fun i j => Float64.cmp ([p, q, r].getD i 0) ([p, q, r].getD j 0) == some o) 2 = if Float64.cmp r (pickF o p q) == some o then 2 else if Float64.cmp q p == some o then 1 else 0 := by
    simp only [argBest, pickF]
    by_cases h1 : (Float64.cmp q p == some o) = true
    · simp [h1]
    · simp [h1]
  rw [e] at h
  unfold pickF at h ⊢
  by_cases h1 : (Float64.cmp q p == some o) = true
  · rw [if_pos h1] at h ⊢
    by_cases h2 : (Float64.cmp r q == some o) = true
    · rw [if_pos h2] at h ⊢; exact Option.some.inj h ▸ hr
    · rw [if_neg h2, if_pos h1] at h; rw [if_neg h2]; exact Option.some.inj h ▸ hq
  · rw [if_neg h1] at h ⊢
    by_cases h2 : (Float64.cmp r p == some o) = true
    · rw [if_pos h2] at h ⊢; exact Option.some.inj h ▸ hr
    · rw [if_neg h2, if_neg h1] at h; rw [if_neg h2]; exact Option.some.inj h ▸ hp
theorem flt_at {p q r : UInt64} {t u v val : Value} {Z : Fz} (hp : Rep C Z t (.flt p)) (hq : Rep C Z u (.flt q)) (hr : Rep C Z v (.flt r)) : ∀ (i : Nat), (#[t, u, v] : Array Value)[i]? = some val → ∃ k, val = .float ([p, q, r].getD i 0) k
  | 0, h => let ⟨k, e, _⟩ := hp; ⟨k, (Option.some.inj h).symm.trans e⟩
  | 1, h => let ⟨k, e, _⟩ := hq; ⟨k, (Option.some.inj h).symm.trans e⟩
  | 2, h => let ⟨k, e, _⟩ := hr; ⟨k, (Option.some.inj h).symm.trans e⟩
  | n + 3, h => by simp at h
theorem max3_ok {p q r : UInt64} {t u v : Value} (hh : A.handled = none) (k : Ok C c) (hp : Rep C c.Z t (.flt p)) (hq : Rep C c.Z u (.flt q)) (hr : Rep C c.Z v (.flt r)) : Gives C A (call (.builtin "max") [t, u, v]) c (.flt (maxF (maxF p q) r)) :=
  gives_le k fun Q E hQ => call_max_three (tuple3_iter (A := A.in1) hh fun I h' l hI W st hfp =>
    ⟨I, _, _, _, _, _, fun i j => Float64.cmp ([p, q, r].getD i 0) ([p, q, r].getD j 0) == some .gt, rfl, W, st, hfp, by decide, fun i j vi vj s' Q' E' hi hj hq' => let ⟨_, e1⟩ := flt_at hp hq hr i hi; let ⟨_, e2⟩ := flt_at hp hq hr j hj; e1 ▸ e2 ▸ AutoFloatOps.gt_0 hq',
      fun val h'' tk hP hk => hQ _ h'' tk (keep_new hI l hk) (best3 (o := .gt) hp hq hr hP)⟩)
theorem min3_ok {p q r : UInt64} {t u v : Value} (hh : A.handled = none) (k : Ok C c) (hp : Rep C c.Z t (.flt p)) (hq : Rep C c.Z u (.flt q)) (hr : Rep C c.Z v (.flt r)) : Gives C A (call (.builtin "min") [t, u, v]) c (.flt (minF (minF p q) r)) :=
  gives_le k fun Q E hQ => call_min_three (tuple3_iter (A := A.in1) hh fun I h' l hI W st hfp =>
    ⟨I, _, _, _, _, _, fun i j => Float64.cmp ([p, q, r].getD i 0) ([p, q, r].getD j 0) == some .lt, rfl, W, st, hfp, by decide, fun i j vi vj s' Q' E' hi hj hq' => let ⟨_, e1⟩ := flt_at hp hq hr i hi; let ⟨_, e2⟩ := flt_at hp hq hr j hj; e1 ▸ e2 ▸ AutoFloatOps.lt_0 hq',
      fun val h'' tk hP hk => hQ _ h'' tk (keep_new hI l hk) (best3 (o := .lt) hp hq hr hP)⟩)
noncomputable def IsB (cal : Value) : Prop := (∃ id, cal = .builtin id) ∨ ∃ T, cal = .type T
noncomputable def Blt (f : Str) (xs : List V) (v : V) : Prop :=
  ∃ cal, (∀ h gl, Gd h gl → gl f = some cal) ∧ IsB cal ∧ ∀ (C : Cx) (c : Cf) (A : Around) (vs : List Value), A.handled = none → Ok C c → RTL C c vs xs → Gives C A (call cal vs) c v
theorem blt_one {f : Str} {x v : V} {cal : Value} (h : ∀ h gl, Gd h gl → gl f = some cal) (b : IsB cal) (g : ∀ (C : Cx) (c : Cf) (A : Around) (u : Value), A.handled = none → Ok C c → RT C c u x → Gives C A (call cal [u]) c v) : Blt f [x] v :=
  ⟨cal, h, b, fun C c A _ hh k ⟨u, _, e, p, q⟩ => by rw [e, show _ = [] from q]; exact g C c A u hh k p⟩
theorem blt_three {f : Str} {x y z : UInt64} {v : V} {cal : Value} (h : ∀ h gl, Gd h gl → gl f = some cal) (b : IsB cal) (g : ∀ (C : Cx) (c : Cf) (A : Around) (t u w : Value), A.handled = none → Ok C c → Rep C c.Z t (.flt x) → Rep C c.Z u (.flt y) → Rep C c.Z w (.flt z) → Gives C A (call cal [t, u, w]) c v) : Blt f [.flt x, .flt y, .flt z] v :=
  ⟨cal, h, b, fun C c A _ hh k ⟨t, _, e, p, u, _, e1, p1, w, _, e2, p2, q⟩ => by rw [e, e1, e2, show _ = [] from q]; exact g C c A t u w hh k p.toFlt p1.toFlt p2.toFlt⟩
theorem blt_len {xs : List V} (hl : xs.length < 2 ^ 62) : Blt "len" [.list xs] (.int xs.length) := blt_one (fun _ _ G => G.len) (.inl ⟨_, rfl⟩) fun C c A u hh k r => by
  obtain ⟨l, us, e, p1, p2⟩ := r.toList k.zin
  have len : us.toArray.size = xs.length := size_len.trans p2.len
  rw [e]
  refine gives_le k fun Q E hQ => Calls.call_len_list p1.isList (by omega) ?_
  rw [len]
  exact hQ _ _ _ (Le.rfl' _) (Rep.int' _ _)
theorem blt_max {x y z : UInt64} : Blt "max" [.flt x, .flt y, .flt z] (.flt (maxF (maxF x y) z)) := blt_three (fun _ _ G => G.max) (.inl ⟨_, rfl⟩) fun _ _ _ _ _ _ hh k p q r => max3_ok hh k p q r
theorem blt_min {x y z : UInt64} : Blt "min" [.flt x, .flt y, .flt z] (.flt (minF (minF x y) z)) := blt_three (fun _ _ G => G.min) (.inl ⟨_, rfl⟩) fun _ _ _ _ _ _ hh k p q r => min3_ok hh k p q r
theorem blt_sum {xs : List V} {is : List Int} (e : intsOf xs = some is) : Blt "sum" [.list xs] (.int is.sum) := blt_one (fun _ _ G => G.sum) (.inl ⟨_, rfl⟩) fun _ _ _ _ hh k r => sum_ok hh k r e
theorem blt_all {xs : List V} {r : Bool} (e : allB xs = some r) : Blt "all" [.list xs] (.bool r) := blt_one (fun _ _ G => G.all) (.inl ⟨_, rfl⟩) fun _ _ _ _ hh k r => all_ok hh k r e
theorem blt_abs {i : Int} : Blt "abs" [.int i] (.int i.natAbs) := blt_one (fun _ _ G => G.abs) (.inl ⟨_, rfl⟩) fun C c A u hh k r => by
  obtain ⟨t, e⟩ := r.toInt
  rw [e]
  refine gives_le k fun Q E hQ => call_abs_int fun u tk => ?_
  rw [show (if i < 0 then -i else i) = (i.natAbs : Int) by split <;> omega]
  exact hQ _ _ _ (Le.rfl' _) (Rep.int' _ _)
theorem blt_int {x : UInt64} {neg : Bool} {m : Nat} {ex : Int} (hd : Float64.decode x = .fin neg m ex) : Blt "int" [.flt x] (.int (Float64.truncOf neg m ex)) := blt_one (fun _ _ G => G.int) (.inr ⟨_, rfl⟩) fun C c A u hh k r => by
  obtain ⟨t, e, _⟩ := r.toFlt
  rw [e]
  exact gives_le k fun Q E hQ => call_int_float hd (hQ _ _ _ (Le.rfl' _) (Rep.int' _ _))
theorem isinst_ok {i : Int} {u : Value} (k : Ok C c) (r : RT C c u (.int i)) : Gives C A (call (.builtin "isinstance") [u, .type "tuple"]) c (.bool false) := by
  obtain ⟨t, e⟩ := r.toInt
  rw [e]
  exact gives_bool1 k fun Q E hq => IsiPair.int_tuple hq
end
end Mine
end
section
namespace Mine
open PySem PyProof.Rows SeqAt
noncomputable def good : Expr → Bool
  | .Constant .. | .Name .. | .BinOp .. | .UnaryOp .. | .BoolOp .. | .Compare .. | .Tuple .. | .List .. | .Dict .. | .Subscript .. | .Call .. | .ListComp .. | .DictComp .. | .IfExp .. => true
  | _ => false
noncomputable def isComp : Expr → Bool
  | .ListComp .. | .DictComp .. => true
  | _ => false
structure Run (C : Cx) (ρ : St) where
  A : Around
  F : Fm
  val : Str → Option Value
  c : Cf
  hA : AOk C.k A
  I : Inv C F val ρ c
noncomputable abbrev Run.go {C : Cx} {ρ : St} (p : Run C ρ) {c' : Cf} (I' : Inv C p.F p.val ρ c') : Run C ρ := ⟨p.A, p.F, p.val, c', p.hA, I'⟩
noncomputable def RV (b : Bool) (C : Cx) (val : Str → Option Value) (ρ : St) (Z : Fz) (u : Value) (y : V) : Prop := Rep C Z u y ∨ (b = false ∧ ∃ x, ρ.ow x = some y ∧ val x = some u)
noncomputable def Does {C : Cx} {ρ : St} {α : Type} (p : Run C ρ) (t : Sem α) (R : Cf → α → Prop) : Prop :=
  ∀ (Q : α → Shared → Prop) (E : Value → Shared → Prop), (∀ u c', Inv C p.F p.val ρ c' → Stp p.F p.c c' → R c' u → Q u c'.s) → wpAny C.m p.A t Q E p.c.s
structure Ev (C : Cx) (ρ : St) (e : Expr) (b : Bool) (y : V) : Prop where
  g : good e = true
  run : ∀ p : Run C ρ, Does p (eval e p.F.env) fun c' u => RV b C p.val ρ c'.Z u y
noncomputable def Tv (C : Cx) (ρ : St) (e : Expr) (r : Bool) : Prop := ∀ p : Run C ρ, Does p (PySem.isTrue e p.F.env (eval e p.F.env)) fun _ u => u = r
structure New (C : Cx) (ρ : St) (e : Expr) (y : V) : Prop where
  g : good e = true
  run : ∀ p : Run C ρ, Does p (eval e p.F.env) fun c' u => ∃ a, u = .ref a ∧ Own C c'.Z c'.s.heap a y ∧ Free p.F p.val ρ c' a
  used : isComp e = true → ∀ (p : Run C ρ) (x : Str) (px : Pos), ρ.mine x = true → BoOk ρ x → ∀ (Q : Unit → Shared → Prop) (E : Value → Shared → Prop),
    (∀ c' a, Inv C p.F (ups p.val x (some (.ref a))) (ρ.setO x y) c' → Stp p.F p.c c' → Q () c'.s) → wpAny C.m p.A (evalThenUse e p.F.env (assign (.Name x px) p.F.env)) Q E p.c.s
noncomputable def argsOf (es : List Expr) (env : Env) : List (Bool × Sem Value) := es.map fun e => (false, eval e env)
structure EvL (C : Cx) (ρ : St) (es : List Expr) (ys : List V) : Prop where
  g : ∀ e ∈ es, good e = true
  run : ∀ p : Run C ρ, Does p (spliced (argsOf es p.F.env)) fun c' us => RepL C c'.Z us ys
section
variable {C : Cx} {F : Fm} {val : Str → Option Value} {ρ : St} {c c' : Cf} {A : Around} {E Q : Value → Shared → Prop} {x y f : Str} {v : V} {u : Value} {b : Bool} {e l r : Expr} {pos p1 p2 : Pos}
theorem RV.mono {Z Z' : Fz} (q : RV b C val ρ Z u v) (z : ZLe Z Z') : RV b C val ρ Z' u v := q.imp (·.mono z) id
theorem RV.rep {Z : Fz} (q : RV true C val ρ Z u v) : Rep C Z u v := q.elim id fun ⟨e, _⟩ => nomatch e
theorem RV.t (q : RV b C val ρ c.Z u v) (I : Inv C F val ρ c) : RT C c u v := q.imp id fun ⟨_, x, e, e'⟩ => let ⟨_, a, p, o⟩ := I.ow x v e; ⟨a, got e' p, o.own⟩
theorem Inv.told (I : Inv C F val ρ c) : Told c.s.heap := C.G.told.mono (I.ok.base.trans I.ok.zin)
theorem Inv.room (I : Inv C F val ρ c) : sysModules < c.s.heap.objs.size :=
  let ⟨_, _, n, _⟩ := C.G.names; Nat.lt_of_lt_of_le (show sysModules < mainGlobals + 1 by decide) ((n.keeps I.ok.base).keeps I.ok.zin).lt
theorem wpAny_global {p : Pos} (I : Inv C F val ρ c) (hf : okName f = true ∧ ρ.ns.lookup f = some .globalImplicit) (hg : C.gl f = some u) (h : Q u c.s) : wpAny C.m A (eval (.Name f p) F.env) Q E c.s := by
  obtain ⟨mg, mb, n, n', hn⟩ := C.G.names
  have hk : F.env.kindOf f = some .globalImplicit := I.sta.names f _ hf.2
  have up := I.ok.base.trans I.ok.zin
  have g1 : c.s.heap.Ns F.env.globals mg := by rw [I.sta.glob]; exact n.keeps up
  have g2 : c.s.heap.Ns F.env.builtins mb := by rw [I.sta.blt]; exact n'.keeps up
  exact (hn f u hg).elim (fun h1 => Calls.Name_function_global I.sta.kind hk (Calls.loadGlobal_global g1 h1 h) (okName.d hf.1)) fun ⟨h1, h2⟩ => Calls.Name_function_global I.sta.kind hk (Calls.loadGlobal_builtin g1 h1 g2 h2 h) (okName.d hf.1)
theorem load_any (I : Inv C F val ρ c) (iv : isVar ρ.ns x) (e : val x = some u) (ok : okName x = true) (h : Q u c.s) : wpAny C.m A (loadName F.env x) Q E c.s := by
  have cel : ∀ k, (k = NameKind.cell ∨ k = .free) → ρ.ns.lookup x = some k → (∃ a, F.env.cells.lookup x = some a) → F.env.kindOf x = some .cell ∨ F.env.kindOf x = some .free → wpAny C.m A (loadName F.env x) Q E c.s := fun k hk k' ⟨a, ea⟩ kd =>
    have ic := e ▸ I.bas.cel x a (hk.imp (fun h : k = .cell => h ▸ k') fun h : k = .free => h ▸ k') ea
    kd.elim (fun kd => wpAny_loadName_cell I.sta.kind kd ea ic h) fun kd => wpAny_loadName_free I.sta.kind kd ea ic h (okName.c ok)
  refine iv.elim (fun k => ?_) fun iv => iv.elim (fun k => cel _ (.inl rfl) k (I.sta.hasC x k) (.inl (I.sta.names x _ k))) fun k => cel _ (.inr rfl) k (let ⟨a, _, e, _⟩ := I.sta.outer x k; ⟨a, e⟩) (I.sta.names x _ k)
  obtain ⟨m, n, q⟩ := I.bas.loc
  exact wpAny_loadName_local I.sta.kind (I.sta.names x _ k) n ((q x k).trans e) h
theorem name_any {p : Pos} (I : Inv C F val ρ c) (iv : isVar ρ.ns x) (e : val x = some u) (ok : okName x = true) (h : Q u c.s) : wpAny C.m A (eval (.Name x p) F.env) Q E c.s := wpAny_Name (load_any I iv e ok h) (okName.d ok)
structure May (C : Cx) (F : Fm) (val : Str → Option Value) (ρ : St) (P : Addr → Bool) : Prop where
  p : ∀ a, P a = true → ¬ F.plc ρ.ns a ∧ a ≠ lamP ∧ ∀ x v, ρ.ow x = some v → val x ≠ some (.ref a)
noncomputable abbrev Run.keep (p : Run C ρ) (P : Addr → Bool) (h : May C p.F p.val ρ P) : Run C ρ := ⟨p.A, p.F.add p.c.s.heap P, p.val, p.c, p.hA, p.I.add P h.p⟩
theorem may_one {a : Addr} (f : Free F val ρ c a) : May C F val ρ (· == a) := ⟨fun b h => eq_of_beq h ▸ ⟨f.hid.p, f.hid.t, f.ow⟩⟩
structure Back (C : Cx) (F : Fm) (val : Str → Option Value) (ρ : St) (P : Addr → Bool) (c c' : Cf) : Prop where
  I : Inv C F val ρ c'
  s : Stp F c c'
  kept : ∀ a, P a = true → ∀ o, c.s.heap.get? a = some o → c'.s.heap.get? a = some o
  z : ∀ a, P a = true → (∃ o, c.s.heap.get? a = some o) → c.Z.hp.get? a = none → c'.Z.hp.get? a = none
  ow : ∀ a, P a = true → (∃ o, c.s.heap.get? a = some o) → ∀ x v, ρ.ow x = some v → val x ≠ some (.ref a)
theorem back {P : Addr → Bool} (I : Inv C F val ρ c) {val' : Str → Option Value} {ρ' : St} (hn : ρ'.ns = ρ.ns) (hl : ρ'.lam = ρ.lam) (I' : Inv C (F.add c.s.heap P) val' ρ' c') (s : Stp (F.add c.s.heap P) c c') : Back C F val' ρ' P c c' :=
  have l := I.bas.kin
  ⟨I'.less (hn ▸ hl ▸ I.sta) (fun a n => add_none l a n) ((addK_le l).trans I'.bas.kin), s.less fun a n => add_none l a n, fun a h o e => I'.bas.kin a o (addK_here h e),
    fun a h l z => none_of fun o e => (s.old a o e).elim (no_some z) fun n => let ⟨o', l⟩ := l; no_some n (addK_here h l),
    fun a h l x v e q => let ⟨_, _, q', r⟩ := I'.ow x v e; let ⟨_, l⟩ := l; no_some (ref_eq (got q' q) ▸ r.hid.k) (addK_here h l)⟩
theorem Free.later {P : Addr → Bool} {a : Addr} {val' : Str → Option Value} {ρ' : St} (f : Free F val ρ c a) (B : Back C F val' ρ' P c c') (hn : ρ'.ns = ρ.ns) (h : P a = true) (l : ∃ o, c.s.heap.get? a = some o) : Free F val' ρ' c' a :=
  ⟨⟨B.z a h l f.hid.z, f.hid.k, hn ▸ f.hid.p, f.hid.t⟩, B.ow a h l⟩
theorem Inv.frzA {a : Addr} (I : Inv C F val ρ c) (o : Own C c.Z c.s.heap a v) (f : Free F val ρ c a) : ∃ Z', Inv C F val ρ ⟨Z', c.s⟩ ∧ Stp F c ⟨Z', c.s⟩ ∧ Rep C Z' (.ref a) v := by
  have zin := I.ok.zin
  have zle : ZLe c.Z (c.Z.more c.s.heap (· == a)) := Fz.more_le zin
  have hide : ∀ {b}, c.Z.hp.get? b = none → b ≠ a → (c.Z.more c.s.heap (· == a)).hp.get? b = none := fun e n => Fz.more_none e (beq_eq_false_iff_ne.mpr n)
  exact ⟨c.Z.more c.s.heap (· == a), ⟨I.sta, ⟨⟨I.ok.base.trans zle.hp, Fz.more_in, I.ok.tok.pos, I.ok.tok.lt⟩, I.bas.kin, I.bas.tab.mono zle fun _ e => e, hide I.bas.tabZ (Ne.symm f.hid.t), fun b p => hide (I.bas.plZ b p) fun n => f.hid.p (n ▸ p), I.bas.loc, I.bas.cel⟩,
      fun x y e => let ⟨k, w, q, r⟩ := I.fr x y e; ⟨k, w, q, r.mono zle⟩, fun x y e => let ⟨k, b, q, r⟩ := I.ow x y e; ⟨k, b, q, r.own.mono zle fun _ e => e, hide r.hid.z fun n => f.ow x y e (n ▸ q), r.hid.k, r.hid.p, r.hid.t⟩, I.apart, I.bor, I.hdv⟩,
    ⟨zle, fun b ob e => (Fz.more_old zin e).imp id fun n => eq_of_beq (show (b == a) = true from n) ▸ f.hid.k, Rst.rfl' _⟩, o.frozen zle fun ob e => Fz.more_here (beq_self_eq_true a) e⟩
theorem New.ev (h : New C ρ e v) : Ev C ρ e true v := ⟨h.g, fun p Q E hQ => h.run p Q E fun _ c1 I1 s1 ⟨a, eu, o, f⟩ => let ⟨Z', I2, s2, r⟩ := I1.frzA o f; hQ _ ⟨Z', c1.s⟩ I2 (s1.trans s2) (.inl (eu ▸ r))⟩
theorem Does.of (p : Run C ρ) {t : Sem Value} (h : Gives C p.A t p.c v) : Does p t fun c' u => RV b C p.val ρ c'.Z u v := fun Q E hQ => h Q E fun u c' g r => hQ u c' (p.I.gro g) (p.I.stp g.toGro0) (.inl r)
theorem Does.on {α : Type} {p : Run C ρ} {c1 : Cf} {I1 : Inv C p.F p.val ρ c1} (s1 : Stp p.F p.c c1) {t : Sem α} {R : Cf → α → Prop} (h : Does (p.go I1) t R) {Q : α → Shared → Prop} (hQ : ∀ u c', Inv C p.F p.val ρ c' → Stp p.F p.c c' → R c' u → Q u c'.s) : wpAny C.m p.A t Q E c1.s :=
  h Q E fun u c' I s r => hQ u c' I (s1.trans s) r
theorem e_fr (h : ρ.fr x = some v) (ok : okName x = true := by rfl) : Ev C ρ (.Name x pos) true v := ⟨rfl, fun p Q E hQ => let ⟨iv, _, e, r⟩ := p.I.fr x v h; name_any p.I iv e ok (hQ _ _ p.I (Stp.rfl' _ _) (.inl r))⟩
theorem e_ow (h : ρ.ow x = some v) (ok : okName x = true := by rfl) : Ev C ρ (.Name x pos) false v := ⟨rfl, fun p Q E hQ => let ⟨iv, _, e, _⟩ := p.I.ow x v h; name_any p.I iv e ok (hQ _ _ p.I (Stp.rfl' _ _) (.inr ⟨rfl, x, h, e⟩))⟩
noncomputable def constV : Const → Option V
  | .none => some .none
  | .bool b => some (.bool b)
  | .int i => some (.int i)
  | .float x => some (.flt x)
  | _ => Option.none
theorem ec {k : Const} {kd : Nat} (h : constV k = some v := by rfl) : Ev C ρ (.Constant k kd pos) true v := ⟨rfl, fun p => by
  cases k with
  | none => exact Does.of p (Option.some.inj h ▸ gives_plain p.I.ok (v := .none) rfl fun Q E h => by exact wpAny_pure h)
  | bool b => exact Does.of p (Option.some.inj h ▸ gives_plain p.I.ok (v := .bool b) rfl fun Q E h => by exact wpAny_pure h)
  | int i => exact Does.of p (Option.some.inj h ▸ gives_int p.I.ok fun Q E h => wpAny_Constant_int h)
  | float x => exact Does.of p (Option.some.inj h ▸ gives_flt p.I.ok fun Q E h => wpAny_Constant_float h)
  | _ => cases h⟩
theorem e_bin {op : Operator} {b1 b2 : Bool} {a d : V} (h1 : Ev C ρ l b1 a) (h2 : Ev C ρ r b2 d) (h : binV op a d = some v) : Ev C ρ (.BinOp l op r pos) true v := ⟨rfl, fun p Q E hQ =>
  wpAny_BinOp (h1.run p _ _ fun x c1 I1 s1 r1 => h2.run (p.go I1) _ _ fun y c2 I2 s2 r2 => (Does.of (p.go I2) (bin_ok I2.ok ((r1.mono s2.zle).t I2) (r2.t I2) h)).on (s1.trans s2) hQ)⟩
theorem marks_of {op : CmpOp} (h : good e = true) : behindInMarks op e = false := by
  cases e <;> first
    | rfl
    | cases h
theorem e_cmp {op : CmpOp} {b1 b2 k : Bool} {a d : V} (h1 : Ev C ρ l b1 a) (h2 : Ev C ρ r b2 d) (h : cmpV op a d = some k) : Ev C ρ (.Compare l [op] [r] pos) true (.bool k) := ⟨rfl, fun p Q E hQ =>
  wpAny_Compare1 (h1.run p _ _ fun x c1 I1 s1 r1 => h2.run (p.go I1) _ _ fun y c2 I2 s2 r2 => (Does.of (p.go I2) (cmp_ok I2.ok I2.told (fun _ => p.hA.u) ((r1.mono s2.zle).t I2) (r2.t I2) h)).on (s1.trans s2) hQ) (marks_of h2.g)⟩
theorem e_sub {o i : Expr} {b1 b2 : Bool} {a d : V} (h1 : Ev C ρ o b1 a) (h2 : Ev C ρ i b2 d) (h : subV a d = some v) : Ev C ρ (.Subscript o i pos) true v := ⟨rfl, fun p Q E hQ =>
  Subscript_ (h1.run p _ _ fun x c1 I1 s1 r1 => h2.run (p.go I1) _ _ fun y c2 I2 s2 r2 => (Does.of (p.go I2) (sub_ok I2.ok ((r1.mono s2.zle).t I2) (r2.t I2) h)).on (s1.trans s2) hQ)⟩
theorem e_slice {o t : Expr} {xs : List V} {i m : Int} {b1 b2 b3 : Bool} (h1 : Ev C ρ o b1 (.list xs)) (h2 : Ev C ρ l b2 (.int i)) (h3 : Ev C ρ t b3 (.int m)) (h : (0 ≤ i ∧ i < 64 ∧ 0 < m ∧ m < 64) ∧ xs.length < 2 ^ 20) :
    Ev C ρ (.Subscript o (.Slice (some l) none (some t) p1) pos) true (.list (every m.toNat i.toNat xs)) := ⟨rfl, fun p Q E hQ => by
  obtain ⟨⟨hi, _, hm, _⟩, hl⟩ := h
  obtain ⟨j, rfl⟩ := Int.eq_ofNat_of_zero_le hi
  obtain ⟨q, rfl⟩ := Int.eq_ofNat_of_zero_le (Int.le_of_lt hm)
  refine Subscript_ (h1.run p _ _ fun x c1 I1 s1 r1 => wpAny_Slice (wpAny_evalPart_some (h2.run (p.go I1) _ _ fun y c2 I2 s2 r2 => wpAny_evalPart_none (wpAny_evalPart_some (h3.run (p.go I2) _ _ fun z c3 I3 s3 r3 => ?_)))))
  obtain ⟨t1, e1⟩ := (r2.t I2).toInt
  obtain ⟨t2, e2⟩ := (r3.t I3).toInt
  rw [e1, e2]
  have g := Gro.push I3.ok { cls := .type "slice", data := .fields #[.int (j : Int) t1, .none, .int (q : Int) t2] }
  have I4 := I3.gro g
  have s4 := I3.stp g.toGro0
  refine (Does.of (p.go I4) (slice_ok I4.ok ((r1.mono ((s2.trans s3).trans s4).zle).t I4) (Heap.IsSliceOf.new ..) (by omega) hl)).on (((s1.trans s2).trans s3).trans s4) hQ⟩
theorem l_nil : EvL C ρ [] [] := ⟨nofun, fun p Q E hQ => wpAny_pure (hQ _ _ p.I (Stp.rfl' _ _) rfl)⟩
theorem l_cons {es : List Expr} {vs : List V} (h : Ev C ρ e true v) (k : EvL C ρ es vs) : EvL C ρ (e :: es) (v :: vs) := ⟨fun d m => (List.mem_cons.mp m).elim (fun q => q ▸ h.g) (k.g d), fun p Q E hQ =>
  Calls.spliced_cons (h.run p _ _ fun x c1 I1 s1 r1 => k.run (p.go I1) _ _ fun us c2 I2 s2 r2 => hQ _ c2 I2 (s1.trans s2) (.cons' (r1.rep.mono s2.zle) r2))⟩
theorem star_of {es : List Expr} {env : Env} (h : good e = true) : starEach (e :: es) env = (false, eval e env) :: starEach es env := by
  cases e <;> first
    | rfl
    | cases h
theorem star_all {env : Env} : ∀ {es : List Expr}, (∀ e ∈ es, good e = true) → backTo pos (starEach es env) = argsOf es env
  | [], _ => rfl
  | e :: es, h => by rw [star_of (h e List.mem_cons_self)]; exact congrArg (_ :: ·) (star_all fun d m => h d (List.mem_cons_of_mem _ m))
theorem no_star {env : Env} : ∀ {es : List Expr}, (argsOf es env).any (·.1) = false
  | [] => rfl
  | _ :: es => no_star (es := es)
theorem e_tup {es : List Expr} {kd : Nat} {vs : List V} (h : EvL C ρ es vs) (hl : vs.length < 2 ^ 20 := by simp) : Ev C ρ (.Tuple es kd pos) true (.tup vs) := ⟨rfl, fun p Q E hQ => by
  refine wpAny_Tuple ?_
  rw [star_all h.g]
  refine h.run p _ _ fun us c1 I1 s1 r1 => ⟨size_len ▸ small_size r1 hl, frz_push I1.ok (fun u c' g r => hQ u c' (I1.gro g) (s1.trans (I1.stp g.toGro0)) (.inl r)) (fun _ z e => ⟨_, us, rfl, ⟨0, e⟩, r1.mono z⟩) rfl⟩⟩
theorem n_list {es : List Expr} {vs : List V} (h : EvL C ρ es vs) (hl : vs.length < 2 ^ 20 := by simp) : New C ρ (.List es pos) (.list vs) := ⟨rfl, fun p Q E hQ => by
  refine wpAny_List ?_
  rw [star_all h.g]
  refine h.run p _ _ fun us c1 I1 s1 r1 => ⟨size_len ▸ small_size r1 hl, ?_⟩
  have g := Gro.push I1.ok { cls := .type "list", data := .seq us.toArray }
  exact hQ _ (c1.at _ _) (I1.gro g) (s1.trans (I1.stp g.toGro0)) ⟨_, rfl, ⟨us, ⟨0, Heap.get?_push_size _ rfl⟩, r1⟩, I1.free (new_none _) (I1.ok.zin.none (new_none _))⟩, nofun⟩
theorem n_dict0 : New C ρ (.Dict [] [] pos) (.dict []) := ⟨rfl, fun p Q E hQ => by
  rw [eval_Dict_empty]
  exact wpAny_bind (wpAny_standAt (dict_new p.I.ok p.I.room _ _ fun a c' g o n z => hQ _ c' (p.I.gro g) (p.I.stp g.toGro0) ⟨a, rfl, o, p.I.free n z⟩)), nofun⟩
theorem n_dict1 {ke ve : Expr} {b1 b2 : Bool} {i j : Int} (h1 : Ev C ρ ke b1 (.int i)) (h2 : Ev C ρ ve b2 (.int j)) : New C ρ (.Dict [some ke] [ve] pos) (.dict [(i, j)]) := ⟨rfl, fun p Q E hQ => by
  refine wpAny_Dict_pairs (knd := C.ki) (pairs := [(eval ke p.F.env, do let x ← eval ve p.F.env; standAt pos; pure x)]) rfl (by simp) (by simp) ?_
  have g := Gro.push p.I.ok { cls := .type "dict", data := .dict #[] }
  have I0 := p.I.gro g
  have f0 := p.I.free (c' := p.c.at (p.c.s.heap.push { cls := .type "dict", data := .dict #[] }) p.c.s.toks) (new_none _) (p.I.ok.zin.none (new_none _))
  have e0 : (p.c.s.heap.push { cls := .type "dict", data := .dict #[] }).get? p.c.s.heap.objs.size = some { cls := .type "dict", data := .dict #[] } := Heap.get?_push_size _ rfl
  have m := may_one (C := C) f0
  refine evalPairs_cons (h1.run ((p.go I0).keep _ m) _ _ fun va c1 I1 s1 r1 => wpAny_bind (h2.run (((p.go I0).keep _ m).go I1) _ _ fun vb c2 I2 s2 r2 => wpAny_bind (wpAny_standAt (wpAny_pure (evalPairs_nil ?_)))))
  have B := back I0 rfl rfl I2 (s1.trans s2)
  have J := B.I
  obtain ⟨t1, e1⟩ := ((r1.mono s2.zle).t J).toInt
  obtain ⟨t2, e2⟩ := (r2.t J).toInt
  have f2 := f0.later B rfl (beq_self_eq_true _) ⟨_, e0⟩
  refine ⟨[(i, .int j t2)], by rw [e1, e2]; exact ⟨intKind_is C.prog C.w i t1, rfl, trivial⟩, ⟨_, #[], 0, B.kept _ (beq_self_eq_true _) _ e0, ⟨rfl, rfl, rfl⟩, rfl, fun _ he => by simp at he, .nil, List.nodup_nil⟩, fun h' hd hs => ?_⟩
  have g3 : Gro p.c.s.heap.objs.size c2 (c2.at h' (c2.s.toks + 1)) := Gro.one J.ok (fun b nb o e => (hs.2 b nb).trans e) (dict_live hd) f2.hid.z f2.hid.t (Nat.le_succ _)
  exact hQ _ _ (J.touchF g3.toGro0 f2) (((p.I.stp g.toGro0).trans B.s).trans (J.stp g3.toGro0)) ⟨_, rfl, ⟨[(i, .int j t2)], by simpa using Nat.ne_of_gt p.I.room, hd, t2, [], rfl, rfl⟩, ⟨f2.hid, f2.ow⟩⟩, nofun⟩
end
end Mine
end
section
namespace Mine
open PySem PyProof.Rows SeqAt
structure Okt (C : Cx) (c : Cf) : Prop where
  ok : Ok C c
  z : c.Z.hp.get? lamP = none
  tab : TabIs c.Z c.s.heap
noncomputable def FunAt (C : Cx) (a : Addr) : Prop := ∃ o fd, C.h₀.get? a = some o ∧ o.data = .func fd
noncomputable def Cx.pure (C : Cx) (f : Str) (vs : List V) (v : V) : Prop := ∃ a, C.gl f = some (.ref a) ∧ FunAt C a ∧ ∀ (A : Around) (c : Cf) (us : List Value), AOk C.k A → Okt C c → RepL C c.Z us vs → Gives C A (call (.ref a) us) c v
noncomputable def Cx.chg (C : Cx) (f : Str) (y : V) (vs : List V) (v y' : V) : Prop := ∃ a, C.gl f = some (.ref a) ∧ FunAt C a ∧
  ∀ (A : Around) (c : Cf) (us : List Value) (b : Addr), AOk C.k A → Okt C c → Own C c.Z c.s.heap b y → c.Z.hp.get? b = none → RepL C c.Z us vs →
    ∀ (Q E : Value → Shared → Prop), (∀ u c', Gro b c c' → Own C c'.Z c'.s.heap b y' → Rep C c'.Z u v → Q u c'.s) → wpAny C.m A (call (.ref a) (.ref b :: us)) Q E c.s
noncomputable def Callable (C : Cx) (cal : Value) : Prop := IsB cal ∨ ∃ a, cal = .ref a ∧ FunAt C a
section
variable {C : Cx} {F : Fm} {val : Str → Option Value} {ρ ρ' : St} {c c' : Cf} {A : Around} {E Q : Value → Shared → Prop} {x y f : Str} {v : V} {u : Value} {b : Bool} {e l r : Expr} {pos p1 p2 pf : Pos} {es : List Expr} {vs : List V}
theorem Inv.okt (I : Inv C F val ρ c) : Okt C c := ⟨I.ok, I.bas.tabZ, I.bas.tab⟩
theorem call_any {cal : Value} {R : Cf → List Value → Prop} (p : Run C ρ) (hc : Callable C cal) (hg : ∀ d ∈ e :: es, good d = true) (h : Does p (spliced (argsOf (e :: es) p.F.env)) R)
    (hQ : ∀ us c', Inv C p.F p.val ρ c' → Stp p.F p.c c' → R c' us → wpAny C.m p.A (call cal us) Q E c'.s) : wpAny C.m p.A (callWith pos cal [] (backTo pos (starEach (e :: es) p.F.env)) []) Q E p.c.s := by
  rw [star_all hg]
  rcases hc with (⟨id, rfl⟩ | ⟨T, rfl⟩) | ⟨a, rfl, o, fd, ho, hd⟩
  · exact Calls.callWith_builtin no_star (Calls.evalArgs_plain (h _ _ hQ))
  · exact PySem.callWith_type no_star (Calls.evalArgs_plain (h _ _ hQ))
  · exact Calls.callWith_function (o := o) (fd := fd) (Calls.evalArgs_plain (h _ _ fun us c' I s r => ⟨⟨I.ok.zin _ _ (I.ok.base _ _ ho), hd⟩, hQ us c' I s r⟩))
theorem one_arg (h : Ev C ρ e b v) (p : Run C ρ) : Does p (spliced (argsOf [e] p.F.env)) fun c' us => ∃ u, us = [u] ∧ RV b C p.val ρ c'.Z u v := fun Q E hQ =>
  Calls.spliced_cons (h.run p _ _ fun x c1 I1 s1 r1 => wpAny_pure (hQ _ c1 I1 s1 ⟨x, rfl, r1⟩))
theorem good_one (h : good e = true) : ∀ d ∈ [e], good d = true := fun _ m => List.mem_singleton.mp m ▸ h
theorem e_blt1 (he : Ev C ρ e b v) {w : V} (h : Blt f [v] w) (hf : okName f = true ∧ ρ.ns.lookup f = some .globalImplicit := by first | walk_at "gl" | exact ⟨rfl, rfl⟩) : Ev C ρ (.Call (.Name f pf) [e] [] pos) true w := ⟨rfl, fun p Q E hQ =>
  let ⟨_, hg, hb, hc⟩ := h
  Call_Name rfl (wpAny_global p.I hf (hg _ _ C.G) (call_any p (.inl hb) (good_one he.g) (one_arg he p) fun _ c1 I1 s1 ⟨u, eu, r⟩ => eu ▸ (Does.of (p.go I1) (hc C c1 p.A [u] p.hA.hand I1.ok ⟨u, [], rfl, r.t I1, rfl⟩)).on s1 hQ))⟩
theorem e_blt (ha : EvL C ρ (e :: es) vs) {w : V} (h : Blt f vs w) (hf : okName f = true ∧ ρ.ns.lookup f = some .globalImplicit := by first | walk_at "gl" | exact ⟨rfl, rfl⟩) : Ev C ρ (.Call (.Name f pf) (e :: es) [] pos) true w := ⟨rfl, fun p Q E hQ =>
  let ⟨_, hg, hb, hc⟩ := h
  Call_Name rfl (wpAny_global p.I hf (hg _ _ C.G) (call_any p (.inl hb) ha.g (ha.run p) fun us c1 I1 s1 r => (Does.of (p.go I1) (hc C c1 p.A us p.hA.hand I1.ok r.t)).on s1 hQ))⟩
theorem e_pure (ha : EvL C ρ (e :: es) vs) {w : V} (h : C.pure f vs w) (hf : okName f = true ∧ ρ.ns.lookup f = some .globalImplicit := by first | walk_at "gl" | exact ⟨rfl, rfl⟩) : Ev C ρ (.Call (.Name f pf) (e :: es) [] pos) true w := ⟨rfl, fun p Q E hQ =>
  let ⟨_, hg, ha', hc⟩ := h
  Call_Name rfl (wpAny_global p.I hf hg (call_any p (.inr ⟨_, rfl, ha'⟩) ha.g (ha.run p) fun us c1 I1 s1 r => (Does.of (p.go I1) (hc p.A c1 us p.hA I1.okt r)).on s1 hQ))⟩
theorem e_isi {i : Int} (he : Ev C ρ e b (.int i)) (hf : okName "isinstance" = true ∧ ρ.ns.lookup ("isinstance" : Str) = some .globalImplicit := by first | walk_at "gl" | exact ⟨rfl, rfl⟩) (ht : okName "tuple" = true ∧ ρ.ns.lookup ("tuple" : Str) = some .globalImplicit := by first | walk_at "gl" | exact ⟨rfl, rfl⟩) :
    Ev C ρ (.Call (.Name "isinstance" p1) [e, .Name "tuple" p2] [] pos) true (.bool false) := ⟨rfl, fun p Q E hQ =>
  Call_Name rfl (wpAny_global p.I hf C.G.isi (call_any p (.inl (.inl ⟨_, rfl⟩)) (e := e) (es := [.Name "tuple" p2]) (R := fun c' us => ∃ u, us = [u, .type "tuple"] ∧ RV b C p.val ρ c'.Z u (.int i)) (fun d m => (List.mem_cons.mp m).elim (fun q => q ▸ he.g) fun m => List.mem_singleton.mp m ▸ rfl)
    (fun Q E hQ => Calls.spliced_cons (he.run p _ _ fun x c1 I1 s1 r1 => Calls.spliced_cons (wpAny_global I1 ht C.G.tup (wpAny_pure (hQ _ c1 I1 s1 ⟨x, rfl, r1⟩))))) fun _ c1 I1 s1 ⟨u, eu, r⟩ => eu ▸ (Does.of (p.go I1) (isinst_ok I1.ok (r.t I1))).on s1 hQ))⟩
theorem e_and {b1 b2 r s : Bool} (h1 : Ev C ρ l b1 (.bool r)) (h2 : r = true → Ev C ρ e b2 (.bool s)) : Ev C ρ (.BoolOp .And [l, e] pos) true (.bool (r && s)) := ⟨rfl, fun p Q E hQ =>
  wpAny_And2 (h1.run p _ _ fun u c1 I1 s1 r1 => by
    rw [(r1.t I1).toBool]
    refine wpAny_truthy_bool ?_
    cases r with
    | true => exact (h2 rfl).run (p.go I1) _ _ fun u c2 I2 s2 r2 => hQ _ c2 I2 (s1.trans s2) (.inl (r2.t I2).toBool)
    | false => exact hQ _ c1 I1 s1 (.inl rfl))⟩
theorem cmp_truth {op : CmpOp} {env : Env} {whole : Sem Value} {s : Shared} {Q : Bool → Shared → Prop} (hm : behindInMarks op r = false)
    (h : wpAny C.m A (eval (.Compare l [op] [r] pos) env) (fun v s₁ => wpAny C.m A (truthy v) Q E s₁) E s) : wpAny C.m A (PySem.isTrue (.Compare l [op] [r] pos) env whole) Q E s := fun Γ p hΓ => by
  have := h Γ p hΓ
  simp only [isTrue_Compare1, eval_Compare1, markedBehindIn_of_false hm, Sem.wp_bind', Sem.wp_holding, Sem.wp_cmd_standAt, Sem.wp_operate] at this ⊢
  exact Sem.wp_mono _ Γ _ (fun a p₁ s₁ h₁ => Sem.wp_mono _ Γ _ (fun b p₂ s₂ h₂ => Sem.wp_mono _ Γ _ (fun c p₃ s₃ h₃ => h₃ Γ p₃ hΓ) (fun _ _ _ h' => h') _ _ h₂) (fun _ _ _ h' => h') _ _ h₁) (fun _ _ _ h' => h') _ _ this
theorem tru_run {k : Bool} (h : Ev C ρ e b v) (ht : truV v = some k) (p : Run C ρ) {Q : Bool → Shared → Prop} (hQ : ∀ u c', Inv C p.F p.val ρ c' → Stp p.F p.c c' → u = k → Q u c'.s) : wpAny C.m p.A (eval e p.F.env) (fun v s₁ => wpAny C.m p.A (truthy v) Q E s₁) E p.c.s :=
  h.run p _ _ fun u c1 I1 s1 r1 => truthy_ok I1.ok (r1.t I1) ht _ _ fun c2 g => hQ _ c2 (I1.gro g) (s1.trans (I1.stp g.toGro0)) rfl
theorem t_cmp {op : CmpOp} {b1 b2 k : Bool} {a d : V} (h1 : Ev C ρ l b1 a) (h2 : Ev C ρ r b2 d) (h : cmpV op a d = some k) : Tv C ρ (.Compare l [op] [r] pos) k := fun p Q E hQ =>
  cmp_truth (marks_of h2.g) (tru_run (e_cmp h1 h2 h) rfl p hQ)
theorem t_name {k : Bool} (h : Ev C ρ (.Name x pos) b v) (ht : truV v = some k) : Tv C ρ (.Name x pos) k := fun p Q E hQ => isTrue_plain (tru_run h ht p hQ) rfl
theorem t_call {as : List Expr} {ks : List Keyword} {k : Bool} (h : Ev C ρ (.Call e as ks pos) b v) (ht : truV v = some k) : Tv C ρ (.Call e as ks pos) k := fun p Q E hQ => isTrue_plain (tru_run h ht p hQ) rfl
theorem t_not {k : Bool} (h : Tv C ρ e k) : Tv C ρ (.UnaryOp .Not e pos) (!k) := fun p Q E hQ => isTrue_not (h p _ _ fun u c1 I1 s1 e => hQ _ c1 I1 s1 (e ▸ rfl))
theorem t_and {k s : Bool} (h : Tv C ρ l k) (h2 : k = true → Tv C ρ e s) : Tv C ρ (.BoolOp .And [l, e] pos) (k && s) := fun p Q E hQ => isTrue_and (h p _ _ fun u c1 I1 s1 eu => by
  rw [eu]
  cases k with
  | false => exact hQ _ c1 I1 s1 rfl
  | true => exact isTrue_and (h2 rfl (p.go I1) _ _ fun u c2 I2 s2 eu => by
      rw [eu]
      cases s with
      | true => exact isTrue_and_nil (hQ _ c2 I2 (s1.trans s2) rfl)
      | false => exact hQ _ c2 I2 (s1.trans s2) rfl))
theorem t_or {k s : Bool} (h : Tv C ρ l k) (h2 : k = false → Tv C ρ e s) : Tv C ρ (.BoolOp .Or [l, e] pos) (k || s) := fun p Q E hQ => isTrue_or (h p _ _ fun u c1 I1 s1 eu => by
  rw [eu]
  cases k with
  | true => exact hQ _ c1 I1 s1 rfl
  | false => exact isTrue_or (h2 rfl (p.go I1) _ _ fun u c2 I2 s2 eu => by
      rw [eu]
      cases s with
      | false => exact isTrue_or_nil (hQ _ c2 I2 (s1.trans s2) rfl)
      | true => exact hQ _ c2 I2 (s1.trans s2) rfl))
end
end Mine
end
section
namespace Mine
open PySem PyProof.Rows SeqAt
structure IterOk (C : Cx) (A : Around) (Z : Fz) (I : Addr) (fp : List Addr) (xs : List V) (t : Expr) (S : Nat → Heap → Prop) : Prop where
  frame : ∀ i h h', S i h → (∀ b ∈ I :: fp, ∀ o, h.get? b = some o → h'.get? b = some o) → S i h'
  live : ∀ i h, S i h → ∃ o, h.get? I = some o
  next : ∀ i (hi : i < xs.length) (c : Cf) (Q E : Value → Shared → Prop), S i c.s.heap → ZLe Z c.Z → Ok C c → c.Z.hp.get? I = none → I ≠ lamP →
    (∀ v c', Gro I c c' → Rep C c'.Z v xs[i] → S (i + 1) c'.s.heap → Q v c'.s) →
    wpAny C.m A (pyNext (.ref I)) (fun r s' => ∃ v, r = some v ∧ wpAny C.m A (letOwnedTupleGo t (.ref I) v) (fun _ s'' => Q v s'') E s') E c.s
  done : ∀ (c : Cf) (Q : Option Value → Shared → Prop) (E : Value → Shared → Prop), S xs.length c.s.heap → Ok C c → c.Z.hp.get? I = none → I ≠ lamP → (∀ c', Gro0 I c c' → Q none c'.s) → wpAny C.m A (pyNext (.ref I)) Q E c.s
  self : (∃ y p, t = .Name y p) → ∀ i (s : Shared) (Q : Value → Shared → Prop) (E : Value → Shared → Prop), S i s.heap → Q (.ref I) s → wpAny C.m A (pyIter (.ref I)) Q E s
theorem IterOk.mono {C : Cx} {A : Around} {Z Z2 : Fz} {I : Addr} {fp : List Addr} {xs : List V} {t : Expr} {S : Nat → Heap → Prop} (it : IterOk C A Z I fp xs t S) (z : ZLe Z Z2) : IterOk C A Z2 I fp xs t S :=
  ⟨it.frame, it.live, fun i hi c Q E st zle => it.next i hi c Q E st (z.trans zle), it.done, it.self⟩
structure ItAt (C : Cx) (A : Around) (c : Cf) (I : Addr) (xs : List V) (t : Expr) : Prop where
  ex : ∃ fp S, (∀ b ∈ fp, ∃ o, c.Z.hp.get? b = some o) ∧ IterOk C A c.Z I fp xs t S ∧ S 0 c.s.heap
noncomputable def Tgt (t : Expr) : Bool → Prop
  | true => ∃ es kd p, t = .Tuple es kd p
  | false => ∃ y p, t = .Name y p
structure Src (C : Cx) (ρ : St) (it : Expr) (i : Bool) (xs : List V) : Prop where
  fold : ∀ env x, foldedSetIterable it env x = pure x
  run : ∀ (p : Run C ρ) (tg : Expr), Tgt tg i → ∀ (Q E : Value → Shared → Prop), (∀ I c', Inv C p.F p.val ρ c' → Stp p.F p.c c' → Free p.F p.val ρ c' I → ItAt C p.A c' I xs tg → Q (.ref I) c'.s) →
    wpAny C.m p.A (eval it p.F.env) (fun x s₁ => wpAny C.m p.A (pyIter x) Q E s₁) E p.c.s
noncomputable def Itr (C : Cx) (A : Around) (c : Cf) (xs : List V) (t : Expr) (T : (Value → Shared → Prop) → (Value → Shared → Prop) → Prop) : Prop :=
  ∀ (Q E : Value → Shared → Prop), (∀ I c', Gro lamP c c' → c.s.heap.get? I = none → c'.Z.hp.get? I = none → ItAt C A c' I xs t → Q (.ref I) c'.s) → T Q E
section
variable {C : Cx} {F : Fm} {val : Str → Option Value} {ρ : St} {c : Cf} {A : Around} {E Q : Value → Shared → Prop} {x : Str} {q pos p1 p2 p3 : Pos} {u : Value} {e : Expr} {xs : List V} {b : Bool}
theorem Itr.on {p : Run C ρ} {c1 : Cf} (I1 : Inv C p.F p.val ρ c1) (s1 : Stp p.F p.c c1) {t : Expr} {T : (Value → Shared → Prop) → (Value → Shared → Prop) → Prop} (h : Itr C p.A c1 xs t T)
    (hQ : ∀ I c', Inv C p.F p.val ρ c' → Stp p.F p.c c' → Free p.F p.val ρ c' I → ItAt C p.A c' I xs t → Q (.ref I) c'.s) : T Q E :=
  h Q E fun I c2 g n z it => hQ I c2 (I1.gro g) (s1.trans (I1.stp g.toGro0)) (I1.free n z) it
theorem letName {it v : Value} : letOwnedTupleGo (.Name x q) it v = pure () := rfl
theorem IterOk.of_walks {Z : Fz} {I : Addr} {fp : List Addr} {n : Nat} {P : Nat → Value → Prop} {S : Nat → Heap → Prop} (W : Walks C.prog C.w A I (I :: fp) [I] n P S) (hn : n = xs.length) (live : ∀ i h, S i h → ∃ o, h.get? I = some o)
    (hP : ∀ i (hi : i < xs.length) v, P i v → Rep C Z v xs[i]) : IterOk C A Z I fp xs (.Name x q) S where
  frame := W.frame
  live := live
  next := fun i hi c Q E st zle k hz nt hQ => wpAny_with_toks (Nat.le_refl _) (W.item i c.s _ _ (hn ▸ hi) st fun v h' tk' hp st' keep hle => ⟨v, rfl, by
    rw [letName]
    exact wpAny_pure (hQ v (c.at h' tk') (Gro.one k (fun b hb o e => keep b o (fun m => hb (List.mem_singleton.mp m)) e) (live _ _ st') hz nt hle) ((hP i hi v hp).mono zle) st')⟩)
  done := fun c Q E st k hz nt hQ => by
    subst hn
    refine wpAny_with_toks (Nat.le_refl _) (wpAny_mono (Q := fun r s' => ∃ h' tk', r = none ∧ s' = { c.s with heap := h', toks := tk' } ∧ (∀ b o, b ∉ [I] → c.s.heap.get? b = some o → h'.get? b = some o)) (E := E) (W.done c.s _ _ st fun h' tk' keep => ⟨h', tk', rfl, rfl, keep⟩) (fun r s' h => ?_) fun _ _ h _ => h)
    obtain ⟨h', tk', rfl, rfl, keep⟩ := h
    exact fun hle => hQ (c.at h' tk') (Gro0.one k (fun b hb o e => keep b o (fun m => hb (List.mem_singleton.mp m)) e) hz nt hle)
  self := fun _ i s Q E st h => W.self i s Q E st h
theorem at_list {vs : List Value} {Z : Fz} (r : RepL C Z vs xs) : ∀ i (hi : i < xs.length) v, vs[i]? = some v → Rep C Z v xs[i] := fun _ hi _ hv => let ⟨_, e, q⟩ := r.get _ (List.getElem?_eq_getElem hi); got e hv ▸ q
theorem one_live {h : Heap} {l : Addr} (e : ∃ o, h.get? l = some o) : ∀ b ∈ [l], ∃ o, h.get? b = some o := fun b m => by rw [List.mem_singleton.mp m]; exact e
theorem list_live {h : Heap} {a : Addr} {vs : Array Value} (p : h.PlainList a vs) : ∃ o, h.get? a = some o := plist_live p
theorem iter_list (hh : A.handled = none) (k : Ok C c) (r : Rep C c.Z u (.list xs)) : Itr C A c xs (.Name x q) fun Q E => wpAny C.m A (pyIter u) Q E c.s := fun Q E hQ => by
  obtain ⟨l, vs, e, p1, p2⟩ := r
  rw [e]
  exact list_iter hh (plist_mono p1 k.zin).isList fun I h' he hI W st hfp => by
    have n := hI ▸ new_none c.s.heap
    exact hQ I (c.at h' c.s.toks) (he ▸ Gro.push k _) n (k.zin.none n) ⟨[l], _, one_live (list_live p1), IterOk.of_walks W p2.len (fun i h st => let ⟨o, e, _⟩ := st.1; ⟨o, e⟩) (at_list p2), st⟩
theorem iter_tuple (hh : A.handled = none) (k : Ok C c) (r : Rep C c.Z u (.tup xs)) : Itr C A c xs (.Name x q) fun Q E => wpAny C.m A (pyIter u) Q E c.s := fun Q E hQ => by
  obtain ⟨l, vs, e, p1, p2⟩ := r
  rw [e]
  have pt := plain_tuple (p1.mono k.zin)
  obtain ⟨ol, hol, _⟩ := id pt
  have hne : l ≠ c.s.heap.objs.size := Nat.ne_of_lt (Heap.lt_size hol)
  refine wpAny_pyIter_tuple pt (hQ _ (c.at _ c.s.toks) (Gro.push k _) (new_none _) (k.zin.none (new_none _)) ⟨[l], _, one_live (plist_live p1),
    IterOk.of_walks (Walks.tuple (prog := C.prog) (w := C.w) (A := A) hh c.s.heap.objs.size l hne vs.toArray) (size_len.trans p2.len) (fun i h st => let ⟨o, e, _⟩ := st.1; ⟨o, e⟩) fun i hi v hv => at_list p2 i hi v (List.getElem?_toArray ▸ hv), ⟨_, Heap.get?_push_size _ rfl, rfl, rfl⟩, pt.push _⟩)
noncomputable def rng (n : Nat) : List V := (List.range n).map fun (i : Nat) => V.int (i : Int)
theorem iter_range {k : Int} {t : Tok} (hh : A.handled = none) (o : Ok C c) (hk : k < 2 ^ 20) (hk0 : 0 ≤ k) : Itr C A c (rng k.toNat) (.Name x q) fun Q E => wpAny C.m A (call (.type "range") [.int k t]) (fun x s₁ => wpAny C.m A (pyIter x) Q E s₁) E c.s := fun Q E hQ => by
  refine call_range_1 ?_
  have ir := IsRange.new c.s.heap 0 k 1 c.s.toks t (c.s.toks + 1)
  refine wpAny_pyIter_range ir (small_one (by decide) (by decide) (by omega) (by omega)) ?_
  have hsz : Builtin.Range.rangeSize 0 k 1 = ((k.toNat : Nat) : Int) := by rw [rangeSize_one]; split <;> omega
  generalize hH : c.s.heap.push { cls := .type "range", data := .fields #[.int 0 c.s.toks, .int k t, .int 1 (c.s.toks + 1)] } = H
  have hs : H.objs.size = c.s.heap.objs.size + 1 := by rw [← hH, Heap.size_push]
  have nI : c.s.heap.get? H.objs.size = none := new_at (hs ▸ Nat.le_succ _)
  refine hQ _ (c.at (H.push _) (c.s.toks + 1 + 1)) (Gro.le' o ((hH ▸ le_push _ _).trans (le_push _ _)) (Nat.le_succ_of_le (Nat.le_succ _))) nI (o.zin.none nI) ⟨[], _, nofun, IterOk.of_walks (Walks.range (prog := C.prog) (w := C.w) (A := A) hh H.objs.size 0 1 k.toNat) (by simp [rng]) (fun i h st => ⟨_, st⟩) fun i hi v hv => ?_, ?_⟩
  · obtain ⟨t', e⟩ := hv
    rw [show (rng k.toNat)[i] = V.int (i : Int) by simp [rng]]
    exact ⟨t', e.trans (by rw [Int.mul_one, Int.zero_add])⟩
  · show IsRangeIter _ _ _ _ _
    rw [hsz]
    have e := Heap.get?_push_size H (o := { cls := .type "range_iterator", data := .fields #[rawInt 0, rawInt ((k.toNat : Nat) : Int), rawInt 1] }) rfl
    simpa using e
theorem src_name {o : Str} {v : V} (h : ρ.fr o = some v) (hv : v = .list xs ∨ v = .tup xs) (ok : okName o = true := by rfl) : Src C ρ (.Name o pos) false xs := ⟨fun _ _ => rfl, fun p tg ht Q E hQ => by
  obtain ⟨y, q, rfl⟩ := ht
  obtain ⟨iv, u, e, r⟩ := p.I.fr o v h
  exact name_any p.I iv e ok (hv.elim (fun hv => (iter_list p.hA.hand p.I.ok (hv ▸ r)).on p.I (Stp.rfl' _ _) hQ) fun hv => (iter_tuple p.hA.hand p.I.ok (hv ▸ r)).on p.I (Stp.rfl' _ _) hQ)⟩
theorem src_range {k : Int} (he : Ev C ρ e b (.int k)) (hk : 0 ≤ k ∧ k < 2 ^ 20) (hf : okName "range" = true ∧ ρ.ns.lookup ("range" : Str) = some .globalImplicit := by first | walk_at "gl" | exact ⟨rfl, rfl⟩) : Src C ρ (.Call (.Name "range" p1) [e] [] pos) false (rng k.toNat) := ⟨fun _ _ => rfl, fun p tg ht Q E hQ => by
  obtain ⟨y, q, rfl⟩ := ht
  exact Call_Name rfl (wpAny_global p.I hf C.G.range (call_any p (.inl (.inr ⟨_, rfl⟩)) (good_one he.g) (one_arg he p) fun _ c1 I1 s1 ⟨u, eu, r⟩ => by
    obtain ⟨t, e⟩ := (r.t I1).toInt
    rw [eu, e]
    exact (iter_range p.hA.hand I1.ok hk.2 hk.1).on I1 s1 hQ))⟩
theorem RepD.at : ∀ {es : List (Int × Int)} {kvs : List (Int × Value)}, RepD kvs es → ∀ (i : Nat) (k : Int) (v : Value), kvs[i]? = some (k, v) → ∃ j t, es[i]? = some (k, j) ∧ v = .int j t
  | [], _, e, _, _, _, h => by rw [show _ = [] from e] at h; cases h
  | (k, j) :: _, _, ⟨t, _, e, _⟩, 0, _, _, h => by rw [e] at h; cases h; exact ⟨j, t, rfl, rfl⟩
  | _ :: _, _, ⟨_, _, e, q⟩, i + 1, k, v, h => by rw [e] at h; exact RepD.at q i k v h
theorem at_pair {α : Type} {es : List (Int × Int)} (g : Int × Int → α) {i : Nat} (hi : i < (es.map g).length) {k j : Int} (h : es[i]? = some (k, j)) : (es.map g)[i] = g (k, j) := by
  have := List.getElem?_eq_getElem (l := es) (i := i) (by simpa using hi)
  rw [List.getElem_map, got this h]
theorem iter_values {env : Env} {o : Expr} {apos : Pos} {es : List (Int × Int)} (hh : A.handled = none) (k : Ok C c) (r : Rep C c.Z u (.dict es)) (hbase : attributeBase o "values" env (eval o env) = eval o env) (hline : (apos.endLine == pos.line) = true)
    (ho : ∀ Q' E, Q' u c.s → wpAny C.m A (eval o env) Q' E c.s) : Itr C A c (es.map fun p => .int p.2) (.Name x q) fun Q E => wpAny C.m A (eval (.Call (.Attribute o "values" apos) [] [] pos) env) (fun x s₁ => wpAny C.m A (pyIter x) Q E s₁) E c.s := fun Q E hQ => by
  obtain ⟨d, kvs, e, hdS, hm, r⟩ := r
  rw [e] at ho
  have hs := dict_at hm (k.zin d)
  refine wpAny_Call_method (T := "dict") (id := "dict.values") hbase rfl hline F.plainAttrs_dict F.slot_dict_values F.type_dict_values (ho _ E ⟨hs.typeIs, hs.mapOf.noDict, ?_⟩)
  show wpAny _ _ (callWith pos (.builtin "dict.values") [.ref d] [] []) _ E c.s
  refine method_meetsIn F.slot_dict_values F.entry_dict_values rfl (PySem.evalArgs_none ⟨rfl, hs.typeIs, F.args_dict_values_1 _, _, meets_dict_values C.ki d hdS, ⟨kvs, hs⟩, ?_⟩)
  obtain ⟨ep, ha⟩ := hs.dictAt
  generalize hH : c.s.heap.push { cls := .type "dict_values", data := .fields #[.ref d] } = H
  have hz : H.objs.size = c.s.heap.objs.size + 1 := by rw [← hH, Heap.size_push]
  have l1 : Le c.s.heap H := hH ▸ le_push _ _
  have l2 : ∀ o, Le c.s.heap (H.push o) := fun o => l1.trans (le_push _ _)
  have hv : H.IsValuesView c.s.heap.objs.size d := hH ▸ ⟨_, Heap.get?_push_size _ rfl, rfl, rfl⟩
  refine wpAny_pyIter_values hv (ha.keep l1) ?_
  have nI : c.s.heap.get? H.objs.size = none := new_at (hz ▸ Nat.le_succ _)
  have hne : d ≠ H.objs.size := ne_none (dict_live hs) nI
  refine hQ _ (c.at (H.push _) c.s.toks) (Gro.le' k (l2 _) (Nat.le_refl _)) nI (k.zin.none nI) ⟨[d], _, one_live (dict_live hm), IterOk.of_walks (Walks.dictValues (prog := C.prog) (w := C.w) (knd := C.ki) hh H.objs.size d hne kvs ep) (by rw [r.len, List.length_map]) (fun i h st => let ⟨o, e, _⟩ := st.1; ⟨o, e⟩) fun i hi v hv => ?_,
    ⟨_, Heap.get?_push_size _ rfl, rfl, rfl⟩, ha.keep (l2 _)⟩
  obtain ⟨k, hk⟩ := hv
  obtain ⟨j, t, h1, e⟩ := r.at i k v hk
  rw [at_pair (fun p => V.int p.2) hi h1]
  exact ⟨t, e⟩
theorem iter_items {env : Env} {o : Expr} {apos : Pos} {es : List (Int × Int)} {elts : List Expr} {kd : Nat} (hh : A.handled = none) (k : Ok C c) (r : Rep C c.Z u (.dict es)) (hbase : attributeBase o "items" env (eval o env) = eval o env) (hline : (apos.endLine == pos.line) = true)
    (ho : ∀ Q' E, Q' u c.s → wpAny C.m A (eval o env) Q' E c.s) : Itr C A c (es.map fun p => .tup [.int p.1, .int p.2]) (.Tuple elts kd q) fun Q E => wpAny C.m A (eval (.Call (.Attribute o "items" apos) [] [] pos) env) (fun x s₁ => wpAny C.m A (pyIter x) Q E s₁) E c.s := fun Q E hQ => by
  obtain ⟨d, kvs, e, hdS, hm, r⟩ := r
  rw [e] at ho
  have hs := dict_at hm (k.zin d)
  refine wpAny_Call_items hdS hs hbase hline (fun Q' h => ho Q' E h) ?_
  obtain ⟨ep, ha⟩ := hs.dictAt
  generalize hH : c.s.heap.push { cls := .type "dict_items", data := .fields #[.ref d] } = H
  have hz : H.objs.size = c.s.heap.objs.size + 1 := by rw [← hH, Heap.size_push]
  have l1 : Le c.s.heap H := hH ▸ le_push _ _
  have l2 : ∀ o, Le c.s.heap (H.push o) := fun o => l1.trans (le_push _ _)
  have hv : H.IsItemsView c.s.heap.objs.size d := hH ▸ ⟨_, Heap.get?_push_size _ rfl, rfl, rfl⟩
  refine wpAny_pyIter_items hv (ha.keep l1) ?_
  have nI : c.s.heap.get? H.objs.size = none := new_at (hz ▸ Nat.le_succ _)
  generalize hIe : H.objs.size = Ia at nI ⊢
  have hne : d ≠ Ia := ne_none (dict_live hs) nI
  refine hQ _ (c.at (H.push _) c.s.toks) (Gro.le' k (l2 _) (Nat.le_refl _)) nI (k.zin.none nI) ⟨[d], fun i h => (∃ ok ov, IsItemIter h Ia d i kvs.length ep ok ov) ∧ h.DictAt C.ki d kvs ep, one_live (dict_live hm), ?_, ⟨_, _, hIe ▸ Heap.get?_push_size _ rfl⟩, ha.keep (l2 _)⟩
  · refine ⟨fun i h h' st hk => ⟨let ⟨ok, ov, e⟩ := st.1; ⟨ok, ov, hk _ List.mem_cons_self _ e⟩, st.2.at' fun o e => hk d (by simp) o e⟩, fun i h st => let ⟨_, _, e⟩ := st.1; ⟨_, e⟩, fun i hi c Q E st zle k hz nt hQ => ?_, fun c Q E st k hz nt hQ => ?_, fun ⟨_, _, h⟩ => nomatch h⟩
    · obtain ⟨⟨ok, ov, it⟩, da⟩ := st
      have hi' : i < kvs.length := r.len ▸ (by simpa using hi)
      obtain ⟨j, t, h1, e⟩ := r.at i _ _ (List.getElem?_eq_getElem hi')
      refine wpAny_with_toks (Nat.le_refl _) (wpAny_pyNext_items_item it da (List.getElem?_eq_getElem hi') fun key h' hkey out htup hsz keep hle => ⟨_, rfl, wpAny_letOwnedTupleGo_items out fun h'' it' sb => ?_⟩)
      have nI : c.s.heap.objs.size ≠ Ia := Nat.ne_of_gt (Heap.lt_size it)
      have keep' : ∀ b, b ≠ Ia → ∀ o, c.s.heap.get? b = some o → h''.get? b = some o := fun b hb o e => (sb.2 b hb).trans (keep b o hb e)
      have htup' := (sb.2 _ nI).trans htup
      have g : Gro Ia c (c.at h'' _) := Gro.one k keep' ⟨_, it'⟩ hz nt hle
      refine hQ _ (Cf.frz c (c.at h'' _)) g.frz ?_ ⟨⟨_, _, it'⟩, da.at' (keep' d hne)⟩
      obtain ⟨tk0, rfl⟩ : ∃ tk0, key = .int kvs[i].1 tk0 := by
        cases key <;> simp [intKind, Value.isInt] at hkey
        exact ⟨_, by rw [hkey]⟩
      rw [at_pair _ hi h1, e] at *
      exact ⟨_, [.int kvs[i].1 tk0, .int j t], rfl, ⟨0, Fz.more_here (by rw [new_none]; rfl) htup'⟩, .cons' (Rep.int' _ _) (.cons' (Rep.int' _ _) rfl)⟩
    · obtain ⟨⟨ok, ov, it⟩, da⟩ := st
      rw [List.length_map, ← r.len] at it
      exact wpAny_with_toks (Nat.le_refl _) (wpAny_pyNext_items_end hh it da (by simp) fun h' he hle => hQ (c.at h' _) (Gro0.one k (fun b hb o e => he b o hb e) hz nt hle))
theorem src_items {o : Str} {es : List (Int × Int)} (h : ρ.fr o = some (.dict es)) (hl : (p1.endLine == pos.line) = true := by rfl) (ok : okName o = true := by rfl) : Src C ρ (.Call (.Attribute (.Name o p2) "items" p1) [] [] pos) true (es.map fun p => .tup [.int p.1, .int p.2]) := ⟨fun _ _ => rfl, fun p tg ht Q E hQ => by
  obtain ⟨y, kd, q, rfl⟩ := ht
  obtain ⟨iv, u, e, r⟩ := p.I.fr o _ h
  exact (iter_items p.hA.hand p.I.ok r rfl hl fun Q' E h => name_any p.I iv e ok h).on p.I (Stp.rfl' _ _) hQ⟩
theorem src_values {o : Str} {es : List (Int × Int)} (h : ρ.fr o = some (.dict es)) (hl : (p1.endLine == pos.line) = true := by rfl) (ok : okName o = true := by rfl) : Src C ρ (.Call (.Attribute (.Name o p2) "values" p1) [] [] pos) false (es.map fun p => .int p.2) := ⟨fun _ _ => rfl, fun p tg ht Q E hQ => by
  obtain ⟨y, q, rfl⟩ := ht
  obtain ⟨iv, u, e, r⟩ := p.I.fr o _ h
  exact (iter_values p.hA.hand p.I.ok r rfl hl fun Q' E h => name_any p.I iv e ok h).on p.I (Stp.rfl' _ _) hQ⟩
end
end Mine
end
section
namespace Mine
open PySem PyProof.Rows SeqAt
theorem sub_ri_reversed : isSubtype (.type "range_iterator") (.type "reversed") = pure false := by rw [isSubtype_type]; kernel_rfl
section
variable {prog : Program} {w : World} {A : Around} {E : Value → Shared → Prop} {s : Shared}
noncomputable def rriObj (n : Nat) : Obj := { cls := .type "range_iterator", data := .fields #[rawInt ((n : Int) - 1), rawInt n, rawInt (-1)] }
theorem range_small {n : Nat} (hn : n < 2 ^ 20) : (Builtin.Range.rangeFitsLong 0 && Builtin.Range.rangeFitsLong (n : Int) && Builtin.Range.rangeFitsLong 1 && Builtin.Range.rangeFitsLong (-1) && Builtin.Range.rangeFitsLong (0 - 1) && Builtin.Range.rangeFitsLong (Builtin.Range.rangeSize 0 n 1)) = true := by
  have hsz : Builtin.Range.rangeSize 0 n 1 = (n : Int) := by rw [rangeSize_one]; split <;> omega
  rw [hsz]
  simp only [Builtin.Range.rangeFitsLong, Bool.and_eq_true, decide_eq_true_eq]
  omega
theorem call_range_reversed {r : Addr} {n : Nat} {t u v : Tok} {Q : Value → Shared → Prop} (hr : IsRange s.heap r 0 n 1 t u v) (hn : n < 2 ^ 20)
    (h : Q (.ref s.heap.objs.size) { s with heap := s.heap.push (rriObj n) }) : wpAny (model prog w) A (call (.builtin "range.__reversed__") [.ref r]) Q E s := by
  have hT : s.TypeIs (.ref r) "range" := ⟨_, hr, rfl⟩
  refine wpAny_call_entry F.slot_range_reversed hT F.entry_range_reversed ?_ (F.args_range_reversed_1 _)
  unfold Builtin.«range.__reversed__»
  refine wpAny_bind (wpAny_of_eq (a := Value.ref r) rfl ?_)
  have hf : ∀ (Q' : Int × Int × Int → Shared → Prop), Q' (0, n, 1) s → wpAny (model prog w) A.in1 (Builtin.Range.rangeFields (.ref r)) Q' (fun e s' => wants Q E (.error e) s') s := fun Q' hq => by
    unfold Builtin.Range.rangeFields
    refine wpAny_bind (wpAny_field hr rfl (x := .int 0 t) rfl ?_)
    refine wpAny_bind (wpAny_of_eq (a := some (0 : Int)) rfl ?_)
    refine wpAny_bind (wpAny_field hr rfl (x := .int n u) rfl ?_)
    refine wpAny_bind (wpAny_of_eq (a := some (n : Int)) rfl ?_)
    refine wpAny_bind (wpAny_field hr rfl (x := .int 1 v) rfl ?_)
    refine wpAny_bind (wpAny_of_eq (a := some (1 : Int)) rfl ?_)
    exact wpAny_pure hq
  refine wpAny_bind (hf _ ?_)
  have hs := range_small hn
  have hsz : Builtin.Range.rangeSize 0 n 1 = (n : Int) := by rw [rangeSize_one]; split <;> omega
  dsimp only
  rw [hs]
  simp only [Bool.not_true, Bool.false_eq_true, if_false, if_true, hsz]
  have e : (0 : Int) + ((n : Int) - 1) * 1 = (n : Int) - 1 := by omega
  rw [e]
  exact wpAny_bind (wpAny_newObj_type (wpAny_pure ⟨_, rfl, h⟩))
theorem code_reversed_range {r : Addr} {n : Nat} {t u v : Tok} {Q₁ : Value → Shared → Prop} (hr : IsRange s.heap r 0 n 1 t u v) (hn : n < 2 ^ 20)
    (h : Q₁ (.ref s.heap.objs.size) { s with heap := s.heap.push (rriObj n) }) :
    codeAny (model prog w) A (.call (.builtin "reversed.__new__") ⟨[.type "reversed", .ref r], []⟩) (wants Q₁ E) s := by
  have hT : s.TypeIs (.ref r) "range" := ⟨_, hr, rfl⟩
  refine codeAny_of_tree ?_
  show wpAny _ A.in1 (do checkBuiltinCall "reversed.__new__" ⟨[.type "reversed", .ref r], []⟩; again (.builtin "reversed.__new__" ⟨[.type "reversed", .ref r], []⟩)) _ _ s
  refine wpAny_bind (wpAny_of_eq (F.newCall_reversed_1 _) (wpAny_pure ⟨plainId_quiet F.plain_reversed_new _, codeAny_builtin F.entry_reversed_new ?_⟩))
  rw [Around.under_plainId F.plain_reversed_new _]
  unfold Builtin.«reversed.__new__»
  refine wpAny_bind (wpAny_of_eq (newClass_reversed _) ?_)
  try dsimp only
  refine wpAny_bind (wpAny_of_eq (a := ()) (by first | rfl | kernel_rfl) ?_)
  refine wpAny_bind (wpAny_of_eq (a := ()) (by first | rfl | kernel_rfl) ?_)
  try dsimp only
  refine wpAny_bind (wpAny_specialOf hT F.slot_range_reversed.lookup ?_)
  try dsimp only
  refine wpAny_bind (wpAny_of_eq (F.slot_range_reversed.bind _) ?_)
  try dsimp only
  first
  | rw [if_neg (show ¬ ((Value.builtin "range.__reversed__" == Value.none) = true) from Bool.false_ne_true)]
  | (show wpAny _ _ (if (Value.builtin "range.__reversed__" == Value.none) = true then _ else _) _ _ _; rw [if_neg (show ¬ ((Value.builtin "range.__reversed__" == Value.none) = true) from Bool.false_ne_true)])
  refine wpAny_bind (wpAny_rule ?_)
  refine wpAny_bind (m := runValue (.call (.builtin "range.__reversed__") ⟨[.ref r], []⟩)) (show wpAny _ _ (call (.builtin "range.__reversed__") [.ref r]) _ _ _ from call_range_reversed hr hn ?_)
  first
  | exact wpAny_pure h
  | exact wpAny_bind (wpAny_pure (wpAny_pure h))
theorem call_reversed_range {r : Addr} {n : Nat} {t u v : Tok} {Q : Value → Shared → Prop} (hr : IsRange s.heap r 0 n 1 t u v) (hn : n < 2 ^ 20)
    (h : Q (.ref s.heap.objs.size) { s with heap := s.heap.push (rriObj n) }) : wpAny (model prog w) A (call (.type "reversed") [.ref r]) Q E s := by
  refine callType_other (U := "range_iterator") (Q₁ := fun obj s₁ => obj = .ref s.heap.objs.size ∧ s₁ = { s with heap := s.heap.push (rriObj n) }) (by decide +kernel) F.create_reversed ⟨_, _, F.mro_reversed⟩ F.made_reversed sub_ri_reversed (F.typeCall_reversed_1 _) (code_reversed_range hr hn ⟨rfl, rfl⟩) ?_
  rintro obj s₁ ⟨rfl, rfl⟩
  exact ⟨⟨_, Heap.get?_push_size _ rfl, rfl⟩, h⟩
end
section
variable {C : Cx} {ρ : St} {c : Cf} {A : Around} {x : Str} {q pos p1 p2 p3 : Pos} {e : Expr} {b : Bool}
theorem iter_rev {k : Int} {t : Tok} (hh : A.handled = none) (o : Ok C c) (hk : k < 2 ^ 20) (hk0 : 0 ≤ k) : Itr C A c (rng k.toNat).reverse (.Name x q) fun Q E =>
    wpAny C.m A (call (.type "range") [.int k t]) (fun r s₁ => wpAny C.m A (call (.type "reversed") [r]) (fun x s₂ => wpAny C.m A (pyIter x) Q E s₂) E s₁) E c.s := fun Q E hQ => by
  obtain ⟨n, rfl⟩ := Int.eq_ofNat_of_zero_le hk0
  refine call_range_1 ?_
  have ir := IsRange.new c.s.heap 0 n 1 c.s.toks t (c.s.toks + 1)
  refine call_reversed_range ir (by omega) ?_
  generalize hH : c.s.heap.push { cls := .type "range", data := .fields #[.int 0 c.s.toks, .int (n : Int) t, .int 1 (c.s.toks + 1)] } = H
  have hs : H.objs.size = c.s.heap.objs.size + 1 := by rw [← hH, Heap.size_push]
  have W := Walks.range (prog := C.prog) (w := C.w) (A := A) hh H.objs.size ((n : Int) - 1) (-1) n
  have st : IsRangeIter (H.push (rriObj n)) H.objs.size ((n : Int) - 1 + ((0 : Nat) : Int) * -1) ((n : Int) - ((0 : Nat) : Int)) (-1) := by
    rw [show (n : Int) - 1 + ((0 : Nat) : Int) * -1 = (n : Int) - 1 by omega, show (n : Int) - ((0 : Nat) : Int) = (n : Int) by omega]
    exact Heap.get?_push_size H (o := rriObj n) rfl
  refine W.self 0 _ _ _ st ?_
  have nI : c.s.heap.get? H.objs.size = none := new_at (hs ▸ Nat.le_succ _)
  refine hQ _ (c.at (H.push _) (c.s.toks + 1 + 1)) (Gro.le' o ((hH ▸ le_push _ _).trans (le_push _ _)) (Nat.le_succ_of_le (Nat.le_succ _))) nI (o.zin.none nI) ⟨[], _, nofun, IterOk.of_walks W (by simp [rng]) (fun i h st => ⟨_, st⟩) fun i hi v hv => ?_, st⟩
  obtain ⟨t', e⟩ := hv
  have hi' : i < n := by simpa [rng] using hi
  rw [show (rng ((n : Nat) : Int).toNat).reverse[i] = V.int ((n : Int) - 1 - i) by rw [List.getElem_reverse]; simp [rng]; omega]
  exact ⟨t', e.trans (by rw [show ((n : Int) - 1) + (i : Int) * -1 = (n : Int) - 1 - i by omega])⟩
theorem src_rev {k : Int} (he : Ev C ρ e b (.int k)) (hk : 0 ≤ k ∧ k < 2 ^ 20) (hf : okName "range" = true ∧ ρ.ns.lookup ("range" : Str) = some .globalImplicit := by first | walk_at "gl" | exact ⟨rfl, rfl⟩) (hr : okName "reversed" = true ∧ ρ.ns.lookup ("reversed" : Str) = some .globalImplicit := by first | walk_at "gl" | exact ⟨rfl, rfl⟩) :
    Src C ρ (.Call (.Name "reversed" p1) [.Call (.Name "range" p2) [e] [] p3] [] pos) false (rng k.toNat).reverse := ⟨fun _ _ => rfl, fun p tg ht Q E hQ => by
  obtain ⟨y, q, rfl⟩ := ht
  refine Call_Name rfl (wpAny_global p.I hr C.G.rev (PySem.callWith_type rfl (Calls.evalArgs_plain (Calls.spliced_cons (Call_Name rfl (wpAny_global p.I hf C.G.range (call_any p (.inl (.inr ⟨_, rfl⟩)) (good_one he.g) (one_arg he p) fun _ c1 I1 s1 ⟨u, eu, r⟩ => ?_)))))))
  obtain ⟨t, e⟩ := (r.t I1).toInt
  rw [eu, e]
  exact wpAny_mono ((iter_rev p.hA.hand I1.ok hk.2 hk.1).on I1 s1 hQ) (fun r s' h => wpAny_pure h) fun _ _ h => h⟩
end
end Mine
end
section
namespace Mine
open PySem PyProof.Rows SeqAt
noncomputable def turnT (e : Expr) (gens : List Comprehension) (em : Sem Unit) (d : Nat) (it acc : Value) (env : Env) (t iter : Expr) (ifs : List Expr) : Sem Fin := do
  standAt iter.pos
  match ← pyNext it with
  | none => pure (.done .next)
  | some v => do
    letOwnedTupleGo t it v
    assign t env v
    let ok ← forIn ifs true fun c r => if r = true then do let ok ← isTrue c env (eval c env); pure (ForInStep.yield ok) else pure (ForInStep.yield r)
    if ok = true then
      match gens[d + 1]? with
      | some g' => do
        let x ← eval g'.iter env
        standAt g'.iter.pos
        let x ← foldedSetIterable g'.iter env x
        let it' ← holding [x] (pyIter x)
        let _ ← runOwn (.compStart e (d + 1) it' acc env) env
        again (.compLoop e d it acc env)
      | none => do
        em
        again (.compLoop e d it acc env)
    else again (.compLoop e d it acc env)
theorem turn_list (elt : Expr) (gens : List Comprehension) (scope : Scope) (pos : Pos) (d : Nat) (it acc : Value) (env : Env) (t iter : Expr) (ifs : List Expr) (hg : gens[d]? = some ⟨t, iter, ifs, 0⟩) (ha : ∀ g ∈ gens, g.is_async = 0) :
    compTurn (.ListComp elt gens scope pos) d it acc env = turnT (.ListComp elt gens scope pos) gens (do let _ ← call (.builtin "list.append") [acc, ← eval elt env]) d it acc env t iter ifs := by
  unfold compTurn turnT
  dsimp only
  rw [hg]
  cases hg' : gens[d + 1]? with
  | none => rfl
  | some g =>
    have := ha g (List.mem_of_getElem? hg')
    obtain ⟨t', i', f', a'⟩ := g
    simp only at this
    subst this
    rfl
noncomputable def emitD (k v : Expr) (env : Env) (acc : Value) : Sem Unit := do
  let kv ← eval k env
  let vv ← holding [kv] (eval v env)
  match acc with
  | .ref d => do
    standAt { k.pos with endLine := v.pos.endLine, endCol := v.pos.endCol }
    holding [kv, vv] (dictSet d kv vv)
  | _ => unsupported "internal:dictcomp"
theorem turn_dict (k v : Expr) (gens : List Comprehension) (scope : Scope) (pos : Pos) (d : Nat) (it acc : Value) (env : Env) (t iter : Expr) (ifs : List Expr) (hg : gens[d]? = some ⟨t, iter, ifs, 0⟩) (ha : ∀ g ∈ gens, g.is_async = 0) :
    compTurn (.DictComp k v gens scope pos) d it acc env = turnT (.DictComp k v gens scope pos) gens (emitD k v env acc) d it acc env t iter ifs := by
  unfold compTurn turnT emitD
  dsimp only
  rw [hg]
  cases hg' : gens[d + 1]? with
  | none => rfl
  | some g =>
    have := ha g (List.mem_of_getElem? hg')
    obtain ⟨t', i', f', a'⟩ := g
    simp only at this
    subst this
    rfl
noncomputable abbrev Emit := Expr ⊕ Expr × Expr
noncomputable def emT (emit : Emit) (env : Env) (D : Addr) : Sem Unit :=
  match emit with
  | .inl elt => do let _ ← call (.builtin "list.append") [.ref D, ← eval elt env]
  | .inr kv => emitD kv.1 kv.2 env (.ref D)
noncomputable def Cmp (e : Expr) (emit : Emit) (gens : List Comprehension) : Prop := (∃ elt sc pos, e = .ListComp elt gens sc pos ∧ emit = .inl elt) ∨ ∃ k v sc pos, e = .DictComp k v gens sc pos ∧ emit = .inr (k, v)
noncomputable def restT (e : Expr) (gens : List Comprehension) (em : Sem Unit) (d : Nat) (it acc : Value) (env : Env) (ok : Bool) : Sem Fin :=
    if ok = true then
      match gens[d + 1]? with
      | some g' => do
        let x ← eval g'.iter env
        standAt g'.iter.pos
        let x ← foldedSetIterable g'.iter env x
        let it' ← holding [x] (pyIter x)
        let _ ← runOwn (.compStart e (d + 1) it' acc env) env
        again (.compLoop e d it acc env)
      | none => do
        em
        again (.compLoop e d it acc env)
    else again (.compLoop e d it acc env)
section
variable {C : Cx} {A : Around} {E : Value → Shared → Prop} {s : Shared} {env : Env} {R : Result → Shared → Prop} {e : Expr} {emit : Emit} {gens : List Comprehension} {it acc : Value} {d D : Nat} {t iter : Expr} {ifs : List Expr}
theorem compStart_ok (K : Cmp e emit gens) (hg : gens[d]? = some ⟨t, iter, ifs, 0⟩) (h0 : codeAny C.m A (.compLoop e d it acc env) R s) (h : ∀ E, wpAny C.m A (pyIter it) (fun it' s' => codeAny C.m A (.compLoop e d it' acc env) R s') E s) :
    codeAny C.m A (.compStart e d it acc env) R s := by
  refine codeAny_of_tree ?_
  rcases K with ⟨elt, sc, pos, rfl, rfl⟩ | ⟨k, v, sc, pos, rfl, rfl⟩
  all_goals
    (refine wpAny_notedAt (env := env) (pos := theWindowsPlace) (m := compStart _ d it acc env) ?_
     unfold compStart
     simp only [clausesOf, hg]
     refine wpAny_bind (wpAny_askSetting (wpAny_ite ?_))
     split
     · first
         | exact wpAny_bind (wpAny_pure (wpAny_pure (And.intro rfl h0)))
         | exact wpAny_pure (And.intro rfl h0)
     · refine wpAny_bind (wpAny_rule ?_)
       first
         | exact wpAny_bind (wpAny_standAt (wpAny_bind (wpAny_mono (h _) (fun it' s' h' => wpAny_pure (And.intro rfl h')) fun _ _ x => x)))
         | (show wpAny _ _ (standAt iter.pos >>= _) _ _ s; exact wpAny_bind (wpAny_standAt (wpAny_bind (wpAny_mono (h _) (fun it' s' h' => wpAny_pure (And.intro rfl h')) fun _ _ x => x)))))
theorem compLoop_turn (K : Cmp e emit gens) (hg : gens[d]? = some ⟨t, iter, ifs, 0⟩) (ha : ∀ g ∈ gens, g.is_async = 0)
    (J : Nat → Shared → Prop) (turn : ∀ n s, J n s → ∀ E, wpAny C.m A (turnT e gens (emT emit env D) d it (.ref D) env t iter ifs) (fun fin s' => match fin with | .done f => R (.ok f) s' | .again c' => c' = .compLoop e d it (.ref D) env ∧ ∃ m, m < n ∧ J m s') E s)
    (n : Nat) (h : J n s) : codeAny C.m A (.compLoop e d it (.ref D) env) R s := by
  rcases K with ⟨elt, sc, pos, rfl, rfl⟩ | ⟨k, v, sc, pos, rfl, rfl⟩
  · refine codeAny_loop rfl J (fun n s hJ => ?_) n h
    refine wpAny_noted (env := env) ?_
    rw [turn_list _ _ _ _ _ _ _ _ _ _ _ hg ha]
    exact turn n s hJ _
  · refine codeAny_loop rfl J (fun n s hJ => ?_) n h
    refine wpAny_noted (env := env) ?_
    rw [turn_dict _ _ _ _ _ _ _ _ _ _ _ _ hg ha]
    exact turn n s hJ _
end
theorem drop_get {gens : List Comprehension} {d : Nat} {g : Comprehension} {gs : List Comprehension} (h : gens.drop d = g :: gs) : gens[d]? = some g := by
  have := congrArg List.head? h
  simpa [List.head?_drop] using this
theorem drop_next {gens : List Comprehension} {d : Nat} {g : Comprehension} {gs : List Comprehension} (h : gens.drop d = g :: gs) : gens.drop (d + 1) = gs := by
  rw [← List.drop_drop, h]; rfl
theorem drop_none {gens : List Comprehension} {d : Nat} (h : gens.drop d = []) : gens[d]? = none := by
  have := congrArg List.head? h
  simpa [List.head?_drop] using this
noncomputable def dictPut (k v : Int) : List (Int × Int) → List (Int × Int)
  | [] => [(k, v)]
  | (j, u) :: r => if j = k then (j, v) :: r else (j, u) :: dictPut k v r
noncomputable def Acc (emit : Emit) (a : V) (ys : List V) (b : V) : Prop :=
  match emit with
  | .inl _ => ∃ zs, a = .list zs ∧ b = .list (zs ++ ys) ∧ zs.length + ys.length < 2 ^ 20
  | .inr _ => ∃ (es ps : List (Int × Int)), a = .dict es ∧ ys = ps.map (fun p : Int × Int => V.tup [.int p.1, .int p.2]) ∧ b = .dict (ps.foldl (fun d p => dictPut p.1 p.2 d) es) ∧ es.length + ps.length < 2 ^ 20
theorem put_len (k j : Int) : ∀ es : List (Int × Int), (dictPut k j es).length ≤ es.length + 1
  | [] => Nat.le_refl _
  | p :: r => by
    unfold dictPut
    split
    · exact Nat.le_succ _
    · exact Nat.succ_le_succ (put_len k j r)
theorem puts_len : ∀ (ps es : List (Int × Int)), (ps.foldl (fun d p => dictPut p.1 p.2 d) es).length ≤ es.length + ps.length
  | [], _ => Nat.le_refl _
  | p :: ps, es => Nat.le_trans (puts_len ps _) (by have := put_len p.1 p.2 es; simp; omega)
theorem Acc.nil {emit : Emit} {a b : V} (h : Acc emit a [] b) : b = a := by
  cases emit with
  | inl _ => exact let ⟨zs, h1, h2, _⟩ := h; by rw [h1, h2, List.append_nil]
  | inr _ => exact let ⟨es, ps, h1, h2, h3, _⟩ := h; by rw [h1, h3, List.map_eq_nil_iff.mp h2.symm]; rfl
theorem Acc.split {emit : Emit} {a b : V} {ys zs : List V} (h : Acc emit a (ys ++ zs) b) : ∃ m, Acc emit a ys m ∧ Acc emit m zs b := by
  cases emit with
  | inl _ =>
    obtain ⟨xs, h1, h2, h3⟩ := h
    rw [List.length_append] at h3
    exact ⟨_, ⟨xs, h1, rfl, by omega⟩, xs ++ ys, rfl, by rw [h2, List.append_assoc], by rw [List.length_append]; omega⟩
  | inr _ =>
    obtain ⟨es, ps, h1, h2, h3, h4⟩ := h
    obtain ⟨p1, p2, e1, e2, e3⟩ := List.append_eq_map_iff.mp h2
    rw [e1, List.length_append] at h4
    have := puts_len p1 es
    exact ⟨_, ⟨es, p1, h1, e2.symm, rfl, by omega⟩, _, p2, rfl, e3.symm, by rw [h3, e1, List.foldl_append], by omega⟩
section
variable {C : Cx} {ρ : St} {Z : Fz} {s : Shared} {A : Around} {D : Addr}
theorem stored_rep (k j : Int) (t : Tok) : ∀ {es : List (Int × Int)} {kvs : List (Int × Value)}, RepD kvs es → (kvs.map (·.1)).Nodup → RepD (stored kvs k (.int j t)) (dictPut k j es)
  | [], _, e, _ => by rw [show _ = [] from e]; exact ⟨t, [], rfl, rfl⟩
  | (k', j') :: es, _, ⟨t', kvs, e, q⟩, hn => by
    subst e
    obtain ⟨hn1, hn2⟩ := List.nodup_cons.mp hn
    have ih := stored_rep k j t q hn2
    unfold dictPut
    by_cases hk : k' = k
    · subst hk
      rw [if_pos rfl]
      have e1 : kvs.map (fun kv => if kv.1 = k' then (kv.1, Value.int j t) else kv) = kvs := by
        conv => rhs; rw [← List.map_id kvs]
        refine List.map_congr_left fun kv hkv => if_neg fun e : kv.1 = k' => hn1 (e ▸ List.mem_map_of_mem (f := (·.1)) hkv)
      exact ⟨t, kvs, by unfold stored; simp only [List.any_cons, decide_true, Bool.true_or, if_true, List.map_cons, e1], q⟩
    · rw [if_neg hk]
      exact ⟨t', _, by unfold stored; simp only [List.any_cons, hk, decide_false, Bool.false_or, List.map_cons, if_false]; split <;> rfl, ih⟩
theorem append_ok {ys : List V} {v : Value} {y : V} {Q E : Value → Shared → Prop} (o : Own C Z s.heap D (.list ys)) (r : Rep C Z v y) (hl : ys.length < 2 ^ 20)
    (h : ∀ h', Own C Z h' D (.list (ys ++ [y])) → Heap.SameBut D s.heap h' → Q .none { s with heap := h' }) : wpAny C.m A (call (.builtin "list.append") [.ref D, v]) Q E s := by
  obtain ⟨vs, p, q⟩ := o
  exact wpAny_list_append_plain (hsz := small_size q hl) p fun h' p' hs => h h' ⟨vs ++ [v], by simpa using p', RepL.append (RepL.cons' (vs := []) (ws := []) r rfl) q⟩ hs
theorem dictSet_ok {es : List (Int × Int)} {k j : Int} {t u : Tok} {Q : Unit → Shared → Prop} {E : Value → Shared → Prop} (o : Own C Z s.heap D (.dict es)) (hl : es.length < 2 ^ 20)
    (h : ∀ h', Own C Z h' D (.dict (dictPut k j es)) → Heap.SameBut D s.heap h' → Q () { s with heap := h', toks := s.toks + 1 }) : wpAny C.m A (dictSet D (.int k t) (.int j u)) Q E s := by
  obtain ⟨kvs, n, p, q⟩ := o
  exact wpAny_dictSet_pairs (k := k) (by simp [intKind, Value.isInt]) p (fun h' p' hs => h h' ⟨_, n, p', stored_rep k j u q (dict_nodup p)⟩ hs) (by rw [q.len]; exact Nat.le_trans (Nat.le_of_lt hl) (by decide))
noncomputable def EmS (C : Cx) (ρ : St) (emit : Emit) (y : V) : Prop :=
  match emit with
  | .inl e => Ev C ρ e true y
  | .inr kv => ∃ b1 b2 i j, y = .tup [.int i, .int j] ∧ Ev C ρ kv.1 b1 (.int i) ∧ Ev C ρ kv.2 b2 (.int j)
structure Made (C : Cx) (F : Fm) (val : Str → Option Value) (ρ : St) (D : Addr) (a : V) (c c' : Cf) : Prop where
  I : Inv C F val ρ c'
  s : Stp F c c'
  o : Own C c'.Z c'.s.heap D a
  f : Free F val ρ c' D
theorem emit_ok {emit : Emit} {y a b : V} (p : Run C ρ) (h : EmS C ρ emit y) (hacc : Acc emit a [y] b) (o : Own C p.c.Z p.c.s.heap D a) (f : Free p.F p.val ρ p.c D) (E : Value → Shared → Prop) :
    wpAny C.m p.A (emT emit p.F.env D) (fun _ s' => ∃ c', s' = c'.s ∧ Made C p.F p.val ρ D b p.c c') E p.c.s := by
  have m := may_one (C := C) f
  have h1 : (D == D) = true := beq_self_eq_true D
  have last : ∀ {c2 : Cf} {h3 : Heap} {tk : Nat}, Back C p.F p.val ρ (· == D) p.c c2 → c2.s.toks ≤ tk → Heap.SameBut D c2.s.heap h3 → Own C c2.Z h3 D b → Made C p.F p.val ρ D b p.c (c2.at h3 tk) := fun {c2 h3 tk} B t hs o3 =>
    have f2 := f.later B rfl h1 o.live
    have g := Gro.one (tk' := tk) B.I.ok (fun b nb o e => (hs.2 b nb).trans e) o3.live f2.hid.z f2.hid.t t
    ⟨B.I.touchF g.toGro0 f2, B.s.trans (B.I.stp g.toGro0), o3, f2.hid, f2.ow⟩
  cases emit with
  | inl e =>
    obtain ⟨zs, h2, h3, h4⟩ := hacc
    subst h2 h3
    refine wpAny_bind (h.run (p.keep _ m) _ _ fun v c1 I1 s1 r1 => ?_)
    have B := back p.I rfl rfl I1 s1
    exact wpAny_bind (append_ok (o.mono s1.zle (B.kept D h1)) r1.rep (Nat.lt_of_le_of_lt (Nat.le_add_right _ _) h4) fun h3 o3 hs => wpAny_pure ⟨c1.at h3 c1.s.toks, rfl, last B (Nat.le_refl _) hs o3⟩)
  | inr kv =>
    obtain ⟨b1, b2, i, j, hy, g1, g2⟩ := h
    obtain ⟨es, ps, h2, h3, h4, h5⟩ := hacc
    obtain ⟨q, ps, rfl⟩ : ∃ q ps', ps = q :: ps' := List.ne_nil_iff_exists_cons.mp (fun e => by rw [e] at h3; cases h3)
    have e3 := List.cons.inj (h3 : [y] = _ :: _)
    have e4 : ps = [] := List.map_eq_nil_iff.mp e3.2.symm
    have e5 : q = (i, j) := by
      have := V.tup.inj (hy.symm.trans e3.1)
      simp at this
      exact Prod.ext this.1.symm this.2.symm
    subst h2 h4 e4 e5
    refine wpAny_bind (g1.run (p.keep _ m) _ _ fun v c1 I1 s1 r1 => wpAny_bind (wpAny_holding (g2.run ((p.keep _ m).go I1) _ _ fun u c2 I2 s2 r2 => ?_)))
    have B := back p.I rfl rfl I2 (s1.trans s2)
    obtain ⟨t1, e1⟩ := ((r1.mono s2.zle).t I2).toInt
    obtain ⟨t2, e2⟩ := (r2.t I2).toInt
    rw [e1, e2]
    exact wpAny_bind (wpAny_standAt (wpAny_holding (dictSet_ok (o.mono B.s.zle (B.kept D h1)) (Nat.lt_of_le_of_lt (Nat.le_add_right _ _) h5) fun h3 o3 hs => ⟨c2.at h3 _, rfl, last B (Nat.le_succ _) hs o3⟩)))
end
end Mine
end
section
namespace Mine
open PySem PyProof.Rows SeqAt
noncomputable def Tests (C : Cx) (ρ : St) (ifs : List Expr) (ok : Bool) : Prop :=
  match ifs with
  | [] => ok = true
  | c :: r => r = [] ∧ Tv C ρ c ok
structure Gen (C : Cx) (ρ : St) (emit : Emit) (t : Expr) (ifs : List Expr) (gs : List Comprehension) (xs ys : List V) : Prop where
  nm : ∃ y q, t = .Name y q
  run : ∀ (e : Expr) (gens : List Comprehension) (d : Nat) (iter : Expr) (D I : Addr) (a b : V), Cmp e emit gens → (∀ g ∈ gens, g.is_async = 0) → gens.drop d = ⟨t, iter, ifs, 0⟩ :: gs → Acc emit a ys b →
    ∀ (p : Run C ρ) (fp : List Addr) (S : Nat → Heap → Prop), Own C p.c.Z p.c.s.heap D a → Free p.F p.val ρ p.c D → IterOk C p.A p.c.Z I fp xs t S → S 0 p.c.s.heap → Free p.F p.val ρ p.c I → I ≠ D → (∀ b ∈ fp, ∃ o, p.c.Z.hp.get? b = some o) →
    ∀ R : Result → Shared → Prop, (∀ val' c', Made C p.F val' ρ D b p.c c' → R (.ok .next) c'.s) → codeAny C.m p.A (.compLoop e d (.ref I) (.ref D) p.F.env) R p.c.s
noncomputable def Rest (C : Cx) (ρ : St) (emit : Emit) (gs : List Comprehension) (ys : List V) : Prop :=
  match gs with
  | [] => ∃ y, ys = [y] ∧ EmS C ρ emit y
  | g :: gs' => ∃ xs, Src C ρ g.iter false xs ∧ Gen C ρ emit g.target g.ifs gs' xs ys
structure It (C : Cx) (ρ : St) (emit : Emit) (ifs : List Expr) (gs : List Comprehension) (ys : List V) : Prop where
  ex : ∃ ok, Tests C ρ ifs ok ∧ (ok = false → ys = []) ∧ (ok = true → Rest C ρ emit gs ys)
section
variable {C : Cx} {F : Fm} {val val' : Str → Option Value} {ρ : St} {c c' : Cf} {D I a : Addr} {P : Addr → Bool} {h : Heap}
theorem Free.add (f : Free F val ρ c a) (n : P a = false) : Free (F.add h P) val ρ c a := ⟨⟨f.hid.z, addK_none f.hid.k n, f.hid.p, f.hid.t⟩, f.ow⟩
theorem Free.del (l : Le F.Kp h) (f : Free (F.add h P) val ρ c a) : Free F val ρ c a := ⟨⟨f.hid.z, add_none l a f.hid.k, f.hid.p, f.hid.t⟩, f.ow⟩
theorem Free.ne {b : Addr} (f : Free (F.add h P) val ρ c a) (hb : P b = true) (l : ∃ o, h.get? b = some o) : a ≠ b := fun e => let ⟨_, l⟩ := l; no_some f.hid.k (addK_here (e ▸ hb) (e ▸ l))
theorem may_two (f : Free F val ρ c a) (g : Free F val ρ c I) : May C F val ρ fun b => b == a || b == I := ⟨fun b h => ((Bool.or_eq_true _ _).mp h).elim (fun h => eq_of_beq h ▸ ⟨f.hid.p, f.hid.t, f.ow⟩) fun h => eq_of_beq h ▸ ⟨g.hid.p, g.hid.t, g.ow⟩⟩
theorem Stp.at {h' : Heap} {tk : Nat} : Stp F c (c.at h' tk) := ⟨ZLe.rfl' _, fun _ _ e => .inl e, rfl, rfl, rfl⟩
structure Turn (C : Cx) (F : Fm) (ρ : St) (D I : Addr) (b : V) (c : Cf) (s' : Shared) : Prop where
  ex : ∃ val' c', s' = c'.s ∧ Made C F val' ρ D b c c' ∧ (∀ o, c.s.heap.get? I = some o → c'.s.heap.get? I = some o) ∧ Free F val' ρ c' I
theorem Turn.on {c1 : Cf} {b : V} {s' : Shared} (h : Turn C F ρ D I b c1 s') (s : Stp F c c1) (k : ∀ o, c.s.heap.get? I = some o → c1.s.heap.get? I = some o) : Turn C F ρ D I b c s' :=
  let ⟨v, c', e, m, q, f⟩ := h.ex; ⟨v, c', e, ⟨m.I, s.trans m.s, m.o, m.f⟩, fun o e => q o (k o e), f⟩
theorem rest_ok {e : Expr} {emit : Emit} {gens gs : List Comprehension} {d : Nat} {g0 : Comprehension} {x y : V} {ys : List V} {ok : Bool} (K : Cmp e emit gens) (ha : ∀ g ∈ gens, g.is_async = 0) (hd : gens.drop d = g0 :: gs) (h1 : ok = false → ys = []) (h2 : ok = true → Rest C ρ emit gs ys)
    (hacc : Acc emit x ys y) (p : Run C ρ) (o : Own C p.c.Z p.c.s.heap D x) (fD : Free p.F p.val ρ p.c D) (lI : ∃ o, p.c.s.heap.get? I = some o) (fI : Free p.F p.val ρ p.c I) (hID : I ≠ D) (E : Value → Shared → Prop) :
    wpAny C.m p.A (restT e gens (emT emit p.F.env D) d (.ref I) (.ref D) p.F.env ok) (fun fin s' => fin = .again (.compLoop e d (.ref I) (.ref D) p.F.env) ∧ Turn C p.F ρ D I y p.c s') E p.c.s := by
  unfold restT
  cases ok with
  | false =>
    have hy := (h1 rfl) ▸ hacc
    exact wpAny_pure ⟨rfl, p.val, p.c, rfl, ⟨p.I, Stp.rfl' _ _, hy.nil ▸ o, fD⟩, fun _ e => e, fI⟩
  | true =>
    have h2 := h2 rfl
    have hd' := drop_next hd
    have tI : (I == I) = true := beq_self_eq_true I
    have tD : (D == I) = false := beq_eq_false_iff_ne.mpr (Ne.symm hID)
    simp only [if_true]
    cases gs with
    | nil =>
      obtain ⟨y0, hy, hem⟩ := h2
      rw [drop_none hd']
      refine wpAny_bind (wpAny_mono (emit_ok (p.keep _ (may_one fI)) hem (hy ▸ hacc) o (fD.add tD) E) (fun _ s' hs => ?_) fun _ _ h => h)
      obtain ⟨c', hs, m⟩ := hs
      have B := back p.I rfl rfl m.I m.s
      rw [hs]
      exact wpAny_pure ⟨rfl, p.val, c', rfl, ⟨B.I, B.s, m.o, m.f.del p.I.bas.kin⟩, B.kept I tI, fI.later B rfl tI lI⟩
    | cons g gs' =>
      obtain ⟨xs, hsrc, hgen⟩ := h2
      have hg := drop_get hd'
      rw [hg]
      have hg0 : g = ⟨g.target, g.iter, g.ifs, 0⟩ := by have := ha g (List.mem_of_getElem? hg); cases g; cases this; rfl
      dsimp only
      have two := may_two (C := C) fD fI
      have uD : (D == D || D == I) = true := by rw [beq_self_eq_true]; rfl
      have uI : (I == D || I == I) = true := by rw [beq_self_eq_true, Bool.or_true]
      refine wpAny_bind (wpAny_mono (hsrc.run (p.keep _ two) g.target hgen.nm (fun it s' => wpAny C.m p.A (do let _ ← runOwn (.compStart e (d + 1) it (.ref D) p.F.env) p.F.env; again (.compLoop e d (.ref I) (.ref D) p.F.env))
        (fun fin s' => fin = .again (.compLoop e d (.ref I) (.ref D) p.F.env) ∧ Turn C p.F ρ D I y p.c s') E s') E fun I' c1 I1 s1 f1 it => ?_) (fun xv s1 h => wpAny_bind (wpAny_standAt ?_)) fun _ _ h => h)
      · obtain ⟨fp, S, hfp, it, st⟩ := it.ex
        have B := back p.I rfl rfl I1 s1
        have fD1 := fD.later B rfl uD o.live
        have fI1 := fI.later B rfl uI lI
        have lI1 : ∃ o, c1.s.heap.get? I = some o := let ⟨o, e⟩ := lI; ⟨o, B.kept I uI o e⟩
        have n1 := f1.ne uD o.live
        have n2 := f1.ne uI lI
        have body : codeAny C.m (p.A.mark none) (.compLoop e (d + 1) (.ref I') (.ref D) p.F.env) (fun r s' => match r with
            | .ok f => wpAny C.m p.A (again (.compLoop e d (.ref I) (.ref D) p.F.env)) (fun fin s' => fin = .again (.compLoop e d (.ref I) (.ref D) p.F.env) ∧ Turn C p.F ρ D I y p.c s') E s'
            | .error x => cameBackBy C.m p.A p.F.env E x s') c1.s := by
          rw [Around.mark_none]
          refine hgen.run e gens (d + 1) g.iter D I' x y K ha (hd'.trans (congrArg (· :: gs') hg0)) hacc ((p.go B.I).keep _ (may_one fI1)) fp S (o.mono B.s.zle (B.kept D uD)) (fD1.add tD) it st ((f1.del p.I.bas.kin).add (beq_eq_false_iff_ne.mpr n2)) n1 hfp _ fun val' c' m => ?_
          have B' := back B.I rfl rfl m.I m.s
          exact wpAny_pure ⟨rfl, val', c', rfl, ⟨B'.I, B.s.trans B'.s, m.o, m.f.del B.I.bas.kin⟩, fun o e => B'.kept I tI o (B.kept I uI o e), fI1.later B' rfl tI lI1⟩
        exact wpAny_bind (wpAny_runOwn (compStart_ok K (hg.trans (congrArg some hg0)) body fun E' => it.self hgen.nm 0 _ _ _ st body))
      · rw [hsrc.fold]
        exact wpAny_bind (wpAny_pure (wpAny_bind (wpAny_holding h)))
end
end Mine
end
section
namespace Mine
open PySem PyProof.Rows SeqAt
section
variable {C : Cx} {F : Fm} {val val' : Str → Option Value} {ρ : St} {c c' : Cf} {D I : Addr}
noncomputable def testT (env : Env) (ifs : List Expr) : Sem Bool := forIn ifs true fun c r => if r = true then do let ok ← PySem.isTrue c env (eval c env); pure (ForInStep.yield ok) else pure (ForInStep.yield r)
theorem item_ok' {e : Expr} {emit : Emit} {gens gs : List Comprehension} {d : Nat} {g0 : Comprehension} {ifs : List Expr} {x y : V} {ys : List V} (K : Cmp e emit gens) (ha : ∀ g ∈ gens, g.is_async = 0) (hd : gens.drop d = g0 :: gs) (hit : It C ρ emit ifs gs ys)
    (hacc : Acc emit x ys y) (p : Run C ρ) (o : Own C p.c.Z p.c.s.heap D x) (fD : Free p.F p.val ρ p.c D) (lI : ∃ o, p.c.s.heap.get? I = some o) (fI : Free p.F p.val ρ p.c I) (hID : I ≠ D) (E : Value → Shared → Prop) :
    wpAny C.m p.A (testT p.F.env ifs >>= restT e gens (emT emit p.F.env D) d (.ref I) (.ref D) p.F.env) (fun fin s' => fin = .again (.compLoop e d (.ref I) (.ref D) p.F.env) ∧ Turn C p.F ρ D I y p.c s') E p.c.s := by
  obtain ⟨ok, ht, h1, h2⟩ := hit.ex
  unfold testT
  match ifs, ht with
  | [], ht => exact wpAny_bind (wpAny_tests_nil (rest_ok (ok := true) K ha hd nofun (fun _ => h2 ht) hacc p o fD lI fI hID E))
  | [t], ⟨_, ht⟩ =>
    have uD : (D == D || D == I) = true := by rw [beq_self_eq_true]; rfl
    have uI : (I == D || I == I) = true := by rw [beq_self_eq_true, Bool.or_true]
    refine wpAny_bind (wpAny_tests_one (ht (p.keep _ (may_two fD fI)) _ _ fun u c1 I1 s1 eu => ?_))
    have B := back p.I rfl rfl I1 s1
    rw [eu]
    refine wpAny_mono (rest_ok K ha hd h1 h2 hacc (p.go B.I) (o.mono B.s.zle (B.kept D uD)) (fD.later B rfl uD o.live) (let ⟨o, e⟩ := lI; ⟨o, B.kept I uI o e⟩) (fI.later B rfl uI lI) hID E) (fun fin s' h => ⟨h.1, h.2.on B.s (B.kept I uI)⟩) fun _ _ h => h
theorem Free.same (f : Free F val ρ c D) (hz : c'.Z = c.Z) {x : Str} {v : Value} {ρ' : St} (hn : ρ'.ns = ρ.ns) (ho : ∀ z v, ρ'.ow z = some v → z ≠ x ∧ ρ.ow z = some v) : Free F (ups val x (some v)) ρ' c' D :=
  ⟨⟨hz ▸ f.hid.z, f.hid.k, hn ▸ f.hid.p, f.hid.t⟩, fun z u e q => let ⟨n, e⟩ := ho z u e; f.ow z u e ((ups_ne n).symm.trans q)⟩
structure GenJ {α : Type} (C : Cx) (F : Fm) (ρ : St) (D I : Addr) (S : Nat → Heap → Prop) (xs : List α) (G : α → List V) (emit : Emit) (b : V) (c : Cf) (m : Nat) (s' : Shared) : Prop where
  ex : ∃ l r, xs = l ++ r ∧ m = r.length + 1 ∧ ∃ val' c' x, s' = c'.s ∧ Made C F val' ρ D x c c' ∧ Free F val' ρ c' I ∧ S l.length c'.s.heap ∧ Acc emit x (r.map G).flatten b
theorem gen_ok {α : Type} {g : α → V} {G : α → List V} {xs : List α} {emit : Emit} {y : Str} {py : Pos} {ifs : List Expr} {gs : List Comprehension} (h0 : ρ.fr y = none) (h1 : ρ.ow y = none) (hm : ρ.mine y = true) (hb : BoOk ρ y) (h : ∀ a ∈ xs, It C (ρ.set y (g a)) emit ifs gs (G a)) :
    Gen C ρ emit (.Name y py) ifs gs (xs.map g) (xs.map G).flatten := ⟨⟨_, _, rfl⟩, fun e gens d iter D I a b K ha hd hacc p fp S o fD it st fI hID hfp R hR => by
  refine compLoop_turn K (drop_get hd) ha (GenJ C p.F ρ D I S xs G emit b p.c) ?_ (xs.length + 1) ⟨[], xs, rfl, rfl, p.val, p.c, a, rfl, ⟨p.I, Stp.rfl' _ _, o, fD⟩, fI, st, hacc⟩
  rintro m s' ⟨l, r, hxs, rfl, val', c', x, rfl, M, fI', st', hacc'⟩ E
  have hl : (xs.map g).length = l.length + r.length := by rw [List.length_map, hxs, List.length_append]
  unfold turnT
  refine wpAny_bind (wpAny_standAt (wpAny_bind ?_))
  cases r with
  | nil =>
    refine it.done c' _ E (by rw [hl]; exact st') M.I.ok fI'.hid.z fI'.hid.t fun c2 g2 => wpAny_pure ?_
    exact hR val' c2 ⟨M.I.touchF g2 fI', M.s.trans (M.I.stp g2), hacc'.nil ▸ M.o.mono g2.zle (g2.le D (Ne.symm hID) M.f.hid.t), ⟨g2.hid M.f.hid.z M.o.live, M.f.hid.k, M.f.hid.p, M.f.hid.t⟩, M.f.ow⟩
  | cons v r =>
    have hlt : l.length < (xs.map g).length := by rw [hl]; exact Nat.lt_add_of_pos_right (Nat.succ_pos _)
    have hx : (xs.map g)[l.length] = g v := by
      have : xs[l.length]'(by simpa using hlt) = v := by simp [hxs]
      rw [List.getElem_map, this]
    rw [List.map_cons, List.flatten_cons] at hacc'
    obtain ⟨x2, hacc1, hacc2⟩ := hacc'.split
    refine wpAny_mono (it.next l.length hlt c' (fun u s'' => wpAny C.m p.A (do
              assign (.Name y py) p.F.env u
              testT p.F.env ifs >>= restT e gens (emT emit p.F.env D) d (.ref I) (.ref D) p.F.env) (fun fin s' => match fin with
                | .done f => R (.ok f) s'
                | .again c' => c' = .compLoop e d (.ref I) (.ref D) p.F.env ∧ ∃ m, m < (v :: r).length + 1 ∧ GenJ C p.F ρ D I S xs G emit b p.c m s') E s'') E st' M.s.zle M.I.ok fI'.hid.z fI'.hid.t fun u c1 g1 r1 st1 => ?_) (fun q s' hr => ?_) fun _ _ h => h
    · rw [hx] at r1
      have J1 := M.I.touchF g1.toGro0 fI'
      have f1 : ∀ {a}, Free p.F val' ρ c' a → (∃ o, c'.s.heap.get? a = some o) → Free p.F val' ρ c1 a := fun f l => ⟨⟨g1.hid f.hid.z l, f.hid.k, f.hid.p, f.hid.t⟩, f.ow⟩
      have fD1 := f1 M.f M.o.live
      have fI1 := f1 fI' (it.live _ _ st')
      refine wpAny_bind (wpAny_assign_Name (wpAny_store J1.sta J1.bas (mine_var hm) fun h2 tk2 _ B b2 pb hs => ?_))
      have J2 := (J1.stored hb B pb hs).toF hm r1
      have same : ∀ {a}, Free p.F val' ρ c1 a → ∀ o, c1.s.heap.get? a = some o → h2.get? a = some o := fun {a} f o e => (hs.2 a fun n : a = b2 => f.hid.p (n ▸ pb)).trans e
      have f2 : ∀ {a}, Free p.F val' ρ c1 a → Free p.F (ups val' y (some u)) (ρ.set y (g v)) (c1.at h2 tk2) a := fun f => f.same (c' := c1.at h2 tk2) (ρ' := ρ.set y (g v)) rfl rfl fun z w e => ups_none (show ups ρ.ow y none z = some w from e)
      refine wpAny_mono (item_ok' K ha hd (h v (by rw [hxs]; simp)) hacc1 ⟨p.A, p.F, _, _, p.hA, J2⟩ ((M.o.mono g1.zle (g1.le D (Ne.symm hID) M.f.hid.t)).mono (ZLe.rfl' _) (same fD1)) (f2 fD1) (let ⟨o, e⟩ := it.live _ _ st1; ⟨o, same fI1 o e⟩) (f2 fI1) hID E) (fun fin s' hf => ?_) fun _ _ h => h
      obtain ⟨hfin, val3, c3, rfl, M3, kI, f3⟩ := (⟨hf.1, hf.2.ex⟩ : _ ∧ _)
      rw [hfin]
      have hfr : ∀ z w, ρ.fr z = some w → (ρ.set y (g v)).fr z = some w := fun z w e => (ups_ne fun n => no_some h0 (n ▸ e)).trans e
      have how : ∀ z w, ρ.ow z = some w → (ρ.set y (g v)).ow z = some w := fun z w e => (ups_ne fun n => no_some h1 (n ▸ e)).trans e
      have s3 := ((M.s.trans (M.I.stp g1.toGro0)).trans Stp.at).trans M3.s
      refine ⟨rfl, r.length + 1, Nat.lt_succ_self _, l ++ [v], r, by rw [hxs, List.append_assoc]; rfl, rfl, val3, c3, x2, rfl, ⟨M3.I.sub rfl rfl rfl rfl hfr how, s3, M3.o, M3.f.hid, fun z w e => M3.f.ow z w (how z w e)⟩, ⟨f3.hid, fun z w e => f3.ow z w (how z w e)⟩, ?_, hacc2⟩
      rw [List.length_append]
      refine it.frame _ _ _ st1 fun q hq o e => (List.mem_cons.mp hq).elim (fun hq => hq ▸ kI o (same fI1 o (hq ▸ e))) fun hq => ?_
      obtain ⟨o', e'⟩ := hfp q hq
      have z1 := (M.s.zle.trans g1.zle).hp _ _ e'
      exact M3.I.ok.zin _ _ (M3.s.zle.hp _ _ (got (g1.zin _ _ z1) e ▸ z1))
    · obtain ⟨u, rfl, hr⟩ := hr
      exact wpAny_bind hr⟩
end
end Mine
end
section
namespace Mine
open PySem PyProof.Rows SeqAt
section
variable {M : Model} {A : Around} {E : Value → Shared → Prop} {s : Shared}
theorem wpAny_newFunctionEnv_comp {scope : Scope} {globals : Addr} {cl : List (Str × Addr)} {qual : Str} {outer : Env} {Q : Env → Shared → Prop}
    (hQ : Q { scope := scope, locals := s.heap.objs.size, globals := globals, cells := cellsFrom (s.heap.objs.size + 1) scope.names cl, qual := qual, func := none, code := outer.code, frame := outer.frame, builtins := outer.builtins }
      { s with heap := pushCells (s.heap.push { cls := .type "dict", data := .dict #[] }) scope.names }) :
    wpAny M A (newFunctionEnv scope globals cl [] qual none .none (some outer)) Q E s := by
  simp only [newFunctionEnv, Option.isSome_some, if_true]
  refine wpAny_bind (wpAny_alloc ?_)
  refine wpAny_bind (wpAny_layCells _ (fun name kind cells => by cases hkc : kind == NameKind.cell <;> simp [hkc]) _ _ _ _ ?_)
  rw [show ({ s with heap := s.heap.push { cls := .type "dict", data := .dict #[] } } : Shared).heap.objs.size = s.heap.objs.size + 1 from Heap.size_push ..]
  exact wpAny_bind (wpAny_pure (wpAny_pure hQ))
end
theorem cellsFrom_append : ∀ (names : List (Str × NameKind)) (n : Nat) (acc : List (Str × Addr)), cellsFrom n names acc = cellsFrom n names [] ++ acc
  | [], _, _ => rfl
  | (x, kind) :: r, n, acc => by
    unfold cellsFrom
    split
    · rw [cellsFrom_append r (n + 1) ((x, n) :: acc), cellsFrom_append r (n + 1) [(x, n)], List.append_assoc]; rfl
    · exact cellsFrom_append r n acc
theorem cellsFrom_names : ∀ (names : List (Str × NameKind)) (n : Nat) (acc : List (Str × Addr)) (x : Str) (c : Addr), (x, c) ∈ cellsFrom n names acc → (x, NameKind.cell) ∈ names ∨ (x, c) ∈ acc
  | [], _, _, _, _, h => .inr h
  | (y, kind) :: r, n, acc, x, c, h => by
    unfold cellsFrom at h
    split at h
    · rename_i hk
      rcases cellsFrom_names r _ _ x c h with q | q
      · exact .inl (List.mem_cons_of_mem _ q)
      · rcases List.mem_cons.mp q with q | q
        · cases q
          have : kind = .cell := by simpa using hk
          subst this; exact .inl List.mem_cons_self
        · exact .inr q
    · rcases cellsFrom_names r _ _ x c h with q | q
      · exact .inl (List.mem_cons_of_mem _ q)
      · exact .inr q
theorem cellsFrom_acc {names : List (Str × NameKind)} {n : Nat} {acc : List (Str × Addr)} {p : Str × Addr} (h : p ∈ acc) : p ∈ cellsFrom n names acc := by
  rw [cellsFrom_append]; exact List.mem_append_right _ h
theorem cellsFrom_has : ∀ (names : List (Str × NameKind)) (n : Nat) (acc : List (Str × Addr)) (x : Str), (x, NameKind.cell) ∈ names → ∃ c, (x, c) ∈ cellsFrom n names acc
  | [], _, _, _, h => nomatch h
  | (y, kind) :: r, n, acc, x, h => by
    unfold cellsFrom
    rcases List.mem_cons.mp h with q | q
    · cases q
      rw [if_pos (by rfl)]
      exact ⟨n, cellsFrom_acc List.mem_cons_self⟩
    · split
      · exact cellsFrom_has r _ _ x q
      · exact cellsFrom_has r _ _ x q
noncomputable def clos (env : Env) : List (Str × NameKind) → List (Str × Addr) → List (Str × Addr)
  | [], acc => acc
  | (n, k) :: r, acc => if k == .free then clos env r ((n, (env.cells.lookup n).getD 0) :: acc) else clos env r acc
theorem closureFor_eq {scope : Scope} {env : Env} (h : ∀ x, (x, NameKind.free) ∈ scope.names → ∃ c, env.cells.lookup x = some c) : closureFor scope env = pure (clos env scope.names []) := by
  unfold closureFor
  have key : ∀ (names : List (Str × NameKind)) (acc : List (Str × Addr)), (∀ x, (x, NameKind.free) ∈ names → ∃ c, env.cells.lookup x = some c) →
      (forIn names acc fun (x : Str × NameKind) (cs : List (Str × Addr)) => (if (x.2 == NameKind.free) = true then do let a ← cellOf env x.1; pure (ForInStep.yield ((x.1, a) :: cs)) else pure (ForInStep.yield cs) : Sem (ForInStep (List (Str × Addr))))) = pure (clos env names acc) := by
    intro names
    induction names with
    | nil => intro acc _; rfl
    | cons p r ih =>
      intro acc hf
      obtain ⟨n, k⟩ := p
      rw [List.forIn_cons]
      unfold clos
      by_cases hk : (k == NameKind.free) = true
      · have hk' : k = .free := by simpa using hk
        subst hk'
        obtain ⟨c, hc⟩ := hf n List.mem_cons_self
        rw [if_pos hk, if_pos hk]
        unfold cellOf
        rw [hc]
        exact ih _ fun x hx => hf x (List.mem_cons_of_mem _ hx)
      · rw [if_neg hk, if_neg hk]
        exact ih _ fun x hx => hf x (List.mem_cons_of_mem _ hx)
  have := key scope.names [] h
  exact congrArg (fun t => t >>= pure) this
theorem clos_good {env : Env} : ∀ (names : List (Str × NameKind)) (acc : List (Str × Addr)), (∀ x, (x, NameKind.free) ∈ names → ∃ c, env.cells.lookup x = some c) → (∀ x c, (x, c) ∈ acc → env.cells.lookup x = some c) →
    (∀ x c, (x, c) ∈ clos env names acc → env.cells.lookup x = some c) ∧ ∀ x, ((x, NameKind.free) ∈ names ∨ ∃ c, (x, c) ∈ acc) → ∃ c, (x, c) ∈ clos env names acc
  | [], acc, _, ha => ⟨ha, fun x h => h.elim (fun h => nomatch h) id⟩
  | (n, k) :: r, acc, hf, ha => by
    unfold clos
    by_cases hk : (k == NameKind.free) = true
    · have hk' : k = .free := by simpa using hk
      subst hk'
      rw [if_pos hk]
      obtain ⟨c, hc⟩ := hf n List.mem_cons_self
      have := clos_good (env := env) r ((n, (env.cells.lookup n).getD 0) :: acc) (fun x hx => hf x (List.mem_cons_of_mem _ hx)) (fun x c' hx => by
        rcases List.mem_cons.mp hx with q | q
        · cases q; rw [hc]; rfl
        · exact ha x c' q)
      refine ⟨this.1, fun x hx => this.2 x ?_⟩
      rcases hx with hx | ⟨c', hx⟩
      · rcases List.mem_cons.mp hx with q | q
        · cases q; exact .inr ⟨_, List.mem_cons_self⟩
        · exact .inl q
      · exact .inr ⟨c', List.mem_cons_of_mem _ hx⟩
    · rw [if_neg hk]
      have := clos_good (env := env) r acc (fun x hx => hf x (List.mem_cons_of_mem _ hx)) ha
      refine ⟨this.1, fun x hx => this.2 x ?_⟩
      rcases hx with hx | hx
      · rcases List.mem_cons.mp hx with q | q
        · cases q; exact absurd rfl hk
        · exact .inl q
      · exact .inr hx
theorem lookup_of_mem {α : Type} : ∀ {l : List (Str × α)} {x : Str} {c : α}, (x, c) ∈ l → ∃ c', l.lookup x = some c'
  | (y, d) :: r, x, c, h => by
    rw [List.lookup_cons]
    cases hb : x == y with
    | true => exact ⟨d, rfl⟩
    | false =>
      rcases List.mem_cons.mp h with q | q
      · cases q; simp at hb
      · exact lookup_of_mem q
theorem lookup_relabel {env : Env} : ∀ {names : List (Str × NameKind)} {x : Str},
    (names.map fun (n, k) => if (k == NameKind.free && env.scope.kind == .function && env.kindOf n == some .cell) then (n, NameKind.cell) else (n, k)).lookup x =
      (names.lookup x).map fun k => if (k == NameKind.free && env.scope.kind == .function && env.kindOf x == some .cell) then NameKind.cell else k
  | [], _ => rfl
  | (n, k) :: r, x => by
    have ih := @lookup_relabel env r x
    show List.lookup x ((if (k == NameKind.free && env.scope.kind == .function && env.kindOf n == some .cell) = true then (n, NameKind.cell) else (n, k)) :: _) = _
    have e1 : ∀ (q : Bool), (if q = true then (n, NameKind.cell) else (n, k)) = (n, if q = true then NameKind.cell else k) := fun q => by cases q <;> rfl
    rw [e1, List.lookup_cons, List.lookup_cons]
    cases hx : x == n with
    | true =>
      have : x = n := by simpa using hx
      subst this; rfl
    | false => exact ih
noncomputable def innerOk (ns : List (Str × NameKind)) (sc : Scope) : Bool := sc.kind == .function && sc.names.all fun p => if p.2 = .free then ns.lookup p.1 == some .cell || ns.lookup p.1 == some .free else sc.names.lookup p.1 == some p.2
noncomputable def St.inner (ρ : St) (sc : Scope) : St := ⟨sc.names, fun x => if sc.names.lookup x = some .free then ρ.fr x else none, fun _ => none, none, none, false⟩
structure InnerIs (ns : List (Str × NameKind)) (sc : Scope) : Prop where
  kind : sc.kind = .function
  free : ∀ x, (x, NameKind.free) ∈ sc.names → ns.lookup x = some .cell ∨ ns.lookup x = some .free
  rest : ∀ x k, (x, k) ∈ sc.names → k ≠ .free → sc.names.lookup x = some k
theorem inner_is {ns : List (Str × NameKind)} {sc : Scope} (h : innerOk ns sc = true) : InnerIs ns sc := by
  obtain ⟨hk, ha⟩ := (Bool.and_eq_true _ _).mp h
  have ha := List.all_eq_true.mp ha
  exact ⟨by revert hk; cases sc.kind <;> first | exact fun _ => rfl | exact nofun, fun x m => ((Bool.or_eq_true _ _).mp ((if_pos rfl).symm.trans (ha _ m))).imp eq_of_beq eq_of_beq, fun x k m n => eq_of_beq ((if_neg n).symm.trans (ha _ m))⟩
noncomputable def cenvOf (sc : Scope) (L : Addr) (env : Env) : Env :=
  { scope := relabel sc env, locals := L, globals := env.globals, cells := cellsFrom (L + 1) sc.names (clos env sc.names []), qual := env.qual, func := none, code := env.code, frame := env.frame, builtins := env.builtins }
noncomputable def valIn (names : List (Str × NameKind)) (val : Str → Option Value) (x : Str) : Option Value := if names.lookup x = some .free then val x else none
theorem valIn_ne {names : List (Str × NameKind)} {val : Str → Option Value} {x : Str} {k : NameKind} (h : names.lookup x = some k) (n : k ≠ .free) : valIn names val x = none := if_neg fun e => n (got h e)
noncomputable def notIn (D I : Addr) (a : Addr) : Bool := !(a == lamP) && !(a == D) && !(a == I)
theorem notIn_of {D I a : Addr} (h1 : a ≠ lamP) (h2 : a ≠ D) (h3 : a ≠ I) : notIn D I a = true := by unfold notIn; simp [h1, h2, h3]
section
variable {C : Cx} {F : Fm} {val : Str → Option Value} {ρ : St} {c : Cf} {D Ia : Addr} {sc : Scope}
theorem Sta.capt (S : Sta F ρ.ns ρ.lam) {x : Str} (k : ρ.ns.lookup x = some .cell ∨ ρ.ns.lookup x = some .free) : ∃ a, F.env.cells.lookup x = some a ∧ (F.plc ρ.ns a ∨ ∃ o, F.Kp.get? a = some o) :=
  k.elim (fun k => let ⟨a, e⟩ := S.hasC x k; ⟨a, e, .inl (.inr ⟨x, k, e⟩)⟩) fun k => let ⟨a, o, e, q⟩ := S.outer x k; ⟨a, e, .inr ⟨o, q⟩⟩
theorem Free.off {a b : Addr} (f : Free F val ρ c a) (h : F.plc ρ.ns b ∨ ∃ o, F.Kp.get? b = some o) : b ≠ a := fun e => h.elim (fun p => f.hid.p (e ▸ p)) fun ⟨_, q⟩ => no_some f.hid.k (e ▸ q)
noncomputable abbrev inH (h : Heap) (sc : Scope) : Heap := pushCells (h.push { cls := .type "dict", data := .dict #[] }) sc.names
noncomputable abbrev inF (F : Fm) (h : Heap) (sc : Scope) (D Ia : Addr) : Fm := ⟨cenvOf sc h.objs.size F.env, keepP h (notIn D Ia), 0, 0⟩
theorem inner_inv (I : Inv C F val ρ c) (i : InnerIs ρ.ns sc) (fD : Free F val ρ c D) (fI : Free F val ρ c Ia) :
    Inv C (inF F c.s.heap sc D Ia) (valIn sc.names val) (ρ.inner sc) (c.at (inH c.s.heap sc) c.s.toks) ∧ Le c.s.heap (inH c.s.heap sc) ∧ ∀ a, (inF F c.s.heap sc D Ia).plc sc.names a → c.s.heap.get? a = none := by
  have le : Le c.s.heap (inH c.s.heap sc) := (le_push _ _).trans (pushCells_keeps _ _)
  have ok := cellsFrom_ok sc.names (c.s.heap.push { cls := .type "dict", data := .dict #[] }) (c.s.heap.objs.size + 1) [] ⟨fun _ _ hm => (nomatch hm), List.Pairwise.nil⟩ (by rw [Heap.size_push]; exact Nat.le_refl _)
  rw [Heap.size_push] at ok
  have capt := fun x (m : (x, NameKind.free) ∈ sc.names) => I.sta.capt (i.free x m)
  have cells : ∀ x, sc.names.lookup x = some .cell → ∃ a, (cellsFrom (c.s.heap.objs.size + 1) sc.names (clos F.env sc.names [])).lookup x = some a ∧ (x, a) ∈ cellsFrom (c.s.heap.objs.size + 1) sc.names [] := fun x hx => by
    obtain ⟨a, hc⟩ := cellsFrom_has sc.names (c.s.heap.objs.size + 1) [] x (mem_of_lookup hx)
    obtain ⟨a', hc'⟩ := lookup_of_mem hc
    exact ⟨a', by rw [cellsFrom_append, List.lookup_append, hc']; rfl, mem_of_lookup hc'⟩
  have frees : ∀ x, sc.names.lookup x = some .free → ∃ a, (cellsFrom (c.s.heap.objs.size + 1) sc.names (clos F.env sc.names [])).lookup x = some a ∧ F.env.cells.lookup x = some a ∧ (F.plc ρ.ns a ∨ ∃ o, F.Kp.get? a = some o) := fun x hx => by
    have m := mem_of_lookup hx
    obtain ⟨a, e, q⟩ := capt x m
    obtain ⟨g1, g2⟩ := clos_good (env := F.env) sc.names [] (fun y my => let ⟨a, l, _⟩ := capt y my; ⟨a, l⟩) fun _ _ h => nomatch h
    obtain ⟨c2, h2⟩ := g2 x (.inl m)
    obtain ⟨c3, h3⟩ := lookup_of_mem (cellsFrom_acc (names := sc.names) (n := c.s.heap.objs.size + 1) h2)
    refine ⟨a, h3.trans ?_, e, q⟩
    rcases cellsFrom_names _ _ _ _ _ (mem_of_lookup h3) with q | q
    · exact nomatch hx.symm.trans (i.rest x .cell q nofun)
    · exact (g1 x c3 q).symm.trans e
  have new : ∀ a, (inF F c.s.heap sc D Ia).plc sc.names a → c.s.heap.get? a = none ∧ ∃ o, (inH c.s.heap sc).get? a = some o := fun a p => by
    rcases p with e | ⟨x, k, e⟩
    · exact ⟨e ▸ new_none _, e ▸ live_ns ((Heap.Ns.new c.s.heap (.type "dict")).keeps (pushCells_keeps _ _))⟩
    · obtain ⟨a', e', m⟩ := cells x k
      have ea : a = a' := got e e'
      obtain ⟨ic, hc⟩ := ok.empty x a' m
      exact ea ▸ ⟨new_at (Nat.le_of_succ_le hc), live_cell ic⟩
  have hL : ∀ x a, sc.names.lookup x = some .cell → (inF F c.s.heap sc D Ia).env.cells.lookup x = some a → c.s.heap.objs.size ≠ a := fun x a k e => by
    obtain ⟨a', e', m⟩ := cells x k
    exact got e e' ▸ Nat.ne_of_lt (ok.empty x a' m).2
  have inK : ∀ {a o}, c.s.heap.get? a = some o → a ≠ lamP → a ≠ D → a ≠ Ia → (keepP c.s.heap (notIn D Ia)).get? a = some o := fun e h1 h2 h3 => keepP_some.mpr ⟨notIn_of h1 h2 h3, e⟩
  have st : Sta (inF F c.s.heap sc D Ia) sc.names false := by
    refine ⟨i.kind, I.sta.glob, I.sta.blt, fun x k e => ?_, fun x k => let ⟨a, e, _⟩ := cells x k; ⟨a, e⟩, fun x y a kx ky ex ey => ?_, hL, fun x k => ?_, fun a p => (keepP_le _ _).none (new a p).1, fun a p e => ne_none I.bas.tab.live (e ▸ (new a p).1) rfl, keepP_none (by unfold notIn; rfl), nofun⟩
    · have hr : (cenvOf sc c.s.heap.objs.size F.env).kindOf x = (sc.names.lookup x).map fun k => if (k == NameKind.free && F.env.scope.kind == .function && F.env.kindOf x == some .cell) then NameKind.cell else k := lookup_relabel
      rw [e, Option.map_some] at hr
      cases k with
      | free =>
        show _ ∨ _
        rw [hr]
        split
        · exact .inl rfl
        · exact .inr rfl
      | globalExplicit => trivial
      | «local» => exact hr
      | cell => exact hr
      | globalImplicit => exact hr
    · obtain ⟨c1, l1, m1⟩ := cells x kx
      obtain ⟨c2, l2, m2⟩ := cells y ky
      exact name_of_addr ok.apart m1 (((got ex l1).symm.trans (got ey l2)).symm ▸ m2)
    · obtain ⟨a, l, e, q⟩ := frees x k
      have ic := I.bas.cel x a (i.free x (mem_of_lookup k)) e
      obtain ⟨o, ho⟩ := live_cell ic
      exact ⟨a, o, l, inK ho (q.elim (I.sta.plT a) fun ⟨_, q⟩ => ne_of_get q I.sta.tabK) (fD.off q) (fI.off q)⟩
  refine ⟨⟨st, ⟨⟨I.ok.base, I.ok.zin.trans le, I.ok.tok⟩, (keepP_le _ _).trans le, I.bas.tab.mono (ZLe.rfl' _) (le _), I.bas.tabZ, fun a p => I.ok.zin.none (new a p).1, ⟨_, (Heap.Ns.new c.s.heap (.type "dict")).keeps (pushCells_keeps _ _), fun x k => (valIn_ne (names := sc.names) k nofun).symm⟩, fun x a k e => ?_⟩, fun x y e => ?_, nofun, nofun, nofun, nofun⟩, le, fun a p => (new a p).1⟩
  · rcases k with k | k
    · obtain ⟨a', e', m⟩ := cells x k
      rw [got e e', valIn_ne (names := sc.names) k nofun]
      exact (ok.empty x a' m).1
    · obtain ⟨a', l, e', _⟩ := frees x k
      rw [got e l, show valIn sc.names val x = val x from if_pos k]
      exact (I.bas.cel x a' (i.free x (mem_of_lookup k)) e').keeps le
  · obtain ⟨k, e⟩ := of_ite e
    obtain ⟨_, u, q, r⟩ := I.fr x y e
    exact ⟨.inr (.inr k), u, (if_pos k).trans q, r⟩
end
end Mine
end
section
namespace Mine
open PySem PyProof.Rows SeqAt
section
variable {C : Cx} {ρ : St} {e it t : Expr} {emit : Emit} {ifs : List Expr} {gs : List Comprehension} {xs ys : List V} {sc : Scope} {pos : Pos} {newAcc : Sem Value} {a0 b : V} {E Q : Value → Shared → Prop}
theorem comp_core (K : Cmp e emit (⟨t, it, ifs, 0⟩ :: gs)) (hcl : clausesOf e = ⟨t, it, ifs, 0⟩ :: gs) (ha : ∀ g ∈ gs, g.is_async = 0) (hsrc : Src C ρ it false xs) (hi : InnerIs ρ.ns sc) (hgen : Gen C (ρ.inner sc) emit t ifs gs xs ys) (hacc : Acc emit a0 ys b)
    (hnew : ∀ A c, Ok C c → sysModules < c.s.heap.objs.size → GivesNew C A newAcc c a0) (p : Run C ρ) {use : Option (Value → Sem Unit)}
    (hQ : ∀ D L m c', Inv C p.F p.val ρ c' → Stp p.F p.c c' → Own C c'.Z c'.s.heap D b → Free p.F p.val ρ c' D → c'.s.heap.Ns L m → Free p.F p.val ρ c' L → L ≠ D → compPost C.m p.A E use Q (.ref D) L (.ok .next) c'.s) :
    wpAny C.m p.A (comprehension e sc p.F.env pos newAcc false (eval it p.F.env) use) Q E p.c.s := by
  refine wpAny_comprehension_free (g := ⟨t, it, ifs, 0⟩) (gs := gs) hcl (hsrc.fold _) (closureFor_eq fun x m => let ⟨a, e, _⟩ := p.I.sta.capt (hi.free x m); ⟨a, e⟩) hi.kind (fun q m e => by obtain ⟨a, k⟩ := q; cases e; exact hi.rest a _ m nofun) ?_
  refine hsrc.run p t hgen.nm _ _ fun Ia c1 I1 s1 f1 itat => hnew p.A c1 I1.ok I1.room _ _ fun D c2 g2 oD nD zD => wpAny_newFunctionEnv_comp ?_
  obtain ⟨fp, S, hfp, itk, st0⟩ := itat.ex
  have I2 := I1.gro g2
  have fD : Free p.F p.val ρ c2 D := I1.free nD zD
  have lI : ∃ o, c2.s.heap.get? Ia = some o := g2.live Ia (itk.live 0 _ st0)
  have fI : Free p.F p.val ρ c2 Ia := ⟨⟨g2.hid f1.hid.z (itk.live 0 _ st0), f1.hid.k, f1.hid.p, f1.hid.t⟩, f1.ow⟩
  have hID : Ia ≠ D := ne_none (itk.live 0 _ st0) nD
  obtain ⟨Ii, le3, new⟩ := inner_inv I2 hi fD fI
  have off : ∀ {a}, (∃ o, c2.s.heap.get? a = some o) → notIn D Ia a = false → c2.Z.hp.get? a = none → a ≠ lamP → Free (inF p.F c2.s.heap sc D Ia) (valIn sc.names p.val) (ρ.inner sc) (c2.at (inH c2.s.heap sc) c2.s.toks) a := fun l n z t => ⟨⟨z, keepP_none n, fun q => ne_none l (new _ q) rfl, t⟩, nofun⟩
  have st2 : S 0 (inH c2.s.heap sc) := itk.frame 0 _ _ st0 fun q hq o e => le3 _ _ (g2.le q (fun n => (List.mem_cons.mp hq).elim (fun m => fI.hid.t (m ▸ n)) fun m => let ⟨_, z⟩ := hfp q m; no_some I1.bas.tabZ (n ▸ z)) (fun n => (List.mem_cons.mp hq).elim (fun m => fI.hid.t (m ▸ n)) fun m => let ⟨_, z⟩ := hfp q m; no_some I1.bas.tabZ (n ▸ z)) o e)
  have body : codeAny C.m p.A (.compLoop e 0 (.ref Ia) (.ref D) (cenvOf sc c2.s.heap.objs.size p.F.env)) (compPost C.m p.A E use Q (.ref D) c2.s.heap.objs.size) (c2.at (inH c2.s.heap sc) c2.s.toks).s := by
    refine hgen.run e _ 0 it D Ia a0 b K (fun g hg => (List.mem_cons.mp hg).elim (fun q => q ▸ rfl) (ha g)) rfl hacc ⟨p.A, _, _, _, p.hA, Ii⟩ fp S (oD.mono (ZLe.rfl' _) fun o => le3 _ o) (off oD.live (by unfold notIn; simp) zD fD.hid.t) (itk.mono g2.zle) st2 (off lI (by unfold notIn; simp) fI.hid.z fI.hid.t) hID
      (fun q hq => let ⟨o, e⟩ := hfp q hq; ⟨o, g2.zle.hp _ _ e⟩) _ fun val' c4 M => ?_
    have gI : Gro0 Ia c2 (c2.at (keepP c2.s.heap fun a => !(a == Ia)) c2.s.toks) := Gro0.one I2.ok (fun q nq o e => keepP_some.mpr ⟨by simp [nq], e⟩) fI.hid.z fI.hid.t (Nat.le_refl _)
    have I3 := I2.touchF gI fI
    have gD : Gro0 D (c2.at (keepP c2.s.heap fun a => !(a == Ia)) c2.s.toks) c4 := by
      refine ⟨fun q nq nt o e => ?_, fun _ => M.I.bas.tab, M.s.zle, M.I.ok.zin, fun q o e => (M.s.old q o e).imp id fun n => none_of fun o' e' => ?_, M.I.ok.tok, ⟨M.s.rst.g, M.s.rst.d, M.s.rst.o⟩⟩
      · obtain ⟨h1, h2⟩ := keepP_some.mp e
        exact M.I.bas.kin q o (keepP_some.mpr ⟨notIn_of nt nq (by simpa using h1), h2⟩)
      · obtain ⟨h1, h2⟩ := keepP_some.mp e'
        have n1 : q ≠ lamP := fun h => no_some M.I.bas.tabZ (h ▸ e)
        have n2 : q ≠ D := fun h => no_some M.f.hid.z (h ▸ e)
        exact no_some n (keepP_some.mpr ⟨notIn_of n1 n2 (by simpa using h1), h2⟩)
    have fD3 : Free p.F p.val ρ (c2.at (keepP c2.s.heap fun a => !(a == Ia)) c2.s.toks) D := ⟨fD.hid, fD.ow⟩
    obtain ⟨m, n, _⟩ := M.I.bas.loc
    exact hQ D c2.s.heap.objs.size m c4 (I3.touchF gD fD3) ((s1.trans (I1.stp g2.toGro0)).trans ((I2.stp gI).trans (I3.stp gD))) M.o ⟨⟨M.f.hid.z, fD.hid.k, fD.hid.p, fD.hid.t⟩, fD.ow⟩ n (I2.free (new_none _) (M.I.bas.plZ _ (.inl rfl))) (Ne.symm (ne_none oD.live (new_none _)))
  exact compStart_ok K rfl body fun E' => itk.self hgen.nm 0 _ _ _ st2 body
theorem let_go {p : Run C ρ} {c' : Cf} {val' : Str → Option Value} {ρ' : St} {L : Addr} {m : Str → Option Value} {h' : Heap} (I : Inv C p.F val' ρ' c') (f : Free p.F val' ρ' c' L) (n : c'.s.heap.Ns L m) (hs : Heap.SameBut L c'.s.heap h') : Inv C p.F val' ρ' (c'.at h' c'.s.toks) ∧ Stp p.F c' (c'.at h' c'.s.toks) :=
  have g : Gro0 L c' (c'.at h' c'.s.toks) := Gro0.one I.ok (fun q nq o e => (hs.2 q nq).trans e) f.hid.z f.hid.t (Nat.le_refl _)
  ⟨I.touchF g f, I.stp g⟩
theorem comp_plain (K : Cmp e emit (⟨t, it, ifs, 0⟩ :: gs)) (hcl : clausesOf e = ⟨t, it, ifs, 0⟩ :: gs) (ha : ∀ g ∈ gs, g.is_async = 0) (hsrc : Src C ρ it false xs) (hi : InnerIs ρ.ns sc) (hgen : Gen C (ρ.inner sc) emit t ifs gs xs ys) (hacc : Acc emit a0 ys b)
    (hnew : ∀ A c, Ok C c → sysModules < c.s.heap.objs.size → GivesNew C A newAcc c a0) (p : Run C ρ) : Does p (comprehension e sc p.F.env pos newAcc false (eval it p.F.env) none) fun c' u => ∃ a, u = .ref a ∧ Own C c'.Z c'.s.heap a b ∧ Free p.F p.val ρ c' a := fun Q E hQ =>
  comp_core K hcl ha hsrc hi hgen hacc hnew p fun D L m c' I s o f n fL hLD => ⟨m, n, fun h' hs =>
    let ⟨I', s'⟩ := let_go (p := p) I fL n hs
    hQ _ (c'.at h' c'.s.toks) I' (s.trans s') ⟨D, rfl, o.mono (ZLe.rfl' _) fun o e => (hs.2 D (Ne.symm hLD)).trans e, f.hid, f.ow⟩⟩
theorem comp_used (K : Cmp e emit (⟨t, it, ifs, 0⟩ :: gs)) (hcl : clausesOf e = ⟨t, it, ifs, 0⟩ :: gs) (ha : ∀ g ∈ gs, g.is_async = 0) (hsrc : Src C ρ it false xs) (hi : InnerIs ρ.ns sc) (hgen : Gen C (ρ.inner sc) emit t ifs gs xs ys) (hacc : Acc emit a0 ys b)
    (hnew : ∀ A c, Ok C c → sysModules < c.s.heap.objs.size → GivesNew C A newAcc c a0) (p : Run C ρ) {x : Str} {px : Pos} (hm : ρ.mine x = true) (hb : BoOk ρ x)
    (hQ : ∀ c' a, Inv C p.F (ups p.val x (some (.ref a))) (ρ.setO x b) c' → Stp p.F p.c c' → Q .none c'.s) : wpAny C.m p.A (comprehension e sc p.F.env pos newAcc false (eval it p.F.env) (some (assign (.Name x px) p.F.env))) Q E p.c.s :=
  comp_core K hcl ha hsrc hi hgen hacc hnew p fun D L m c' I s o f n fL hLD => wpAny_assign_Name (own_any I hm hb o f fun h2 tk2 b2 _ hs2 pb I2 => ⟨m, ns_at n fun o e => (hs2.2 L fun q => fL.hid.p (q ▸ pb)).trans e, fun h3 hs3 =>
    have fL2 : Free p.F (ups p.val x (some (.ref D))) (ρ.setO x b) (c'.at h2 tk2) L := ⟨fL.hid, fun z w e q => (ups_some e).elim (fun ⟨e1, _⟩ => hLD (ref_eq (got q (e1 ▸ ups_here)))) fun ⟨e1, e2⟩ => fL.ow z w e2 ((ups_ne e1).symm.trans q)⟩
    let ⟨I', s'⟩ := let_go (p := p) I2 fL2 (ns_at n fun o e => (hs2.2 L fun q => fL.hid.p (q ▸ pb)).trans e) hs3
    hQ ((c'.at h2 tk2).at h3 tk2) D I' ((s.trans Stp.at).trans s')⟩)
theorem gs_ok {g : Comprehension} (h : g.is_async = 0 ∧ gs.all (fun g => g.is_async == 0) = true) : g = ⟨g.target, g.iter, g.ifs, 0⟩ ∧ ∀ d ∈ gs, d.is_async = 0 :=
  ⟨by obtain ⟨h, _⟩ := h; cases g; cases h; rfl, fun d hd => by simpa using List.all_eq_true.mp h.2 d hd⟩
theorem n_lc {elt : Expr} (hsrc : Src C ρ it false xs) (hg : Gen C (ρ.inner sc) (.inl elt) t ifs gs xs ys) (hl : ys.length < 2 ^ 20) (hi : innerOk ρ.ns sc = true := by first | walk_at "in" | rfl) (ha : gs.all (fun g => g.is_async == 0) = true := by rfl) :
    New C ρ (.ListComp elt (⟨t, it, ifs, 0⟩ :: gs) sc pos) (.list ys) :=
  have K : Cmp (.ListComp elt (⟨t, it, ifs, 0⟩ :: gs) sc pos) (.inl elt) (⟨t, it, ifs, 0⟩ :: gs) := .inl ⟨_, _, _, rfl, rfl⟩
  have hacc : Acc (.inl elt) (.list []) ys (.list ys) := ⟨[], rfl, rfl, by rwa [List.length_nil, Nat.zero_add]⟩
  have hnew : ∀ A c, Ok C c → sysModules < c.s.heap.objs.size → GivesNew C A (newList []) c (.list []) := fun A c k _ => list_new (vs := []) (ws := []) k rfl (by decide)
  have hg' := (gs_ok (gs := gs) (g := ⟨t, it, ifs, 0⟩) ⟨rfl, ha⟩).2
  ⟨rfl, fun p => by rw [eval_ListComp]; exact comp_plain K rfl hg' hsrc (inner_is hi) hg hacc hnew p, fun _ p x px hm hb Q E hQ => wpAny_bind (comp_used K rfl hg' hsrc (inner_is hi) hg hacc hnew p hm hb fun c' a I s => wpAny_pure (hQ c' a I s))⟩
end
end Mine
end
section
namespace Mine
open PySem PyProof.Rows SeqAt PySem.W
noncomputable def setV (c i v : V) : Option V :=
  match i with
  | .int i => (match c with
    | .list xs => if 0 ≤ i ∧ i < xs.length ∧ i < 2 ^ 62 then some (.list (xs.set i.toNat v)) else Option.none
    | .dict es => (match v with
      | .int j => if es.length < 2 ^ 20 then some (.dict (dictPut i j es)) else Option.none
      | _ => Option.none)
    | _ => Option.none)
  | _ => Option.none
section
variable {C : Cx} {Z : Fz} {s : Shared} {A : Around} {D : Addr} {E : Value → Shared → Prop}
theorem upd_list {h : Heap} {D : Addr} {vs : List Value} {n : Nat} (e : h.get? D = some { cls := .type "list", data := .seq vs.toArray n }) (f : Array Value → Array Value) {us : List Value} (hf : f vs.toArray = us.toArray) : (h.update D (Obj.mapSeq f)).PlainList D us.toArray :=
  ⟨_, hf ▸ PySem.IsL.update (n := n) e f⟩
theorem set_ok {c i v c' : V} {iv vv : Value} {Q : Unit → Shared → Prop} (o : Own C Z s.heap D c) (ri : ∀ k, i = .int k → ∃ t, iv = .int k t) (rv : Rep C Z vv v) (e : setV c i v = some c')
    (h : ∀ h' tk', s.toks ≤ tk' → Own C Z h' D c' → Heap.SameBut D s.heap h' → Q () { s with heap := h', toks := tk' }) : wpAny C.m A (setItem (.ref D) iv vv) Q E s := by
  cases i with
  | int i =>
    obtain ⟨t, e1⟩ := ri i rfl
    rw [e1]
    cases c with
    | list xs =>
      obtain ⟨hi, e⟩ := of_ite (p := 0 ≤ i ∧ i < xs.length ∧ i < 2 ^ 62) e
      obtain ⟨vs, ⟨n, p⟩, q⟩ := o
      have hl := q.len
      refine ki_setAt (items := vs.toArray) (n := n) p hi.1 (by omega) (by rw [size_len]; omega) (h _ _ (Nat.le_refl _) (Option.some.inj e ▸ ⟨vs.set i.toNat vv, upd_list p _ ?_, q.set rv _⟩) (Heap.SameBut.update ..))
      apply Array.toList_inj.mp
      simp
    | dict es => cases v with
      | int j =>
        obtain ⟨hl, e⟩ := of_ite (p := es.length < 2 ^ 20) e
        obtain ⟨u, e2⟩ := rv
        obtain ⟨kvs, n, p, q⟩ := o
        rw [e2]
        exact wpAny_setItem_pairs (knd := C.ki) (intKind_is C.prog C.w _ t) p (fun h' hd hs => h h' _ (Nat.le_succ _) (Option.some.inj e ▸ ⟨_, n, hd, stored_rep i j u q (dict_nodup p)⟩) hs) (by rw [q.len]; exact Nat.le_trans (Nat.le_of_lt hl) (by decide))
      | _ => exact no_some (o := (none : Option V)) rfl e
    | _ => exact no_some (o := (none : Option V)) rfl e
  | _ => exact no_some (o := (none : Option V)) rfl e
theorem RepL.dropLast : ∀ {xs : List V} {vs : List Value}, RepL C Z vs xs → RepL C Z vs.dropLast xs.dropLast
  | [], _, e => by rw [show _ = [] from e]; rfl
  | [_], _, ⟨_, _, e, _, q⟩ => by rw [e, show _ = [] from q]; rfl
  | _ :: _ :: _, _, ⟨v, _, e, p, v', r, e', p', q⟩ => by
    have ih := RepL.dropLast (RepL.cons' p' q)
    rw [e, e']
    exact .cons' p ih
theorem pop_ok {xs : List V} {y : V} {Q : Value → Shared → Prop} (o : Own C Z s.heap D (.list xs)) (hl : xs.length < 2 ^ 20) (e : xs.getLast? = some y)
    (h : ∀ v h', Rep C Z v y → Own C Z h' D (.list xs.dropLast) → Heap.SameBut D s.heap h' → Q v { s with heap := h' }) : wpAny C.m A (call (.builtin "list.pop") [.ref D]) Q E s := by
  obtain ⟨vs, ⟨n, p⟩, q⟩ := o
  rw [List.getLast?_eq_getElem?] at e
  obtain ⟨u, hu, r⟩ := q.get _ e
  have hy : vs.toArray[vs.toArray.size - 1]? = some u := by rw [size_len, q.len, List.getElem?_toArray]; exact hu
  refine call_meets PySem.F.slot_list_pop ⟨_, p, rfl⟩ PySem.F.entry_list_pop (PySem.F.args_list_pop_1 _) (PySem.MeetsSeq.list_pop_last D _ n u hy (small_size q hl)) ⟨p, h u _ r ⟨vs.dropLast, upd_list p _ ?_, q.dropLast⟩ (Heap.SameBut.update ..)⟩
  apply Array.toList_inj.mp
  rw [size_len]
  simp [Array.toList_eraseIdxIfInBounds, List.eraseIdx_eq_dropLast]
end
structure Same (ρ ρ' : St) : Prop where
  ns : ρ'.ns = ρ.ns
  lam : ρ'.lam = ρ.lam
  bo : ρ'.bo = ρ.bo
  hd : ρ'.hd = ρ.hd
theorem Same.rfl' (ρ : St) : Same ρ ρ := ⟨rfl, rfl, rfl, rfl⟩
theorem Same.trans {a b c : St} (x : Same a b) (y : Same b c) : Same a c := ⟨y.ns.trans x.ns, y.lam.trans x.lam, y.bo.trans x.bo, y.hd.trans x.hd⟩
structure EvM (C : Cx) (ρ : St) (e : Expr) (v : V) (ρ' : St) : Prop where
  g : good e = true ∧ isComp e = false
  same : Same ρ ρ'
  run : ∀ (p : Run C ρ) (Q E : Value → Shared → Prop), (∀ u c', Inv C p.F p.val ρ' c' → Stp p.F p.c c' → Rep C c'.Z u v → Q u c'.s) → wpAny C.m p.A (eval e p.F.env) Q E p.c.s
section
variable {C : Cx} {F : Fm} {val : Str → Option Value} {ρ : St} {c c' : Cf} {A : Around} {E Q : Value → Shared → Prop} {x f : Str} {v w y y' : V} {b : Bool} {e : Expr} {pos p1 p2 pf : Pos} {es : List Expr} {vs : List V} {a : Addr}
theorem Inv.turn {h' : Heap} {tk : Nat} (I : Inv C F val ρ c) (e : ρ.ow x = some v) (q : val x = some (.ref a)) (t : c.s.toks ≤ tk) (hs : Heap.SameBut a c.s.heap h') (o : Own C c.Z h' a y) : Inv C F val (ρ.upd x y) (c.at h' tk) ∧ Stp F c (c.at h' tk) := by
  obtain ⟨_, b, p, r⟩ := I.ow x v e
  have hb : b = a := ref_eq (got p q)
  rw [hb] at r
  have g : Gro a c (c.at h' tk) := Gro.one I.ok (fun b nb o e => (hs.2 b nb).trans e) o.live r.hid.z r.hid.t t
  exact ⟨I.upd e q g o, I.stp g.toGro0⟩
theorem own_head {xs : List V} {Z : Fz} {s : Shared} (o : Own C Z s.heap a (.list xs)) : s.TypeIs (.ref a) "list" ∧ ∀ b, Value.ref a = .ref b → ∃ ob, s.heap.get? b = some ob ∧ ob.dict = none :=
  let ⟨_, ⟨_, e⟩, _⟩ := o; ⟨⟨_, e, rfl⟩, fun _ h => ⟨_, ref_eq h ▸ e, rfl⟩⟩
theorem Inv.owAt (I : Inv C F val ρ c) (e : ρ.ow x = some v) (q : val x = some (.ref a)) : OwnAt C F ρ.ns c v a := let ⟨_, _, p, r⟩ := I.ow x v e; ref_eq (got p q) ▸ r
theorem mv_append {xs : List V} (hc : ρ.ow x = some (.list xs)) (he : Ev C ρ e true v) (hl : xs.length < 2 ^ 20) (hp : (p1.endLine == pos.line) = true := by rfl) (ok : okName x = true := by rfl) :
    EvM C ρ (.Call (.Attribute (.Name x p2) "append" p1) [e] [] pos) .none (ρ.upd x (.list (xs ++ [v]))) := ⟨⟨rfl, rfl⟩, ⟨rfl, rfl, rfl, rfl⟩, fun p Q E hQ => by
  obtain ⟨iv, a, pa, oa⟩ := p.I.ow x _ hc
  obtain ⟨h1, h2⟩ := own_head oa.own
  refine wpAny_Call_method (T := "list") (id := "list.append") rfl (by rw [star_of he.g]; rfl) hp F.plainAttrs_list F.slot_list_append F.type_list_append (name_any p.I iv pa ok ⟨h1, h2, ?_⟩)
  rw [star_of he.g]
  exact Calls.callWith_builtin rfl (Calls.evalArgs_plain (Calls.spliced_cons (he.run p _ _ fun u c1 I1 s1 r1 => wpAny_pure (append_ok (I1.owAt hc pa).own r1.rep hl fun h2 o2 hs => let ⟨I2, s2⟩ := I1.turn hc pa (Nat.le_refl _) hs o2; hQ _ (c1.at h2 _) I2 (s1.trans s2) rfl))))⟩
theorem mv_pop {xs : List V} (hc : ρ.ow x = some (.list xs)) (hv : xs.getLast? = some v) (hl : xs.length < 2 ^ 20) (hp : (p1.endLine == pos.line) = true := by rfl) (ok : okName x = true := by rfl) :
    EvM C ρ (.Call (.Attribute (.Name x p2) "pop" p1) [] [] pos) v (ρ.upd x (.list xs.dropLast)) := ⟨⟨rfl, rfl⟩, ⟨rfl, rfl, rfl, rfl⟩, fun p Q E hQ => by
  obtain ⟨iv, a, pa, oa⟩ := p.I.ow x _ hc
  obtain ⟨h1, h2⟩ := own_head oa.own
  refine wpAny_Call_method (T := "list") (id := "list.pop") rfl rfl hp F.plainAttrs_list F.slot_list_pop F.type_list_pop (name_any p.I iv pa ok ⟨h1, h2, ?_⟩)
  exact Calls.callWith_builtin rfl (PySem.evalArgs_none (pop_ok oa.own hl hv fun u h2 r o2 hs => let ⟨I2, s2⟩ := p.I.turn hc pa (Nat.le_refl _) hs o2; hQ u (p.c.at h2 _) I2 s2 r))⟩
theorem mv_chg (hc : ρ.ow x = some y) (ha : EvL C ρ es vs) (h : C.chg f y vs v y') (hf : okName f = true ∧ ρ.ns.lookup f = some .globalImplicit := by first | walk_at "gl" | exact ⟨rfl, rfl⟩) (ok : okName x = true := by rfl) :
    EvM C ρ (.Call (.Name f pf) (.Name x p1 :: es) [] pos) v (ρ.upd x y') := ⟨⟨rfl, rfl⟩, ⟨rfl, rfl, rfl, rfl⟩, fun p Q E hQ => by
  obtain ⟨a, hg, hfa, hcall⟩ := h
  obtain ⟨iv, b, pb, _⟩ := p.I.ow x _ hc
  refine Call_Name rfl (wpAny_global p.I hf hg (call_any p (.inr ⟨_, rfl, hfa⟩) (fun d m => (List.mem_cons.mp m).elim (fun q => q ▸ rfl) (ha.g d)) (R := fun c' us => ∃ us', us = .ref b :: us' ∧ RepL C c'.Z us' vs)
    (fun Q E hQ => Calls.spliced_cons (name_any p.I iv pb ok (ha.run p _ _ fun us c1 I1 s1 r1 => hQ _ c1 I1 s1 ⟨us, rfl, r1⟩))) fun _ c1 I1 s1 ⟨us, eu, r⟩ => ?_))
  have o := I1.owAt hc pb
  rw [eu]
  exact hcall p.A c1 us b p.hA I1.okt o.own o.hid.z r Q E fun u c2 g o2 r2 => hQ u c2 (I1.upd hc pb g o2) (s1.trans (I1.stp g.toGro0)) r2⟩
end
end Mine
end
section
namespace Mine
open PySem PyProof.Rows SeqAt
inductive Fl where
  | next | brk | cont
  | ret (v : V)
noncomputable def FlOk (C : Cx) (Z : Fz) (fl : Fl) (f : Flow) : Prop :=
  match fl with
  | .next => f = .next
  | .brk => f = .brk
  | .cont => f = .cont
  | .ret v => ∃ u, f = .ret u ∧ Rep C Z u v
noncomputable def Goes {C : Cx} {ρ : St} (p : Run C ρ) (ρ' : St) (fl : Fl) (t : Sem Flow) : Prop :=
  ∀ (Q : Flow → Shared → Prop) (E : Value → Shared → Prop), (∀ f val' c', Inv C p.F val' ρ' c' → Stp p.F p.c c' → FlOk C c'.Z fl f → Q f c'.s) → wpAny C.m p.A t Q E p.c.s
structure Ex1 (C : Cx) (ρ : St) (s : Stmt) (fl : Fl) (ρ' : St) : Prop where
  same : Same ρ ρ'
  run : ∀ p : Run C ρ, Goes p ρ' fl (exec s p.F.env)
structure Exs (C : Cx) (ρ : St) (b : List Stmt) (fl : Fl) (ρ' : St) : Prop where
  same : Same ρ ρ'
  run : ∀ p : Run C ρ, Goes p ρ' fl (execs b p.F.env)
structure BndT (C : Cx) (t : Expr) (y : V) (ρ ρ' : St) : Prop where
  same : Same ρ ρ'
  run : ∀ (p : Run C ρ) (u : Value), Rep C p.c.Z u y → ∀ (Q : Unit → Shared → Prop) (E : Value → Shared → Prop), (∀ val' c', Inv C p.F val' ρ' c' → Stp p.F p.c c' → Q () c'.s) → wpAny C.m p.A (assign t p.F.env u) Q E p.c.s
structure BndE (C : Cx) (es : List Expr) (ys : List V) (ρ ρ' : St) : Prop where
  same : Same ρ ρ'
  len : es.length = ys.length
  st : ∀ env, (assignEach es env).findIdx? (·.1) = none ∧ (assignEach es env).length = es.length
  run : ∀ (p : Run C ρ) (us : List Value), RepL C p.c.Z us ys → ∀ (Q : Unit → Shared → Prop) (E : Value → Shared → Prop), (∀ val' c', Inv C p.F val' ρ' c' → Stp p.F p.c c' → Q () c'.s) →
    wpAny C.m p.A (assignInOrder ((assignEach es p.F.env).map (·.2)) us) Q E p.c.s
noncomputable def Ex (C : Cx) (ρ : St) (b : List Stmt) (P : Fl → St → Prop) : Prop := ∃ fl ρ', Exs C ρ b fl ρ' ∧ P fl ρ'
noncomputable def Next (C : Cx) (rest : List Stmt) (P : Fl → St → Prop) (fl : Fl) (ρ : St) : Prop :=
  match fl with
  | .next => Ex C ρ rest P
  | fl => P fl ρ
noncomputable def isTupE : Expr → Bool
  | .Tuple .. => true
  | _ => false
section
variable {C : Cx} {F : Fm} {val : Str → Option Value} {ρ ρ' ρ1 : St} {c c' : Cf} {A : Around} {x y f : Str} {v w : V} {b : Bool} {e : Expr} {pos p1 p2 px : Pos} {es : List Expr} {vs : List V} {rest bd o : List Stmt} {P : Fl → St → Prop} {fl : Fl}
theorem ex_nil (k : P .next ρ) : Ex C ρ [] P := ⟨.next, ρ, ⟨.rfl' _, fun p Q E hQ => wpAny_execs_nil (hQ .next p.val p.c p.I (Stp.rfl' _ _) rfl)⟩, k⟩
theorem Ex.mono {Q : Fl → St → Prop} (h : Ex C ρ bd P) (k : ∀ fl ρ', P fl ρ' → Q fl ρ') : Ex C ρ bd Q := let ⟨f, r, e, p⟩ := h; ⟨f, r, e, k _ _ p⟩
theorem ex_cons {s : Stmt} (h : Ex1 C ρ s fl ρ') (k : Next C rest P fl ρ') : Ex C ρ (s :: rest) P := by
  cases fl with
  | next =>
    obtain ⟨f2, ρ2, e2, p2⟩ := k
    exact ⟨f2, ρ2, ⟨h.same.trans e2.same, fun p Q E hQ => wpAny_execs_cons (h.run p _ _ fun f v1 c1 I1 s1 hf => by
      rw [show f = .next from hf]
      exact e2.run ⟨p.A, p.F, v1, c1, p.hA, I1⟩ Q E fun f v2 c2 I2 s2 hf => hQ f v2 c2 I2 (s1.trans s2) hf)⟩, p2⟩
  | brk => exact ⟨_, _, ⟨h.same, fun p Q E hQ => wpAny_execs_cons (h.run p _ _ fun f v1 c1 I1 s1 hf => by rw [show f = .brk from hf]; exact hQ _ v1 c1 I1 s1 rfl)⟩, k⟩
  | cont => exact ⟨_, _, ⟨h.same, fun p Q E hQ => wpAny_execs_cons (h.run p _ _ fun f v1 c1 I1 s1 hf => by rw [show f = .cont from hf]; exact hQ _ v1 c1 I1 s1 rfl)⟩, k⟩
  | ret w => exact ⟨_, _, ⟨h.same, fun p Q E hQ => wpAny_execs_cons (h.run p _ _ fun f v1 c1 I1 s1 hf => by obtain ⟨u, hf, r⟩ := hf; rw [hf]; exact hQ _ v1 c1 I1 s1 ⟨u, rfl, r⟩)⟩, k⟩
theorem swaps_plain {l : Nat} {env : Env} (hg : good e = true) (hc : isComp e = false) : swapsWith e (some (.Name x px)) l env = pure false := by
  cases e <;> first
    | rfl
    | (cases hg; done)
    | (cases hc; done)
theorem swaps_comp {l : Nat} {env : Env} (hc : isComp e = true) : ∃ c, swapsWith e (some (.Name x px)) l env = pure c := by
  cases e <;> first
    | exact ⟨_, rfl⟩
    | (cases hc; done)
theorem swaps_none {l : Nat} {env : Env} (hg : good e = true) (hc : isComp e = false) : swapsWith e none l env = pure false := by
  cases e <;> first
    | rfl
    | (cases hg; done)
    | (cases hc; done)
theorem swaps_sub {o i : Expr} {l : Nat} {env : Env} : swapsWith e (some (.Subscript o i p1)) l env = pure false := by cases e <;> rfl
theorem swaps_tup {kd : Nat} {l : Nat} {env : Env} : swapsWith e (some (.Tuple es kd p1)) l env = pure false := by cases e <;> rfl
theorem x_put (he : Ev C ρ e true v) (hc : isComp e = false) (hm : ρ.mine x = true) (hb : BoOk ρ x) : Ex1 C ρ (.Assign [.Name x px] e pos) .next (ρ.set x v) := ⟨⟨rfl, rfl, rfl, rfl⟩, fun p Q E hQ =>
  wpAny_Assign_Name (he.run p _ _ fun u c1 I1 s1 r1 => put_any I1 hm hb r1.rep fun h2 tk2 I2 => hQ .next _ _ I2 (s1.trans Stp.at) rfl) (swaps_plain he.g hc)⟩
theorem s_put (he : Ev C ρ e true v) (k : Ex C (ρ.set x v) rest P) (hc : isComp e = false := by rfl) (hm : ρ.mine x = true := by first | walk_at "mine" | rfl) (hb : BoOk ρ x := by first | walk_at "bo" | exact ⟨nofun, nofun⟩) : Ex C ρ (.Assign [.Name x px] e pos :: rest) P := ex_cons (x_put he hc hm hb) k
theorem new_stmt (he : New C ρ e v) (hm : ρ.mine x = true) (hb : BoOk ρ x) (p : Run C ρ) {Q : Flow → Shared → Prop} {E : Value → Shared → Prop} (hQ : ∀ c' a, Inv C p.F (ups p.val x (some (.ref a))) (ρ.setO x v) c' → Stp p.F p.c c' → Q .next c'.s) :
    wpAny C.m p.A (exec (.Assign [.Name x px] e pos) p.F.env) Q E p.c.s := by
  have plain : swapsWith e (some (.Name x px)) pos.line p.F.env = pure false → wpAny C.m p.A (exec (.Assign [.Name x px] e pos) p.F.env) Q E p.c.s := fun hs =>
    wpAny_Assign_Name (he.run p _ _ fun u c1 I1 s1 ⟨a, eu, o, f⟩ => eu ▸ own_any I1 hm hb o f fun h2 tk2 b2 _ _ _ I2 => hQ _ a I2 (s1.trans Stp.at)) hs
  cases hc : isComp e with
  | false => exact plain (swaps_plain he.g hc)
  | true =>
    obtain ⟨k, hs⟩ := swaps_comp (env := p.F.env) (x := x) (px := px) (l := pos.line) hc
    cases k with
    | false => exact plain hs
    | true =>
      rw [exec_Assign_Name_used _ _ _ _ hs]
      exact wpAny_bind (wpAny_standAt (wpAny_bind (he.used hc p x px hm hb _ _ fun c' a I s => wpAny_pure (hQ c' a I s))))
theorem s_own (he : New C ρ e v) (k : Ex C (ρ.setO x v) rest P) (hm : ρ.mine x = true := by first | walk_at "mine" | rfl) (hb : BoOk ρ x := by first | walk_at "bo" | exact ⟨nofun, nofun⟩) : Ex C ρ (.Assign [.Name x px] e pos :: rest) P :=
  ex_cons (fl := .next) (ρ' := ρ.setO x v) ⟨⟨rfl, rfl, rfl, rfl⟩, fun p Q E hQ => new_stmt he hm hb p fun c' a I s => hQ .next _ c' I s rfl⟩ k
theorem s_putN (he : New C ρ e v) (k : Ex C (ρ.set x v) rest P) (hm : ρ.mine x = true := by first | walk_at "mine" | rfl) (hb : BoOk ρ x := by first | walk_at "bo" | exact ⟨nofun, nofun⟩) : Ex C ρ (.Assign [.Name x px] e pos :: rest) P :=
  ex_cons (fl := .next) (ρ' := ρ.set x v) ⟨⟨rfl, rfl, rfl, rfl⟩, fun p Q E hQ => new_stmt he hm hb p fun c' a I s =>
    let ⟨Z', I2, s2⟩ := I.frz (· == x)
    hQ .next _ ⟨Z', c'.s⟩ (I2.sub rfl rfl rfl rfl (fun z w ez => (ups_some ez).elim (fun ⟨q, q2⟩ => by rw [q, q2]; exact (if_pos (beq_self_eq_true x)).trans (by rw [show (ρ.setO x v).ow x = some v from ups_here]; rfl)) fun ⟨q, q2⟩ => (if_neg (fun h => q (eq_of_beq h))).trans ((ups_ne q).trans q2))
      fun z w ez => let ⟨q, q2⟩ := ups_none ez; (if_neg (fun h => q (eq_of_beq h))).trans ((ups_ne q).trans q2)) (s.trans s2) rfl⟩ k
theorem s_mv (hM : EvM C ρ e v ρ') (k : Ex C (ρ'.set x v) rest P) (hm : ρ'.mine x = true := by first | walk_at "mine" | rfl) (hb : BoOk ρ' x := by first | walk_at "bo" | exact ⟨nofun, nofun⟩) : Ex C ρ (.Assign [.Name x px] e pos :: rest) P :=
  ex_cons (fl := .next) (ρ' := ρ'.set x v) ⟨hM.same.trans ⟨rfl, rfl, rfl, rfl⟩, fun p Q E hQ => wpAny_Assign_Name (hM.run p _ _ fun u c1 I1 s1 r1 => put_any I1 hm hb r1 fun h2 tk2 I2 => hQ .next _ _ I2 (s1.trans Stp.at) rfl) (swaps_plain hM.g.1 hM.g.2)⟩ k
theorem s_expr (hM : EvM C ρ e v ρ') (k : Ex C ρ' rest P) : Ex C ρ (.Expr e pos :: rest) P :=
  ex_cons (fl := .next) (ρ' := ρ') ⟨hM.same, fun p Q E hQ => wpAny_Expr_any (hM.run p _ _ fun u c1 I1 s1 _ => hQ .next _ c1 I1 s1 rfl) (by unfold interactive; rw [p.I.sta.kind]; rfl) (swaps_none hM.g.1 hM.g.2)⟩ k
theorem b_nil : BndE C [] [] ρ ρ := ⟨.rfl' _, rfl, fun _ => ⟨rfl, rfl⟩, fun p us r Q E hQ => by rw [show us = [] from r]; exact assignInOrder_nil (hQ p.val p.c p.I (Stp.rfl' _ _))⟩
theorem b_cons (k : BndE C es vs (ρ.set x v) ρ') (hm : ρ.mine x = true := by first | walk_at "mine" | rfl) (hb : BoOk ρ x := by first | walk_at "bo" | exact ⟨nofun, nofun⟩) : BndE C (.Name x px :: es) (v :: vs) ρ ρ' :=
  ⟨(Same.mk rfl rfl rfl rfl : Same ρ (ρ.set x v)).trans k.same, congrArg (· + 1) k.len, fun env => ⟨by show List.findIdx? _ ((false, assign (.Name x px) env) :: assignEach es env) = none; rw [List.findIdx?_cons, (k.st env).1]; rfl, congrArg (· + 1) (k.st env).2⟩, fun p us r Q E hQ => by
    obtain ⟨u, us', e, r1, r2⟩ := r
    rw [e]
    exact assignInOrder_cons (wpAny_assign_Name (put_any p.I hm hb r1 fun h2 tk2 I2 => k.run ⟨p.A, p.F, _, _, p.hA, I2⟩ us' r2 Q E fun v' c' I' s' => hQ v' c' I' (Stp.at.trans s')))⟩
theorem bt_name (hm : ρ.mine x = true := by first | walk_at "mine" | rfl) (hb : BoOk ρ x := by first | walk_at "bo" | exact ⟨nofun, nofun⟩) : BndT C (.Name x px) v ρ (ρ.set x v) :=
  ⟨⟨rfl, rfl, rfl, rfl⟩, fun p u r Q E hQ => wpAny_assign_Name (put_any p.I hm hb r fun h2 tk2 I2 => hQ _ _ I2 Stp.at)⟩
theorem bt_tup {kd : Nat} (h : BndE C es vs ρ ρ') : BndT C (.Tuple es kd px) (.tup vs) ρ ρ' := ⟨h.same, fun p u r Q E hQ => by
  obtain ⟨a, us, e, p1, p2⟩ := r
  rw [e]
  refine assign_Tuple_tuple p.hA.hand (plain_tuple (p1.mono p.I.ok.zin)) (by rw [(h.st _).2, h.len, ← p2.len, size_len]) (h.st _).1 fun h' he => ?_
  have g : Gro lamP p.c (p.c.at h' p.c.s.toks) := Gro.le' p.I.ok (fun b o e => he b o (Nat.ne_of_lt (Heap.lt_size e)) e) (Nat.le_refl _)
  exact h.run (p.go (p.I.gro g)) us p2 Q E fun v' c' I' s' => hQ v' c' I' ((p.I.stp g.toGro0).trans s')⟩
theorem s_tup {kd : Nat} (he : Ev C ρ e true (.tup vs)) (hbd : BndE C es vs ρ ρ') (k : Ex C ρ' rest P) (ht : isTupE e = false := by rfl) : Ex C ρ (.Assign [.Tuple es kd px] e pos :: rest) P :=
  ex_cons (fl := .next) (ρ' := ρ') ⟨hbd.same, fun p Q E hQ => wpAny_Assign_stores (he.run p _ _ fun u c1 I1 s1 r1 => (bt_tup (kd := kd) (px := px) hbd).run (p.go I1) u r1.rep _ _ fun v' c' I' s' => hQ .next v' c' I' (s1.trans s') rfl) (show swapsWith e (some (.Tuple es kd px)) pos.line p.F.env = pure false from swaps_tup) (by cases e <;> first | rfl | (cases ht; done))⟩ k
theorem x_sub {i : Expr} {d d' kv : V} {bi : Bool} (he : Ev C ρ e true v) (hc : ρ.ow x = some d) (hi : Ev C ρ i bi kv) (hs : setV d kv v = some d') (ok : okName x = true) : Ex1 C ρ (.Assign [.Subscript (.Name x px) i p1] e pos) .next (ρ.upd x d') := ⟨⟨rfl, rfl, rfl, rfl⟩, fun p Q E hQ => by
  obtain ⟨iv, a, pa, _⟩ := p.I.ow x _ hc
  refine wpAny_Assign_Subscript (he.run p _ _ fun u c1 I1 s1 r1 => name_any I1 iv pa ok (hi.run (p.go I1) _ _ fun k c2 I2 s2 r2 => set_ok (I2.owAt hc pa).own (fun j ej => ((ej ▸ r2).t I2).toInt) (r1.rep.mono s2.zle) hs fun h3 tk3 t o3 hs => ?_)) swaps_sub
  obtain ⟨I3, s3⟩ := I2.turn hc pa t hs o3
  exact hQ .next _ _ I3 ((s1.trans s2).trans s3) rfl⟩
theorem s_sub {i : Expr} {d d' kv : V} {bi : Bool} (he : Ev C ρ e true v) (hc : ρ.ow x = some d) (hi : Ev C ρ i bi kv) (hs : setV d kv v = some d') (k : Ex C (ρ.upd x d') rest P) (ok : okName x = true := by rfl) : Ex C ρ (.Assign [.Subscript (.Name x px) i p1] e pos :: rest) P := ex_cons (x_sub he hc hi hs ok) k
theorem s_aug {i j : Int} (hx : ρ.fr x = some (.int i)) (he : Ev C ρ e b (.int j)) (k : Ex C (ρ.set x (.int (i + j))) rest P) (ok : okName x = true := by rfl) (hm : ρ.mine x = true := by first | walk_at "mine" | rfl) (hb : BoOk ρ x := by first | walk_at "bo" | exact ⟨nofun, nofun⟩) :
    Ex C ρ (.AugAssign (.Name x px) .Add e pos :: rest) P := ex_cons (fl := .next) (ρ' := ρ.set x (.int (i + j))) ⟨⟨rfl, rfl, rfl, rfl⟩, fun p Q E hQ => by
  obtain ⟨iv, u, pu, t, eu⟩ := p.I.fr x _ hx
  refine wpAny_AugAssign_Name (load_any p.I iv pu ok (he.run p _ _ fun w c1 I1 s1 r1 => ?_))
  obtain ⟨t2, ew⟩ := (r1.t I1).toInt
  rw [eu, ew]
  have g : Gro lamP c1 (c1.at c1.s.heap (c1.s.toks + 1)) := Gro.le' I1.ok (Le.rfl' _) (Nat.le_succ _)
  exact AutoIntOps.iadd_0 (made_int (put_any (I1.gro g) hm hb (Rep.int' _ _) fun h2 tk2 I2 => hQ .next _ _ I2 ((s1.trans (I1.stp g.toGro0)).trans Stp.at) rfl))⟩ k
theorem aug_store {ie : Expr} {env : Env} (h : good ie = true) : ∀ ov iv new, augStore ie ov iv new = (do holding [new, ov, iv] (setItem ov iv new); release [new, ov, iv] []; pure .next) := by
  cases ie <;> first
    | (intros; rfl)
    | (cases h; done)
theorem s_augS {ie : Expr} {d d' kv : V} {i j : Int} {b2 : Bool} (hc : ρ.ow x = some d) (hk : Ev C ρ ie b2 kv) (hs : subV d kv = some (.int i)) (he : Ev C ρ e b (.int j)) (hset : setV d kv (.int (i + j)) = some d') (k : Ex C (ρ.upd x d') rest P) (ok : okName x = true := by rfl) :
    Ex C ρ (.AugAssign (.Subscript (.Name x px) ie p1) .Add e pos :: rest) P := ex_cons (fl := .next) (ρ' := ρ.upd x d') ⟨⟨rfl, rfl, rfl, rfl⟩, fun p Q E hQ => by
  obtain ⟨iv, a, pa, _⟩ := p.I.ow x _ hc
  refine wpAny_AugAssign_Subscript_any (name_any p.I iv pa ok (hk.run p _ _ fun w c1 I1 s1 r1 => item_ok I1.ok (.inr ⟨a, rfl, (I1.owAt hc pa).own⟩) (r1.t I1) hs _ _ fun u c2 g ro => ?_)) (aug_store (env := p.F.env) hk.g)
  have I2 := I1.gro g
  refine he.run (p.go I2) _ _ fun q c3 I3 s3 r3 => ?_
  obtain ⟨t1, e1⟩ := ro
  obtain ⟨t2, e2⟩ := (r3.t I3).toInt
  rw [e1, e2]
  have s13 := (I1.stp g.toGro0).trans s3
  have g4 : Gro lamP c3 (c3.at c3.s.heap (c3.s.toks + 1)) := Gro.le' I3.ok (Le.rfl' _) (Nat.le_succ _)
  have I4 := I3.gro g4
  refine AutoIntOps.iadd_0 (made_int (set_ok (s := (c3.at c3.s.heap (c3.s.toks + 1)).s) (I4.owAt hc pa).own (fun j ej => ((ej ▸ r1.mono s13.zle).t I3).toInt) (Rep.int' _ _) hset fun h3 tk3 t o3 hs => ?_))
  obtain ⟨I5, s5⟩ := I4.turn hc pa t hs o3
  exact hQ .next _ _ I5 (((s1.trans s13).trans (I3.stp g4.toGro0)).trans s5) rfl⟩ k
theorem s_if {t : Expr} {r : Bool} (ht : Tv C ρ t r) (hb : Ex C ρ (if r then bd else o) (Next C rest P)) : Ex C ρ (.If t bd o pos :: rest) P := by
  obtain ⟨fl, ρ', e, k⟩ := hb
  refine ex_cons ⟨e.same, fun p Q E hQ => wpAny_If (ht p _ _ fun u c1 I1 s1 eu => ?_)⟩ k
  rw [eu]
  have := e.run (p.go I1) Q E fun f v' c' I' s' hf => hQ f v' c' I' (s1.trans s') hf
  cases r <;> exact this
noncomputable def St.freeze (ρ : St) : St := ρ.frz fun x => !(ρ.bo == some x)
theorem s_ret (he : Ev C ρ.freeze e true v) (k : P (.ret v) ρ.freeze) : Ex C ρ (.Return (some e) pos :: rest) P := ex_cons (fl := .ret v) (ρ' := ρ.freeze) ⟨⟨rfl, rfl, rfl, rfl⟩, fun p Q E hQ =>
  let ⟨Z', I', s'⟩ := p.I.frz fun x => !(ρ.bo == some x)
  wpAny_Return_some (he.run ⟨p.A, p.F, p.val, ⟨Z', p.c.s⟩, p.hA, I'⟩ _ _ fun u c1 I1 s1 r1 => hQ (.ret u) p.val c1 I1 (s'.trans s1) ⟨u, rfl, r1.rep⟩)⟩ k
theorem s_brk (k : P .brk ρ) : Ex C ρ (.Break pos :: rest) P := ex_cons (fl := .brk) ⟨.rfl' _, fun p Q E hQ => wpAny_Break (hQ .brk p.val p.c p.I (Stp.rfl' _ _) rfl)⟩ k
theorem s_cont (k : P .cont ρ) : Ex C ρ (.Continue pos :: rest) P := ex_cons (fl := .cont) ⟨.rfl' _, fun p Q E hQ => wpAny_Continue (hQ .cont p.val p.c p.I (Stp.rfl' _ _) rfl)⟩ k
end
end Mine
end
section
namespace Mine
open PySem PyProof.Rows SeqAt
section
variable {prog : Program} {w : World} {A : Around} {s : Shared}
theorem codeAny_forOwn {R : Result → Shared → Prop} {target : Expr} {it : Value} {body : List Stmt} {env : Env} (I : Nat → Shared → Prop)
    (turn : ∀ n s, I n s → ∀ E, wpAny (model prog w) A (pyNext it) (fun r s₁ => match r with
      | none => R (.ok .next) s₁
      | some v => wpAny (model prog w) A (letOwnedTupleGo target it v) (fun _ s₂ => wpAny (model prog w) A (assign target env v) (fun _ s₃ => wpAny (model prog w) A (execs body env) (fun f s₄ => match f with
          | .next | .cont => ∃ m, m < n ∧ I m s₄
          | .brk => R (.ok .next) s₄
          | .ret v => R (.ok (.ret v)) s₄) E s₃) E s₂) E s₁) E s)
    (n : Nat) (h : I n s) : codeAny (model prog w) A (.forLoop target it body [] env) R s := by
  refine codeAny_loop' rfl I (fun n s hI => ?_) n h
  show wpAny _ _ ((forTurn target it body [] env).onRaise (fun x => do noteFrame x env; theTreesLotGoes x)) _ _ s
  refine wpAny_noted ?_
  simp only [forTurn]
  refine wpAny_bind (wpAny_standAt (wpAny_bind (wpAny_onRaise (wpAny_mono (turn n s hI _) (fun r s₁ h₁ => ?_) fun _ _ h' => wpAny_standAt h'))))
  cases r with
  | none => exact wpAny_pure (.inr ⟨rfl, codeAny_block (wpAny_execs_nil h₁)⟩)
  | some v =>
    refine wpAny_bind (wpAny_mono h₁ (fun _ s₂ h₂ => ?_) fun _ _ h' => h')
    refine wpAny_bind (wpAny_mono h₂ (fun _ s₃ h₃ => wpAny_bind (wpAny_mono h₃ (fun f s₄ h₄ => ?_) fun _ _ h' => h')) fun _ _ h' => h')
    cases f with
    | next => exact wpAny_pure (.inl ⟨rfl, h₄⟩)
    | cont => exact wpAny_pure (.inl ⟨rfl, h₄⟩)
    | brk => exact wpAny_pure h₄
    | ret v => exact wpAny_pure h₄
end
noncomputable def Turned (K : St → Fl → St → Prop) (f : Fl) (ρ : St) (fl : Fl) (ρ' : St) : Prop :=
  match f with
  | .next => K ρ fl ρ'
  | .cont => K ρ fl ρ'
  | .brk => fl = .next ∧ ρ' = ρ
  | .ret v => fl = .ret v ∧ ρ' = ρ
noncomputable def FoM (C : Cx) (t : Expr) (b : List Stmt) : List V → St → Fl → St → Prop
  | [], ρ, fl, ρ' => fl = .next ∧ ρ' = ρ
  | x :: xs, ρ, fl, ρ' => ∃ ρ1 f ρ2, BndT C t x ρ ρ1 ∧ Exs C ρ1 b f ρ2 ∧ Turned (FoM C t b xs) f ρ2 fl ρ'
noncomputable def WhM (C : Cx) (t : Expr) (b : List Stmt) : Nat → St → Fl → St → Prop
  | 0, _, _, _ => False
  | n + 1, ρ, fl, ρ' => (Tv C ρ t false ∧ fl = .next ∧ ρ' = ρ) ∨ (Tv C ρ t true ∧ ∃ f ρ2, Exs C ρ b f ρ2 ∧ Turned (WhM C t b n) f ρ2 fl ρ')
section
variable {C : Cx} {F : Fm} {val : Str → Option Value} {ρ ρ' ρ1 : St} {c c' : Cf} {A : Around} {x y z : Str} {v : V} {e t it : Expr} {pos p1 p2 px : Pos} {b rest : List Stmt} {P : Fl → St → Prop} {fl f : Fl} {xs : List V}
theorem Turned.same {K : St → Fl → St → Prop} {ρ0 : St} (h : Turned K f ρ fl ρ') (s : Same ρ0 ρ) (k : K ρ fl ρ' → Same ρ0 ρ') : Same ρ0 ρ' := by
  cases f with
  | next => exact k h
  | cont => exact k h
  | brk => exact h.2 ▸ s
  | ret v => exact h.2 ▸ s
theorem FoM.same : ∀ {xs : List V} {ρ : St}, FoM C t b xs ρ fl ρ' → Same ρ ρ'
  | [], _, h => h.2 ▸ .rfl' _
  | _ :: _, _, ⟨_, _, _, h1, h2, h3⟩ => let s := h1.same.trans h2.same; h3.same s fun k => s.trans k.same
theorem WhM.same : ∀ {n : Nat} {ρ : St}, WhM C t b n ρ fl ρ' → Same ρ ρ'
  | 0, _, h => h.elim
  | _ + 1, _, .inl ⟨_, _, h⟩ => h ▸ .rfl' _
  | _ + 1, _, .inr ⟨_, _, _, h2, h3⟩ => h3.same h2.same fun k => h2.same.trans k.same
structure Going (C : Cx) (F : Fm) (c : Cf) (xs : List V) (t : Expr) (b : List Stmt) (fl : Fl) (ρ' : St) (Ia : Addr) (S : Nat → Heap → Prop) (i : Nat) (ρi : St) (val : Str → Option Value) (ci : Cf) : Prop where
  I : Inv C F val ρi ci
  f : Free F val ρi ci Ia
  s : Stp F c ci
  st : S i ci.s.heap
  h : FoM C t b (xs.drop i) ρi fl ρ'
noncomputable def Fm.Has (F : Fm) (c : Cf) (a : Addr) : Prop := (∃ o, c.Z.hp.get? a = some o) ∨ ∃ o, F.Kp.get? a = some o
theorem for_turns (p : Run C ρ) {Ia : Addr} {fp : List Addr} {S : Nat → Heap → Prop} (it : IterOk C p.A p.c.Z Ia fp xs t S) (st : S 0 p.c.s.heap) (f : Free p.F p.val ρ p.c Ia) (hfp : ∀ b ∈ fp, p.F.Has p.c b) (h : FoM C t b xs ρ fl ρ')
    {R : Result → Shared → Prop} (hR : ∀ f val' c', Inv C p.F val' ρ' c' → Stp p.F p.c c' → FlOk C c'.Z fl f → R (.ok f) c'.s) : codeAny C.m p.A (.forLoop t (.ref Ia) b [] p.F.env) R p.c.s := by
  refine codeAny_forOwn (fun m s => ∃ i ρi val ci, i ≤ xs.length ∧ m = xs.length - i ∧ s = ci.s ∧ Going C p.F p.c xs t b fl ρ' Ia S i ρi val ci) (fun m s hI E => ?_) xs.length ⟨0, ρ, p.val, p.c, Nat.zero_le _, rfl, rfl, ⟨p.I, f, Stp.rfl' _ _, st, h⟩⟩
  obtain ⟨i, ρi, val, ci, hle, em, es, G⟩ := hI
  rw [es, em]
  by_cases hi : i < xs.length
  · have hd := G.h
    rw [List.drop_eq_getElem_cons hi] at hd
    obtain ⟨ρ1, f1, ρ2, h1, h2, h3⟩ := hd
    refine wpAny_mono (it.next i hi ci (fun v s₂ => wpAny C.m p.A (assign t p.F.env v) (fun _ s₃ => wpAny C.m p.A (execs b p.F.env) (fun f s₄ => match f with
          | .next | .cont => ∃ m', m' < xs.length - i ∧ ∃ i ρi val ci, i ≤ xs.length ∧ m' = xs.length - i ∧ s₄ = ci.s ∧ Going C p.F p.c xs t b fl ρ' Ia S i ρi val ci
          | .brk => R (.ok .next) s₄
          | .ret v => R (.ok (.ret v)) s₄) E s₃) E s₂) E G.st G.s.zle G.I.ok G.f.hid.z G.f.hid.t fun v c1 g r st1 => ?_) (fun r s' ⟨v, ev, hr⟩ => ev ▸ hr) fun _ _ h => h
    have I1 := G.I.touchF g.toGro0 G.f
    have z1 := g.toGro0.hid G.f.hid.z (it.live _ _ G.st)
    have f1' : Free p.F val ρi c1 Ia := ⟨⟨z1, G.f.hid.k, G.f.hid.p, G.f.hid.t⟩, G.f.ow⟩
    have m1 := may_one (C := C) f1'
    have lv := it.live _ _ st1
    refine h1.run ⟨p.A, p.F.add c1.s.heap (· == Ia), val, c1, p.hA, I1.add _ m1.p⟩ v r _ _ fun val2 c2 I2 s2 => ?_
    refine h2.run ⟨p.A, p.F.add c1.s.heap (· == Ia), val2, c2, p.hA, I2⟩ _ _ fun fw val3 c3 I3 s3 hf => ?_
    have sm := h1.same.trans h2.same
    have B := back I1 sm.ns sm.lam I3 (s2.trans s3)
    have s03 := (G.s.trans (G.I.stp g.toGro0)).trans B.s
    have next : FoM C t b (xs.drop (i + 1)) ρ2 fl ρ' → ∃ m', m' < xs.length - i ∧ ∃ i ρi val ci, i ≤ xs.length ∧ m' = xs.length - i ∧ c3.s = ci.s ∧ Going C p.F p.c xs t b fl ρ' Ia S i ρi val ci := fun hf =>
      ⟨_, Nat.sub_lt_sub_left hi (Nat.lt_succ_self i), i + 1, ρ2, val3, c3, hi, rfl, rfl, B.I, ?fr, s03, it.frame _ _ _ st1 fun a ha o e => ?keep, hf⟩
    case fr =>
      have hz := B.z Ia (beq_self_eq_true _) lv z1
      exact ⟨⟨hz, G.f.hid.k, sm.ns ▸ G.f.hid.p, G.f.hid.t⟩, B.ow Ia (beq_self_eq_true _) lv⟩
    case keep =>
      refine (List.mem_cons.mp ha).elim (fun q => B.kept a (beq_iff_eq.mpr q) o e) fun q => (hfp a q).elim (fun ⟨o', e'⟩ => ?_) fun ⟨o', e'⟩ => ?_
      · have e1 := I1.ok.zin _ _ (g.zle.hp _ _ (G.s.zle.hp _ _ e'))
        rw [got e e1]; exact B.I.ok.zin _ _ (s03.zle.hp _ _ e')
      · rw [got e (I1.bas.kin _ _ e')]; exact B.I.bas.kin _ _ e'
    cases f1 with
    | next => rw [show fw = .next from hf]; exact next h3
    | cont => rw [show fw = .cont from hf]; exact next h3
    | brk =>
      rw [show fw = .brk from hf]
      obtain ⟨e1, e2⟩ := h3
      exact hR .next val3 c3 (e2 ▸ B.I) s03 (e1 ▸ rfl)
    | ret v =>
      obtain ⟨u, eu, r⟩ := hf
      rw [eu]
      obtain ⟨e1, e2⟩ := h3
      exact hR (.ret u) val3 c3 (e2 ▸ B.I) s03 (e1 ▸ ⟨u, rfl, r⟩)
  · have hin : i = xs.length := Nat.le_antisymm hle (Nat.not_lt.mp hi)
    have hd := G.h
    rw [hin, List.drop_length] at hd
    obtain ⟨e1, e2⟩ := hd
    exact it.done ci _ _ (hin ▸ G.st) G.I.ok G.f.hid.z G.f.hid.t fun c' g => hR .next val c' (e2 ▸ G.I.touchF g G.f) (G.s.trans (G.I.stp g)) (e1 ▸ rfl)
theorem x_for {i : Bool} (hs : Src C ρ it i xs) (ht : Tgt t i) (h : FoM C t b xs ρ fl ρ') : Ex1 C ρ (.For t it b [] pos) fl ρ' := ⟨h.same, fun p Q E hQ => by
  refine wpAny_For (hs.run p t ht _ _ fun Ia c1 I1 s1 f1 ⟨⟨fp, S, hfp, it, st⟩⟩ => ?_) (hs.fold _)
  exact for_turns (p.go I1) it st f1 (fun b hb => .inl (hfp b hb)) h fun f v' c' I' s' hf => hQ f v' c' I' (s1.trans s') hf⟩
theorem s_for {i : Bool} (hs : Src C ρ it i xs) (h : FoM C t b xs ρ fl ρ') (k : Next C rest P fl ρ') (ht : Tgt t i := by first | exact ⟨_, _, rfl⟩ | exact ⟨_, _, _, rfl⟩) : Ex C ρ (.For t it b [] pos :: rest) P := ex_cons (x_for hs ht h) k
theorem turned {K : St → Fl → St → Prop} (hf : f = .next ∨ f = .cont) (k : K ρ fl ρ') : Turned K f ρ fl ρ' := hf.elim (fun q => q ▸ k) fun q => q ▸ k
theorem fo_inv {α : Type} (g : α → V) (all : List α) (I : List α → St → Prop) (step : ∀ ds x l ρ, all = ds ++ x :: l → I ds ρ → ∃ ρ1, BndT C t (g x) ρ ρ1 ∧ Ex C ρ1 b fun fl ρ' => (fl = .next ∨ fl = .cont) ∧ I (ds ++ [x]) ρ') :
    ∀ (xs ds : List α) {ρ : St}, all = ds ++ xs → I ds ρ → ∃ ρ', FoM C t b (xs.map g) ρ .next ρ' ∧ I all ρ'
  | [], ds, ρ, e, h => ⟨ρ, ⟨rfl, rfl⟩, by rw [e, List.append_nil]; exact h⟩
  | x :: xs, ds, ρ, e, h =>
    let ⟨ρ1, h1, fl, ρ2, h2, hf, h3⟩ := step ds x xs ρ e h
    let ⟨ρ3, h4, h5⟩ := fo_inv g all I step xs (ds ++ [x]) (by rw [e, List.append_assoc]; rfl) h3
    ⟨ρ3, ⟨ρ1, fl, ρ2, h1, h2, turned hf h4⟩, h5⟩
theorem s_forI {α : Type} {i : Bool} {g : α → V} {xs : List α} (I : List α → St → Prop) (hs : Src C ρ it i (xs.map g)) (h0 : I [] ρ)
    (step : ∀ ds x l ρ, xs = ds ++ x :: l → I ds ρ → ∃ ρ1, BndT C t (g x) ρ ρ1 ∧ Ex C ρ1 b fun fl ρ' => (fl = .next ∨ fl = .cont) ∧ I (ds ++ [x]) ρ') (k : ∀ ρ', I xs ρ' → Ex C ρ' rest P)
    (ht : Tgt t i := by first | exact ⟨_, _, rfl⟩ | exact ⟨_, _, _, rfl⟩) : Ex C ρ (.For t it b [] pos :: rest) P :=
  let ⟨ρ', h1, h2⟩ := fo_inv g xs I step xs [] rfl h0
  s_for hs h1 (k ρ' h2) ht
theorem x_while {n : Nat} (h : WhM C t b n ρ fl ρ') : Ex1 C ρ (.While t b [] pos) fl ρ' := ⟨h.same, fun p Q E hQ => by
  refine wpAny_While ?_
  try rw [Around.mark_none]
  refine codeAny_whileLoop (fun m s => ∃ ρi val ci, s = ci.s ∧ Inv C p.F val ρi ci ∧ Stp p.F p.c ci ∧ WhM C t b m ρi fl ρ') (fun m s hI => ?_) n ⟨ρ, p.val, p.c, rfl, p.I, Stp.rfl' _ _, h⟩
  obtain ⟨ρi, val, ci, es, Ii, si, hw⟩ := hI
  rw [es]
  cases m with
  | zero => exact hw.elim
  | succ m =>
    rcases hw with ⟨ht, e1, e2⟩ | ⟨ht, f1, ρ2, h2, h3⟩
    · refine ht ⟨p.A, p.F, val, ci, p.hA, Ii⟩ _ _ fun u c1 I1 s1 eu => ?_
      rw [eu]
      exact wpAny_execs_nil (hQ .next val c1 (e2 ▸ I1) (si.trans s1) (e1 ▸ rfl))
    · refine ht ⟨p.A, p.F, val, ci, p.hA, Ii⟩ _ _ fun u c1 I1 s1 eu => ?_
      rw [eu]
      refine h2.run ⟨p.A, p.F, val, c1, p.hA, I1⟩ _ _ fun fw val3 c3 I3 s3 hf => ?_
      have s03 := (si.trans s1).trans s3
      cases f1 with
      | next => rw [show fw = .next from hf]; exact ⟨m, Nat.lt_succ_self m, ρ2, val3, c3, rfl, I3, s03, h3⟩
      | cont => rw [show fw = .cont from hf]; exact ⟨m, Nat.lt_succ_self m, ρ2, val3, c3, rfl, I3, s03, h3⟩
      | brk =>
        rw [show fw = .brk from hf]
        obtain ⟨e1, e2⟩ := h3
        exact hQ .next val3 c3 (e2 ▸ I3) s03 (e1 ▸ rfl)
      | ret v =>
        obtain ⟨u, eu, r⟩ := hf
        rw [eu]
        obtain ⟨e1, e2⟩ := h3
        exact hQ (.ret u) val3 c3 (e2 ▸ I3) s03 (e1 ▸ ⟨u, rfl, r⟩)⟩
theorem wh_inv (I : Nat → St → Prop) (Post : St → Prop)
    (step : ∀ m ρ, I m ρ → ∃ r, Tv C ρ t r ∧ (r = false → Post ρ) ∧ (r = true → Ex C ρ b fun fl ρ' => ((fl = .next ∨ fl = .cont) ∧ ∃ m', m' < m ∧ I m' ρ') ∨ (fl = .brk ∧ Post ρ'))) :
    ∀ fuel m ρ, m < fuel → I m ρ → ∃ ρ', WhM C t b fuel ρ .next ρ' ∧ Post ρ'
  | 0, m, _, hm, _ => absurd hm (Nat.not_lt_zero _)
  | fuel + 1, m, ρ, hm, hI => by
    obtain ⟨r, ht, h0, h1⟩ := step m ρ hI
    cases r with
    | false => exact ⟨ρ, .inl ⟨ht, rfl, rfl⟩, h0 rfl⟩
    | true =>
      obtain ⟨fl, ρ1, e1, q⟩ := h1 rfl
      rcases q with ⟨hf, m', hm', hI'⟩ | ⟨q, hp⟩
      · obtain ⟨ρ2, e2, p2⟩ := wh_inv I Post step fuel m' ρ1 (Nat.lt_of_lt_of_le hm' (Nat.le_of_lt_succ hm)) hI'
        exact ⟨ρ2, .inr ⟨ht, fl, ρ1, e1, turned hf e2⟩, p2⟩
      · exact ⟨ρ1, .inr ⟨ht, fl, ρ1, e1, q ▸ ⟨rfl, rfl⟩⟩, hp⟩
theorem s_while {m : Nat} (I : Nat → St → Prop) (Post : St → Prop) (h0 : I m ρ)
    (step : ∀ m ρ, I m ρ → ∃ r, Tv C ρ t r ∧ (r = false → Post ρ) ∧ (r = true → Ex C ρ b fun fl ρ' => ((fl = .next ∨ fl = .cont) ∧ ∃ m', m' < m ∧ I m' ρ') ∨ (fl = .brk ∧ Post ρ')))
    (k : ∀ ρ', Post ρ' → Ex C ρ' rest P) : Ex C ρ (.While t b [] pos :: rest) P :=
  let ⟨ρ', e, hp⟩ := wh_inv I Post step (m + 1) m ρ (Nat.lt_succ_self m) h0
  ex_cons (fl := .next) (x_while e) (k ρ' hp)
end
end Mine
end
section
namespace Mine
open PySem PyProof.Rows SeqAt PySem.W
theorem zip_has : ∀ {ns : List Str} {vs : List Value}, ns.length = vs.length → ∀ n ∈ ns, ∃ v, (ns.zip vs).lookup n = some v
  | [], _, _, _, h => nomatch h
  | _ :: _, [], h, _, _ => nomatch h
  | a :: ns, v :: vs, h, n, hn => by
    rw [List.zip_cons_cons, List.lookup_cons]
    cases e : n == a with
    | true => exact ⟨v, rfl⟩
    | false => exact (List.mem_cons.mp hn).elim (fun q => absurd q (by simpa using e)) fun q => zip_has (Nat.succ.inj h) n q
theorem fm_same {α β : Type} {f g : α → Option β} : ∀ {l : List α}, (∀ x ∈ l, f x = g x) → l.filterMap f = l.filterMap g
  | [], _ => rfl
  | a :: l, h => by rw [List.filterMap_cons, List.filterMap_cons, h a List.mem_cons_self, fm_same fun x hx => h x (List.mem_cons_of_mem _ hx)]
theorem zip_fm : ∀ {ns : List Str} {vs : List Value}, ns.Nodup → ns.length = vs.length → ns.filterMap (fun n => ((ns.zip vs).lookup n).map (Prod.mk n)) = ns.zip vs
  | [], _, _, _ => rfl
  | _ :: _, [], _, h => nomatch h
  | a :: ns, v :: vs, hd, h => by
    obtain ⟨h1, h2⟩ := List.nodup_cons.mp hd
    rw [List.filterMap_cons, List.zip_cons_cons, List.lookup_cons]
    simp only [beq_self_eq_true, Option.map_some]
    congr 1
    refine (fm_same fun n hn => ?_).trans (zip_fm h2 (Nat.succ.inj h))
    have e : (n == a) = false := beq_eq_false_iff_ne.mpr fun e => h1 (e ▸ hn)
    rw [List.lookup_cons, e]
theorem bind_plain {fd : FuncData} {as : List Arg} {vals : List Value} (hp : fd.params = ⟨[], as, none, [], [], none, []⟩) (hd : fd.defaults = .none) (hn : (as.map (·.arg)).Nodup) (hl : (as.map (·.arg)).length = vals.length) :
    bindArgs fd ⟨vals, []⟩ = pure ((as.map (·.arg)).zip vals) := by
  have h1 : ((as.map (·.arg)).filter fun n => (((as.map (·.arg)).zip vals).lookup n).isNone) = [] := by
    rw [List.filter_eq_nil_iff]
    intro n hn
    obtain ⟨v, e⟩ := zip_has hl n hn
    simp [e]
  have h2 := zip_fm hn hl
  have hT : List.take (vals.length - (List.drop ((#[] : Array Value).size - vals.length) ([] : List Value)).length) (as.map (·.arg)) = as.map (·.arg) := by
    refine List.take_of_length_le ?_
    rw [List.drop_nil, List.length_nil, Nat.sub_zero, hl]; exact Nat.le_refl _
  unfold bindArgs
  rw [hp, hd]
  dsimp only
  generalize as.map (·.arg) = ns at *
  simp only [List.map_nil, List.nil_append, List.append_nil, seqItems?, hl]
  simp
  show (ite _ _ _ : Sem _) = _
  refine (if_neg ?_).trans (congrArg pure h2)
  intro hc
  have hc' : (!(List.filter (fun n => (List.lookup n (ns.zip vals)).isNone) (List.take (vals.length - (List.drop ((#[] : Array Value).size - vals.length) ([] : List Value)).length) ns)).isEmpty) = true := hc
  rw [hT, h1] at hc'
  cases hc'
section
variable {h : Heap} {L : Addr}
theorem ns_fun {m m' : Str → Option Value} (x : h.Ns L m) (y : h.Ns L m') : m = m' := by
  obtain ⟨o, es, ep, e, d, _, f⟩ := x
  obtain ⟨o', es', ep', e', d', _, f'⟩ := y
  have q := got e e'
  subst q
  injection d.symm.trans d' with q
  subst q
  funext n
  rw [← f n, ← f' n]
end
end Mine
end
section
namespace Mine
open PySem PyProof.Rows SeqAt
theorem mem_key {α : Type} {x : Str} : ∀ {r : List (Str × α)} {u : α}, r.lookup x = some u → x ∈ r.map (·.1)
  | (n, v) :: r, u, h => by
    rw [List.lookup_cons] at h
    cases e : x == n with
    | true => exact eq_of_beq e ▸ List.mem_cons_self
    | false => rw [e] at h; exact List.mem_cons_of_mem _ (mem_key h)
theorem bindL_eq {k : Str → Option NameKind} {x : Str} (hk : k x = some .local) : ∀ {r : List (Str × Value)} {m : Str → Option Value}, (r.map (·.1)).Nodup → bindL k r m x = (r.lookup x).or (m x)
  | [], _, _ => rfl
  | (n, v) :: r, m, hd => by
    obtain ⟨h1, h2⟩ := List.nodup_cons.mp hd
    unfold bindL
    rw [bindL_eq hk h2, List.lookup_cons]
    cases e : x == n with
    | true =>
      have en : x = n := eq_of_beq e
      have : r.lookup x = none := none_of fun u hu => h1 (en ▸ mem_key hu)
      rw [this, ← en, if_pos hk, if_pos rfl]; rfl
    | false =>
      have en : x ≠ n := by simpa using e
      by_cases hn : k n = some .local
      · rw [if_pos hn, if_neg en]
      · rw [if_neg hn]
theorem bindC_eq {k : Str → Option NameKind} {x : Str} (hk : k x = some .cell) : ∀ {r : List (Str × Value)} {m : Str → Option Value}, (r.map (·.1)).Nodup → bindC k r m x = (r.lookup x).or (m x)
  | [], _, _ => rfl
  | (n, v) :: r, m, hd => by
    obtain ⟨h1, h2⟩ := List.nodup_cons.mp hd
    unfold bindC
    rw [bindC_eq hk h2, List.lookup_cons]
    cases e : x == n with
    | true =>
      have en : x = n := eq_of_beq e
      have : r.lookup x = none := none_of fun u hu => h1 (en ▸ mem_key hu)
      rw [this, ← en, if_neg (by rw [hk]; nofun), if_pos rfl]; rfl
    | false =>
      have en : x ≠ n := by simpa using e
      by_cases hn : k n = some .local
      · rw [if_pos hn]
      · rw [if_neg hn, if_neg en]
theorem newEnv_tk {M : Model} {A : Around} {E : Value → Shared → Prop} {s : Shared} {scope : Scope} {globals : Addr} {n : Str} {v : Value} {qual : Str} {func : Option Addr} {code : Value} {builtins : Addr} {Q : Env → Shared → Prop}
    (hk : scope.kind = .function) (hl : scope.names.lookup n = some .local)
    (hQ : ∀ env, env = newEnv scope s.heap.objs.size globals (cellsFrom (s.heap.objs.size + 1) scope.names []) qual func code none builtins →
      ∀ s', 0 < s'.toks → InCallC s env.locals (bindL env.kindOf [(n, v)] fun _ => none) env.cells (bindC env.kindOf [(n, v)] fun _ => none) s' → Q env s') :
    wpAny M A (newFunctionEnv scope globals [] [(n, v)] qual func code none builtins) Q E s := by
  simp only [newFunctionEnv, Option.isSome_none, Bool.false_eq_true, if_false]
  refine wpAny_bind (wpAny_alloc ?_)
  refine wpAny_bind (wpAny_layCells _ (fun name kind cells => by cases hkc : kind == NameKind.cell <;> simp [hkc]) _ _ _ _ ?_)
  have ok := cellsFrom_ok scope.names (s.heap.push { cls := .type "frame", data := .dict #[] }) (s.heap.objs.size + 1) [] ⟨fun _ _ hm => (nomatch hm), List.Pairwise.nil⟩ (by rw [Heap.size_push]; exact Nat.le_refl _)
  rw [Heap.size_push] at ok
  rw [show ({ s with heap := s.heap.push { cls := .type "frame", data := .dict #[] } } : Shared).heap.objs.size = s.heap.objs.size + 1 from Heap.size_push ..]
  generalize he : newEnv scope s.heap.objs.size globals (cellsFrom (s.heap.objs.size + 1) scope.names []) qual func code none builtins = env at hQ
  have hE : ({ scope := scope, locals := s.heap.objs.size, globals := globals, cells := cellsFrom (s.heap.objs.size + 1) scope.names [], qual := qual, func := func, code := code, frame := some s.heap.objs.size, builtins := builtins } : Env) = env := he
  have hkd : env.kindOf n = some .local := by rw [← he]; exact hl
  have hks : env.scope.kind = .function := by rw [← he]; exact hk
  have hloc : env.locals = s.heap.objs.size := by rw [← he]; rfl
  have hns : (pushCells (s.heap.push { cls := .type "frame", data := .dict #[] }) scope.names).Ns env.locals fun _ => none := by rw [hloc]; exact (Heap.Ns.new s.heap (.type "frame")).keeps (pushCells_keeps _ _)
  have hx : InCallC s env.locals (fun _ => none) env.cells (fun _ => none) { s with heap := pushCells (s.heap.push { cls := .type "frame", data := .dict #[] }) scope.names } := by
    refine ⟨⟨⟨_, _, rfl⟩, hns, fun b o e => pushCells_keeps _ _ b o (Heap.get?_push_of_some _ e), by rw [hloc]; exact Nat.le_refl _⟩, fun x c hc => ?_, ?_, fun x c hm => ?_⟩
    · rw [← he] at hc; exact (ok.empty x c (mem_of_lookup hc)).1
    · rw [← he]; exact ok.apart
    · rw [← he] at hm; rw [hloc]; exact (ok.empty x c hm).2
  refine wpAny_bind ?_
  rw [List.forIn_cons]
  refine wpAny_bind (wpAny_bind ?_)
  show wpAny M A (storeName { scope := scope, locals := s.heap.objs.size, globals := globals, cells := cellsFrom (s.heap.objs.size + 1) scope.names [], qual := qual, func := func, code := code, frame := some s.heap.objs.size, builtins := builtins } n v) _ _ _
  rw [hE]
  refine wpAny_storeName_local hkd hns (fun h' hn' hs' => wpAny_pure ?_) (by rw [hks]; rfl)
  show wpAny M A (forIn ([] : List (Str × Value)) PUnit.unit _) _ _ _
  rw [List.forIn_nil]
  refine wpAny_pure (wpAny_pure ?_)
  refine hQ env rfl _ (Nat.succ_pos _) ⟨⟨⟨_, _, rfl⟩, ?_, fun b o e => ?_, hx.toInCall.fresh⟩, fun x c hc => ?_, hx.apart, hx.above⟩
  · show h'.Ns env.locals (if env.kindOf n = some .local then fun y => if y = n then some v else none else fun _ => none)
    rw [if_pos hkd]; exact hn'
  · exact hs'.extBut b o (Nat.ne_of_lt (Nat.lt_of_lt_of_le (Heap.lt_size e) hx.toInCall.fresh)) (hx.toInCall.keep b o e)
  · show h'.IsCell c ((if env.kindOf n = some .local then (fun _ => none) else fun y => if y = n then some v else none : Str → Option Value) x)
    rw [if_pos hkd]
    exact (hx.cell x c hc).sameBut hs' (Nat.ne_of_gt (hx.above x c (mem_of_lookup hc)))
section
variable {X : Cx} {l m : Nat} {Z : Fz} {h : Heap}
mutual
theorem Rep.lv {v : Value} : ∀ {x : V}, Rep (X.lv l) Z v x → Rep (X.lv m) Z v x
  | .none, r => r
  | .bool _, r => r
  | .int _, r => r
  | .flt _, r => r
  | .tup _, ⟨a, vs, e, p, q⟩ => ⟨a, vs, e, p, RepL.lv q⟩
  | .list _, ⟨a, vs, e, p, q⟩ => ⟨a, vs, e, p, RepL.lv q⟩
  | .dict _, r => r
theorem RepL.lv {vs : List Value} : ∀ {ws : List V}, RepL (X.lv l) Z vs ws → RepL (X.lv m) Z vs ws
  | [], r => r
  | _ :: _, ⟨v, r, e, p, q⟩ => ⟨v, r, e, Rep.lv p, RepL.lv q⟩
end
theorem Own.lv {a : Addr} : ∀ {x : V}, Own (X.lv l) Z h a x → Own (X.lv m) Z h a x
  | .list _, ⟨vs, p, q⟩ => ⟨vs, p, q.lv⟩
  | .dict _, r => r
end
end Mine
end
section
namespace Mine
open PySem PyProof.Rows SeqAt
structure Begin (C : Cx) (f : Fn) (us : List Value) (ρ : St) (Kp : Heap) (bk : Addr) (c : Cf) : Prop where
  ns : ρ.ns = f.ns
  lam : ρ.lam = f.lam
  hd : ρ.hd = none
  fr : ∀ x v, ρ.fr x = some v → ∃ u, (f.ps.zip us).lookup x = some u ∧ Rep C c.Z u v
  ow : ∀ x v, ρ.ow x = some v → (f.ps.zip us).lookup x = some (.ref bk) ∧ Own C c.Z c.s.heap bk v ∧ c.Z.hp.get? bk = none ∧ Kp.get? bk = none ∧ bk ≠ lamP
  one : ∀ x y v u, ρ.ow x = some v → ρ.ow y = some u → x = y
  bo : ∀ x, ρ.bo = some x → (f.ps.zip us).lookup x = some (.ref bk)
  kin : Le Kp c.s.heap
  kt : Kp.get? lamP = none
structure CallAt (C : Cx) (c : Cf) (f : Fn) : Prop where
  base : Le C.h₀ c.Z.hp
  zin : Le c.Z.hp c.s.heap
  tk : ∀ t x, c.Z.tk t = some x → t < c.s.toks
  tk0 : 0 < c.s.toks ∨ ∃ p, f.ps = [p] ∧ f.ns.lookup p = some .local
  zt : c.Z.hp.get? lamP = none
  tab : TabIs c.Z c.s.heap
noncomputable def flowV (fw : Flow) : Value := match fw with
  | .ret v => v
  | _ => .none
section
variable {X : Cx} {l : Nat} {A : Around} {f : Fn} {a bk : Addr} {us : List Value} {ρ ρ' : St} {fl : Fl} {c : Cf} {Kp : Heap} {env : Env} {h₁ : Heap} {tk₁ : Nat} {fd : FuncData}
theorem begin_inv (F : FnAt X.h₀ f a) (K : CallAt (X.lv l) c f) (B : Begin (X.lv l) f us ρ Kp bk c) (hlen : f.ps.length = us.length) (hnm : fd.scope.names = f.ns) (hkd : fd.scope.kind = .function) (hgl : fd.globals = mainGlobals) (hbl : fd.builtins = builtinsNs) (hl : f.lam = true → fd.code = .ref lamC ∧ fd.qualname ++ ".<locals>." = lamQual)
    (he : env = newEnv fd.scope c.s.heap.objs.size fd.globals (cellsFrom (c.s.heap.objs.size + 1) fd.scope.names []) (fd.qualname ++ ".<locals>.") (some a) fd.code none fd.builtins) (h0 : 0 < tk₁) (htk : c.s.toks ≤ tk₁)
    (IC : InCallC c.s env.locals (bindL env.kindOf (f.ps.zip us) fun _ => none) env.cells (bindC env.kindOf (f.ps.zip us) fun _ => none) (c.at h₁ tk₁).s) (keep : Le c.s.heap h₁) :
    Inv (X.lv l) ⟨env, Kp, bk, 0⟩ (fun x => (f.ps.zip us).lookup x) ρ (c.at h₁ tk₁) := by
  have eL : env.locals = c.s.heap.objs.size := by rw [he]; rfl
  have ekind : ∀ x, env.kindOf x = f.ns.lookup x := fun x => by rw [he]; show fd.scope.names.lookup x = _; rw [hnm]
  have ecells : env.cells = cellsFrom (c.s.heap.objs.size + 1) f.ns [] := by rw [he, ← hnm]; rfl
  have hzk : (f.ps.zip us).map (·.1) = f.ps := List.map_fst_zip (Nat.le_of_eq hlen)
  have nd : ((f.ps.zip us).map (·.1)).Nodup := by rw [hzk]; exact F.nodup
  have cells : ∀ x, f.ns.lookup x = some .cell → ∃ d, env.cells.lookup x = some d := fun x hk => by
    obtain ⟨d, hc⟩ := cellsFrom_has f.ns (c.s.heap.objs.size + 1) [] x (mem_of_lookup hk)
    obtain ⟨d', hc'⟩ := lookup_of_mem hc
    exact ⟨d', ecells ▸ hc'⟩
  have above : ∀ x d, env.cells.lookup x = some d → c.s.heap.objs.size < d := fun x d e => eL ▸ IC.above x d (mem_of_lookup e)
  have new : ∀ d, (⟨env, Kp, bk, 0⟩ : Fm).plc f.ns d → c.s.heap.get? d = none := fun d p => new_at (p.elim (fun e => Nat.le_of_eq (e.trans eL).symm) fun ⟨x, _, e⟩ => Nat.le_of_lt (above x d e))
  have var : ∀ {x u}, (f.ps.zip us).lookup x = some u → isVar ρ.ns x := fun {x u} e => by
    rw [B.ns]
    exact (F.kinds x (hzk ▸ mem_key e)).imp id .inl
  have st : Sta ⟨env, Kp, bk, 0⟩ f.ns f.lam := by
    refine ⟨by rw [he]; exact hkd, by rw [he]; exact hgl, by rw [he]; exact hbl, fun x k e => ?_, cells, fun x y d kx ky ex ey => name_of_addr IC.apart (mem_of_lookup ex) (mem_of_lookup ey), fun x d k e => by rw [eL]; exact Nat.ne_of_lt (above x d e), fun x k => absurd k (F.nofree x), fun d p => B.kin.none (new d p), fun d p e => ne_none K.tab.live (e ▸ new d p) rfl, B.kt, fun h => ?_⟩
    · have q := (ekind x).trans e
      cases k with
      | free => exact absurd e (F.nofree x)
      | globalExplicit => trivial
      | «local» => exact q
      | cell => exact q
      | globalImplicit => exact q
    · obtain ⟨e1, e2⟩ := hl h
      rw [he]
      exact ⟨e1, e2⟩
  refine ⟨by rw [B.ns, B.lam]; exact st, ?_, fun x v e => ?_, fun x v e => ?_, fun x y v u e e' _ => B.one x y v u e e', B.bo, fun x e => no_some B.hd e⟩
  · rw [B.ns]
    refine ⟨⟨K.base, K.zin.trans keep, h0, fun t x e => Nat.lt_of_lt_of_le (K.tk t x e) htk⟩, B.kin.trans keep, K.tab.mono (ZLe.rfl' _) fun o e => keep _ _ e, K.zt, fun d p => K.zin.none (new d p), ⟨_, IC.toInCall.ns, fun x k => ?_⟩, fun x d k e => ?_⟩
    · rw [bindL_eq (by rw [ekind]; exact k) nd]; exact Option.or_none
    · have k := k.elim id fun k => absurd k (F.nofree x)
      have ic := IC.cell x d e
      rw [bindC_eq (by rw [ekind]; exact k) nd] at ic
      rw [show ((f.ps.zip us).lookup x).or none = (f.ps.zip us).lookup x from Option.or_none] at ic
      exact ic
  · obtain ⟨u, e', r⟩ := B.fr x v e
    exact ⟨var e', u, e', r⟩
  · obtain ⟨e', r, z, kb, nt⟩ := B.ow x v e
    refine ⟨var e', bk, e', r.mono (ZLe.rfl' _) fun o e => keep _ _ e, z, kb, fun p => ?_, nt⟩
    rw [B.ns] at p
    exact ne_none r.live (new bk p) rfl
theorem call_fn (F : FnAt X.h₀ f a) (hA : AOk (l + 1) A) (K : CallAt (X.lv l) c f) (B : Begin (X.lv l) f us ρ Kp bk c) (hlen : f.ps.length = us.length) (hex : Exs (X.lv l) ρ f.body fl ρ') {Q E : Value → Shared → Prop}
    (hQ : ∀ env fw val' c', Inv (X.lv l) ⟨env, Kp, bk, 0⟩ val' ρ' c' → Stp ⟨env, Kp, bk, 0⟩ c c' → FlOk (X.lv l) c'.Z fl fw → Q (flowV fw) c'.s) : wpAny X.m A (call (.ref a) us) Q E c.s := by
  obtain ⟨o, fd, as, ho, hd, hcd, hp, hdf, hbody, hclo, hgl, hbl, has, hnm, hkd, hge, hco, hl⟩ := F.at_
  have ho' : c.s.heap.get? a = some o := K.zin _ _ (K.base _ _ ho)
  have hcd' : c.s.heap.CodeRec fd.code fd.qualname := (hcd.keeps K.base).keeps K.zin
  have hlim : c.s.heap.NoLimit := (X.G.nolimit.keeps K.base).keeps K.zin
  refine wpAny_call (codeAny_call_function (by have := hA.deep; omega) ho' hd hco hge hbody hcd' ?_)
  rw [bind_plain hp hdf (by rw [has]; exact F.nodup) (by rw [has]; exact hlen), has, hclo]
  have enter : ∀ {Qe : Env → Shared → Prop} {E : Value → Shared → Prop}, (∀ env, env = newEnv fd.scope c.s.heap.objs.size fd.globals (cellsFrom (c.s.heap.objs.size + 1) fd.scope.names []) (fd.qualname ++ ".<locals>.") (some a) fd.code none fd.builtins →
      ∀ s', 0 < s'.toks → c.s.toks ≤ s'.toks → InCallC c.s env.locals (bindL env.kindOf (f.ps.zip us) fun _ => none) env.cells (bindC env.kindOf (f.ps.zip us) fun _ => none) s' → Qe env s') →
      wpAny X.m A.in1 (newFunctionEnv fd.scope fd.globals [] (f.ps.zip us) (fd.qualname ++ ".<locals>.") (some a) fd.code none fd.builtins) Qe E c.s := fun {Qe E} hq => by
    rcases K.tk0 with tk0 | ⟨p, hp1, hl1⟩
    · refine wpAny_with_toks (Nat.le_refl _) (wpAny_newFunctionEnv_cells hkd (fun x hx => ?_) fun env he s' IC htk => hq env he s' (Nat.lt_of_lt_of_le tk0 htk) htk IC)
      have hm : x.1 ∈ f.ps := (List.map_fst_zip (l₁ := f.ps) (l₂ := us) (Nat.le_of_eq hlen)) ▸ List.mem_map_of_mem hx
      rw [hnm]
      refine (F.kinds x.1 hm).imp id fun h => ⟨h, ?_⟩
      obtain ⟨c, hc⟩ := cellsFrom_has f.ns (c.s.heap.objs.size + 1) [] x.1 (mem_of_lookup h)
      obtain ⟨c', hc'⟩ := lookup_of_mem hc
      rw [hc']; rfl
    · match us, hlen with
      | [], h => rw [hp1] at h; cases h
      | _ :: _ :: _, h => rw [hp1] at h; cases h
      | [v], _ =>
        have hz1 : f.ps.zip [v] = [(p, v)] := by rw [hp1]; rfl
        rw [hz1] at hq ⊢
        exact wpAny_with_toks (Nat.le_refl _) (newEnv_tk hkd (by rw [hnm]; exact hl1) fun env he s' h0 IC htk => hq env he s' h0 htk IC)
  refine wpAny_pure (enter fun env he s' h0 htk IC => ?_)
  obtain ⟨h₁, tk₁, rfl, keep⟩ := IC.done
  have I := begin_inv F K B hlen hnm hkd hgl hbl hl he h0 htk IC keep
  refine ⟨hlim.keeps keep, codeAny_func (hex.run ⟨A.deeper env, ⟨env, Kp, bk, 0⟩, _, _, hA.deeper env, I⟩ _ _ fun fw v' c' I' s' hf => ?_)⟩
  have := hQ env fw v' c' I' ⟨s'.zle, s'.old, s'.rst.g, s'.rst.d, s'.rst.o⟩ hf
  cases fw <;> exact this
end
noncomputable def hidK (h : Heap) (b : Addr) : Heap := keepP h fun a => !(a == lamP) && !(a == b)
theorem hidK_some {h : Heap} {a b : Addr} {o : Obj} (e : h.get? a = some o) (n : a ≠ lamP) (m : a ≠ b) : (hidK h b).get? a = some o := keepP_some.mpr ⟨by simp [n, m], e⟩
theorem hidK_tab {h : Heap} {b : Addr} : (hidK h b).get? lamP = none := keepP_none (by simp)
theorem hidK_b {h : Heap} {b : Addr} : (hidK h b).get? b = none := keepP_none (by simp)
noncomputable def St.beg (f : Fn) (vs : List V) : St := ⟨f.ns, fun x => (f.ps.zip vs).lookup x, fun _ => none, none, none, f.lam⟩
noncomputable def St.begM (f : Fn) (p : Str) (ps : List Str) (y : V) (vs : List V) : St := ⟨f.ns, fun x => (ps.zip vs).lookup x, ups (fun _ => none) p (some y), some p, none, f.lam⟩
noncomputable def gaveV (fl : Fl) (v : V) : Prop := fl = .ret v ∨ fl = .next ∧ v = .none
noncomputable def runP (C : Cx) (f : Fn) (vs : List V) (v : V) : Prop := f.ps.length = vs.length ∧ ∃ fl ρ', Exs C (.beg f vs) f.body fl ρ' ∧ gaveV fl v
noncomputable def runM (C : Cx) (f : Fn) (y : V) (vs : List V) (v y' : V) : Prop := ∃ p ps, f.ps = p :: ps ∧ ps.length = vs.length ∧ ∃ fl ρ', Exs C (.begM f p ps y vs) f.body fl ρ' ∧ gaveV fl v ∧ ρ'.ow p = some y'
section
variable {X : Cx} {l : Nat} {A : Around} {f : Fn} {fn : Str} {a b : Addr} {us : List Value} {vs : List V} {v y y' : V} {c c' : Cf}
theorem gave_rep {C : Cx} {Z : Fz} {fl : Fl} {fw : Flow} (g : gaveV fl v) (h : FlOk C Z fl fw) : Rep C Z (flowV fw) v := by
  rcases g with e | ⟨e, e'⟩
  · rw [e] at h
    obtain ⟨u, eu, r⟩ := h
    rw [eu]; exact r
  · rw [e] at h
    rw [show fw = .next from h, e']; rfl
theorem zip_rep {C : Cx} {Z : Fz} {x : Str} {v : V} : ∀ {ns : List Str} {vs : List V} {us : List Value}, RepL C Z us vs → (ns.zip vs).lookup x = some v → ∃ u, (ns.zip us).lookup x = some u ∧ Rep C Z u v
  | [], _, _, _, h => nomatch h
  | _ :: _, [], _, _, h => nomatch h
  | a :: ns, _ :: _, _, ⟨u, r, e, p, q⟩, h => by
    rw [e, List.zip_cons_cons, List.lookup_cons]
    rw [List.zip_cons_cons, List.lookup_cons] at h
    cases hx : x == a with
    | true => rw [hx] at h; exact ⟨u, rfl, Option.some.inj h ▸ p⟩
    | false => rw [hx] at h; exact zip_rep q h
theorem gro_of {env : Env} {val' : Str → Option Value} {ρ' : St} (I : Inv X ⟨env, hidK c.s.heap b, b, 0⟩ val' ρ' c') (s : Stp ⟨env, hidK c.s.heap b, b, 0⟩ c c') (lb : b = lamP ∨ (c'.Z.hp.get? b = none ∧ ∃ o, c'.s.heap.get? b = some o)) : Gro b c c' where
  le := fun x n m o e => I.bas.kin x o (hidK_some e m n)
  tab := fun _ => I.bas.tab
  zle := s.zle
  zin := I.ok.zin
  old := fun x o e => (s.old x o e).imp id fun n => none_of fun _ e' => no_some n (hidK_some e' (ne_of_get e I.bas.tabZ) fun q => lb.elim (fun h => ne_of_get e I.bas.tabZ (q.trans h)) fun h => no_some h.1 (q ▸ e))
  tok := I.ok.tok
  rst := s.rst
  live := fun x ⟨o, e⟩ => (Classical.em (x = lamP)).elim (fun q => q ▸ I.bas.tab.live) fun n => (Classical.em (x = b)).elim (fun q => lb.elim (fun h => absurd (q.trans h) n) fun h => q ▸ h.2) fun m => ⟨o, I.bas.kin x o (hidK_some e n m)⟩
theorem call_pure (F : FnAt X.h₀ f a) (h : runP (X.lv l) f vs v) (hA : AOk (l + 1) A) (K : CallAt (X.lv l) c f) (ru : RepL (X.lv l) c.Z us vs) {Q E : Value → Shared → Prop} (hQ : ∀ u c', Gro lamP c c' → Rep (X.lv l) c'.Z u v → TabIs c'.Z c'.s.heap → Q u c'.s) :
    wpAny X.m A (call (.ref a) us) Q E c.s := by
  obtain ⟨hl, fl, ρ', hex, g⟩ := h
  exact call_fn F hA K (Kp := hidK c.s.heap lamP) (bk := lamP) ⟨rfl, rfl, rfl, fun x v e => zip_rep ru e, fun x v e => no_some rfl e, fun x y v u e => no_some rfl e, fun x e => no_some rfl e, keepP_le _ _, hidK_tab⟩ (hl.trans ru.len.symm) hex fun env fw val' c' I s hf => hQ _ c' (gro_of I s (.inl rfl)) (gave_rep g hf) I.bas.tab
theorem Okt.at (k : Okt X c) (f : Fn) : CallAt X c f := ⟨k.ok.base, k.ok.zin, k.ok.tok.lt, .inl k.ok.tok.pos, k.z, k.tab⟩
theorem Okt.lv {m : Nat} (k : Okt (X.lv l) c) : Okt (X.lv m) c := ⟨⟨k.ok.base, k.ok.zin, k.ok.tok⟩, k.z, k.tab⟩
theorem FnAt.fun (F : FnAt X.h₀ f a) : FunAt X a := let ⟨o, fd, _, e, d, _⟩ := F.at_; ⟨o, fd, e, d⟩
theorem pure_of (hf : FT fn = some f) (h : runP (X.lv l) f vs v) : (X.lv (l + 1)).pure fn vs v := by
  obtain ⟨a, hg, F⟩ := X.tab fn f hf
  exact ⟨a, hg, F.fun, fun A c us hA k ru Q E hQ => call_pure F h hA ((k.lv).at f) ru.lv fun u c' g r _ => hQ u c' g r.lv⟩
theorem chg_of (hf : FT fn = some f) (h : runM (X.lv l) f y vs v y') : (X.lv (l + 1)).chg fn y vs v y' := by
  obtain ⟨a, hg, F⟩ := X.tab fn f hf
  obtain ⟨p, ps, hps, hl, fl, ρ', hex, g, hy⟩ := h
  refine ⟨a, hg, F.fun, fun A c us b hA k o z ru Q E hQ => ?_⟩
  have nb : b ≠ lamP := fun e => by
    obtain ⟨ps, e1, _⟩ := k.tab
    obtain ⟨ob, e2, q⟩ := o.shape
    rw [e, e1] at e2
    have e3 := Option.some.inj e2
    rw [← e3] at q
    exact q.elim (fun ⟨_, _, d⟩ => nomatch d) fun ⟨_, _, _, d⟩ => nomatch d
  have hz : f.ps.zip (.ref b :: us) = (p, .ref b) :: ps.zip us := by rw [hps]; rfl
  have hp : p ∉ ps := (List.nodup_cons.mp (hps ▸ F.nodup)).1
  have here : (f.ps.zip (.ref b :: us)).lookup p = some (.ref b) := by rw [hz, List.lookup_cons, beq_self_eq_true]
  have one : ∀ {x v}, (St.begM f p ps y vs).ow x = some v → x = p ∧ v = y := fun {x v} e => (ups_some (show ups (fun _ => none) p (some y) x = some v from e)).elim id fun q => no_some rfl q.2
  refine call_fn F hA ((k.lv).at f) (Kp := hidK c.s.heap b) (bk := b) (ρ := .begM f p ps y vs) ⟨rfl, rfl, rfl, fun x v e => ?_, fun x v e => ?_, fun x z v u e e' => ?_, fun x e => Option.some.inj e ▸ here, keepP_le _ _, hidK_tab⟩ (by rw [hps]; exact congrArg (· + 1) (hl.trans ru.len.symm)) hex
    fun env fw val' c' I s hf => ?_
  · have nx : (x == p) = false := beq_eq_false_iff_ne.mpr fun q => hp ((List.map_fst_zip (l₁ := ps) (l₂ := vs) (Nat.le_of_eq hl)) ▸ q ▸ mem_key e)
    obtain ⟨u, e1, r⟩ := zip_rep ru.lv e
    exact ⟨u, by rw [hz, List.lookup_cons, nx]; exact e1, r⟩
  · obtain ⟨q1, q2⟩ := one e
    rw [q1, q2]
    exact ⟨here, o.lv, z, hidK_b, nb⟩
  · exact (one e).1.trans (one e').1.symm
  · obtain ⟨_, d, pd, od⟩ := I.ow p y' hy
    have hd : d = b := ref_eq (got pd (I.bor p (hex.same.bo)))
    rw [hd] at od
    exact hQ _ c' (gro_of I s (.inr ⟨od.hid.z, od.own.live⟩)) od.own.lv (gave_rep g hf).lv
end
end Mine
end
section
open PySem PySem.W PyProof.Rows
namespace Mine
noncomputable def funCode (h : Heap) (v : Option Value) : Option Value := match v with
  | some (.ref a) => (match h.get? a with
    | some o => (match o.data with
      | .func fd => some fd.code
      | _ => none)
    | none => none)
  | _ => none
theorem funCode_some {h : Heap} {v : Option Value} {c : Value} (e : funCode h v = some c) : ∃ a o fd, v = some (.ref a) ∧ h.get? a = some o ∧ o.data = .func fd ∧ fd.code = c := by
  unfold funCode at e
  split at e
  · split at e
    · split at e
      · cases e; exact ⟨_, _, _, rfl, by assumption, by assumption, rfl⟩
      · cases e
    · cases e
  · cases e
noncomputable abbrev Obs := Option Obj × Option Obj × Bool × Option Value × Bool × Option Value
noncomputable def obs (s : Shared) : Obs := (s.heap.get? 107, s.heap.get? 105, s.heap.isNs mainGlobals, funCode s.heap (s.heap.nsMap mainGlobals "_law_whole"), s.heap.isNs cStatics, s.heap.nsMap cStatics sharingNotToldKey)
noncomputable def midCode : Obj := { cls := .type "code", data := .fields #[.str (Str.ofString "_law_whole") 356, .str (Str.ofString "_law_whole") 357, .str (Str.ofString "/claim/cut.py") 358, .int 165 0, .int 1 0, .int 0 0, .int 0 0,
          .int 3 0, .ref 104, .bool true, .int 181 0, .ref 105, .none, .none, .none, .ref 106, .int 359 0, .int 165 0, .str (Str.ofString "/claim/cut.py") 360] }
noncomputable def obs0 : Obs := (some midCode, some (tabObj #[]), true, some (.ref 107), true, none)
structure Says (h : Heap) : Prop where
  code : h.get? 107 = some midCode
  tab : h.get? 105 = some (tabObj #[])
  mid : ∃ mg a o fd, h.Ns mainGlobals mg ∧ mg "_law_whole" = some (.ref a) ∧ h.get? a = some o ∧ o.data = .func fd ∧ fd.code = .ref 107
  told : ∃ mc, h.Ns cStatics mc ∧ mc sharingNotToldKey = none
theorem says_of (w : World) (s : Shared) (e : obs s = obs0) : Says s.heap := by
  unfold obs obs0 at e
  simp only [Prod.mk.injEq] at e
  obtain ⟨e1, e2, e3, e4, e5, e6⟩ := e
  obtain ⟨a, o, fd, h1, h2, h3, h4⟩ := funCode_some e4
  exact ⟨e1, e2, ⟨_, a, o, fd, Heap.Ns.of_isNs e3, h1, h2, h3, h4⟩, ⟨_, Heap.Ns.of_isNs e5, e6⟩⟩
theorem says_keeps (w : World) (h h' : Heap) (x : Says h) (k : ∀ b o, h.get? b = some o → h'.get? b = some o) : Says h' :=
  let ⟨mg, a, o, fd, n, e1, e2, r⟩ := x.mid
  let ⟨mc, n', e'⟩ := x.told
  ⟨k _ _ x.code, k _ _ x.tab, ⟨mg, a, o, fd, n.keeps k, e1, k _ _ e2, r⟩, ⟨mc, n'.keeps k, e'⟩⟩
set_option maxHeartbeats 8000000 in
theorem left : LeftO pr vw [] (fun s => xlAt vw [] s && recOk [] s) obs (fun _ => obs0) 1484 := fun w => by kernel_rfl
abbrev rw1 : OpenLaw := PySem.Challenge.rw_pg0166_02
set_option maxHeartbeats 8000000 in
theorem head (walk : ∀ d, PySem.W.defOf vw rw1.row.name = some (d, []) → WalkO vw [] (XL vw []) (fun _ => Says) rw1.row.toRowW d [] fun f vs => PySem.call f vs) : rw1.Holds := by
  w_on
  refine holds_law (by decide +kernel) fun said => ?_
  refine holds_open (q := vw) (loose := []) (XP := XL vw []) (YP := fun _ => Says) (Xt := fun s => xlAt vw [] s && recOk [] s) (Yf := obs) (Ya := fun _ => obs0) left says_of says_keeps (fun s e => xl_of s (Bool.and_eq_true_iff.mp e).1) XL.keeps (by rfl) (by rfl) (by rfl) (fun s e => recFacts_of (Bool.and_eq_true_iff.mp e).2) (by rfl) (by first | assumption | decide +kernel) (by decide +kernel) ⟨rfl, rfl, rfl, rfl, rfl, by decide +kernel⟩ ?hw ?hc
  case hw => w_witness2
  case hc => exact walk _ (by rfl)
end Mine
end
section
namespace Mine
open PySem PyProof.Rows SeqAt PySem.W
noncomputable def plainArgs (a : Arguments) : Bool := a.posonlyargs.isEmpty && a.vararg.isNone && a.kwonlyargs.isEmpty && a.kw_defaults.isEmpty && a.kwarg.isNone && a.defaults.isEmpty
theorem plainArgs_eq {a : Arguments} (h : plainArgs a = true) : a = ⟨[], a.args, none, [], [], none, []⟩ := by
  obtain ⟨p, ar, v, k, kd, kw, d⟩ := a
  simp only [plainArgs, Bool.and_eq_true, List.isEmpty_iff, Option.isNone_iff_eq_none] at h
  obtain ⟨⟨⟨⟨⟨rfl, rfl⟩, rfl⟩, rfl⟩, rfl⟩, rfl⟩ := h
  rfl
noncomputable def recGood (d : DefRec) : Bool := plainArgs d.params && decide (d.params.args.map (·.arg)).Nodup && (d.params.args.all fun a => d.scope.names.lookup a.arg == some .local || d.scope.names.lookup a.arg == some .cell) &&
  (d.scope.names.all fun p => p.2 != .free) && d.scope.kind == .function && !d.scope.isGenerator && !d.scope.isCoroutine
theorem recs_good : (recsOf vw).all recGood = true := by decide +kernel
structure RecIs (d : DefRec) : Prop where
  args : d.params = ⟨[], d.params.args, none, [], [], none, []⟩
  nodup : (d.params.args.map (·.arg)).Nodup
  kinds : ∀ a ∈ d.params.args, d.scope.names.lookup a.arg = some .local ∨ d.scope.names.lookup a.arg = some .cell
  free : ∀ p ∈ d.scope.names, p.2 ≠ .free
  kind : d.scope.kind = .function
  gen : d.scope.isGenerator = false
  co : d.scope.isCoroutine = false
theorem rec_is {d : DefRec} (hm : d ∈ recsOf vw) : RecIs d := by
  have hg := List.all_eq_true.mp recs_good d hm
  simp only [recGood, Bool.and_eq_true, decide_eq_true_eq, List.all_eq_true, Bool.or_eq_true, beq_iff_eq, bne_iff_ne, Bool.not_eq_true'] at hg
  exact ⟨plainArgs_eq hg.1.1.1.1.1.1, hg.1.1.1.1.1.2, hg.1.1.1.1.2, hg.1.1.1.2, hg.1.1.2, hg.1.2, hg.2⟩
noncomputable def NB : List (Str × Value) := [("len", .builtin "len"), ("max", .builtin "max"), ("min", .builtin "min"), ("sum", .builtin "sum"), ("abs", .builtin "abs"), ("int", .type "int"), ("all", .builtin "all"), ("range", .type "range"), ("reversed", .type "reversed"), ("isinstance", .builtin "isinstance"), ("tuple", .type "tuple")]
noncomputable def nbOk (p : Str × Value) : Bool := !startupNames.contains p.1 && !(looseW vw []).contains p.1 && !((recsOf vw).map (·.name)).contains p.1 && !((litsOf vw).map (·.1)).contains p.1 && !((clssOf vw (looseW vw [])).map (·.name)).contains p.1 && !(p.1 == "__name__") && bootBuiltins p.1 == some p.2
theorem nb_ok : NB.all nbOk = true := by decide +kernel
noncomputable def glOf (mg : Str → Option Value) (x : Str) : Option Value := if ((recsOf vw).map (·.name)).contains x then mg x else NB.lookup x
theorem nb_rec : (NB.all fun p => !((recsOf vw).map (·.name)).contains p.1) = true := by decide +kernel
theorem gl_nb {mg : Str → Option Value} {x : Str} {v : Value} (h : NB.lookup x = some v := by rfl) : glOf mg x = some v := by
  have h1 := List.all_eq_true.mp nb_rec _ (mem_of_lookup h)
  unfold glOf
  rw [if_neg (by simpa using h1)]
  exact h
section
variable {w : World} {s₀ s : Shared} {mg mb : Str → Option Value} {mean : ExcName → Option Value} {h : Heap} {L b : Addr} {o : Obj} {x : Str}
noncomputable def grd (h : Heap) : Heap := keepP h fun a => !(a == lamP)
theorem grd_some (e : h.get? b = some o) (n : b ≠ lamP) : (grd h).get? b = some o := keepP_some.mpr ⟨by simp [n], e⟩
theorem grd_ns {m} (x : h.Ns L m) (n : L ≠ lamP) : (grd h).Ns L m := let ⟨o, es, ep, e, r⟩ := x; ⟨o, es, ep, grd_some e n, r⟩
theorem not_tab (Y : Says h) (e : h.get? b = some o) (n : ∀ vs, o.data ≠ .fields vs) : b ≠ lamP := fun q => by
  rw [q] at e
  exact n #[] (by rw [← got (show h.get? lamP = _ from Y.tab) e])
theorem gl_at (T : Top vw (looseW vw []) mean mg mb h) {v : Value} (e : glOf mg x = some v) : mg x = some v ∨ (mg x = none ∧ mb x = some v) := by
  unfold glOf at e
  by_cases hx : ((recsOf vw).map (·.name)).contains x = true
  · exact .inl ((if_pos hx).symm.trans e)
  · have e := (if_neg hx).symm.trans e
    have := List.all_eq_true.mp nb_ok _ (mem_of_lookup e)
    simp only [nbOk, Bool.and_eq_true, Bool.not_eq_true', List.contains_eq_mem, decide_eq_false_iff_not, beq_eq_false_iff_ne] at this
    exact .inr ⟨T.free x this.1.1.1.1.1.1 this.1.1.1.1.1.2 this.1.1.1.1.2 this.1.1.1.2 (by simpa using this.1.1.2), (T.builtins x this.1.2).trans (eq_of_beq this.2)⟩
theorem ground (T : Top vw (looseW vw []) mean mg mb h) (Y : Says h) : Gd (grd h) (glOf mg) where
  names := ⟨mg, mb, grd_ns T.g (by decide), grd_ns T.b (by decide), fun x v e => gl_at T e⟩
  told := let ⟨mc, n, e⟩ := Y.told; ⟨mc, grd_ns n (by decide), e⟩
  nolimit := let ⟨mc, n, e⟩ := T.nolimit; ⟨mc, grd_ns n (by decide), e⟩
  len := gl_nb
  max := gl_nb
  min := gl_nb
  sum := gl_nb
  abs := gl_nb
  int := gl_nb
  all := gl_nb
  range := gl_nb
  rev := gl_nb
  isi := gl_nb
  tup := gl_nb
theorem table (T : Top vw (looseW vw []) mean mg mb h) (Y : Says h) {f : Fn} (hf : FT x = some f) : ∃ a, glOf mg x = some (.ref a) ∧ FnAt (grd h) f a := by
  obtain ⟨d, hd, ef⟩ := Option.map_eq_some_iff.mp hf
  have hm := List.mem_of_find?_eq_some hd
  have hx : d.name = x := eq_of_beq (show (d.name == x) = true from List.find?_some (p := fun d : DefRec => d.name == x) hd)
  obtain ⟨a, o, pm, code, doc, e1, e2, e3, e4⟩ := T.fn d hm
  have g := rec_is hm
  have na := not_tab Y e2 fun vs q => by rw [q] at e3; cases e3
  refine ⟨a, by unfold glOf; rw [if_pos (by rw [List.contains_iff_mem, ← hx]; exact List.mem_map_of_mem hm), ← hx]; exact e1, ?_⟩
  rw [← ef]
  refine ⟨⟨o, _, d.params.args, grd_some e2 na, e3, ?_, g.args, rfl, rfl, rfl, rfl, rfl, rfl, rfl, g.kind, g.gen, g.co, fun hl => ?_⟩, g.nodup, fun p hp => ?_, fun y hy => g.free _ (mem_of_lookup hy) rfl⟩
  · obtain ⟨c, oc, vs, t, q1, q2, q3, q4⟩ := e4
    refine ⟨c, oc, vs, t, q1, grd_some q2 fun q => ?_, q3, q4⟩
    rw [q] at q2
    have eo := got (show h.get? lamP = _ from Y.tab) q2
    rw [← eo] at q3; cases q3; cases q4
  · have hn : d.name = ("_law_whole" : Str) := eq_of_beq hl
    obtain ⟨mg', a', o', fd', n', m1, m2, m3, m4⟩ := Y.mid
    rw [ns_fun n' T.g, ← hn] at m1
    have ea := ref_eq (got m1 e1)
    rw [ea] at m2
    rw [got m2 e2, e3] at m3
    injection m3 with m3
    refine ⟨?_, ?_⟩
    · rw [← m3] at m4; exact m4
    · show d.name ++ ".<locals>." = lamQual
      rw [hn]; decide +kernel
  · obtain ⟨a', ha', ep⟩ := List.mem_map.mp (show p ∈ d.params.args.map (·.arg) from hp)
    exact ep ▸ g.kinds a' ha'
end
end Mine
end
section
namespace Mine
open PySem PyProof.Rows SeqAt PySem.W
theorem aok_caller : AOk 8 callerA := ⟨rfl, by decide, by decide⟩
theorem ints_rep {C : Cx} {Z : Fz} : ∀ {vs : List Value} {is : List Int}, IntsAre vs is → RepL C Z vs (is.map .int)
  | _, _, .nil => rfl
  | _, _, .cons n t x => .cons' (Rep.int' n t) (ints_rep x)
theorem wells_ints {P : Params} {h : Heap} : ∀ {is : List Int} {vs : List Value}, WellAll P h vs (ofPys (is.map .int)) → IntsAre vs is
  | [], vs, x => by cases x; exact .nil
  | i :: is, vs, x => by
    have x' : WellAll P h vs (WData.int i :: ofPys (is.map .int)) := x
    cases x' with
    | cons y ys => cases y with | int _ t => exact .cons i t (wells_ints ys)
theorem well_list {P : Params} {h : Heap} {a : Addr} {is : List Int} (x : Well P h (.ref a) (ofPy (.list (is.map .int)))) : ∃ vs, h.get? a = some { cls := .type "list", data := .seq vs.toArray } ∧ IntsAre vs is := by
  have x' : Well P h (.ref a) (.list (ofPys (is.map .int))) := x
  cases x' with
  | list e y => exact ⟨_, e, wells_ints y⟩
theorem ft_law : FT "law" = some (fnAt 22) := by kernel_rfl
theorem law_one : (fnAt 22).ps = [("script" : Str)] ∧ (fnAt 22).ns.lookup ("script" : Str) = some .local := by decide +kernel
theorem law_rec : ((recsOf vw).map (·.name)).contains ("law" : Str) = true := by decide +kernel
theorem top (hpl : ∀ (X : Cx) (is : List Int), is.length ≤ 63 → runP (X.lv 7) (fnAt 22) [.list (is.map .int)] (.bool true)) : rw1.Holds := head fun d hd => by
  intro w s₀ s₁ mg mb G Y a o pm cd doc dV kV ho hdt hcd hD hmg hgens args vals as hpre hlay hrd hwl hlo
  wrow_args hpre hlay hrd hwl hlo
  rename_i is _ _ _ _ _ _ _ l _ _ _ _ w1 _ _ _ hc _
  have hlen : is.length ≤ 63 := by
    have : ¬ (63 : Int) < (is.length : Int) := hc
    omega
  obtain ⟨vs, hl, hints⟩ := well_list w1
  have hn : d.name = ("law" : Str) := defOf_name hd
  let X : Cx := ⟨rw1.row.prog, w, grd s₁.heap, glOf mg, 8, ground G.T Y, fun x f hf => table G.T Y hf⟩
  obtain ⟨a', hg, F⟩ := table G.T Y ft_law
  have hga : a' = a := by
    unfold glOf at hg
    rw [if_pos law_rec, ← hn] at hg
    exact ref_eq (got hg hmg)
  rw [hga] at F
  have nl : l ≠ lamP := not_tab Y hl nofun
  have zt : (grd s₁.heap).get? lamP = none := keepP_none (by simp)
  refine call_pure (X := X) (l := 7) (c := ⟨⟨grd s₁.heap, fun _ => none⟩, s₁⟩) (us := [.ref l]) F (hpl X is hlen) aok_caller ⟨Le.rfl' _, keepP_le _ _, fun t x e => no_some rfl e, .inr ⟨_, law_one⟩, zt, ⟨#[], Y.tab, .inl rfl⟩⟩ (.cons' ⟨l, vs, rfl, ⟨0, grd_some hl nl⟩, ints_rep hints⟩ rfl) fun v c' g r t => ?_
  rw [show v = .bool true from r]
  refine ⟨.inl ⟨_, _, [], rfl, fun _ => rfl, ReadsW.bool true, (by wrow_post), fun _ => ⟨List.nodup_nil, fun _ hm => (nomatch hm)⟩⟩, ⟨fun b ob e => ?_, fun b ob e => g.live b ⟨ob, e⟩⟩, g.rst.o, .of_eq (g.rst.g.trans hgens)⟩
  by_cases hb : b = lamP
  · obtain ⟨ps, e', _⟩ := t
    rw [hb] at e
    rw [got e Y.tab, hb]
    exact .inr (.inl ⟨⟨107, midCode, _, Y.code, rfl, rfl, rfl⟩, rfl, #[], ps, rfl, by rw [e', Array.empty_append]⟩)
  · exact .inl (g.le b hb hb ob e)
end Mine
end
section
namespace Mine
open PySem PyProof.Rows SeqAt
section
variable {C : Cx} {F : Fm} {val : Str → Option Value} {ρ ρ' : St} {c c' : Cf} {A : Around} {E : Value → Shared → Prop} {x : Str} {v : V} {b b1 b2 : Bool} {e l r : Expr} {pos p1 p2 px : Pos} {es : List Expr} {vs xs ys : List V} {rest : List Stmt} {P : Fl → St → Prop}
theorem e_neg {i : Int} (h : Ev C ρ e b (.int i)) : Ev C ρ (.UnaryOp .USub e pos) true (.int (-i)) := ⟨rfl, fun p Q E hQ =>
  wpAny_UnaryOp (h.run p _ _ fun u c1 I1 s1 r1 => by
    obtain ⟨t, eu⟩ := (r1.t I1).toInt
    rw [eu]
    have g : Gro lamP c1 (c1.at c1.s.heap (c1.s.toks + 1)) := Gro.le' I1.ok (Le.rfl' _) (Nat.le_succ _)
    exact PyProof.Rows.neg_int (hQ _ _ (I1.gro g) (s1.trans (I1.stp g.toGro0)) (.inl (Rep.int' _ _))))⟩
theorem e_ifx {t a d : Expr} {k : Bool} (ht : Tv C ρ t k) (h : Ev C ρ (if k = true then a else d) true v) : Ev C ρ (.IfExp t a d pos) true v := ⟨rfl, fun p Q E hQ =>
  wpAny_IfExp (ht p _ _ fun u c1 I1 s1 eu => by
    rw [eu]
    have := h.run (p.go I1) Q E fun u c' I' s' r' => hQ u c' I' (s1.trans s') r'
    cases k <;> exact this)⟩
theorem bits2 {k : Int} (h : 0 ≤ k ∧ k < 64) : ¬ Builtin.Int.intTooBig (((Builtin.Int.intBits 2 : Nat) : Int) * k) = true := by
  rw [show Builtin.Int.intBits 2 = 2 by decide]
  unfold Builtin.Int.intTooBig
  have : (128 : Int) ≤ ((bitsLine : Nat) : Int) := by decide
  simp
  omega
theorem e_pow2 {k : Int} (h1 : Ev C ρ l b1 (.int 2)) (h2 : Ev C ρ r b2 (.int k)) (hk : 0 ≤ k ∧ k < 64) : Ev C ρ (.BinOp l .Pow r pos) true (.int (2 ^ k.toNat)) := ⟨rfl, fun p Q E hQ =>
  wpAny_BinOp (h1.run p _ _ fun x c1 I1 s1 r1 => h2.run (p.go I1) _ _ fun y c2 I2 s2 r2 => by
    obtain ⟨t, e1⟩ := ((r1.mono s2.zle).t I2).toInt
    obtain ⟨u, e2⟩ := (r2.t I2).toInt
    rw [e1, e2]
    have g : Gro lamP c2 (c2.at c2.s.heap (c2.s.toks + 1)) := Gro.le' I2.ok (Le.rfl' _) (Nat.le_succ _)
    have fin : ∀ n, n = (2 : Int) ^ k.toNat → Q (.int n c2.s.toks) (c2.at c2.s.heap (c2.s.toks + 1)).s := fun n en => hQ _ _ (I2.gro g) ((s1.trans s2).trans (I2.stp g.toGro0)) (.inl (en ▸ Rep.int' _ _))
    by_cases k0 : k = 0
    · exact AutoIntOps.pow_0 hk.1 (by rw [k0]; rfl) (made_int (fin 1 (by rw [k0]; rfl)))
    · exact AutoIntOps.pow_4 hk.1 (by simpa using k0) (by decide) (by decide) (bits2 hk) (made_int (fin _ rfl)))⟩
theorem new_listQ {vs : List Value} (I : Inv C F val ρ c) (q : RepL C c.Z vs xs) : Inv C F val ρ (c.at (c.s.heap.push { cls := .type "list", data := .seq vs.toArray }) c.s.toks) ∧ Stp F c (c.at (c.s.heap.push { cls := .type "list", data := .seq vs.toArray }) c.s.toks) ∧
    ∃ a, Value.ref c.s.heap.objs.size = .ref a ∧ Own C c.Z (c.s.heap.push { cls := .type "list", data := .seq vs.toArray }) a (.list xs) ∧ Free F val ρ (c.at (c.s.heap.push { cls := .type "list", data := .seq vs.toArray }) c.s.toks) a :=
  have g := Gro.push I.ok { cls := .type "list", data := .seq vs.toArray }
  ⟨I.gro g, I.stp g.toGro0, _, rfl, ⟨vs, ⟨0, Heap.get?_push_size _ rfl⟩, q⟩, I.free (new_none _) (I.ok.zin.none (new_none _))⟩
theorem n_add (h1 : Ev C ρ l b1 (.list xs)) (h2 : Ev C ρ r b2 (.list ys)) (hl : xs.length + ys.length < 2 ^ 20) : New C ρ (.BinOp l .Add r pos) (.list (xs ++ ys)) := ⟨rfl, fun p Q E hQ =>
  wpAny_BinOp (h1.run p _ _ fun x c1 I1 s1 r1 => h2.run (p.go I1) _ _ fun y c2 I2 s2 r2 => by
    obtain ⟨l1, vs, e1, ⟨n1, p1⟩, q1⟩ := ((r1.mono s2.zle).t I2).toList I2.ok.zin
    obtain ⟨l2, us, e2, ⟨n2, p2⟩, q2⟩ := (r2.t I2).toList I2.ok.zin
    rw [e1, e2]
    obtain ⟨I3, s3, a, ea, o, f⟩ := new_listQ I2 (q2.append q1)
    have hs : vs.toArray.size + us.toArray.size ≤ sizeLine := by
      rw [size_len, size_len, q1.len, q2.len]
      exact Nat.le_trans (Nat.le_of_lt hl) (by decide)
    refine PySem.P.add_list (n := n1) (n2 := n2) p1 p2 ?_ hs
    rw [show vs.toArray ++ us.toArray = (vs ++ us).toArray by simp]
    exact hQ _ _ I3 ((s1.trans s2).trans s3) ⟨a, ea, o, f⟩), nofun⟩
theorem joined_one {v : Value} : ∀ (k : Nat) (acc : Array Value), List.foldl (fun x1 x2 => x1 ++ x2) acc (List.replicate k #[v]) = acc ++ (List.replicate k v).toArray
  | 0, acc => by simp
  | k + 1, acc => by
    rw [List.replicate_succ, List.foldl_cons, joined_one k]
    apply Array.toList_inj.mp
    simp [List.replicate_succ]
theorem rep_repl {Z : Fz} {u : Value} (q : Rep C Z u v) : ∀ k, RepL C Z (List.replicate k u) (List.replicate k v)
  | 0 => rfl
  | k + 1 => .cons' q (rep_repl q k)
theorem n_mul1 {k : Int} (h1 : Ev C ρ l b1 (.list [v])) (h2 : Ev C ρ r b2 (.int k)) (hk : 0 ≤ k ∧ k < 2 ^ 20) : New C ρ (.BinOp l .Mult r pos) (.list (List.replicate k.toNat v)) := ⟨rfl, fun p Q E hQ =>
  wpAny_BinOp (h1.run p _ _ fun x c1 I1 s1 r1 => h2.run (p.go I1) _ _ fun y c2 I2 s2 r2 => by
    obtain ⟨l1, vs, e1, ⟨n1, p1⟩, u, us, ev, q1, q2⟩ := ((r1.mono s2.zle).t I2).toList I2.ok.zin
    obtain ⟨t, e2⟩ := (r2.t I2).toInt
    rw [e1, e2]
    have ev1 : vs.toArray = #[u] := by rw [ev, show us = [] from q2]
    rw [ev1] at p1
    obtain ⟨I3, s3, a, ea, o, f⟩ := new_listQ I2 (rep_repl q1 k.toNat)
    have fin := hQ _ _ I3 ((s1.trans s2).trans s3) ⟨a, ea, o, f⟩
    have er : (List.foldl (fun x1 x2 => x1 ++ x2) #[] (List.replicate (if (#[u] : Array Value).isEmpty = true then 0 else k.toNat) #[u])) = (List.replicate k.toNat u).toArray := by
      rw [if_neg (by simp), joined_one]; simp
    exact wpAny_binaryOp_repeat_ref (T := "list") (U := "int") (by decide) ⟨_, p1, rfl⟩ (fun s' => typeIs_int s' k t) noFill_list_mul F.fills_int_mul F.slot_int_rmul repeat_list F.slot_int_index.lookup
      (call_meets F.slot_int_rmul (typeIs_int _ k t) F.entry_int_rmul (F.args_int_rmul_2 _ _) (int___rmul___int_list k t l1 #[u] n1)
        ⟨p1, rfl, ⟨_, p1, rfl⟩, call_meets F.slot_list_mul ⟨_, p1, rfl⟩ F.entry_list_mul (F.args_list_mul_2 _ _)
          (AutoListH.list___mul___list_int_3 l1 #[u] n1 k t (by simp [Builtin.List.listFitsIndex]; omega) (by simp; omega) (by simp [Builtin.List.listTooLong, sizeLine]; omega)) ⟨p1, er ▸ fin⟩⟩)), nofun⟩
theorem e_get {o ke de : Expr} {ds : List (Int × Int)} {k j : Int} (ho : Ev C ρ o true (.dict ds)) (hk : Ev C ρ ke b1 (.int k)) (hd : Ev C ρ de b2 (.int j)) (hl : (p1.endLine == pos.line) = true := by rfl) (hbase : ∀ env, attributeBase o "get" env (eval o env) = eval o env := by intro _; rfl) :
    Ev C ρ (.Call (.Attribute o "get" p1) [ke, de] [] pos) true (.int ((ds.lookup k).getD j)) := ⟨rfl, fun p Q E hQ => by
  have sa : starEach [ke, de] p.F.env = [(false, eval ke p.F.env), (false, eval de p.F.env)] := by rw [star_of hk.g, star_of hd.g]; rfl
  refine wpAny_Call_method (T := "dict") (id := "dict.get") (hbase _) (by rw [sa]; rfl) hl F.plainAttrs_dict F.slot_dict_get F.type_dict_get (ho.run p _ _ fun u c1 I1 s1 r1 => ?_)
  obtain ⟨d, kvs, e1, hdS, hm, rd⟩ := r1.rep
  have hD := dict_at hm (I1.ok.zin d)
  rw [e1]
  refine ⟨hD.typeIs, hD.mapOf.noDict, ?_⟩
  rw [sa]
  refine Calls.callWith_builtin rfl (Calls.evalArgs_plain (Calls.spliced_cons (hk.run (p.go I1) _ _ fun vk c2 I2 s2 r2 => Calls.spliced_cons (hd.run (p.go I2) _ _ fun vd c3 I3 s3 r3 => wpAny_pure ?_))))
  obtain ⟨t2, e2⟩ := ((r2.mono s3.zle).t I3).toInt
  obtain ⟨t3, e3⟩ := (r3.t I3).toInt
  rw [e2, e3]
  have hD3 := dict_at hm fun ob ho => I3.ok.zin d ob ((s2.trans s3).zle.hp d ob ho)
  have g : Gro lamP c3 (c3.at c3.s.heap (c3.s.toks + 1)) := Gro.le' I3.ok (Le.rfl' _) (Nat.le_succ _)
  refine call_meetsIn F.slot_dict_get hD3.typeIs F.entry_dict_get (F.args_dict_get_3 _ _ _) (meets_dict_get_default C.ki d (intKind_is C.prog C.w k t2) hdS _) ⟨_, hD3.mapOf, ?_⟩
  have st := ((s1.trans s2).trans s3).trans (I3.stp g.toGro0)
  rcases valueAt_rep k rd with ⟨h1, h2⟩ | ⟨j', t', h1, h2⟩
  · rw [h2]; exact hQ _ (c3.at c3.s.heap (c3.s.toks + 1)) (I3.gro g) st (.inl ⟨_, by rw [h1]; rfl⟩)
  · rw [h2]; exact hQ _ (c3.at c3.s.heap (c3.s.toks + 1)) (I3.gro g) st (.inl ⟨_, by rw [h1]; rfl⟩)⟩
theorem places_to (k n : Nat) (h : k ≤ n) : Builtin.Slice.sliceAdjust none (some (k : Int)) 1 (n : Int) = (0, (k : Int)) ∧ Builtin.Slice.slicePlaces 0 (k : Int) 1 = k := by
  unfold Builtin.Slice.sliceAdjust Builtin.Slice.slicePlaces
  have h1 : ¬ ((1 : Int) < 0) := by omega
  have h2 : ¬ ((k : Int) < 0) := by omega
  have h3 : (1 : Int) > 0 := by omega
  simp only [h1, h2, h3, if_false, if_true, Int.ediv_one]
  refine ⟨by congr 1; omega, ?_⟩
  split <;> omega
theorem pick_to (xs : Array Value) (k : Nat) : ((List.range k).filterMap fun (i : Nat) => xs[((0 : Int) + (i : Int) * 1).toNat]?).toArray = (xs.toList.take k).toArray := by
  have e : (fun (i : Nat) => xs[((0 : Int) + (i : Int) * 1).toNat]?) = fun i => xs[0 + i]? := by
    funext i
    have : ((0 : Int) + (i : Int) * 1).toNat = 0 + i := by omega
    rw [this]
  rw [e]
  have := pick_run xs 0 k
  rw [List.filterMap_map] at this
  exact congrArg List.toArray this
theorem getItem_tuple_to {prog : Program} {w : World} {s : Shared} {t sl : Addr} {items : Array Value} {k : Nat} {u : Tok} {Q : Value → Shared → Prop} (ht : IsTup s.heap t items) (hs : s.heap.IsSliceOf sl .none (.int k u) .none) (hk : k < items.size)
    (h : Q (.ref s.heap.objs.size) { s with heap := s.heap.push { cls := .type "tuple", data := .seq (items.toList.take k).toArray } })
    (hsz : items.size ≤ sizeLine) : wpAny (model prog w) A (getItem (.ref t) (.ref sl)) Q E s := by
  have htake : sizeOk (.seq (items.toList.take k).toArray) := by
    show (items.toList.take k).toArray.size ≤ sizeLine
    rw [List.size_toArray, List.length_take, Array.length_toList]
    omega
  obtain ⟨os, hos, hcs, hds⟩ := id hs
  have hTs : s.TypeIs (.ref sl) "slice" := ⟨os, hos, hcs⟩
  have happ : ∀ {Q : Int × Int × Nat → Shared → Prop} {A : Around} {E : Value → Shared → Prop}, Q ((0 : Int), 1, k) s → wpAny (model prog w) A (Builtin.Slice.sliceApplied (.ref sl) (pure (items.size : Int))) Q E s := fun {Q A E} h => by
    unfold Builtin.Slice.sliceApplied Builtin.Slice.sliceFields
    refine wpAny_bind (wpAny_bind (wpAny_field hos hds (x := .none) rfl (wpAny_bind (wpAny_field hos hds (x := .int k u) rfl (wpAny_bind (wpAny_field hos hds (x := .none) rfl (wpAny_pure ?_)))))))
    refine wpAny_bind (slicePart_none ?_)
    show wpAny _ _ (if ((1 : Int) == 0) = true then _ else _) _ _ s
    rw [if_neg (by decide)]
    refine wpAny_bind (slicePart_none (wpAny_bind (slicePart_int (wpAny_bind (wpAny_pure ?_)))))
    show wpAny _ _ (match Builtin.Slice.sliceAdjust none (some (k : Int)) 1 (items.size : Int) with | (lo, hi) => pure (lo, (1 : Int), Builtin.Slice.slicePlaces lo hi 1)) _ _ s
    rw [(places_to k items.size (Nat.le_of_lt hk)).1]
    show wpAny _ _ (pure ((0 : Int), (1 : Int), Builtin.Slice.slicePlaces (0 : Int) (k : Int) 1)) _ _ s
    rw [(places_to k items.size (Nat.le_of_lt hk)).2]
    exact wpAny_pure h
  unfold getItem
  try with_reducible refine wpAny_holding ?_
  first | refine wpAny_bind (wpAny_pure ?_) | skip
  refine wpAny_bind (wpAny_sequenceKey ht.typeIs (by decide) ?_)
  refine wpAny_bind (wpAny_callSpecial?_slot (name := Str.ofString "__getitem__") ht.typeIs slot_tuple_getitem
    (wpAny_call_entry slot_tuple_getitem ht.typeIs entry_tuple_getitem ?_ (args_tuple_getitem _ _)))
  show wpAny _ _ (Builtin.Tuple.tupleItemsOf (.ref t) >>= _) _ _ s
  refine wpAny_bind (tupleItemsOf_ ht ?_)
  refine wpAny_bind (wpAny_typeOf hTs ?_)
  rw [if_pos (by decide)]
  refine wpAny_bind (happ ?_)
  have hno : ¬ (((0 : Int) == 0 && (1 : Int) == 1 && k == items.size) = true) := by
    have : (k == items.size) = false := by rw [beq_eq_false_iff_ne]; omega
    rw [this]; simp
  show wpAny _ _ (if ((0 : Int) == 0 && (1 : Int) == 1 && k == items.size) = true then _ else _) _ _ s
  rw [if_neg hno, pick_to items k]
  first
    | exact wpAny_bind (m := Builtin.Tuple.tupleExact _) (wpAny_newObj_type (wpAny_pure ⟨_, rfl, wpAny_pure h⟩) htake)
    | exact wpAny_bind (m := Builtin.Tuple.tupleExact _) (wpAny_newObj_type (wpAny_bind (wpAny_pure (wpAny_pure ⟨_, rfl, wpAny_pure h⟩))) htake)
    | exact wpAny_bind (wpAny_bind (m := Builtin.Tuple.tupleExact _) (wpAny_newObj_type (wpAny_pure (wpAny_pure ⟨_, rfl, wpAny_pure h⟩)) htake))
    | exact wpAny_bind (wpAny_bind (m := Builtin.Tuple.tupleExact _) (wpAny_newObj_type (wpAny_pure ⟨_, rfl, wpAny_pure h⟩) htake))
theorem RepL.take {Z : Fz} : ∀ {xs : List V} {vs : List Value}, RepL C Z vs xs → ∀ k, RepL C Z (vs.take k) (xs.take k)
  | _, _, _, 0 => by rw [List.take_zero, List.take_zero]; rfl
  | [], _, e, k + 1 => by rw [show _ = [] from e]; rfl
  | _ :: _, _, ⟨_, _, e, p, q⟩, k + 1 => by rw [e]; exact .cons' p (RepL.take q k)
theorem e_upto {o : Expr} {k : Int} (h1 : Ev C ρ o b1 (.tup xs)) (h2 : Ev C ρ e b2 (.int k)) (hk : 0 ≤ k ∧ k.toNat < xs.length) (hl : xs.length < 2 ^ 20) : Ev C ρ (.Subscript o (.Slice none (some e) none p1) pos) true (.tup (xs.take k.toNat)) := ⟨rfl, fun p Q E hQ => by
  obtain ⟨n, rfl⟩ := Int.eq_ofNat_of_zero_le hk.1
  have hk2 : n < xs.length := hk.2
  refine Subscript_ (h1.run p _ _ fun x c1 I1 s1 r1 => wpAny_Slice (wpAny_evalPart_none (wpAny_evalPart_some (h2.run (p.go I1) _ _ fun y c2 I2 s2 r2 => wpAny_evalPart_none ?_))))
  obtain ⟨t1, e1⟩ := (r2.t I2).toInt
  rw [e1]
  have g := Gro.push I2.ok { cls := .type "slice", data := .fields #[.none, .int (n : Int) t1, .none] }
  have I4 := I2.gro g
  have s4 := I2.stp g.toGro0
  obtain ⟨l, vs, ex, p4, q4⟩ := ((r1.mono (s2.trans s4).zle).t I4).toTup I4.ok.zin
  rw [ex]
  have it := plain_tuple p4
  obtain ⟨ops, hops⟩ := sub_ops (.Slice none (some e) none p1) (.ref l) (.ref c2.s.heap.objs.size)
  refine tail_any it.typeIs slot_tuple_getitem.lookup (getItem_tuple_to it (Heap.IsSliceOf.new ..) (by rw [size_len, q4.len]; exact hk2) ?_ (small_size q4 hl)) hops
  refine frz_push I4.ok (fun u c' g' r => hQ u c' (I4.gro g') (((s1.trans s2).trans s4).trans (I4.stp g'.toGro0)) (.inl r)) (fun _ z e => ⟨_, vs.take n, rfl, ⟨0, e⟩, (q4.take n).mono z⟩) rfl⟩
theorem src_ev {it : Expr} (he : Ev C ρ it true v) (hv : v = .list xs ∨ v = .tup xs) (hf : ∀ env x, foldedSetIterable it env x = pure x := by intro _ _; rfl) : Src C ρ it false xs := ⟨hf, fun p tg ht Q E hQ => by
  obtain ⟨y, q, rfl⟩ := ht
  exact he.run p _ _ fun u c1 I1 s1 r1 => hv.elim (fun hv => (iter_list p.hA.hand I1.ok (hv ▸ r1.rep)).on I1 s1 hQ) fun hv => (iter_tuple p.hA.hand I1.ok (hv ▸ r1.rep)).on I1 s1 hQ⟩
theorem let_list {prog : Program} {w : World} {s : Shared} {I l : Addr} {i : Nat} {v : Value} {kd : Nat} {Q : Unit → Shared → Prop} (h : s.heap.IsListIter I l i) (hQ : Q () s) : wpAny (model prog w) A (letOwnedTupleGo (.Tuple es kd px) (.ref I) v) Q E s := by
  obtain ⟨o, e, hc, hd⟩ := h
  cases v with
  | ref a =>
    show wpAny _ _ (load I >>= _) _ _ _
    refine wpAny_bind (wpAny_load e ?_)
    rw [hc, hd]
    exact wpAny_pure hQ
  | _ => exact wpAny_pure hQ
theorem src_nameT {o : Str} (h : ρ.fr o = some (.list xs)) (ok : okName o = true := by rfl) : Src C ρ (.Name o pos) true xs := ⟨fun _ _ => rfl, fun p tg ht Q E hQ => by
  obtain ⟨y, kd, q, rfl⟩ := ht
  obtain ⟨iv, u, eu, r⟩ := p.I.fr o _ h
  refine name_any p.I iv eu ok ?_
  obtain ⟨l, vs, e, p1, p2⟩ := r
  rw [e]
  refine list_iter p.hA.hand (plist_mono p1 p.I.ok.zin).isList fun I h' he hI W st hfp => ?_
  have n := hI ▸ new_none p.c.s.heap
  have g : Gro lamP p.c (p.c.at h' p.c.s.toks) := he ▸ Gro.push p.I.ok _
  have I1 := p.I.gro g
  refine hQ I (p.c.at h' p.c.s.toks) I1 (p.I.stp g.toGro0) (p.I.free n (p.I.ok.zin.none n)) ⟨[l], _, one_live (list_live p1), ⟨W.frame, fun i h st => let ⟨o, e, _⟩ := st.1; ⟨o, e⟩, fun i hi c Q E st zle k hz nt hQ => ?_, (IterOk.of_walks (x := o) (q := q) W p2.len (fun i h st => let ⟨o, e, _⟩ := st.1; ⟨o, e⟩) (at_list p2)).done, nofun⟩, st⟩
  refine wpAny_with_toks (Nat.le_refl _) (W.item i c.s _ _ (p2.len ▸ hi) st fun v h' tk' hp st' keep hle => ⟨v, rfl, let_list st'.1 ?_⟩)
  exact hQ v (c.at h' tk') (Gro.one k (fun b hb o e => keep b o (fun m => hb (List.mem_singleton.mp m)) e) (let ⟨o, e, _⟩ := st'.1; ⟨o, e⟩) hz nt hle) ((at_list p2 i hi v hp).mono zle) st'⟩
theorem draw_list {S : Nat → Heap → Prop} {I l : Addr} {vs : List Value} (W : Walks C.prog C.w A I [I, l] [I] vs.length (fun i v => vs[i]? = some v) S) (live : ∀ i h, S i h → ∃ o, h.get? I = some o) : ∀ (n i : Nat) (c : Cf) (Q : List Value → Shared → Prop) (E : Value → Shared → Prop), S i c.s.heap → i + n = vs.length → Ok C c → c.Z.hp.get? I = none → I ≠ lamP →
    (∀ c', Gro I c c' → S (i + n) c'.s.heap → Q (vs.drop i) c'.s) → wpAny C.m A (draw (.ref I) n) Q E c.s
  | 0, i, c, Q, E, st, hn, k, hz, nt, hQ => by
    show wpAny _ _ (pure []) Q E _
    have : vs.drop i = [] := List.drop_eq_nil_of_le (by omega)
    exact wpAny_pure (this ▸ hQ c (Gro.rfl' k) st)
  | n + 1, i, c, Q, E, st, hn, k, hz, nt, hQ => by
    have hi : i < vs.length := by omega
    show wpAny _ _ (pyNext (.ref I) >>= _) Q E _
    refine wpAny_bind (wpAny_with_toks (Nat.le_refl _) (W.item i c.s _ _ hi st fun v h' tk' hp st' keep hle => wpAny_bind (wpAny_holding ?_)))
    have g : Gro I c (c.at h' tk') := Gro.one k (fun b hb o e => keep b o (fun m => hb (List.mem_singleton.mp m)) e) (live _ _ st') hz nt hle
    refine draw_list W live n (i + 1) (c.at h' tk') _ E st' (by omega) (g.toGro0.ok k) hz nt fun c2 g2 st2 => wpAny_pure ?_
    have e : vs.drop i = v :: vs.drop (i + 1) := by
      rw [List.drop_eq_getElem_cons hi]
      congr 1
      exact Option.some.inj ((List.getElem?_eq_getElem hi).symm.trans hp)
    exact e ▸ hQ c2 (g.trans g2) (by rw [show i + (n + 1) = i + 1 + n by omega]; exact st2)
theorem bt_tupL {kd : Nat} (h : BndE C es vs ρ ρ') : BndT C (.Tuple es kd px) (.list vs) ρ ρ' := ⟨h.same, fun p u r Q E hQ => by
  obtain ⟨l, us, e, p1, q⟩ := r
  rw [e, PyProof.Rows.assign_Tuple]
  have pl := (plist_mono p1 p.I.ok.zin).isList
  refine wpAny_bind (wpAny_standAt ?_)
  unfold unpack
  rw [(h.st _).2, (h.st _).1]
  refine wpAny_bind (wpAny_holding ?_)
  unfold unpackItems
  refine wpAny_bind ?_
  unfold notIterableAtAll
  refine wpAny_bind (wpAny_specialOf pl.typeIs F.slot_list_iter.lookup ?_)
  refine wpAny_pure ?_
  simp only [Bool.false_eq_true, if_false]
  refine wpAny_bind (wpAny_holding (list_iter p.hA.hand pl fun I h' he hI W st hfp => ?_))
  have n := hI ▸ new_none p.c.s.heap
  have g : Gro lamP p.c (p.c.at h' p.c.s.toks) := he ▸ Gro.push p.I.ok _
  have I1 := p.I.gro g
  have f1 : Free p.F p.val ρ (p.c.at h' p.c.s.toks) I := p.I.free n (p.I.ok.zin.none n)
  have hn : us.length = es.length := q.len.trans h.len.symm
  rw [← hn]
  refine wpAny_bind (wpAny_holding (draw_list W (fun i h st => let ⟨o, e, _⟩ := st.1; ⟨o, e⟩) us.length 0 (p.c.at h' p.c.s.toks) _ _ st (Nat.zero_add _) I1.ok f1.hid.z f1.hid.t fun c2 g2 st2 => ?_))
  rw [List.drop_zero, if_neg (by simp)]
  have I2 := I1.touchF g2.toGro0 f1
  have f2 : Free p.F p.val ρ c2 I := ⟨⟨g2.toGro0.hid f1.hid.z (let ⟨o, e, _⟩ := st.1; ⟨o, e⟩), f1.hid.k, f1.hid.p, f1.hid.t⟩, f1.ow⟩
  refine wpAny_bind (wpAny_holding ((IterOk.of_walks (C := C) (A := p.A) (xs := vs) (Z := c2.Z) (x := "t") (q := px) W q.len (fun i h st => let ⟨o, e, _⟩ := st.1; ⟨o, e⟩) (at_list (q.mono ((p.I.stp g.toGro0).trans (I1.stp g2.toGro0)).zle))).done c2 _ _ (by rw [← q.len]; exact (Nat.zero_add us.length) ▸ st2) I2.ok f2.hid.z f2.hid.t fun c3 g3 => ?_))
  simp only [Option.isSome_none, Bool.false_eq_true, if_false]
  have I3 := I2.touchF g3 f2
  have s3 := (((p.I.stp g.toGro0).trans (I1.stp g2.toGro0)).trans (I2.stp g3))
  exact wpAny_pure (h.run (p.go I3) us (q.mono s3.zle) Q E fun v' c' I' s' => hQ v' c' I' (s3.trans s'))⟩
theorem s_tupL {kd : Nat} (he : Ev C ρ e true (.list vs)) (hbd : BndE C es vs ρ ρ') (k : Ex C ρ' rest P) (ht : isTupE e = false := by rfl) : Ex C ρ (.Assign [.Tuple es kd px] e pos :: rest) P :=
  ex_cons (fl := .next) (ρ' := ρ') ⟨hbd.same, fun p Q E hQ => wpAny_Assign_stores (he.run p _ _ fun u c1 I1 s1 r1 => (bt_tupL (kd := kd) (px := px) hbd).run (p.go I1) u r1.rep _ _ fun v' c' I' s' => hQ .next v' c' I' (s1.trans s') rfl) (show swapsWith e (some (.Tuple es kd px)) pos.line p.F.env = pure false from swaps_tup) (by cases e <;> first | rfl | (cases ht; done))⟩ k
end
theorem best_le (f : Nat → Int) : ∀ k, argBest (fun i j => decide (f i > f j)) k ≤ k ∧ ∀ i, i ≤ k → f i ≤ f (argBest (fun i j => decide (f i > f j)) k)
  | 0 => ⟨Nat.le_refl _, fun i hi => by rw [Nat.le_zero.mp hi]; exact Int.le_refl _⟩
  | k + 1 => by
    obtain ⟨h1, h2⟩ := best_le f k
    unfold argBest
    by_cases h : f (k + 1) > f (argBest (fun i j => decide (f i > f j)) k)
    · rw [if_pos (decide_eq_true h)]
      exact ⟨Nat.le_refl _, fun i hi => (Nat.lt_or_eq_of_le hi).elim (fun hi => Int.le_trans (h2 i (Nat.le_of_lt_succ hi)) (Int.le_of_lt h)) fun e => e ▸ Int.le_refl _⟩
    · rw [if_neg (by simpa using h)]
      exact ⟨Nat.le_succ_of_le h1, fun i hi => (Nat.lt_or_eq_of_le hi).elim (fun hi => h2 i (Nat.le_of_lt_succ hi)) fun e => e ▸ Int.not_lt.mp h⟩
theorem best_neg (f : Nat → Int) : (fun i j => decide (f i < f j)) = fun i j => decide ((fun i => - f i) i > (fun i => - f i) j) := by
  funext i j
  exact decide_eq_decide.mpr (by show _ ↔ -f i > -f j; omega)
theorem ints_mapV : ∀ l : List Int, intsOf (l.map .int) = some l
  | [] => rfl
  | i :: l => by show (intsOf (l.map .int)).map _ = _; rw [ints_mapV l]; rfl
structure Best (f : Nat → Int) (n k : Nat) : Prop where
  lt : k < n
  le : ∀ i, i < n → f i ≤ f k
theorem best_of (f : Nat → Int) {n : Nat} (hn : 0 < n) : Best f n (argBest (fun i j => decide (f i > f j)) (n - 1)) :=
  have b := best_le f (n - 1)
  ⟨by have := b.1; omega, fun i hi => b.2 i (by omega)⟩
theorem Best.int {is : List Int} {k : Nat} (B : Best (fun i => is.getD i 0) is.length k) {m : Int} (hm : m ∈ is) (h : ∀ x ∈ is, x ≤ m) : is.getD k 0 = m := by
  obtain ⟨i, hi, ei⟩ := List.mem_iff_getElem.mp hm
  have g1 := B.le i hi
  have d1 : is.getD i 0 = m := by rw [List.getD_eq_getElem?_getD, List.getElem?_eq_getElem hi]; exact ei
  have d2 : is.getD k 0 = is[k]'B.lt := by rw [List.getD_eq_getElem?_getD, List.getElem?_eq_getElem B.lt]; rfl
  have g1 : is.getD i 0 ≤ is.getD k 0 := g1
  exact Int.le_antisymm (d2 ▸ h _ (List.getElem_mem B.lt)) (d1 ▸ g1)
theorem blt_maxI {is : List Int} {m : Int} (hm : m ∈ is) (h : ∀ x ∈ is, x ≤ m) : Blt "max" [.list (is.map .int)] (.int m) := blt_one (fun _ _ G => G.max) (.inl ⟨_, rfl⟩) fun C c A u hh k r => by
  obtain ⟨l, us, e, p1, p2⟩ := r.toList k.zin
  have I := ints_of p2 (ints_mapV is)
  have hn : 0 < is.length := List.length_pos_of_mem hm
  rw [e]
  refine gives_le k fun Q E hQ => call_max_walk (list_iter (A := A.in1) hh p1.isList fun Ia h' he hI W st hfp => ⟨Ia, _, _, _, _, _, fun i j => decide (is.getD i 0 > is.getD j 0), rfl, W, st, hfp, by rw [I.len]; exact hn, fun i j vi vj s' Q' E' hi hj hq' => ?_, fun v h'' tk hP hk => ?_⟩)
  · obtain ⟨t1, e1⟩ := I.at i vi hi
    obtain ⟨t2, e2⟩ := I.at j vj hj
    rw [e1, e2]
    exact gt_int hq'
  · obtain ⟨t, ev⟩ := I.at _ v hP
    rw [I.len] at ev
    rw [ev, (best_of _ hn).int hm h]
    exact hQ _ h'' tk (keep_new (hI ▸ new_none _) (he ▸ le_push _ _) hk) (Rep.int' _ _)
theorem Best.min {is : List Int} {k : Nat} (B : Best (fun i => -is.getD i 0) is.length k) {m : Int} (hm : m ∈ is) (h : ∀ x ∈ is, m ≤ x) : is.getD k 0 = m := by
  obtain ⟨i, hi, ei⟩ := List.mem_iff_getElem.mp hm
  have g1 := B.le i hi
  have d1 : is.getD i 0 = m := by rw [List.getD_eq_getElem?_getD, List.getElem?_eq_getElem hi]; exact ei
  have d2 : is.getD k 0 = is[k]'B.lt := by rw [List.getD_eq_getElem?_getD, List.getElem?_eq_getElem B.lt]; rfl
  have g1 : -is.getD i 0 ≤ -is.getD k 0 := g1
  have g2 := h _ (List.getElem_mem B.lt)
  rw [← d2] at g2
  omega
theorem blt_minI {is : List Int} {m : Int} (hm : m ∈ is) (h : ∀ x ∈ is, m ≤ x) : Blt "min" [.list (is.map .int)] (.int m) := blt_one (fun _ _ G => G.min) (.inl ⟨_, rfl⟩) fun C c A u hh k r => by
  obtain ⟨l, us, e, p1, p2⟩ := r.toList k.zin
  have I := ints_of p2 (ints_mapV is)
  have hn : 0 < is.length := List.length_pos_of_mem hm
  rw [e]
  refine gives_le k fun Q E hQ => call_min_walk (list_iter (A := A.in1) hh p1.isList fun Ia h' he hI W st hfp => ⟨Ia, _, _, _, _, _, fun i j => decide (is.getD i 0 < is.getD j 0), rfl, W, st, hfp, by rw [I.len]; exact hn, fun i j vi vj s' Q' E' hi hj hq' => ?_, fun v h'' tk hP hk => ?_⟩)
  · obtain ⟨t1, e1⟩ := I.at i vi hi
    obtain ⟨t2, e2⟩ := I.at j vj hj
    rw [e1, e2]
    exact lt_int hq'
  · obtain ⟨t, ev⟩ := I.at _ v hP
    rw [I.len, best_neg] at ev
    rw [ev, (best_of (fun i => -is.getD i 0) hn).min hm h]
    exact hQ _ h'' tk (keep_new (hI ▸ new_none _) (he ▸ le_push _ _) hk) (Rep.int' _ _)
theorem blt_maxF {zs : List UInt64} {f : Nat → Int} (hz : ∀ i (h : i < zs.length), FV zs[i] (f i)) (hn : 0 < zs.length) : ∃ k, ∃ h : k < zs.length, Blt "max" [.list (zs.map .flt)] (.flt zs[k]) ∧ ∀ i, i < zs.length → f i ≤ f k := by
  have B := best_of f hn
  refine ⟨_, B.lt, blt_one (fun _ _ G => G.max) (.inl ⟨_, rfl⟩) fun C c A u hh k r => ?_, B.le⟩
  obtain ⟨l, us, e, p1, p2⟩ := r.toList k.zin
  have ul : us.length = zs.length := p2.len.trans (List.length_map ..)
  have at_ : ∀ i v, us[i]? = some v → ∃ h : i < zs.length, Rep C c.Z v (.flt zs[i]) := fun i v hv => by
    have hi : i < us.length := lt_of_get hv
    obtain ⟨w, ew, rw_⟩ := p2.get i (show (zs.map V.flt)[i]? = some (.flt (zs[i]'(ul ▸ hi))) by rw [List.getElem?_map, List.getElem?_eq_getElem (ul ▸ hi)]; rfl)
    exact ⟨ul ▸ hi, got ew hv ▸ rw_⟩
  rw [e]
  refine gives_le k fun Q E hQ => call_max_walk (list_iter (A := A.in1) hh p1.isList fun Ia h' he hI W st hfp => ⟨Ia, _, _, _, _, _, fun i j => decide (f i > f j), rfl, W, st, hfp, ul.symm ▸ hn, fun i j vi vj s' Q' E' hi hj hq' => ?_, fun v h'' tk hP hk => ?_⟩)
  · obtain ⟨h1, t1, e1, _⟩ := at_ i vi hi
    obtain ⟨h2, t2, e2, _⟩ := at_ j vj hj
    rw [e1, e2]
    exact AutoFloatOps.gt_0 (by rw [(hz i h1).gt (hz j h2)]; exact hq')
  · obtain ⟨h1, r1⟩ := at_ _ v hP
    refine hQ v h'' tk (keep_new (hI ▸ new_none _) (he ▸ le_push _ _) hk) ?_
    simp only [ul] at r1
    exact r1
end Mine
end
section
namespace Mine
open PySem PyProof.Rows
section
variable {C : Cx} {ρ ρ' : St} {x y : Str} {u v : V} {r : Option V}
theorem ne_of (h : (y == x) = false) : y ≠ x := beq_eq_false_iff_ne.mp h
theorem fr_here : (ρ.set x v).fr x = some v := ups_here
theorem fr_skip (h : (y == x) = false) (k : ρ.fr y = r) : (ρ.set x v).fr y = r := (ups_ne (ne_of h)).trans k
theorem fr_skipO (h : (y == x) = false) (k : ρ.fr y = r) : (ρ.setO x v).fr y = r := (ups_ne (ne_of h)).trans k
theorem fr_hereO : (ρ.setO x v).fr x = none := ups_here
theorem fr_upd (k : ρ.fr y = r) : (ρ.upd x v).fr y = r := k
theorem ow_here : (ρ.setO x v).ow x = some v := ups_here
theorem ow_skipO (h : (y == x) = false) (k : ρ.ow y = r) : (ρ.setO x v).ow y = r := (ups_ne (ne_of h)).trans k
theorem ow_hereU : (ρ.upd x v).ow x = some v := ups_here
theorem ow_skipU (h : (y == x) = false) (k : ρ.ow y = r) : (ρ.upd x v).ow y = r := (ups_ne (ne_of h)).trans k
theorem ow_skip (h : (y == x) = false) (k : ρ.ow y = r) : (ρ.set x v).ow y = r := (ups_ne (ne_of h)).trans k
theorem ow_gone : (ρ.set x v).ow x = none := ups_here
theorem fr_freeze (k : ρ.fr y = r) (h0 : ρ.ow y = none) : ρ.freeze.fr y = r := by
  show (if _ then (ρ.ow y).or (ρ.fr y) else ρ.fr y) = r
  rw [h0, k, Option.none_or, ite_self]
structure Sh (ρ : St) (ns : List (Str × NameKind)) (bo : Option Str) : Prop where
  ns : ρ.ns = ns
  bo : ρ.bo = bo
  hd : ρ.hd = none
theorem bo_of (h : ρ.bo = none) (k : ρ.hd = none) : BoOk ρ x := ⟨by rw [h]; nofun, by rw [k]; nofun⟩
theorem bo_ne (h : ρ.bo = some y) (k : ρ.hd = none) (hn : (y == x) = false) : BoOk ρ x := ⟨by rw [h]; exact fun e => ne_of hn (Option.some.inj e), by rw [k]; nofun⟩
theorem fr_frozen (k : ρ.ow y = some v) (hb : BoOk ρ y := by first | walk_at "bo" | exact ⟨nofun, nofun⟩) : ρ.freeze.fr y = some v := by
  show (if (!(ρ.bo == some y)) = true then (ρ.ow y).or (ρ.fr y) else ρ.fr y) = some v
  rw [if_pos (by simpa using hb.b), k]; rfl
theorem freeze_ow (h : ρ.ow x = some v) (hb : ρ.bo = some x) : ρ.freeze.ow x = some v := by
  show (if (!(ρ.bo == some x)) = true then none else ρ.ow x) = some v
  rw [if_neg (by rw [hb]; simp), h]
section
variable {ns : List (Str × NameKind)} {bo : Option Str}
theorem Sh.set (h : Sh ρ ns bo) : Sh (ρ.set x v) ns bo := ⟨h.ns, h.bo, h.hd⟩
theorem Sh.setO (h : Sh ρ ns bo) : Sh (ρ.setO x v) ns bo := ⟨h.ns, h.bo, h.hd⟩
theorem Sh.upd (h : Sh ρ ns bo) : Sh (ρ.upd x v) ns bo := ⟨h.ns, h.bo, h.hd⟩
theorem Sh.freeze (h : Sh ρ ns bo) : Sh ρ.freeze ns bo := ⟨h.ns, h.bo, h.hd⟩
theorem Sh.mine (h : Sh ρ ns bo) (k : (ns.lookup x == some .local || ns.lookup x == some .cell) = true) : ρ.mine x = true := by unfold St.mine; rw [h.ns]; exact k
theorem Sh.glob (h : Sh ρ ns bo) (k : okName x = true ∧ ns.lookup x = some .globalImplicit) : okName x = true ∧ ρ.ns.lookup x = some .globalImplicit := by rw [h.ns]; exact k
theorem Sh.bon (h : Sh ρ ns none) : BoOk ρ x := bo_of h.bo h.hd
theorem Sh.bos (h : Sh ρ ns (some y)) (k : (y == x) = false) : BoOk ρ x := bo_ne h.bo h.hd k
end
end
section
variable {C : Cx} {f : Fn} {vs : List V} {v c : V} {Q : V → Prop}
theorem run_v (hl : f.ps.length = vs.length) (h : Ex C (.beg f vs) f.body fun fl _ => fl = .ret v) : runP C f vs v := let ⟨fl, ρ', e, q⟩ := h; ⟨hl, fl, ρ', e, .inl q⟩
theorem run_p (hl : f.ps.length = vs.length) (h : Ex C (.beg f vs) f.body fun fl _ => ∃ v, fl = .ret v ∧ Q v) : ∃ v, runP C f vs v ∧ Q v := let ⟨fl, ρ', e, v, q, k⟩ := h; ⟨v, ⟨hl, fl, ρ', e, .inl q⟩, k⟩
theorem run_f (hl : f.ps.length = vs.length) (h : ∀ ρ : St, ρ.fr = (fun x => (f.ps.zip vs).lookup x) → ρ.ow = (fun _ => none) → Sh ρ f.ns none → Ex C ρ f.body fun fl _ => fl = .ret v) : runP C f vs v := run_v hl (h _ rfl rfl ⟨rfl, rfl, rfl⟩)
theorem run_q (hl : f.ps.length = vs.length) (h : ∀ ρ : St, ρ.fr = (fun x => (f.ps.zip vs).lookup x) → ρ.ow = (fun _ => none) → Sh ρ f.ns none → Ex C ρ f.body fun fl _ => ∃ v, fl = .ret v ∧ Q v) : ∃ v, runP C f vs v ∧ Q v := run_p hl (h _ rfl rfl ⟨rfl, rfl, rfl⟩)
theorem run_m {p : Str} {ps : List Str} {Q : V → V → Prop} (hps : f.ps = p :: ps) (hl : ps.length = vs.length)
    (h : ∀ ρ : St, ρ.fr = (fun x => (ps.zip vs).lookup x) → ρ.ow = ups (fun _ => none) p (some c) → Sh ρ f.ns (some p) → Ex C ρ f.body fun fl ρ' => ∃ v c', (fl = .ret v ∨ (fl = .next ∧ v = .none)) ∧ ρ'.ow p = some c' ∧ Q v c') : ∃ v c', runM C f c vs v c' ∧ Q v c' :=
  let ⟨fl, ρ', e, v, c', hf, hc, q⟩ := h (.begM f p ps c vs) rfl rfl ⟨rfl, rfl, rfl⟩
  ⟨v, c', ⟨p, ps, hps, hl, fl, ρ', e, hf, hc⟩, q⟩
end
theorem ft_hls : FT "rgb_to_hls" = some (fnAt 1) := by kernel_rfl
theorem ft_hsv : FT "rgb_to_hsv" = some (fnAt 2) := by kernel_rfl
theorem ft_rgb : FT "hsv_to_rgb" = some (fnAt 3) := by kernel_rfl
theorem ft_pop : FT "heappop" = some (fnAt 5) := by kernel_rfl
theorem ft_replace : FT "heapreplace" = some (fnAt 6) := by kernel_rfl
theorem ft_heapify : FT "heapify" = some (fnAt 7) := by kernel_rfl
theorem ft_down : FT "_siftdown" = some (fnAt 8) := by kernel_rfl
theorem ft_up : FT "_siftup" = some (fnAt 9) := by kernel_rfl
theorem ft_stats : FT "add_func_stats" = some (fnAt 11) := by kernel_rfl
theorem ft_callers : FT "add_callers" = some (fnAt 12) := by kernel_rfl
theorem ft_count : FT "count_calls" = some (fnAt 13) := by kernel_rfl
theorem ft_lights : FT "_law_lights" = some (fnAt 15) := by kernel_rfl
theorem ft_round : FT "_law_round" = some (fnAt 16) := by kernel_rfl
theorem ft_whole : FT "_law_whole" = some (fnAt 17) := by kernel_rfl
theorem ft_mixes : FT "_law_mixes" = some (fnAt 18) := by kernel_rfl
theorem ft_cross : FT "_law_cross" = some (fnAt 19) := by kernel_rfl
theorem ft_spread : FT "_law_spread" = some (fnAt 20) := by kernel_rfl
theorem ft_beyond : FT "_law_beyond" = some (fnAt 21) := by kernel_rfl
end Mine
end
section
namespace Mine
open PySem
local macro_rules | `(tactic| walk_at "lk") => `(tactic| first
  | (with_reducible assumption)
  | (with_reducible exact fr_here)
  | (refine fr_skip (by decide) ?_; walk_at "lk")
  | rfl)
noncomputable def EF (C : Cx) (ρ : St) (e : Expr) (c : Int) : Prop := ∃ x, Ev C ρ e true (.flt x) ∧ FV x c
section
variable {C : Cx} {n m : Nat} {ρ ρ' : St} {x y : Str} {u v : V} {P : Fl → St → Prop} {rest b o : List Stmt} {l r e : Expr} {p : Pos} {a c d : Int} {z : UInt64}
theorem EF.nm (h : ρ.fr x = some (.flt z)) (hz : FV z c) (ok : okName x = true := by rfl) : EF C ρ (.Name x p) c := ⟨z, e_fr h ok, hz⟩
theorem EF.k {kd : Nat} (hz : FV z c) : EF C ρ (.Constant (.float z) kd p) c := ⟨z, ec, hz⟩
theorem EF.add (h1 : EF C ρ l a) (h2 : EF C ρ r c) (hb : (a + c).natAbs < 2 ^ 53) : EF C ρ (.BinOp l .Add r p) (a + c) :=
  let ⟨_, e1, f1⟩ := h1; let ⟨_, e2, f2⟩ := h2; ⟨_, e_bin e1 e2 rfl, f1.add f2 hb⟩
theorem EF.sub (h1 : EF C ρ l a) (h2 : EF C ρ r c) (hb : (a - c).natAbs < 2 ^ 53) : EF C ρ (.BinOp l .Sub r p) (a - c) :=
  let ⟨_, e1, f1⟩ := h1; let ⟨_, e2, f2⟩ := h2; ⟨_, e_bin e1 e2 rfl, f1.sub f2 hb⟩
theorem EF.mul (d : Int) (h1 : EF C ρ l a) (h2 : EF C ρ r c) (h : a * c = d * 2 ^ 20) (hb : d.natAbs < 2 ^ 53) : EF C ρ (.BinOp l .Mult r p) d :=
  let ⟨_, e1, f1⟩ := h1; let ⟨_, e2, f2⟩ := h2; ⟨_, e_bin e1 e2 rfl, f1.mul d f2 h hb⟩
theorem div_flt {x y : UInt64} (hy : FV y c) (hc : c ≠ 0) : binV .Div (.flt x) (.flt y) = some (.flt (Float64.div x y)) := by
  show (if Float64.isZero y = true then none else _) = _
  rw [hy.isZero, if_neg (by simpa using hc)]
theorem EF.div (d : Int) (h1 : EF C ρ l a) (h2 : EF C ρ r c) (hc : c ≠ 0) (h : a * 2 ^ 20 = d * c) (hb : d.natAbs < 2 ^ 53) : EF C ρ (.BinOp l .Div r p) d :=
  let ⟨_, e1, f1⟩ := h1; let ⟨_, e2, f2⟩ := h2; ⟨_, e_bin e1 e2 (div_flt f2 hc), f1.div d f2 hc h hb⟩
theorem EF.mod (h1 : EF C ρ l a) (h2 : EF C ρ r c) (hc : 0 < c) (hb : c < 2 ^ 53) : EF C ρ (.BinOp l .Mod r p) (a % c) := by
  obtain ⟨x, e1, f1⟩ := h1
  obtain ⟨y, e2, f2⟩ := h2
  refine ⟨_, e_bin e1 e2 ?_, f1.mod f2 hc hb⟩
  show (if Float64.isZero y = true then none else _) = _
  rw [f2.isZero, if_neg (by simp; omega)]
theorem maxF_fv {x y : UInt64} (hx : FV x a) (hy : FV y c) : FV (maxF x y) (max a c) := by
  unfold maxF
  rw [FV.gt hy hx]
  by_cases h : a < c
  · rw [if_pos (by simpa using h), Int.max_eq_right (by omega)]; exact hy
  · rw [if_neg (by simpa using h), Int.max_eq_left (by omega)]; exact hx
theorem minF_fv {x y : UInt64} (hx : FV x a) (hy : FV y c) : FV (minF x y) (min a c) := by
  unfold minF
  rw [FV.lt hy hx]
  by_cases h : c < a
  · rw [if_pos (by simpa using h), Int.min_eq_right (by omega)]; exact hy
  · rw [if_neg (by simpa using h), Int.min_eq_left (by omega)]; exact hx
theorem c_eq {x y : UInt64} (hx : FV x a) (hy : FV y c) : cmpV .Eq (.flt x) (.flt y) = some (decide (a = c)) := by
  show (Float64.cmp x y).map (· == .eq) = _
  rw [hx.cmp hy]
  show some (compare a c == .eq) = _
  rw [show (compare a c == Ordering.eq) = decide (a = c) from by
    by_cases h : a = c
    · subst h; simp
    · rw [decide_eq_false h]
      have : compare a c ≠ .eq := fun e => h (Int.compare_eq_eq.mp e)
      simpa using this]
theorem t_eq (h1 : EF C ρ l a) (h2 : EF C ρ r c) : Tv C ρ (.Compare l [.Eq] [r] p) (decide (a = c)) :=
  let ⟨_, e1, f1⟩ := h1; let ⟨_, e2, f2⟩ := h2; t_cmp e1 e2 (c_eq f1 f2)
theorem c_le {x y : UInt64} (hx : FV x a) (hy : FV y c) : cmpV .LtE (.flt x) (.flt y) = some (decide (a ≤ c)) := by
  show (Float64.cmp x y).map (· != .gt) = _
  rw [hx.cmp hy]
  show some (compare a c != .gt) = _
  congr 1
  by_cases h : a ≤ c
  · rw [decide_eq_true h]; simpa using Int.compare_ne_gt.mpr h
  · rw [decide_eq_false h]
    have : compare a c = .gt := Int.compare_eq_gt.mpr (by omega)
    simp [this]
theorem t_le (h1 : EF C ρ l a) (h2 : EF C ρ r c) : Tv C ρ (.Compare l [.LtE] [r] p) (decide (a ≤ c)) :=
  let ⟨_, e1, f1⟩ := h1; let ⟨_, e2, f2⟩ := h2; t_cmp e1 e2 (c_le f1 f2)
structure Qt (a d x : Int) : Prop where
  eq : a * 2 ^ 20 = x * d
  lo : 0 ≤ x
  hi : x ≤ 2 ^ 20
theorem nb {a : Int} (h1 : -9007199254740992 < a) (h2 : a < 9007199254740992) : a.natAbs < 2 ^ 53 := by omega
theorem Qt.nb {a d x : Int} (h : Qt a d x) : x.natAbs < 2 ^ 53 := Mine.nb (by have := h.lo; omega) (by have := h.hi; omega)
theorem EF.quo (h : Qt a c d) (h1 : EF C ρ l a) (h2 : EF C ρ r c) (hc : c ≠ 0) : EF C ρ (.BinOp l .Div r p) d := EF.div d h1 h2 hc h.eq h.nb
theorem s_f {p' : Pos} (he : EF C ρ e c) (k : ∀ z, FV z c → Ex C (ρ.set x (.flt z)) rest P) (hc : isComp e = false := by rfl) (hm : ρ.mine x = true := by first | walk_at "mine" | rfl) (hb : BoOk ρ x := by first | walk_at "bo" | exact ⟨nofun, nofun⟩) :
    Ex C ρ (.Assign [.Name x p] e p' :: rest) P := let ⟨z, e1, f1⟩ := he; s_put e1 (k z f1) hc hm hb
theorem EF.to (h : EF C ρ e a) (e1 : a = c) : EF C ρ e c := e1 ▸ h
theorem EF.divA (h1 : EF C ρ l a) (h2 : EF C ρ r c) (hc : c ≠ 0) : ∃ z, Ev C ρ (.BinOp l .Div r p) true (.flt z) :=
  let ⟨_, e1, _⟩ := h1; let ⟨_, e2, f2⟩ := h2; ⟨_, e_bin e1 e2 (div_flt f2 hc)⟩
theorem s_fA {p' : Pos} (he : ∃ z, Ev C ρ e true (.flt z)) (k : ∀ z, Ex C (ρ.set x (.flt z)) rest P) (hc : isComp e = false := by rfl) (hm : ρ.mine x = true := by first | walk_at "mine" | rfl) (hb : BoOk ρ x := by first | walk_at "bo" | exact ⟨nofun, nofun⟩) :
    Ex C ρ (.Assign [.Name x p] e p' :: rest) P := let ⟨z, e1⟩ := he; s_put e1 (k z) hc hm hb
theorem s_br {Q : Fl → St → Prop} (h : Ex C ρ b fun fl ρ' => fl = .next ∧ ∃ z, FV z c ∧ ρ' = ρ.set y (.flt z)) (k : ∀ z, FV z c → Q .next (ρ.set y (.flt z))) : Ex C ρ b Q :=
  h.mono fun _ _ ⟨h1, z, hz, h2⟩ => by subst h1 h2; exact k z hz
theorem s_brA {Q : Fl → St → Prop} (h : Ex C ρ b fun fl ρ' => fl = .next ∧ ∃ z, ρ' = ρ.set y (.flt z)) (k : ∀ z, Q .next (ρ.set y (.flt z))) : Ex C ρ b Q :=
  h.mono fun _ _ ⟨h1, z, h2⟩ => by subst h1 h2; exact k z
end
theorem fv1 : FV 4607182418800017408 (2 ^ 20) := ⟨by decide +kernel, by decide +kernel⟩
theorem fv2 : FV 4611686018427387904 (2 * 2 ^ 20) := ⟨by decide +kernel, by decide +kernel⟩
theorem fv4 : FV 4616189618054758400 (4 * 2 ^ 20) := ⟨by decide +kernel, by decide +kernel⟩
theorem fv6 : FV 4618441417868443648 (6 * 2 ^ 20) := ⟨by decide +kernel, by decide +kernel⟩
theorem fvh : FV 4602678819172646912 (2 ^ 19) := ⟨by decide +kernel, by decide +kernel⟩
theorem fv0 : FV 0 0 := fv_zero'
end Mine
end
section
namespace Mine
open PySem
local macro_rules | `(tactic| walk_at "lk") => `(tactic| first
  | (with_reducible assumption)
  | (with_reducible exact fr_here)
  | (refine fr_skip (by decide) ?_; walk_at "lk")
  | rfl)
local macro_rules | `(tactic| walk_at "nm") => `(tactic| (refine EF.nm (by walk_at "lk") (by with_reducible assumption)))
structure Tri (R G B M m x y z h1 : Int) : Prop where
  hmax : M = max (max R G) B
  hmin : m = min (min R G) B
  m0 : 0 ≤ m
  lt : m < M
  top : M < 2 ^ 50
  qx : Qt (M - R) (M - m) x
  qy : Qt (M - G) (M - m) y
  qz : Qt (M - B) (M - m) z
  hh : (if R = M then z - y else if G = M then 2 * 2 ^ 20 + x - z else 4 * 2 ^ 20 + y - x) = 6 * h1
structure Bds (R G B M m : Int) : Prop where
  r : m ≤ R ∧ R ≤ M
  g : m ≤ G ∧ G ≤ M
  b : m ≤ B ∧ B ≤ M
theorem Tri.bds {R G B M m x y z h1 : Int} (t : Tri R G B M m x y z h1) : Bds R G B M m := by
  have h1 := t.hmax
  have h2 := t.hmin
  clear t
  exact ⟨by omega, by omega, by omega⟩
theorem off_nb {R M m : Int} (h : m ≤ R ∧ R ≤ M) (h0 : 0 ≤ m) (ht : M < 2 ^ 50) : (M - R).natAbs < 2 ^ 53 := by omega
theorem h_r {R G M x y z h1 : Int} (h : (if R = M then z - y else if G = M then 2 * 2 ^ 20 + x - z else 4 * 2 ^ 20 + y - x) = 6 * h1) (e : R = M) : z - y = 6 * h1 := by rwa [if_pos e] at h
theorem h_g {R G M x y z h1 : Int} (h : (if R = M then z - y else if G = M then 2 * 2 ^ 20 + x - z else 4 * 2 ^ 20 + y - x) = 6 * h1) (e : R ≠ M) (e2 : G = M) : 2 * 2 ^ 20 + x - z = 6 * h1 := by rwa [if_neg e, if_pos e2] at h
theorem h_b {R G M x y z h1 : Int} (h : (if R = M then z - y else if G = M then 2 * 2 ^ 20 + x - z else 4 * 2 ^ 20 + y - x) = 6 * h1) (e : R ≠ M) (e2 : G ≠ M) : 4 * 2 ^ 20 + y - x = 6 * h1 := by rwa [if_neg e, if_neg e2] at h
theorem s3_nb {a x y : Int} (ha : 0 ≤ a ∧ a ≤ 4 * 2 ^ 20) (hx : 0 ≤ x) (hx' : x ≤ 2 ^ 20) (hy : 0 ≤ y) (hy' : y ≤ 2 ^ 20) : (a + x).natAbs < 2 ^ 53 ∧ (a + x - y).natAbs < 2 ^ 53 ∧ (x - y).natAbs < 2 ^ 53 := by omega
theorem h1_nb {R G M x y z h1 : Int} (h : (if R = M then z - y else if G = M then 2 * 2 ^ 20 + x - z else 4 * 2 ^ 20 + y - x) = 6 * h1) (bx : 0 ≤ x ∧ x ≤ 2 ^ 20) (bY : 0 ≤ y ∧ y ≤ 2 ^ 20) (bz : 0 ≤ z ∧ z ≤ 2 ^ 20) : h1.natAbs < 2 ^ 53 := by split at h <;> (try split at h) <;> omega
theorem h6 {h1 : Int} : 6 * h1 * 2 ^ 20 = h1 * (6 * 2 ^ 20) := by omega
section
variable {C : Cx} {n : Nat} {ρ : St} {P : Fl → St → Prop} {rest : List Stmt} {R G B M m x y z h1 : Int} {r g b vM vx vy vz : UInt64}
theorem hue_branch (T : Tri R G B M m x y z h1) (i : Nat) (sh : Sh ρ (fnAt i).ns none) (hm : (fnAt i).ns.lookup ("h" : Str) = some .local) (hr : FV r R) (hg : FV g G) (fM : FV vM M) (fx : FV vx x) (fy : FV vy y) (fz : FV vz z)
    (lr : ρ.fr ("r" : Str) = some (.flt r)) (lg : ρ.fr ("g" : Str) = some (.flt g)) (lM : ρ.fr ("maxc" : Str) = some (.flt vM)) (lx : ρ.fr ("rc" : Str) = some (.flt vx)) (ly : ρ.fr ("gc" : Str) = some (.flt vy)) (lz : ρ.fr ("bc" : Str) = some (.flt vz))
    {p0 p1 p2 p3 p4 p5 p6 p7 p8 p9 p10 p11 p12 p13 p14 p15 p16 p17 p18 p19 p20 p21 p22 p23 p24 q1 q2 : Pos} {k1 k2 : Nat} (k : ∀ w, FV w (6 * h1) → Ex C (ρ.set "h" (.flt w)) rest P) :
    Ex C ρ (.If (.Compare (.Name "r" p0) [.Eq] [.Name "maxc" p1] p2) [.Assign [.Name "h" p3] (.BinOp (.Name "bc" p4) .Sub (.Name "gc" p5) p6) p7]
      [.If (.Compare (.Name "g" p8) [.Eq] [.Name "maxc" p9] p10) [.Assign [.Name "h" p11] (.BinOp (.BinOp (.Constant (.float 4611686018427387904) k1 p12) .Add (.Name "rc" p13) p14) .Sub (.Name "bc" p15) p16) p17]
        [.Assign [.Name "h" p18] (.BinOp (.BinOp (.Constant (.float 4616189618054758400) k2 p19) .Add (.Name "gc" p20) p21)   .Sub (.Name "rc" p22) p23) p24] q1] q2 :: rest) P := by
  have hmine : ρ.mine "h" = true := sh.mine (by rw [hm]; rfl)
  refine s_if (t_eq (a := R) (c := M) (EF.nm lr hr) (EF.nm lM fM)) ?_
  refine s_br (y := "h") (c := 6 * h1) ?a fun w hw => k w hw
  by_cases e1 : R = M
  · rw [if_pos (by simpa using e1), ← h_r T.hh e1]
    exact s_f (EF.sub (EF.nm lz fz) (EF.nm ly fy) (s3_nb (a := 0) (by decide) T.qz.lo T.qz.hi T.qy.lo T.qy.hi).2.2) (fun w hw => ex_nil ⟨rfl, w, hw, rfl⟩) rfl hmine sh.bon
  · rw [if_neg (by simpa using e1)]
    refine s_if (t_eq (a := G) (c := M) (EF.nm lg hg) (EF.nm lM fM)) ?_
    by_cases e2 : G = M
    · rw [if_pos (by simpa using e2), ← h_g T.hh e1 e2]
      have hb := s3_nb (a := 2 * 2 ^ 20) (by decide) T.qx.lo T.qx.hi T.qz.lo T.qz.hi
      exact s_f (EF.sub (EF.add (EF.k fv2) (EF.nm lx fx) hb.1) (EF.nm lz fz) hb.2.1) (fun w hw => ex_nil (ex_nil ⟨rfl, w, hw, rfl⟩)) rfl hmine sh.bon
    · rw [if_neg (by simpa using e2), ← h_b T.hh e1 e2]
      have hb := s3_nb (a := 4 * 2 ^ 20) (by decide) T.qy.lo T.qy.hi T.qx.lo T.qx.hi
      exact s_f (EF.sub (EF.add (EF.k fv4) (EF.nm ly fy) hb.1) (EF.nm lx fx) hb.2.1) (fun w hw => ex_nil (ex_nil ⟨rfl, w, hw, rfl⟩)) rfl hmine sh.bon
end
end Mine
end
section
namespace Mine
open PySem
local macro_rules | `(tactic| walk_at "lk") => `(tactic| first
  | (with_reducible assumption)
  | (with_reducible exact fr_here)
  | (refine fr_skip (by decide) ?_; walk_at "lk")
  | rfl)
local macro_rules | `(tactic| walk_at "nm") => `(tactic| (refine EF.nm (by walk_at "lk") (by with_reducible assumption)))
local macro_rules | `(tactic| walk_at "n") => `(tactic| (refine e_fr (by walk_at "lk")))
set_option maxHeartbeats 4000000 in
theorem hls_ok {C : Cx} {r g b : UInt64} {R G B M m x y z h1 : Int} (T : Tri R G B M m x y z h1) (hM1 : M ≤ 2 ^ 20) {q : Int} (hq : M + m = 2 * q) (hr : FV r R) (hg : FV g G) (hb : FV b B) :
    ∃ (h : UInt64) (l s : UInt64), runP C (fnAt 1) [.flt r, .flt g, .flt b] (.tup [.flt h, .flt l, .flt s]) ∧ FV h (h1 % 2 ^ 20) := by
  suffices h : ∃ v, runP C (fnAt 1) [.flt r, .flt g, .flt b] v ∧ ∃ h l s : UInt64, v = .tup [.flt h, .flt l, .flt s] ∧ FV h (h1 % 2 ^ 20) by
    obtain ⟨v, e, h, l, s, rfl, k⟩ := h
    exact ⟨h, l, s, e, k⟩
  have D := T.bds
  have h0 := T.m0
  have hlt := T.lt
  have ht := T.top
  refine run_p (by rfl) ?_
  refine s_put (e_blt (vs := [.flt r, .flt g, .flt b]) (l_cons (e_fr (by rfl)) (l_cons (e_fr (by rfl)) (l_cons (e_fr (by rfl)) l_nil))) blt_max) ?_
  have fM : FV (maxF (maxF r g) b) M := T.hmax ▸ maxF_fv (maxF_fv hr hg) hb
  have fm : FV (minF (minF r g) b) m := T.hmin ▸ minF_fv (minF_fv hr hg) hb
  refine s_put (e_blt (vs := [.flt r, .flt g, .flt b]) (l_cons (by walk_at "n") (l_cons (by walk_at "n") (l_cons (by walk_at "n") l_nil))) blt_min) ?_
  generalize maxF (maxF r g) b = vM at *
  generalize minF (minF r g) b = vm at *
  refine s_f (EF.add (a := M) (c := m) (by walk_at "nm") (by walk_at "nm") (by omega)) fun vS fS => ?_
  refine s_f (EF.sub (a := M) (c := m) (by walk_at "nm") (by walk_at "nm") (off_nb (m := m) ⟨Int.le_refl _, Int.le_of_lt hlt⟩ h0 ht)) fun vr fr => ?_
  have b1 : (M + m) * 2 ^ 20 = q * (2 * 2 ^ 20) := by rw [hq]; omega
  have b2 : q.natAbs < 2 ^ 53 := by omega
  have b3 : M + m ≠ 0 := by omega
  have b4 : 2 * 2 ^ 20 - M - m ≠ 0 := by omega
  have b5 : (2 * 2 ^ 20 - M).natAbs < 2 ^ 53 := by omega
  have b6 : (2 * 2 ^ 20 - M - m).natAbs < 2 ^ 53 := by omega
  have hne : M - m ≠ 0 := by omega
  refine s_f (EF.div q (a := M + m) (by walk_at "nm") (EF.k fv2) (by decide) b1 b2) fun vl fl => ?_
  refine s_if (t_eq (a := m) (c := M) (by walk_at "nm") (by walk_at "nm")) ?_
  rw [decide_eq_false (Int.ne_of_lt hlt)]
  refine ex_nil ?_
  refine s_if (t_le (a := q) (c := 2 ^ 19) (by walk_at "nm") (EF.k fvh)) ?_
  refine s_brA (y := "s") ?a fun vs => ?_
  case a =>
    split
    · exact s_fA (EF.divA (by walk_at "nm") (by walk_at "nm") b3) (fun _ => ex_nil ⟨rfl, _, rfl⟩)
    · exact s_fA (EF.divA (by walk_at "nm") (EF.sub (EF.sub (EF.k fv2) (by walk_at "nm") b5) (by walk_at "nm") b6) b4) (fun _ => ex_nil ⟨rfl, _, rfl⟩)
  refine s_f (EF.quo T.qx (EF.sub (by walk_at "nm") (by walk_at "nm") (off_nb D.r h0 ht)) (by walk_at "nm") hne) fun vx fx => ?_
  refine s_f (EF.quo T.qy (EF.sub (by walk_at "nm") (by walk_at "nm") (off_nb D.g h0 ht)) (by walk_at "nm") hne) fun vy fy => ?_
  refine s_f (EF.quo T.qz (EF.sub (by walk_at "nm") (by walk_at "nm") (off_nb D.b h0 ht)) (by walk_at "nm") hne) fun vz fz => ?_
  refine hue_branch T 1 ⟨rfl, rfl, rfl⟩ (by rfl) hr hg fM fx fy fz (by walk_at "lk") (by walk_at "lk") (by walk_at "lk") (by walk_at "lk") (by walk_at "lk") (by walk_at "lk") fun vh fh => ?_
  refine s_f (EF.mod (EF.div h1 (by walk_at "nm") (EF.k fv6) (by decide) h6 (h1_nb T.hh ⟨T.qx.lo, T.qx.hi⟩ ⟨T.qy.lo, T.qy.hi⟩ ⟨T.qz.lo, T.qz.hi⟩)) (EF.k fv1) (by decide) (by decide)) fun vi fi => ?_
  exact s_ret (e_tup (l_cons (by walk_at "n") (l_cons (by walk_at "n") (l_cons (by walk_at "n") l_nil)))) ⟨_, rfl, vi, vl, vs, rfl, fi⟩
end Mine
end
section
namespace Mine
open PySem
local macro_rules | `(tactic| walk_at "lk") => `(tactic| first
  | (with_reducible assumption)
  | (with_reducible exact fr_here)
  | (refine fr_skip (by decide) ?_; walk_at "lk")
  | rfl)
local macro_rules | `(tactic| walk_at "nm") => `(tactic| (refine EF.nm (by walk_at "lk") (by with_reducible assumption)))
local macro_rules | `(tactic| walk_at "n") => `(tactic| (refine e_fr (by walk_at "lk")))
theorem mulk {a b k1 k2 k3 k4 : Int} (h : k1 * k2 = k3 * k4) : a * k1 * (b * k2) = a * b * k3 * k4 := by
  rw [Int.mul_assoc a k1, Int.mul_left_comm k1 b k2, ← Int.mul_assoc a b, h, Int.mul_assoc (a * b)]
theorem bd2 {a b A B : Int} (ha : 0 ≤ a ∧ a ≤ A) (hb : 0 ≤ b ∧ b ≤ B) : 0 ≤ a * b ∧ a * b ≤ A * B :=
  ⟨Int.mul_nonneg ha.1 hb.1, Int.mul_le_mul ha.2 hb.2 hb.1 (Int.le_trans ha.1 ha.2)⟩
theorem int_fv {x : UInt64} {a : Int} (hx : FV x a) : Blt "int" [.flt x] (.int (a.tdiv (2 ^ 20))) := by
  obtain ⟨s, m, e, d⟩ := fin_of hx.1
  have h := hx.trunc
  unfold Flt.toInt at h
  rw [d] at h
  have h' : Float64.truncOf s m e = a.tdiv (2 ^ 20) := h
  rw [← h']
  exact blt_int d
section
variable {C : Cx} {n : Nat} {ρ : St} {l r : Expr} {p : Pos} {a i : Int} {bb : Bool}
theorem EF.subI (h1 : EF C ρ l a) (h2 : Ev C ρ r bb (.int i)) (hi : i.natAbs < 2 ^ 33) (hb : (a - i * 2 ^ 20).natAbs < 2 ^ 53) : EF C ρ (.BinOp l .Sub r p) (a - i * 2 ^ 20) :=
  let ⟨_, e1, f1⟩ := h1; ⟨_, e_bin e1 h2 (if_pos hi), f1.sub (fv_ofInt (by omega)) hb⟩
theorem s_int {x : Str} {e : Expr} {p1 p2 p' : Pos} {rest : List Stmt} {P : Fl → St → Prop} (he : EF C ρ e a) (k : Ex C (ρ.set x (.int (a.tdiv (2 ^ 20)))) rest P)
    (hf : okName "int" = true ∧ ρ.ns.lookup ("int" : Str) = some .globalImplicit := by first | walk_at "gl" | exact ⟨rfl, rfl⟩) (hm : ρ.mine x = true := by first | walk_at "mine" | rfl) (hb : BoOk ρ x := by first | walk_at "bo" | exact ⟨nofun, nofun⟩) : Ex C ρ (.Assign [.Name x p] (.Call (.Name "int" p1) [e] [] p2) p' :: rest) P :=
  let ⟨_, e1, f1⟩ := he
  s_put (e_blt1 e1 (int_fv f1) hf) k rfl hm hb
theorem t_eqI {j : Int} {b2 : Bool} (h1 : Ev C ρ l bb (.int i)) (h2 : Ev C ρ r b2 (.int j)) : Tv C ρ (.Compare l [.Eq] [r] p) (decide (i = j)) := t_cmp h1 h2 rfl
end
noncomputable def Uf (i : Int) (m : Int) : Int × Int × Int :=
  if i = 0 then (32, m, 0) else if i = 1 then (32 - m, 32, 0) else if i = 2 then (0, 32, m) else if i = 3 then (0, 32 - m, 32) else if i = 4 then (m, 0, 32) else (32, 0, 32 - m)
noncomputable def part (v s u : Int) : Int := 512 * (v * (256 - 32 * s) + v * s * u)
theorem part_p {v s : Int} : v * ((8 - s) * 2 ^ 14) = part v s 0 := by unfold part; grind
theorem part_v {v s : Int} : v * 2 ^ 17 = part v s 32 := by unfold part; grind
theorem part_q {v s m u : Int} (h : m = 32 - u) : v * (256 - s * m) * 2 ^ 9 = part v s u := by subst h; unfold part; grind
set_option maxHeartbeats 4000000 in
theorem rgb_ok {C : Cx} {h s v : UInt64} {i m s8 v8 : Int} (hi : 0 ≤ i ∧ i < 6) (hm : 0 ≤ m ∧ m < 32) (hs : 1 ≤ s8 ∧ s8 ≤ 8) (hv : 1 ≤ v8 ∧ v8 ≤ 8) {c : Int} (hc : c * 6 = (32 * i + m) * 2 ^ 15) (fh : FV h c) (fs : FV s (s8 * 2 ^ 17)) (fv : FV v (v8 * 2 ^ 17)) :
    ∃ r g b : UInt64, runP C (fnAt 3) [.flt h, .flt s, .flt v] (.tup [.flt r, .flt g, .flt b]) ∧ FV r (part v8 s8 (Uf i m).1) ∧ FV g (part v8 s8 (Uf i m).2.1) ∧ FV b (part v8 s8 (Uf i m).2.2) := by
  suffices h : ∃ w, runP C (fnAt 3) [.flt h, .flt s, .flt v] w ∧ ∃ r g b : UInt64, w = .tup [.flt r, .flt g, .flt b] ∧ FV r (part v8 s8 (Uf i m).1) ∧ FV g (part v8 s8 (Uf i m).2.1) ∧ FV b (part v8 s8 (Uf i m).2.2) by
    obtain ⟨w, e, r, g, b, rfl, k⟩ := h
    exact ⟨r, g, b, e, k⟩
  have q1 : c * (6 * 2 ^ 20) = (32 * i + m) * 2 ^ 15 * 2 ^ 20 := by rw [← Int.mul_assoc, hc]
  have q2 : ((32 * i + m) * 2 ^ 15).natAbs < 2 ^ 53 := by omega
  have q3 : ((32 * i + m) * 2 ^ 15).tdiv (2 ^ 20) = i := by rw [Int.tdiv_eq_ediv_of_nonneg (by omega)]; omega
  have q4 : i.natAbs < 2 ^ 33 := by omega
  have q5 : (32 * i + m) * 2 ^ 15 - i * 2 ^ 20 = m * 2 ^ 15 := by omega
  have q6 : (m * 2 ^ 15).natAbs < 2 ^ 53 := by omega
  have b1 := bd2 (a := s8) (A := 8) (b := m) (B := 32) (by omega) (by omega)
  have b2 := bd2 (a := s8) (A := 8) (b := 32 - m) (B := 32) (by omega) (by omega)
  have b3 := bd2 (a := v8) (A := 8) (b := 256 - s8 * m) (B := 256) (by omega) (by omega)
  have b4 := bd2 (a := v8) (A := 8) (b := 256 - s8 * (32 - m)) (B := 256) (by omega) (by omega)
  have b5 := bd2 (a := v8) (A := 8) (b := 8 - s8) (B := 8) (by omega) (by omega)
  have e1 : (2 ^ 20 - s8 * 2 ^ 17 : Int) = (8 - s8) * 2 ^ 17 := by omega
  have e2 : (2 ^ 20 - s8 * m * 2 ^ 12 : Int) = (256 - s8 * m) * 2 ^ 12 := by omega
  have e3 : (2 ^ 20 - m * 2 ^ 15 : Int) = (32 - m) * 2 ^ 15 := by omega
  have e4 : (2 ^ 20 - s8 * (32 - m) * 2 ^ 12 : Int) = (256 - s8 * (32 - m)) * 2 ^ 12 := by omega
  have n1 : ((8 - s8) * 2 ^ 17).natAbs < 2 ^ 53 := by omega
  have n2 : (s8 * m * 2 ^ 12).natAbs < 2 ^ 53 := by omega
  have n3 : ((256 - s8 * m) * 2 ^ 12).natAbs < 2 ^ 53 := by omega
  have n4 : ((32 - m) * 2 ^ 15).natAbs < 2 ^ 53 := by omega
  have n5 : (s8 * (32 - m) * 2 ^ 12).natAbs < 2 ^ 53 := by omega
  have n6 : ((256 - s8 * (32 - m)) * 2 ^ 12).natAbs < 2 ^ 53 := by omega
  have n7 : (v8 * ((8 - s8) * 2 ^ 14)).natAbs < 2 ^ 53 := by rw [← Int.mul_assoc]; omega
  have n8 : (v8 * (256 - s8 * m) * 2 ^ 9).natAbs < 2 ^ 53 := by omega
  have n9 : (v8 * (256 - s8 * (32 - m)) * 2 ^ 9).natAbs < 2 ^ 53 := by omega
  have m1 : v8 * 2 ^ 17 * ((8 - s8) * 2 ^ 17) = v8 * ((8 - s8) * 2 ^ 14) * 2 ^ 20 := by rw [← Int.mul_assoc v8 (8 - s8)]; exact mulk (by decide)
  have hf6 : Int.fmod i 6 = i := by rw [Int.fmod_eq_emod_of_nonneg _ (by decide)]; omega
  clear b1 b2 b3 b4 b5
  refine run_p (by rfl) ?_
  refine s_if (t_eq (a := s8 * 2 ^ 17) (c := 0) (EF.nm (by rfl) fs) (EF.k fv0)) ?_
  rw [decide_eq_false (by omega)]
  refine ex_nil ?_
  refine s_int (EF.mul _ (by walk_at "nm") (EF.k fv6) q1 q2) ?_
  rw [q3]
  refine s_f (EF.subI (EF.mul _ (by walk_at "nm") (EF.k fv6) q1 q2) (by walk_at "n") q4 (by rw [q5]; exact q6)) fun zf ff => ?_
  rw [q5] at ff
  -- p
  refine s_f (c := part v8 s8 0) (part_p ▸ EF.mul _ (by walk_at "nm") (EF.sub (a := 2 ^ 20) (c := s8 * 2 ^ 17) (EF.k fv1) (by walk_at "nm") (by rw [e1]; exact n1)) (by rw [e1]; exact m1) n7) fun zp fp => ?_
  refine s_f (c := part v8 s8 (32 - m)) ((EF.mul _ (by walk_at "nm") (EF.sub (a := 2 ^ 20) (EF.k fv1) (EF.mul _ (by walk_at "nm") (by walk_at "nm") (mulk (by decide) : s8 * 2 ^ 17 * (m * 2 ^ 15) = s8 * m * 2 ^ 12 * 2 ^ 20) n2) (by rw [e2]; exact n3)) (by rw [e2]; exact mulk (by decide)) n8).to (part_q (by omega))) fun zq fq => ?_
  refine s_f (c := part v8 s8 m) ((EF.mul _ (by walk_at "nm") (EF.sub (a := 2 ^ 20) (EF.k fv1) (EF.mul _ (by walk_at "nm") ((EF.sub (a := 2 ^ 20) (EF.k fv1) (by walk_at "nm") (by rw [e3]; exact n4)).to e3) (mulk (by decide) : s8 * 2 ^ 17 * ((32 - m) * 2 ^ 15) = s8 * (32 - m) * 2 ^ 12 * 2 ^ 20) n5) (by rw [e4]; exact n6)) (by rw [e4]; exact mulk (by decide)) n9).to (part_q rfl)) fun zt ft => ?_
  refine s_put (e_bin (v := .int (Int.fmod i 6)) (by walk_at "n") ec rfl) ?_
  rw [hf6]
  have fV : FV v (part v8 s8 32) := part_v ▸ fv
  clear q1 q2 q3 q4 q5 q6 e1 e2 e3 e4 n1 n2 n3 n4 n5 n6 n7 n8 n9 m1 hf6 hc
  refine s_if (t_eqI (j := 0) (by walk_at "n") ec) ?_
  by_cases h0 : i = 0
  · subst h0
    exact s_ret (e_tup (l_cons (by walk_at "n") (l_cons (by walk_at "n") (l_cons (by walk_at "n") l_nil)))) ⟨_, rfl, v, zt, zp, rfl, fV, ft, fp⟩
  rw [decide_eq_false h0]
  refine ex_nil ?_
  refine s_if (t_eqI (j := 1) (by walk_at "n") ec) ?_
  by_cases h1 : i = 1
  · subst h1
    exact s_ret (e_tup (l_cons (by walk_at "n") (l_cons (by walk_at "n") (l_cons (by walk_at "n") l_nil)))) ⟨_, rfl, zq, v, zp, rfl, fq, fV, fp⟩
  rw [decide_eq_false h1]
  refine ex_nil ?_
  refine s_if (t_eqI (j := 2) (by walk_at "n") ec) ?_
  by_cases h2 : i = 2
  · subst h2
    exact s_ret (e_tup (l_cons (by walk_at "n") (l_cons (by walk_at "n") (l_cons (by walk_at "n") l_nil)))) ⟨_, rfl, zp, v, zt, rfl, fp, fV, ft⟩
  rw [decide_eq_false h2]
  refine ex_nil ?_
  refine s_if (t_eqI (j := 3) (by walk_at "n") ec) ?_
  by_cases h3 : i = 3
  · subst h3
    exact s_ret (e_tup (l_cons (by walk_at "n") (l_cons (by walk_at "n") (l_cons (by walk_at "n") l_nil)))) ⟨_, rfl, zp, zq, v, rfl, fp, fq, fV⟩
  rw [decide_eq_false h3]
  refine ex_nil ?_
  refine s_if (t_eqI (j := 4) (by walk_at "n") ec) ?_
  by_cases h4 : i = 4
  · subst h4
    exact s_ret (e_tup (l_cons (by walk_at "n") (l_cons (by walk_at "n") (l_cons (by walk_at "n") l_nil)))) ⟨_, rfl, zt, zp, v, rfl, ft, fp, fV⟩
  rw [decide_eq_false h4]
  refine ex_nil ?_
  refine s_if (t_eqI (j := 5) (by walk_at "n") ec) ?_
  by_cases h5 : i = 5
  · subst h5
    exact s_ret (e_tup (l_cons (by walk_at "n") (l_cons (by walk_at "n") (l_cons (by walk_at "n") l_nil)))) ⟨_, rfl, v, zp, zq, rfl, fV, fp, fq⟩
  rw [decide_eq_false h5]
  refine ex_nil ?_
  omega
end Mine
end
section
open Mine PySem
local macro_rules | `(tactic| walk_at "base") => `(tactic| fail "base")
local macro_rules | `(tactic| walk_at "lk") => `(tactic| first
  | (with_reducible assumption)
  | (with_reducible exact fr_here)
  | (with_reducible exact fr_hereO)
  | (with_reducible refine fr_skip (by decide) ?_; walk_at "lk")
  | (with_reducible refine fr_skipO (by decide) ?_; walk_at "lk")
  | (with_reducible refine fr_upd ?_; walk_at "lk")
  | (with_reducible refine fr_frozen (by walk_at "ow"))
  | (with_reducible refine fr_freeze (by walk_at "lk") (by walk_at "ow"))
  | walk_at "base")
local macro_rules | `(tactic| walk_at "ow") => `(tactic| first
  | (with_reducible assumption)
  | (with_reducible exact ow_here)
  | (with_reducible exact ow_hereU)
  | (with_reducible exact ow_gone)
  | (with_reducible refine ow_skip (by decide) ?_; walk_at "ow")
  | (with_reducible refine ow_skipU (by decide) ?_; walk_at "ow")
  | (with_reducible refine ow_skipO (by decide) ?_; walk_at "ow")
  | walk_at "base")
local macro_rules | `(tactic| walk_at "n") => `(tactic| (refine e_fr (by walk_at "lk")))
local macro_rules | `(tactic| walk_at "o") => `(tactic| (refine e_ow (by walk_at "ow")))
local macro_rules | `(tactic| walk_at "sh") => `(tactic| first | (with_reducible assumption) | (with_reducible exact Sh.set (by walk_at "sh")) | (with_reducible exact Sh.upd (by walk_at "sh")) | (with_reducible exact Sh.setO (by walk_at "sh")) | (with_reducible exact Sh.freeze (by walk_at "sh")))
local macro_rules | `(tactic| walk_at "mine") => `(tactic| (refine' Sh.mine ?h ?k; (case h => walk_at "sh"); (case k => rfl)))
local macro_rules | `(tactic| walk_at "bo") => `(tactic| (refine' Sh.bon ?h; (case h => walk_at "sh")))
local macro_rules | `(tactic| walk_at "gl") => `(tactic| (refine' Sh.glob ?h ?k; (case h => walk_at "sh"); (case k => exact ⟨rfl, rfl⟩)))
local macro_rules | `(tactic| walk_at "nm") => `(tactic| (refine EF.nm (by walk_at "lk") (by with_reducible assumption)))
section
namespace Mine
open PySem
section
variable {C : Cx} {n : Nat} {ρ : St} {l r : Expr} {p : Pos} {a i : Int} {bb : Bool}
end
theorem count_ok {C : Cx} {es : List (Int × Int)} : runP C (fnAt 13) [.dict es] (.int (es.map (·.2)).sum) := by
  refine run_f (by rfl) fun ρ hfr how sh => ?_
  replace sh : Sh ρ (fnAt 13).ns none := sh
  have b1 : ρ.fr ("callers" : Str) = some (.dict es) := by rw [hfr]; rfl
  refine s_put (v := .int 0) ec ?_
  refine s_forI (xs := es) (fun ds ρ => ρ.fr ("nc" : Str) = some (.int (ds.map (·.2)).sum) ∧ ρ.ow ("nc" : Str) = none ∧ Sh ρ (fnAt 13).ns none) (src_values (by walk_at "lk")) ⟨fr_here, ow_gone, by walk_at "sh"⟩ (fun ds x l ρ _ ⟨h1, h3, h2⟩ => ?_) fun ρ' ⟨h1, h2, h3⟩ => s_ret (by walk_at "n") rfl
  refine ⟨_, bt_name, s_aug (by walk_at "lk") (by walk_at "n") (ex_nil ⟨.inl rfl, ?_, ow_gone, (h2.set).set⟩)⟩
  rw [List.map_append, List.sum_append, List.map_singleton, List.sum_singleton]; exact fr_here
end Mine
end
section
namespace Mine
open PySem
noncomputable def addC (d : List (Int × Int)) (p : Int × Int) : List (Int × Int) := match d.lookup p.1 with
  | some j => dictPut p.1 (j + p.2) d
  | none => dictPut p.1 p.2 d
noncomputable def putC (d : List (Int × Int)) (p : Int × Int) : List (Int × Int) := dictPut p.1 p.2 d
theorem putC_len : ∀ (l d : List (Int × Int)), (l.foldl putC d).length ≤ d.length + l.length
  | [], d => by simp
  | p :: l, d => by
    have h1 := putC_len l (putC d p)
    have h2 := put_len p.1 p.2 d
    simp only [List.foldl_cons, List.length_cons]; unfold putC at *; omega
theorem addC_len : ∀ (l d : List (Int × Int)), (l.foldl addC d).length ≤ d.length + l.length
  | [], d => by simp
  | p :: l, d => by
    have h1 := addC_len l (addC d p)
    have h2 : (addC d p).length ≤ d.length + 1 := by unfold addC; split <;> exact put_len _ _ _
    simp only [List.foldl_cons, List.length_cons]; omega
theorem set_dict {d : List (Int × Int)} {k v : Int} (h : d.length < 2 ^ 20) : setV (.dict d) (.int k) (.int v) = some (.dict (dictPut k v d)) := if_pos h
theorem foldl_snoc {α β : Type} (f : β → α → β) (b : β) (l : List α) (x : α) : (l ++ [x]).foldl f b = f (l.foldl f b) x := by rw [List.foldl_append]; rfl
theorem callers_ok {C : Cx} {t s : List (Int × Int)} (hl : t.length + s.length < 2 ^ 20) : runP C (fnAt 12) [.dict t, .dict s] (.dict (s.foldl addC (t.foldl putC []))) := by
  refine run_f (by rfl) fun ρ0 hfr how b3 => ?_
  have b1 : ρ0.fr ("target" : Str) = some (.dict t) := by rw [hfr]; rfl
  have b2 : ρ0.fr ("source" : Str) = some (.dict s) := by rw [hfr]; rfl
  refine s_own (v := .dict []) n_dict0 ?_
  refine s_forI (xs := t) (g := fun p => V.tup [.int p.1, .int p.2]) (fun ds ρ => ρ.ow ("new_callers" : Str) = some (.dict (ds.foldl putC [])) ∧ ρ.fr ("new_callers" : Str) = none ∧ ρ.fr ("source" : Str) = some (.dict s) ∧ Sh ρ (fnAt 12).ns none)
    (src_items (es := t) (by walk_at "lk")) ⟨ow_here, fr_hereO, by walk_at "lk", by walk_at "sh"⟩ (fun ds x l ρ e ⟨h1, h2, h3, h4⟩ => ?_) fun ρ ⟨h1, h2, h3, h4⟩ => ?_
  · have hd := putC_len ds []
    have hb : (ds.foldl putC []).length < 2 ^ 20 := by
      rw [e] at hl; simp at hl hd; omega
    refine ⟨_, bt_tup (b_cons (b_cons b_nil)), s_sub (by walk_at "n") (by walk_at "ow") (by walk_at "n") (set_dict hb) (ex_nil ⟨.inl rfl, ?_, by walk_at "lk", by walk_at "lk", by walk_at "sh"⟩)⟩
    rw [foldl_snoc]; exact ow_hereU
  have ht := putC_len t []
  generalize t.foldl putC [] = d0 at *
  refine s_forI (xs := s) (g := fun p => V.tup [.int p.1, .int p.2]) (fun ds ρ => ρ.ow ("new_callers" : Str) = some (.dict (ds.foldl addC d0)) ∧ ρ.fr ("new_callers" : Str) = none ∧ Sh ρ (fnAt 12).ns none)
    (src_items (es := s) (by walk_at "lk")) ⟨h1, h2, h4⟩ (fun ds x l ρ e ⟨h1, h2, h4⟩ => ?_) fun ρ ⟨h1, h2, h4⟩ => s_ret (by walk_at "n") rfl
  have hd := addC_len ds d0
  have hb : (ds.foldl addC d0).length < 2 ^ 20 := by
    rw [e] at hl; simp at hl ht; omega
  have hx : addC (ds.foldl addC d0) x = match (ds.foldl addC d0).lookup x.1 with
    | some j => dictPut x.1 (j + x.2) (ds.foldl addC d0)
    | none => dictPut x.1 x.2 (ds.foldl addC d0) := rfl
  have hs := foldl_snoc addC d0 ds x
  generalize ds.foldl addC d0 = d at *
  refine ⟨_, bt_tup (b_cons (b_cons b_nil)), s_if (t_cmp (a := .int x.1) (d := .dict d) (k := (d.lookup x.1).isSome) (by walk_at "n") (by walk_at "o") rfl) ?_⟩
  cases hlk : d.lookup x.1 with
  | some j =>
    rw [hlk] at hx
    have e1 : subV (.dict d) (.int x.1) = some (.int j) := by show (d.lookup x.1).map V.int = _; rw [hlk]; rfl
    refine s_if (t_call (v := .bool false) (e_isi (i := x.2) (by walk_at "n")) rfl) ?_
    refine s_augS (d := .dict d) (kv := .int x.1) (i := j) (j := x.2) (by walk_at "ow") (by walk_at "n") e1 (by walk_at "n") (set_dict hb) (ex_nil (ex_nil (ex_nil ⟨.inl rfl, ?_, by walk_at "lk", by walk_at "sh"⟩)))
    rw [hs, hx]; exact ow_hereU
  | none =>
    rw [hlk] at hx
    refine s_sub (v := .int x.2) (d := .dict d) (kv := .int x.1) (by walk_at "n") (by walk_at "ow") (by walk_at "n") (set_dict hb) (ex_nil (ex_nil ⟨.inl rfl, ?_, by walk_at "lk", by walk_at "sh"⟩))
    rw [hs, hx]; exact ow_hereU
end Mine
end
section
namespace Mine
open PySem
theorem stats_ok {C : Cx} {a1 a2 a3 a4 t1 t2 t3 t4 r1 r2 r3 r4 te se re : V} (hc : C.pure "add_callers" [te, se] re) (h1 : binV .Add a1 t1 = some r1) (h2 : binV .Add a2 t2 = some r2) (h3 : binV .Add a3 t3 = some r3) (h4 : binV .Add a4 t4 = some r4) :
    runP C (fnAt 11) [.tup [t1, t2, t3, t4, te], .tup [a1, a2, a3, a4, se]] (.tup [r1, r2, r3, r4, re]) := by
  refine run_f (by rfl) fun ρ hfr how sh => ?_
  have b1 : ρ.fr ("target" : Str) = some (.tup [t1, t2, t3, t4, te]) := by rw [hfr]; rfl
  have b2 : ρ.fr ("source" : Str) = some (.tup [a1, a2, a3, a4, se]) := by rw [hfr]; rfl
  have n1 : ρ.ow ("t_callers" : Str) = none := by rw [how]
  refine s_tup (vs := [a1, a2, a3, a4, se]) (by walk_at "n") (b_cons (b_cons (b_cons (b_cons (b_cons b_nil))))) ?_
  refine s_tup (vs := [t1, t2, t3, t4, te]) (by walk_at "n") (b_cons (b_cons (b_cons (b_cons (b_cons b_nil))))) ?_
  exact s_ret (e_tup (l_cons (e_bin (by walk_at "n") (by walk_at "n") h1) (l_cons (e_bin (by walk_at "n") (by walk_at "n") h2) (l_cons (e_bin (by walk_at "n") (by walk_at "n") h3) (l_cons (e_bin (by walk_at "n") (by walk_at "n") h4)
    (l_cons (e_pure (vs := [te, se]) (l_cons (by walk_at "n") (l_cons (by walk_at "n") l_nil)) hc) l_nil)))))) rfl
end Mine
end
section
namespace Mine
open PySem
noncomputable def Nv (v : V) (c : Int) : Prop := (v = .int 0 ∧ c = 0) ∨ ∃ x, v = .flt x ∧ FV x c
theorem add_nv {x : UInt64} {t : V} {a c : Int} (h : FV x a) (k : Nv t c) (hb : (a + c).natAbs < 2 ^ 53) : ∃ z, binV .Add (.flt x) t = some (.flt z) ∧ FV z (a + c) := by
  rcases k with ⟨rfl, rfl⟩ | ⟨y, rfl, hy⟩
  · refine ⟨Float64.add x (Float64.ofInt 0), rfl, ?_⟩
    have := h.add (fv_ofInt (n := 0) (by decide)) (by rw [Int.zero_mul]; exact hb)
    rwa [Int.zero_mul] at this
  · exact ⟨_, rfl, h.add hy hb⟩
theorem put_new {k v : Int} : ∀ {d : List (Int × Int)}, k ∉ d.map (·.1) → dictPut k v d = d ++ [(k, v)]
  | [], _ => rfl
  | (j, u) :: r, h => by
    have h' : ¬ k = j ∧ k ∉ r.map (·.1) := by simpa using h
    unfold dictPut
    rw [if_neg (fun e => h'.1 e.symm), put_new h'.2]; rfl
theorem putC_id : ∀ {l d : List (Int × Int)}, ((d ++ l).map (·.1)).Nodup → l.foldl putC d = d ++ l
  | [], d, _ => by simp
  | (k, v) :: l, d, h => by
    have h1 : k ∉ d.map (·.1) := fun hk => by
      rw [List.map_append, List.nodup_append] at h
      exact h.2.2 k hk k (by simp) rfl
    have h2 : putC d (k, v) = d ++ [(k, v)] := put_new h1
    rw [List.foldl_cons, h2, putC_id (by simpa using h)]; simp
theorem sub_at {xs : List V} {k : Nat} {v : V} (h : xs[k]? = some v) (hl : xs.length < 2 ^ 20) : subV (.list xs) (.int k) = some v := by
  have hk : k < xs.length := by
    rcases Nat.lt_or_ge k xs.length with h1 | h1
    · exact h1
    · rw [List.getElem?_eq_none h1] at h; cases h
  show (if (2 : Int) ^ 62 ≤ (k : Int) then none else if (0 : Int) ≤ (k : Int) then xs[(k : Int).toNat]? else _) = _
  rw [if_neg (by omega), if_pos (by omega)]
  exact h
end Mine
end
section
namespace Mine
noncomputable def g (h : List Int) (i : Nat) : Int := h.getD i 0
theorem g_set {h : List Int} {i j : Nat} {x : Int} (hi : i < h.length) : g (h.set i x) j = if j = i then x else g h j := by
  unfold g
  rw [List.getD_eq_getElem?_getD, List.getElem?_set, List.getD_eq_getElem?_getD]
  by_cases e : j = i
  · subst e; simp [hi]
  · rw [if_neg (Ne.symm e), if_neg e]
noncomputable def par (i : Nat) : Nat := (i - 1) / 2
structure HeapFrom (h : List Int) (s : Nat) : Prop where
  le : ∀ i, 1 ≤ i → i < h.length → s ≤ par i → g h (par i) ≤ g h i
structure Almost (h : List Int) (s pos : Nat) : Prop where
  le : ∀ i, 1 ≤ i → i < h.length → i ≠ pos → s ≤ par i → g h (par i) ≤ g h i
  kid : ∀ j, 1 ≤ j → j < h.length → par j = pos → 1 ≤ pos → s ≤ par pos → g h (par pos) ≤ g h j
inductive Desc (s : Nat) : Nat → Prop
  | here : Desc s s
  | kid {c : Nat} : 1 ≤ c → Desc s (par c) → Desc s c
theorem par_lt {c : Nat} (h : 1 ≤ c) : par c < c := by unfold par; omega
theorem Desc.le {s c : Nat} (d : Desc s c) : s ≤ c := by
  induction d with
  | here => exact Nat.le_refl _
  | kid h _ ih => exact Nat.le_trans ih (Nat.le_of_lt (par_lt h))
theorem Desc.up {s c : Nat} (d : Desc s c) (h : c ≠ s) : 1 ≤ c ∧ Desc s (par c) := by
  cases d with
  | here => exact absurd rfl h
  | kid h1 d => exact ⟨h1, d⟩
theorem perm_move {h : List Int} {i j : Nat} {x : Int} (hi : i < h.length) (hj : j < h.length) (ne : i ≠ j) : ((h.set i (g h j)).set j x).Perm (h.set i x) := by
  rw [List.perm_iff_count]
  intro a
  have e1 : (h.set i (g h j))[j]'(by simpa using hj) = g h j := by
    rw [List.getElem_set_ne ne]; unfold g; rw [List.getD_eq_getElem?_getD, List.getElem?_eq_getElem hj]; rfl
  have e2 : h[j] = g h j := by unfold g; rw [List.getD_eq_getElem?_getD, List.getElem?_eq_getElem hj]; rfl
  rw [List.count_set (by simpa using hj), List.count_set hi, List.count_set hi, e1]
  have c1 : (if h[i] == a then 1 else 0) ≤ List.count a h := by
    split
    · rename_i h1
      exact List.count_pos_iff.mpr (by rw [← beq_iff_eq.mp h1]; exact List.getElem_mem hi)
    · exact Nat.zero_le _
  by_cases h1 : (g h j == a) = true
  · rw [if_pos h1]; omega
  · rw [if_neg h1]; omega
theorem down_step {h : List Int} {s pos : Nat} {x : Int} (hp : pos < h.length) (A : Almost (h.set pos x) s pos) (h1 : 1 ≤ pos) (hs : s ≤ par pos) (hx : x < g h (par pos)) : Almost ((h.set pos (g h (par pos))).set (par pos) x) s (par pos) := by
  have hpp : par pos < h.length := Nat.lt_trans (par_lt h1) hp
  have lt1 := par_lt h1
  have G : ∀ i, g ((h.set pos (g h (par pos))).set (par pos) x) i = if i = par pos then x else if i = pos then g h (par pos) else g h i := fun i => by
    rw [g_set (by simpa using hpp)]
    by_cases e : i = par pos
    · rw [if_pos e, if_pos e]
    · rw [if_neg e, if_neg e, g_set hp]
  have G0 : ∀ i, g (h.set pos x) i = if i = pos then x else g h i := fun i => g_set hp
  have L : ∀ i, 1 ≤ i → i < h.length → i ≠ pos → s ≤ par i → (if par i = pos then x else g h (par i)) ≤ g h i := fun i a b c d => by
    have := A.le i a (by simpa using b) c d
    rw [G0, G0, if_neg c] at this; exact this
  have K : ∀ j, 1 ≤ j → j < h.length → par j = pos → g h (par pos) ≤ g h j := fun j a b c => by
    have := A.kid j a (by simpa using b) c h1 hs
    have hj : j ≠ pos := by have := par_lt a; omega
    rw [G0, G0, if_neg (by omega), if_neg hj] at this; exact this
  refine ⟨fun i a b c d => ?_, fun j a b c d e => ?_⟩
  · have b' : i < h.length := by simpa using b
    have li := par_lt a
    rw [G, G, if_neg c]
    by_cases e1 : i = pos
    · subst e1; rw [if_pos rfl, if_pos rfl]; omega
    · rw [if_neg e1]
      by_cases e2 : par i = par pos
      · rw [if_pos e2]
        have := L i a b' e1 d
        rw [if_neg (by omega), e2] at this; omega
      · rw [if_neg e2]
        by_cases e3 : par i = pos
        · rw [if_pos e3]; exact K i a b' e3
        · rw [if_neg e3]
          have := L i a b' e1 d
          rw [if_neg e3] at this; exact this
  · have b' : j < h.length := by simpa using b
    have ll := par_lt d
    rw [G, G, if_neg (by omega), if_neg (by omega)]
    have m := L (par pos) d hpp (by omega) e
    rw [if_neg (by omega)] at m
    have lj := par_lt a
    rw [if_neg (by omega)]
    by_cases e1 : j = pos
    · rw [if_pos e1]; exact m
    · rw [if_neg e1]
      have := L j a b' e1 (by omega)
      rw [if_neg (by omega), c] at this; omega
theorem down_end {h : List Int} {s pos : Nat} {x : Int} (hp : pos < h.length) (A : Almost (h.set pos x) s pos) (he : pos = s ∨ ¬ x < g h (par pos)) : HeapFrom (h.set pos x) s := by
  refine ⟨fun i a b c => ?_⟩
  by_cases e : i = pos
  · subst e
    have li := par_lt a
    rw [g_set hp, g_set hp, if_neg (by omega), if_pos rfl]
    rcases he with he | he <;> omega
  · exact A.le i a b e c
structure Sink (h : List Int) (s pos : Nat) : Prop where
  le : ∀ i, 1 ≤ i → i < h.length → s ≤ par i → (pos = s → par i ≠ s) → g h (par i) ≤ g h i
theorem sink_step {h : List Int} {s pos c : Nat} (hc : c < h.length) (S : Sink h s pos) (d : s ≤ pos) (h1 : 1 ≤ c) (hpc : par c = pos) (hmin : ∀ j, 1 ≤ j → j < h.length → par j = pos → g h c ≤ g h j) : Sink (h.set pos (g h c)) s c := by
  have lc := par_lt h1
  have hp : pos < h.length := by omega
  refine ⟨fun i a b e _ => ?_⟩
  have b' : i < h.length := by simpa using b
  have li := par_lt a
  rw [g_set hp, g_set hp]
  by_cases e1 : i = pos
  · subst e1
    rw [if_neg (by omega), if_pos rfl]
    have m1 := S.le i a b' e (by omega)
    have m2 := S.le c h1 hc (by omega) (by omega)
    rw [hpc] at m2; omega
  · rw [if_neg e1]
    by_cases e2 : par i = pos
    · rw [if_pos e2]; exact hmin i a b' e2
    · rw [if_neg e2]; exact S.le i a b' e (by omega)
theorem sink_end {h : List Int} {s pos : Nat} {x : Int} (hp : pos < h.length) (S : Sink h s pos) (hl : h.length ≤ 2 * pos + 1) : Almost (h.set pos x) s pos := by
  have nk : ∀ j, 1 ≤ j → j < h.length → par j ≠ pos := fun j a b c => by unfold par at c; omega
  refine ⟨fun i a b c d => ?_, fun j a b c => ?_⟩
  · have b' : i < h.length := by simpa using b
    rw [g_set hp, g_set hp, if_neg c, if_neg (nk i a b')]
    exact S.le i a b' d fun e h2 => nk i a b' (by omega)
  · exact absurd c (nk j a (by simpa using b))
theorem sink_start {h : List Int} {s : Nat} (H : HeapFrom h (s + 1)) : Sink h s s := ⟨fun i a b c d => H.le i a b (by have := d rfl; omega)⟩
theorem heap_min {h : List Int} (H : HeapFrom h 0) : ∀ i, i < h.length → g h 0 ≤ g h i
  | 0, _ => Int.le_refl _
  | i + 1, hi => by
    have h1 := par_lt (c := i + 1) (by omega)
    have := heap_min H (par (i + 1)) (by omega)
    have h2 := H.le (i + 1) (by omega) hi (Nat.zero_le _)
    omega
end Mine
end
section
open Mine PySem
local macro_rules | `(tactic| walk_at "bo") => `(tactic| (refine' Sh.bos ?h ?k; (case h => walk_at "sh"); (case k => decide)))
section
namespace Mine
open PySem
noncomputable def EvV (N : Int) (v : V) : Prop := ∃ (z : UInt64) (A k d : Int), v = .tup [.flt z, .int k, .int d] ∧ FV z (A * 2 ^ 14) ∧ (0 ≤ k ∧ k < 8) ∧ (-1 ≤ d ∧ d ≤ 1) ∧ N = A * 32 + k * 4 + d
theorem cmp_lt (a b : Int) : (compare a b == Ordering.lt) = decide (a < b) := by
  by_cases h : a < b
  · rw [decide_eq_true h, Int.compare_eq_lt.mpr h]; rfl
  · rw [decide_eq_false h]
    have : compare a b ≠ .lt := fun e => h (Int.compare_eq_lt.mp e)
    simpa using this
theorem cmp_gt (a b : Int) : (compare a b == Ordering.gt) = decide (a > b) := by
  by_cases h : a > b
  · rw [decide_eq_true h, Int.compare_eq_gt.mpr h]; rfl
  · rw [decide_eq_false h]
    have : compare a b ≠ .gt := fun e => h (Int.compare_eq_gt.mp e)
    simpa using this
theorem c_ltI {i j : Int} : cmpV .Lt (.int i) (.int j) = some (decide (i < j)) := by
  show (some (compare i j)).map (· == .lt) = _
  exact congrArg some (cmp_lt i j)
theorem c_gtI {i j : Int} : cmpV .Gt (.int i) (.int j) = some (decide (i > j)) := by
  show (some (compare i j)).map (· == .gt) = _
  exact congrArg some (cmp_gt i j)
theorem lt_ev {M N : Int} {v w : V} (hv : EvV M v) (hw : EvV N w) : cmpV .Lt v w = some (decide (M < N)) := by
  obtain ⟨y, A, d, i, rfl, fy, hd, hi, rfl⟩ := hv
  obtain ⟨z, B, e, j, rfl, fz, he, hj, rfl⟩ := hw
  have s1 : eqV 1 (.flt y) (.flt z) = some (decide (A = B)) := by
    have := c_eq fy fz
    have h2 : decide (A * 2 ^ 14 = B * 2 ^ 14) = decide (A = B) := decide_eq_decide.mpr (by omega)
    rw [h2] at this; exact this
  have s2 : ordV (.flt y) (.flt z) = some (compare (A * 2 ^ 14) (B * 2 ^ 14)) := fy.cmp fz
  show Option.bind (eqV 1 (.flt y) (.flt z)) _ = _
  rw [s1]
  by_cases h1 : A = B
  · subst h1
    rw [decide_eq_true rfl]
    show (if decide (d = e) = true then (if decide (i = j) = true then some false else some (compare i j == .lt)) else some (compare d e == .lt)) = _
    by_cases h2 : d = e
    · subst h2
      rw [if_pos (by simp)]
      by_cases h3 : i = j
      · subst h3
        rw [if_pos (by simp), decide_eq_false (by omega)]
      · rw [if_neg (by simpa using h3), cmp_lt]; exact congrArg some (decide_eq_decide.mpr (by omega))
    · rw [if_neg (by simpa using h2), cmp_lt]; exact congrArg some (decide_eq_decide.mpr (by omega))
  · rw [decide_eq_false h1]
    show Option.map (fun o => o == Ordering.lt) (ordV (.flt y) (.flt z)) = _
    rw [s2]
    show some (compare (A * 2 ^ 14) (B * 2 ^ 14) == .lt) = _
    rw [cmp_lt]; exact congrArg some (decide_eq_decide.mpr (by omega))
structure Evs (h : List Int) (vs : List V) : Prop where
  len : vs.length = h.length
  get : ∀ i, i < h.length → ∃ v, vs[i]? = some v ∧ EvV (g h i) v
theorem Evs.set {h vs i N v} (E : Evs h vs) (hv : EvV N v) : Evs (h.set i N) (vs.set i v) := by
  refine ⟨by simp [E.len], fun j hj => ?_⟩
  have hj' : j < h.length := by simpa using hj
  by_cases e : j = i
  · subst e
    exact ⟨v, by rw [List.getElem?_set_self (by rw [E.len]; exact hj')], by rw [g_set hj', if_pos rfl]; exact hv⟩
  · obtain ⟨w, e1, e2⟩ := E.get j hj'
    refine ⟨w, by rw [List.getElem?_set_ne (Ne.symm e)]; exact e1, ?_⟩
    rcases Nat.lt_or_ge i h.length with hi | hi
    · rw [g_set hi, if_neg e]; exact e2
    · rw [List.set_eq_of_length_le hi]; exact e2
theorem set_list {vs : List V} {i : Nat} {v : V} (h : i < vs.length) (hl : vs.length < 2 ^ 20) : setV (.list vs) (.int i) v = some (.list (vs.set i v)) := if_pos ⟨by omega, by omega, by omega⟩
end Mine
end
section
namespace Mine
open PySem
theorem shift1 {i : Nat} (h : 1 ≤ i) : binV .RShift (.int ((i : Int) - 1)) (.int 1) = some (.int (par i : Nat)) := by
  show some (V.int (Int.fdiv ((i : Int) - 1) 2)) = _
  rw [Int.fdiv_eq_ediv_of_nonneg _ (by decide)]
  unfold par; congr 2; omega
theorem set_self {h : List Int} {i : Nat} : h.set i (g h i) = h := by
  rcases Nat.lt_or_ge i h.length with hi | hi
  · have : g h i = h[i] := by unfold g; rw [List.getD_eq_getElem?_getD, List.getElem?_eq_getElem hi]; rfl
    rw [this]; exact List.set_getElem_self hi
  · exact List.set_eq_of_length_le hi
structure DownI (h : List Int) (s : Nat) (x : Int) (xv : V) (k : List Int) (ws : List V) (pos : Nat) (ρ : St) : Prop where
  E : Evs k ws
  len : k.length = h.length
  hp : pos < k.length
  perm : (k.set pos x).Perm h
  ow : ρ.ow ("heap" : Str) = some (.list ws)
  fr : ρ.fr ("heap" : Str) = none
  pos : ρ.fr ("pos" : Str) = some (.int pos)
  start : ρ.fr ("startpos" : Str) = some (.int s)
  item : ρ.fr ("newitem" : Str) = some xv
  sh : Sh ρ (fnAt 8).ns (some "heap")
set_option maxHeartbeats 1000000 in
theorem down_ok {C : Cx} {h : List Int} {vs : List V} {s pos : Nat} (E : Evs h vs) (hl : h.length < 2 ^ 9) (hp : pos < h.length) (A : Almost h s pos) (d : Desc s pos) :
    ∃ v c', runM C (fnAt 8) (.list vs) [.int s, .int pos] v c' ∧ v = .none ∧ ∃ h' vs', c' = .list vs' ∧ Evs h' vs' ∧ h'.Perm h ∧ HeapFrom h' s := by
  refine run_m (p := "heap") (ps := ["startpos", "pos"]) (by rfl) rfl fun ρ hfr how sh => ?_
  replace sh : Sh ρ (fnAt 8).ns (some "heap") := sh
  have b1 : ρ.fr ("startpos" : Str) = some (.int s) := by rw [hfr]; rfl
  have b2 : ρ.fr ("pos" : Str) = some (.int pos) := by rw [hfr]; rfl
  have b3 : ρ.fr ("heap" : Str) = none := by rw [hfr]; rfl
  have b4 : ρ.ow ("heap" : Str) = some (.list vs) := by rw [how]; exact ups_here
  obtain ⟨xv, e1, hx⟩ := E.get pos hp
  have hlen := E.len
  generalize hgx : g h pos = x at *
  refine s_put (v := xv) (e_sub (by walk_at "o") (by walk_at "n") (sub_at e1 (by omega))) ?_
  refine s_while (m := pos) (fun m ρ => ∃ k ws, DownI h s x xv k ws m ρ ∧ Almost (k.set m x) s m ∧ Desc s m) (fun ρ => ∃ k ws pos, DownI h s x xv k ws pos ρ ∧ HeapFrom (k.set pos x) s)
    ⟨h, vs, ⟨E, rfl, hp, by rw [← hgx, set_self], by walk_at "ow", by walk_at "lk", by walk_at "lk", by walk_at "lk", by walk_at "lk", by walk_at "sh"⟩, by rw [← hgx, set_self]; exact A, d⟩ (fun m ρ ⟨k, ws, I, A, d⟩ => ?_) fun ρ ⟨k, ws, m, I, H⟩ => ?_
  · obtain ⟨E, len, hp, perm, q1, q2, q3, q4, q5, sh⟩ := I
    refine ⟨decide ((m : Int) > s), t_cmp (op := .Gt) (a := .int m) (d := .int s) (by walk_at "n") (by walk_at "n") c_gtI, fun hr => ?_, fun hr => ?_⟩
    · have : m = s := by
        have := d.le
        have h2 : ¬ (m : Int) > s := by simpa using hr
        omega
      exact ⟨k, ws, m, ⟨E, len, hp, perm, q1, q2, q3, q4, q5, sh⟩, down_end hp A (.inl this)⟩
    · have hms : (m : Int) > s := by simpa using hr
      obtain ⟨h1, d1⟩ := d.up (by omega)
      have hpp := par_lt h1
      obtain ⟨pv, e2, hpv⟩ := E.get (par m) (by omega)
      have wl := E.len
      refine s_put (v := .int (par m : Nat)) (e_bin (e_bin (v := .int ((m : Int) - 1)) (by walk_at "n") ec rfl) ec (shift1 h1)) ?_
      refine s_put (v := pv) (e_sub (by walk_at "o") (by walk_at "n") (sub_at e2 (by omega))) ?_
      refine s_if (t_cmp (op := .Lt) (a := xv) (d := pv) (by walk_at "n") (by walk_at "n") (lt_ev hx hpv)) ?_
      by_cases hlt : x < g k (par m)
      · rw [if_pos (by simpa using hlt)]
        refine s_sub (v := pv) (d := .list ws) (kv := .int m) (by walk_at "n") (by walk_at "ow") (by walk_at "n") (set_list (by omega) (by omega)) ?_
        refine s_put (v := .int (par m : Nat)) (by walk_at "n") ?_
        refine s_cont (.inl ⟨.inr rfl, par m, hpp, k.set m (g k (par m)), ws.set m pv, ⟨E.set hpv, by simpa using len, by simp; omega, (perm_move hp (by omega) (by omega)).trans perm, by walk_at "ow", by walk_at "lk", by walk_at "lk", by walk_at "lk", by walk_at "lk", by walk_at "sh"⟩, down_step hp A h1 d1.le hlt, d1⟩)
      · rw [if_neg (by simpa using hlt)]
        exact ex_nil (s_brk (.inr ⟨rfl, k, ws, m, ⟨E, len, hp, perm, by walk_at "ow", by walk_at "lk", by walk_at "lk", by walk_at "lk", by walk_at "lk", by walk_at "sh"⟩, down_end hp A (.inr hlt)⟩))
  · obtain ⟨E, len, hp, perm, q1, q2, q3, q4, q5, sh⟩ := I
    have wl := E.len
    refine s_sub (v := xv) (d := .list ws) (kv := .int m) (by walk_at "n") (by walk_at "ow") (by walk_at "n") (set_list (by omega) (by omega)) (ex_nil ⟨.none, .list (ws.set m xv), .inr ⟨rfl, rfl⟩, by walk_at "ow", rfl, _, _, rfl, E.set hx, perm, H⟩)
end Mine
end
section
namespace Mine
open PySem
theorem len_v {xs : List V} (h : xs.length < 2 ^ 20) : Blt "len" [.list xs] (.int xs.length) := blt_len (by omega)
structure KidI (n s : Nat) (xv : V) (ws : List V) (pos c : Nat) (ρ : St) : Prop where
  ow : ρ.ow ("heap" : Str) = some (.list ws)
  fr : ρ.fr ("heap" : Str) = none
  pos : ρ.fr ("pos" : Str) = some (.int pos)
  kid : ρ.fr ("childpos" : Str) = some (.int c)
  start : ρ.fr ("startpos" : Str) = some (.int s)
  stop : ρ.fr ("endpos" : Str) = some (.int n)
  item : ρ.fr ("newitem" : Str) = some xv
  sh : Sh ρ (fnAt 9).ns (some "heap")
structure UpI (h : List Int) (s : Nat) (x : Int) (xv : V) (k : List Int) (ws : List V) (pos c : Nat) (ρ : St) : Prop where
  E : Evs k ws
  len : k.length = h.length
  hp : pos < k.length
  perm : (k.set pos x).Perm h
  sink : Sink k s pos
  d : Desc s pos
  ow : ρ.ow ("heap" : Str) = some (.list ws)
  fr : ρ.fr ("heap" : Str) = none
  pos : ρ.fr ("pos" : Str) = some (.int pos)
  kid : ρ.fr ("childpos" : Str) = some (.int c)
  start : ρ.fr ("startpos" : Str) = some (.int s)
  stop : ρ.fr ("endpos" : Str) = some (.int (h.length : Nat))
  item : ρ.fr ("newitem" : Str) = some xv
  sh : Sh ρ (fnAt 9).ns (some "heap")
theorem two_pos {pos : Nat} : binV .Mult (.int 2) (.int pos) = some (.int (2 * pos : Nat)) := rfl
theorem next_kid {c : Nat} : binV .Add (.int c) (.int 1) = some (.int (c + 1 : Nat)) := rfl
set_option maxHeartbeats 1000000 in
theorem up_ok {CX : Cx} {l : Nat} {h : List Int} {vs : List V} {s : Nat} (E : Evs h vs) (hl : h.length < 2 ^ 9) (hp : s < h.length) (H : HeapFrom h (s + 1)) :
    ∃ v c', runM (CX.lv (l + 1)) (fnAt 9) (.list vs) [.int s] v c' ∧ v = .none ∧ ∃ h' vs', c' = .list vs' ∧ Evs h' vs' ∧ h'.Perm h ∧ HeapFrom h' s := by
  refine run_m (p := "heap") (ps := ["pos"]) (by rfl) rfl fun ρ hfr how sh => ?_
  replace sh : Sh ρ (fnAt 9).ns (some "heap") := sh
  have b2 : ρ.fr ("pos" : Str) = some (.int s) := by rw [hfr]; rfl
  have b3 : ρ.fr ("heap" : Str) = none := by rw [hfr]; rfl
  have b4 : ρ.ow ("heap" : Str) = some (.list vs) := by rw [how]; exact ups_here
  obtain ⟨xv, e1, hx⟩ := E.get s hp
  have hlen := E.len
  generalize hgx : g h s = x at *
  refine s_put (v := .int (vs.length : Nat)) (e_blt1 (by walk_at "o") (len_v (by omega))) ?_
  rw [hlen]
  refine s_put (v := .int s) (by walk_at "n") ?_
  refine s_put (v := xv) (e_sub (by walk_at "o") (by walk_at "n") (sub_at e1 (by omega))) ?_
  refine s_put (v := .int (2 * s + 1 : Nat)) (e_bin (e_bin ec (by walk_at "n") two_pos) ec next_kid) ?_
  refine s_while (m := h.length - s) (fun m ρ => ∃ k ws pos, m = h.length - pos ∧ UpI h s x xv k ws pos (2 * pos + 1) ρ) (fun ρ => ∃ k ws pos c, UpI h s x xv k ws pos c ρ ∧ h.length ≤ 2 * pos + 1)
    ⟨h, vs, s, rfl, ⟨E, rfl, hp, by rw [← hgx, set_self], sink_start H, .here, by walk_at "ow", by walk_at "lk", by walk_at "lk", by walk_at "lk", by walk_at "lk", by walk_at "lk", by walk_at "lk", by walk_at "sh"⟩⟩ (fun m ρ ⟨k, ws, pos, hm, I⟩ => ?_) fun ρ ⟨k, ws, pos, c, I, hc⟩ => ?_
  · obtain ⟨E, len, hp, perm, sink, d, q1, q2, q3, q4, q5, q6, q7, sh⟩ := I
    have wl := E.len
    refine ⟨decide (((2 * pos + 1 : Nat) : Int) < (h.length : Nat)), t_cmp (op := .Lt) (a := .int (2 * pos + 1 : Nat)) (d := .int (h.length : Nat)) (by walk_at "n") (by walk_at "n") c_ltI, fun hr => ?_, fun hr => ?_⟩
    · have : ¬ ((2 * pos + 1 : Nat) : Int) < (h.length : Nat) := by simpa using hr
      exact ⟨k, ws, pos, _, ⟨E, len, hp, perm, sink, d, q1, q2, q3, q4, q5, q6, q7, sh⟩, by omega⟩
    · have hlt : 2 * pos + 1 < h.length := by
        have : ((2 * pos + 1 : Nat) : Int) < (h.length : Nat) := by simpa using hr
        omega
      obtain ⟨v1, e2, hv1⟩ := E.get (2 * pos + 1) (by omega)
      refine s_put (v := .int (2 * pos + 1 + 1 : Nat)) (e_bin (by walk_at "n") ec next_kid) ?_
      have kids : ∀ j, 1 ≤ j → par j = pos → j = 2 * pos + 1 ∨ j = 2 * pos + 2 := fun j a b => by unfold par at b; omega
      have test : ∃ r, (r = true → 2 * pos + 2 < h.length ∧ g k (2 * pos + 2) ≤ g k (2 * pos + 1)) ∧ (r = false → 2 * pos + 2 < h.length → g k (2 * pos + 1) ≤ g k (2 * pos + 2)) ∧
          ∀ (ρ : St) (p1 p2 p3 p4 p5 p6 p7 p8 p9 p10 p11 p12 : Pos), ρ.fr ("rightpos" : Str) = some (.int (2 * pos + 1 + 1 : Nat)) → ρ.fr ("endpos" : Str) = some (.int (h.length : Nat)) → ρ.fr ("childpos" : Str) = some (.int (2 * pos + 1 : Nat)) → ρ.ow ("heap" : Str) = some (.list ws) → ρ.fr ("heap" : Str) = none →
          Tv (CX.lv (l + 1)) ρ (.BoolOp .And [.Compare (.Name "rightpos" p1) [.Lt] [.Name "endpos" p2] p3, .UnaryOp .Not (.Compare (.Subscript (.Name "heap" p4) (.Name "childpos" p5) p6) [.Lt] [.Subscript (.Name "heap" p7) (.Name "rightpos" p8) p9] p10) p11] p12) r := by
        by_cases hR : 2 * pos + 2 < h.length
        · obtain ⟨v2, e3, hv2⟩ := E.get (2 * pos + 2) (by omega)
          refine ⟨true && !decide (g k (2 * pos + 1) < g k (2 * pos + 2)), fun hr => ⟨hR, by simpa using hr⟩, fun hr _ => by have := (by simpa using hr : g k (2 * pos + 1) < g k (2 * pos + 2)); omega, fun ρ p1 p2 p3 p4 p5 p6 p7 p8 p9 p10 p11 p12 g1 g2 g3 g4 g5 => ?_⟩
          refine t_and (k := true) ?_ fun _ => t_not (t_cmp (op := .Lt) (a := v1) (d := v2) (e_sub (by walk_at "o") (by walk_at "n") (sub_at e2 (by omega))) (e_sub (by walk_at "o") (by walk_at "n") (sub_at e3 (by omega))) (lt_ev hv1 hv2))
          exact t_cmp (op := .Lt) (a := .int (2 * pos + 1 + 1 : Nat)) (d := .int (h.length : Nat)) (by walk_at "n") (by walk_at "n") (c_ltI.trans (congrArg some (decide_eq_true (by omega))))
        · refine ⟨false, fun hr => (by cases hr), fun _ h2 => absurd h2 hR, fun ρ p1 p2 p3 p4 p5 p6 p7 p8 p9 p10 p11 p12 g1 g2 g3 g4 g5 => ?_⟩
          exact t_and (k := false) (s := true) (t_cmp (op := .Lt) (a := .int (2 * pos + 1 + 1 : Nat)) (d := .int (h.length : Nat)) (by walk_at "n") (by walk_at "n") (c_ltI.trans (congrArg some (decide_eq_false (by omega))))) fun e => by cases e
      obtain ⟨r, rt, rf, ht⟩ := test
      refine s_if (r := r) (ht _ _ _ _ _ _ _ _ _ _ _ _ _ (by walk_at "lk") (by walk_at "lk") (by walk_at "lk") (by walk_at "ow") (by walk_at "lk")) ?_
      refine Ex.mono (P := fun fl ρ' => fl = .next ∧ ∃ c', (c' = 2 * pos + 1 ∨ c' = 2 * pos + 2) ∧ c' < h.length ∧ (∀ j, 1 ≤ j → j < k.length → par j = pos → g k c' ≤ g k j) ∧ KidI h.length s xv ws pos c' ρ') ?a ?b
      case a =>
        cases r with
        | true =>
          obtain ⟨r1, r2⟩ := rt rfl
          refine s_put (v := .int (2 * pos + 1 + 1 : Nat)) (by walk_at "n") (ex_nil ⟨rfl, 2 * pos + 2, .inr rfl, r1, fun j a b c => ?_, by walk_at "ow", by walk_at "lk", by walk_at "lk", by walk_at "lk", by walk_at "lk", by walk_at "lk", by walk_at "lk", by walk_at "sh"⟩)
          rcases kids j a c with rfl | rfl <;> omega
        | false =>
          refine ex_nil ⟨rfl, 2 * pos + 1, .inl rfl, hlt, fun j a b c => ?_, by walk_at "ow", by walk_at "lk", by walk_at "lk", by walk_at "lk", by walk_at "lk", by walk_at "lk", by walk_at "lk", by walk_at "sh"⟩
          rcases kids j a c with rfl | rfl
          · exact Int.le_refl _
          · exact rf rfl (by omega)
      case b =>
        rintro _ ρ' ⟨rfl, c, hc, hcl, hmin, w1, w2, w3, w4, w5, w6, w7, sh⟩
        obtain ⟨cv, e4, hcv⟩ := E.get c (by omega)
        have pc : par c = pos := by unfold par; omega
        show Ex _ _ _ _
        refine s_sub (v := cv) (d := .list ws) (kv := .int pos) (e_sub (by walk_at "o") (by walk_at "n") (sub_at e4 (by omega))) (by walk_at "ow") (by walk_at "n") (set_list (by omega) (by omega)) ?_
        refine s_put (v := .int c) (by walk_at "n") ?_
        refine s_put (v := .int (2 * c + 1 : Nat)) (e_bin (e_bin ec (by walk_at "n") two_pos) ec next_kid) ?_
        have nk : 1 ≤ c ∧ pos ≠ c := by omega
        exact ex_nil (.inl ⟨.inl rfl, h.length - c, by omega, k.set pos (g k c), ws.set pos cv, c, rfl, E.set hcv, by simpa using len, by simp; omega, (perm_move hp (by omega) nk.2).trans perm, sink_step (by omega) sink d.le nk.1 pc hmin, .kid nk.1 (pc ▸ d), by walk_at "ow", by walk_at "lk", by walk_at "lk", by walk_at "lk", by walk_at "lk", by walk_at "lk", by walk_at "lk", by walk_at "sh"⟩)
  · obtain ⟨E, len, hp, perm, sink, d, q1, q2, q3, q4, q5, q6, q7, sh⟩ := I
    have wl := E.len
    have hk : (k.set pos x).length = h.length := by simpa using len
    obtain ⟨v, c', e3, rfl, h', vs', rfl, E', p', H'⟩ := down_ok (C := CX.lv l) (E.set hx) (by omega) (by omega) (sink_end hp sink (by omega)) d
    refine s_sub (v := xv) (d := .list ws) (kv := .int pos) (by walk_at "n") (by walk_at "ow") (by walk_at "n") (set_list (by omega) (by omega)) ?_
    refine s_expr (mv_chg (y := .list (ws.set pos xv)) (vs := [.int s, .int pos]) (by walk_at "ow") (l_cons (by walk_at "n") (l_cons (by walk_at "n") l_nil)) (chg_of ft_down e3)) (ex_nil ⟨.none, .list vs', .inr ⟨rfl, rfl⟩, by walk_at "ow", rfl, h', vs', rfl, E', p'.trans perm, H'⟩)
end Mine
end
section
namespace Mine
open PySem
theorem zero_ev {h : List Int} {vs : List V} (E : Evs h vs) (hp : 0 < h.length) (hl : h.length < 2 ^ 9) : ∃ v, subV (.list vs) (.int 0) = some v ∧ EvV (g h 0) v := by
  obtain ⟨v, e, hv⟩ := E.get 0 hp
  have := E.len
  exact ⟨v, sub_at (k := 0) e (by omega), hv⟩
theorem set0 {vs : List V} {v : V} (h : 0 < vs.length) (hl : vs.length < 2 ^ 20) : setV (.list vs) (.int 0) v = some (.list (vs.set 0 v)) := set_list (i := 0) h hl
theorem heap_set {h : List Int} {x : Int} (H : HeapFrom h 0) (hp : 0 < h.length) : HeapFrom (h.set 0 x) 1 := ⟨fun i a b c => by
  have b' : i < h.length := by simpa using b
  rw [g_set hp, g_set hp, if_neg (by omega), if_neg (by omega)]
  exact H.le i a b' (Nat.zero_le _)⟩
theorem replace_ok {CX : Cx} {l : Nat} {h : List Int} {vs : List V} {N : Int} {item : V} (E : Evs h vs) (hl : h.length < 2 ^ 9) (hp : 0 < h.length) (H : HeapFrom h 0) (hN : EvV N item) :
    ∃ v c', runM (CX.lv (l + 2)) (fnAt 6) (.list vs) [item] v c' ∧ ∃ h' vs', c' = .list vs' ∧ Evs h' vs' ∧ h'.Perm (h.set 0 N) ∧ HeapFrom h' 0 := by
  refine run_m (p := "heap") (ps := ["item"]) (by rfl) rfl fun ρ hfr how sh => ?_
  replace sh : Sh ρ (fnAt 6).ns (some "heap") := sh
  have b2 : ρ.fr ("item" : Str) = some item := by rw [hfr]; rfl
  have b3 : ρ.fr ("heap" : Str) = none := by rw [hfr]; rfl
  have b4 : ρ.ow ("heap" : Str) = some (.list vs) := by rw [how]; exact ups_here
  obtain ⟨xv, e1, hx⟩ := zero_ev E hp hl
  have hlen := E.len
  obtain ⟨_, _, e2, rfl, h', vs', rfl, E', p', H'⟩ := up_ok (CX := CX) (l := l) (E.set (i := 0) hN) (s := 0) (by simpa using hl) (by simpa using hp) (heap_set H hp)
  refine s_put (v := xv) (e_sub (by walk_at "o") ec e1) ?_
  refine s_sub (v := item) (d := .list vs) (kv := .int 0) (by walk_at "n") (by walk_at "ow") ec (set0 (by omega) (by omega)) ?_
  refine s_expr (mv_chg (y := .list (vs.set 0 item)) (vs := [.int (0 : Nat)]) (by walk_at "ow") (l_cons ec l_nil) (chg_of ft_up e2)) ?_
  refine s_ret (v := xv) (e_fr (fr_freeze (by walk_at "lk") (by walk_at "ow"))) ⟨_, .list vs', .inl rfl, freeze_ow (by walk_at "ow") sh.bo, h', vs', rfl, E', p', H'⟩
theorem g_drop {h : List Int} {i : Nat} (hi : i < h.length - 1) : g h.dropLast i = g h i := by
  unfold g
  rw [List.getD_eq_getElem?_getD, List.getD_eq_getElem?_getD, List.getElem?_dropLast, if_pos hi]
theorem Evs.drop {h : List Int} {vs : List V} (E : Evs h vs) : Evs h.dropLast vs.dropLast := by
  refine ⟨by simp [E.len], fun i hi => ?_⟩
  have hi' : i < h.length - 1 := by simpa using hi
  obtain ⟨v, e, hv⟩ := E.get i (by omega)
  refine ⟨v, by rw [List.getElem?_dropLast, if_pos (by rw [E.len]; exact hi')]; exact e, by rw [g_drop hi']; exact hv⟩
theorem HeapFrom.drop {h : List Int} {s : Nat} (H : HeapFrom h s) : HeapFrom h.dropLast s := ⟨fun i a b c => by
  have b' : i < h.length - 1 := by simpa using b
  have := par_lt a
  rw [g_drop (by omega), g_drop b']
  exact H.le i a (by omega) c⟩
theorem pop_fn {CX : Cx} {l : Nat} {h : List Int} {vs : List V} (E : Evs h vs) (hl : h.length < 2 ^ 9) (hp : 0 < h.length) (H : HeapFrom h 0) :
    ∃ v c', runM (CX.lv (l + 2)) (fnAt 5) (.list vs) [] v c' ∧ ∃ h' vs', c' = .list vs' ∧ Evs h' vs' ∧ h'.Perm (h.dropLast.set 0 (g h (h.length - 1))) ∧ HeapFrom h' 0 := by
  refine run_m (p := "heap") (ps := []) (by rfl) rfl fun ρ hfr how sh => ?_
  replace sh : Sh ρ (fnAt 5).ns (some "heap") := sh
  have b3 : ρ.fr ("heap" : Str) = none := by rw [hfr]; rfl
  have b4 : ρ.ow ("heap" : Str) = some (.list vs) := by rw [how]; exact ups_here
  have hlen := E.len
  obtain ⟨lv, e1, hlv⟩ := E.get (h.length - 1) (by omega)
  have eL : vs.getLast? = some lv := by rw [List.getLast?_eq_getElem?, hlen]; exact e1
  refine s_mv (v := lv) (mv_pop b4 eL (by omega)) ?_
  have tr : truV (.list vs.dropLast) = some (!vs.dropLast.isEmpty) := if_pos (by simp; omega)
  refine s_if (t_name (by walk_at "o") tr) ?_
  by_cases h1 : h.length = 1
  · have z : vs.dropLast = [] := by
      rw [← List.length_eq_zero_iff]; simp; omega
    have zh : h.dropLast = [] := by
      rw [← List.length_eq_zero_iff]; simp; omega
    rw [z] at *
    refine ex_nil ?_
    refine s_ret (v := lv) (e_fr (fr_freeze (by walk_at "lk") (by walk_at "ow"))) ⟨_, .list [], .inl rfl, freeze_ow (by walk_at "ow") sh.bo, [], [], rfl, ⟨rfl, fun i hi => by simp at hi⟩, by rw [zh]; exact .refl _, ⟨fun i _ b => by simp at b⟩⟩
  · have hd : 0 < h.dropLast.length := by simp; omega
    have z : vs.dropLast.isEmpty = false := by
      cases e : vs.dropLast with
      | nil => have := congrArg List.length e; simp at this; omega
      | cons _ _ => rfl
    rw [z]
    have E1 := E.drop
    have hl1 : h.dropLast.length < 2 ^ 9 := by simp; omega
    obtain ⟨xv, e2, hx⟩ := zero_ev E1 hd hl1
    have l1 := E1.len
    obtain ⟨_, _, e3, rfl, h', vs', rfl, E', p', H'⟩ := up_ok (CX := CX) (l := l) (E1.set (i := 0) hlv) (s := 0) (by simpa using hl1) (by simpa using hd) (heap_set H.drop hd)
    refine s_put (v := xv) (e_sub (by walk_at "o") ec e2) ?_
    refine s_sub (v := lv) (d := .list vs.dropLast) (kv := .int 0) (by walk_at "n") (by walk_at "ow") ec (set0 (by omega) (by omega)) ?_
    refine s_expr (mv_chg (y := .list (vs.dropLast.set 0 lv)) (vs := [.int (0 : Nat)]) (by walk_at "ow") (l_cons ec l_nil) (chg_of ft_up e3)) ?_
    refine s_ret (v := xv) (e_fr (fr_freeze (by walk_at "lk") (by walk_at "ow"))) ⟨_, .list vs', .inl rfl, freeze_ow (by walk_at "ow") sh.bo, h', vs', rfl, E', p', H'⟩
end Mine
end
section
namespace Mine
open PySem
theorem src_rv {C : Cx} {ρ : St} {e : Expr} {p p1 p2 p3 : Pos} {bb : Bool} {k : Int} (h : Ev C ρ e bb (.int k)) (hk : 0 ≤ k ∧ k < 2 ^ 20) (hf : okName "range" = true ∧ ρ.ns.lookup ("range" : Str) = some .globalImplicit := by first | walk_at "gl" | exact ⟨rfl, rfl⟩) (hr : okName "reversed" = true ∧ ρ.ns.lookup ("reversed" : Str) = some .globalImplicit := by first | walk_at "gl" | exact ⟨rfl, rfl⟩) :
    Src C ρ (.Call (.Name "reversed" p) [.Call (.Name "range" p1) [e] [] p2] [] p3) false (((List.range k.toNat).reverse).map fun (i : Nat) => V.int (i : Int)) := by
  rw [List.map_reverse]; exact src_rev h hk hf hr
theorem half {n : Nat} : binV .FloorDiv (.int n) (.int 2) = some (.int (n / 2 : Nat)) := by
  show some (V.int (Int.fdiv n 2)) = _
  rw [Int.fdiv_eq_ediv_of_nonneg _ (by decide)]; rfl
theorem heapify_ok {CX : Cx} {l : Nat} {h : List Int} {vs : List V} (E : Evs h vs) (hl : h.length < 2 ^ 9) :
    ∃ v c', runM (CX.lv (l + 2)) (fnAt 7) (.list vs) [] v c' ∧ ∃ h' vs', c' = .list vs' ∧ Evs h' vs' ∧ h'.Perm h ∧ HeapFrom h' 0 := by
  refine run_m (p := "x") (ps := []) (by rfl) rfl fun ρ hfr how sh => ?_
  replace sh : Sh ρ (fnAt 7).ns (some "x") := sh
  have b3 : ρ.fr ("x" : Str) = none := by rw [hfr]; rfl
  have b4 : ρ.ow ("x" : Str) = some (.list vs) := by rw [how]; exact ups_here
  have hlen := E.len
  refine s_put (v := .int (vs.length : Nat)) (e_blt1 (by walk_at "o") (len_v (by omega))) ?_
  rw [hlen]
  refine s_forI (α := Nat) (xs := (List.range (h.length / 2)).reverse) (g := fun i => V.int (i : Int)) (fun ds ρ => (∃ k ws, ρ.ow ("x" : Str) = some (.list ws) ∧ Evs k ws ∧ k.Perm h ∧ HeapFrom k (h.length / 2 - ds.length)) ∧ ρ.fr ("x" : Str) = none ∧ Sh ρ (fnAt 7).ns (some "x"))
    (src_rv (e_bin (by walk_at "n") ec half) (by omega)) ⟨⟨h, vs, by walk_at "ow", E, .refl _, ⟨fun i a b c => by unfold par at c; simp at c; omega⟩⟩, by walk_at "lk", by walk_at "sh"⟩ (fun ds i l' ρ e ⟨⟨k, ws, q1, q2, q3, q4⟩, q5, sh⟩ => ?_)
    fun ρ ⟨⟨k, ws, q1, q2, q3, q4⟩, q5, sh⟩ => ?_
  · have ei : i + ds.length + 1 = h.length / 2 := by
      have h1 := congrArg List.length e
      have h2 : (List.range (h.length / 2)).reverse[ds.length]? = some i := by rw [e, List.getElem?_append_right (Nat.le_refl _), Nat.sub_self]; rfl
      simp at h1
      rw [List.getElem?_reverse (by simp; omega), List.getElem?_range (by simp; omega)] at h2
      simp at h2; omega
    have kl := q3.length_eq
    obtain ⟨_, _, e3, rfl, h', vs', rfl, E', p', H'⟩ := up_ok (CX := CX) (l := l) q2 (s := i) (by omega) (by omega) (by rw [show i + 1 = h.length / 2 - ds.length by omega]; exact q4)
    refine ⟨_, bt_name, s_expr (mv_chg (y := .list ws) (vs := [.int i]) (by walk_at "ow") (l_cons (by walk_at "n") l_nil) (chg_of ft_up e3)) (ex_nil ⟨.inl rfl, ⟨h', vs', by walk_at "ow", E', p'.trans q3, ?_⟩, by walk_at "lk", by walk_at "sh"⟩)⟩
    rw [show h.length / 2 - (ds ++ [i]).length = i by simp; omega]; exact H'
  · refine ex_nil ⟨.none, .list ws, .inr ⟨rfl, rfl⟩, q1, k, ws, rfl, q2, q3, ?_⟩
    rw [show h.length / 2 - (List.range (h.length / 2)).reverse.length = 0 by simp] at q4; exact q4
end Mine
end
end
section
namespace Mine
open PySem
structure Inn (ρ : St) (N : List (Str × NameKind)) (ρi : St) : Prop where
  sh : Sh ρi N none
  fre : ∀ {x : Str} {v : V}, ρ.fr x = some v → (N.lookup x == some .free) = true → ρi.fr x = some v
  new : ∀ {x : Str}, (N.lookup x == some .free) = false → ρi.fr x = none
  ow : ∀ x, ρi.ow x = none
theorem inner_ok {ρ : St} {sc : Scope} : Inn ρ sc.names (ρ.inner sc) :=
  ⟨⟨rfl, rfl, rfl⟩, fun {_ _} h1 h2 => (if_pos (eq_of_beq h2)).trans h1, fun {_} h1 => if_neg (beq_eq_false_iff_ne.mp h1), fun _ => rfl⟩
theorem Sh.inn {ρ : St} {ns : List (Str × NameKind)} {bo : Option Str} {sc : Scope} (h : Sh ρ ns bo) (k : innerOk ns sc = true) : innerOk ρ.ns sc = true := by rw [h.ns]; exact k
section
variable {C : Cx} {ρ : St} {α : Type} {g : α → V} {F : α → List V} {xs : List α} {y : Str} {py : Pos} {emit : Emit} {ifs : List Expr} {gs : List Comprehension} {e c k : Expr} {u v : V} {r b1 b2 : Bool} {xs' vs : List V} {t it elt : Expr} {sc : Scope} {p : Pos}
theorem it_e (h : Ev C ρ e true v) : It C ρ (.inl e) [] [] [v] := ⟨true, rfl, nofun, fun _ => ⟨v, rfl, h⟩⟩
theorem it_if (hc : Tv C ρ c r) (h : r = true → Ev C ρ e true v) : It C ρ (.inl e) [c] [] (if r = true then [v] else []) :=
  ⟨r, ⟨rfl, hc⟩, fun q => if_neg (by rw [q]; nofun), fun q => ⟨v, if_pos q, h q⟩⟩
theorem it_in {ifs' : List Expr} {gs' : List Comprehension} (hs : Src C ρ it false xs') (h : Gen C ρ emit t ifs' gs' xs' vs) : It C ρ emit [] (⟨t, it, ifs', 0⟩ :: gs') vs := ⟨true, rfl, nofun, fun _ => ⟨xs', hs, h⟩⟩
theorem n_lc1 (hs : Src C ρ it false (xs.map g)) (hit : ∀ ρi, Inn ρ sc.names ρi → ∀ a ∈ xs, It C (ρi.set y (g a)) (.inl elt) ifs gs (F a)) (hl : (xs.map F).flatten.length < 2 ^ 20)
    (hi : innerOk ρ.ns sc = true := by first | walk_at "in" | rfl) (hy : (sc.names.lookup y == some .free) = false := by rfl) (hm : (sc.names.lookup y == some .local || sc.names.lookup y == some .cell) = true := by rfl) (ha : gs.all (fun g => g.is_async == 0) = true := by rfl) :
    New C ρ (.ListComp elt (⟨.Name y py, it, ifs, 0⟩ :: gs) sc p) (.list (xs.map F).flatten) :=
  have I := inner_ok (ρ := ρ) (sc := sc)
  n_lc hs (gen_ok (I.new hy) (I.ow y) (I.sh.mine hm) I.sh.bon (hit _ I)) hl hi ha
end
section
variable {ρ : St} {ns : List (Str × NameKind)} {bo : Option Str} {x y : Str} {v : V}
end
end Mine
end
open Mine PySem
local macro_rules | `(tactic| walk_at "in") => `(tactic| (refine' Sh.inn ?h ?k; (case h => walk_at "sh"); (case k => rfl)))
section
namespace Mine
open PySem
noncomputable def EA (C : Cx) (ρ : St) (e : Expr) : Prop := ∃ z, Ev C ρ e true (.flt z)
section
variable {C : Cx} {ρ : St} {x : Str} {l r : Expr} {p : Pos} {z : UInt64} {c : Int}
theorem EA.nm (h : ρ.fr x = some (.flt z)) (ok : okName x = true := by rfl) : EA C ρ (.Name x p) := ⟨z, e_fr h ok⟩
theorem EA.k {kd : Nat} : EA C ρ (.Constant (.float z) kd p) := ⟨z, ec⟩
theorem EA.add (h1 : EA C ρ l) (h2 : EA C ρ r) : EA C ρ (.BinOp l .Add r p) := let ⟨_, e1⟩ := h1; let ⟨_, e2⟩ := h2; ⟨_, e_bin e1 e2 rfl⟩
theorem EA.sub (h1 : EA C ρ l) (h2 : EA C ρ r) : EA C ρ (.BinOp l .Sub r p) := let ⟨_, e1⟩ := h1; let ⟨_, e2⟩ := h2; ⟨_, e_bin e1 e2 rfl⟩
theorem EA.div (h1 : EA C ρ l) (h2 : EF C ρ r c) (hc : c ≠ 0) : EA C ρ (.BinOp l .Div r p) := let ⟨_, e1⟩ := h1; let ⟨_, e2, f2⟩ := h2; ⟨_, e_bin e1 e2 (div_flt f2 hc)⟩
theorem EA.mod (h1 : EA C ρ l) (h2 : EF C ρ r c) (hc : c ≠ 0) : EA C ρ (.BinOp l .Mod r p) := let ⟨_, e1⟩ := h1; let ⟨y, e2, f2⟩ := h2; ⟨_, e_bin e1 e2 (by
  show (if Float64.isZero y = true then none else _) = _
  rw [f2.isZero, if_neg (by simpa using hc)])⟩
theorem EF.a (h : EF C ρ l c) : EA C ρ l := let ⟨_, e, _⟩ := h; ⟨_, e⟩
end
structure Mm (R G B M m : Int) : Prop where
  hmax : M = max (max R G) B
  hmin : m = min (min R G) B
  m0 : 0 ≤ m
  top : M ≤ 2 ^ 20
theorem Mm.le {R G B M m : Int} (t : Mm R G B M m) : m ≤ M := by
  have h1 := t.hmax
  have h2 := t.hmin
  omega
theorem Mm.off {R G B M m : Int} (t : Mm R G B M m) : (M - R).natAbs < 2 ^ 53 ∧ (M - G).natAbs < 2 ^ 53 ∧ (M - B).natAbs < 2 ^ 53 ∧ (M + m).natAbs < 2 ^ 53 ∧ (M - m).natAbs < 2 ^ 53 := by
  have h1 := t.hmax
  have h2 := t.hmin
  have h3 := t.m0
  have h4 := t.top
  omega
section
variable {C : Cx} {ρ : St} {P : Fl → St → Prop} {rest : List Stmt} {R G M : Int} {r g vM vx vy vz : UInt64}
theorem hue_any (i : Nat) (sh : Sh ρ (fnAt i).ns none) (hm : (fnAt i).ns.lookup ("h" : Str) = some .local) (hr : FV r R) (hg : FV g G) (fM : FV vM M)
    (lr : ρ.fr ("r" : Str) = some (.flt r)) (lg : ρ.fr ("g" : Str) = some (.flt g)) (lM : ρ.fr ("maxc" : Str) = some (.flt vM)) (lx : ρ.fr ("rc" : Str) = some (.flt vx)) (ly : ρ.fr ("gc" : Str) = some (.flt vy)) (lz : ρ.fr ("bc" : Str) = some (.flt vz))
    {p0 p1 p2 p3 p4 p5 p6 p7 p8 p9 p10 p11 p12 p13 p14 p15 p16 p17 p18 p19 p20 p21 p22 p23 p24 q1 q2 : Pos} {k1 k2 : Nat} (k : ∀ w, Ex C (ρ.set "h" (.flt w)) rest P) :
    Ex C ρ (.If (.Compare (.Name "r" p0) [.Eq] [.Name "maxc" p1] p2) [.Assign [.Name "h" p3] (.BinOp (.Name "bc" p4) .Sub (.Name "gc" p5) p6) p7]
      [.If (.Compare (.Name "g" p8) [.Eq] [.Name "maxc" p9] p10) [.Assign [.Name "h" p11] (.BinOp (.BinOp (.Constant (.float 4611686018427387904) k1 p12) .Add (.Name "rc" p13) p14) .Sub (.Name "bc" p15) p16) p17]
        [.Assign [.Name "h" p18] (.BinOp (.BinOp (.Constant (.float 4616189618054758400) k2 p19) .Add (.Name "gc" p20) p21) .Sub (.Name "rc" p22) p23) p24] q1] q2 :: rest) P := by
  have hmine : ρ.mine "h" = true := sh.mine (by rw [hm]; rfl)
  refine s_if (t_eq (a := R) (c := M) (EF.nm lr hr) (EF.nm lM fM)) ?_
  refine s_brA (y := "h") ?a k
  cases decide (R = M) with
  | true => exact s_fA (EA.sub (EA.nm lz) (EA.nm ly)) (fun w => ex_nil ⟨rfl, w, rfl⟩) rfl hmine sh.bon
  | false =>
    refine s_if (t_eq (a := G) (c := M) (EF.nm lg hg) (EF.nm lM fM)) ?_
    cases decide (G = M) with
    | true => exact s_fA (EA.sub (EA.add EA.k (EA.nm lx)) (EA.nm lz)) (fun w => ex_nil (ex_nil ⟨rfl, w, rfl⟩)) rfl hmine sh.bon
    | false => exact s_fA (EA.sub (EA.add EA.k (EA.nm ly)) (EA.nm lx)) (fun w => ex_nil (ex_nil ⟨rfl, w, rfl⟩)) rfl hmine sh.bon
end
set_option maxHeartbeats 4000000 in
theorem hsv_any {C : Cx} {r g b : UInt64} {R G B M m : Int} (T : Mm R G B M m) (hr : FV r R) (hg : FV g G) (hb : FV b B) : ∃ h s v : V, runP C (fnAt 2) [.flt r, .flt g, .flt b] (.tup [h, s, v]) ∧ ∃ z, v = .flt z ∧ FV z M := by
  suffices h : ∃ w, runP C (fnAt 2) [.flt r, .flt g, .flt b] w ∧ ∃ h s v, w = .tup [h, s, v] ∧ ∃ z, v = .flt z ∧ FV z M by
    obtain ⟨w, e, h, s, v, rfl, k⟩ := h
    exact ⟨h, s, v, e, k⟩
  obtain ⟨o1, o2, o3, o4, o5⟩ := T.off
  have hle := T.le
  have hM0 := T.m0
  refine run_q (by rfl) fun ρ hfr how sh => ?_
  replace sh : Sh ρ (fnAt 2).ns none := sh
  have n0 : ∀ x, ρ.ow x = none := fun x => by rw [how]
  have a1 : ρ.fr ("r" : Str) = some (.flt r) := by rw [hfr]; rfl
  have a2 : ρ.fr ("g" : Str) = some (.flt g) := by rw [hfr]; rfl
  have a3 : ρ.fr ("b" : Str) = some (.flt b) := by rw [hfr]; rfl
  have c1 := n0 "r"
  refine s_put (e_blt (vs := [.flt r, .flt g, .flt b]) (l_cons (by walk_at "n") (l_cons (by walk_at "n") (l_cons (by walk_at "n") l_nil))) blt_max) ?_
  have fM : FV (maxF (maxF r g) b) M := T.hmax ▸ maxF_fv (maxF_fv hr hg) hb
  have fm : FV (minF (minF r g) b) m := T.hmin ▸ minF_fv (minF_fv hr hg) hb
  refine s_put (e_blt (vs := [.flt r, .flt g, .flt b]) (l_cons (by walk_at "n") (l_cons (by walk_at "n") (l_cons (by walk_at "n") l_nil))) blt_min) ?_
  generalize maxF (maxF r g) b = vM at *
  generalize minF (minF r g) b = vm at *
  refine s_f (EF.sub (a := M) (c := m) (by walk_at "nm") (by walk_at "nm") o5) fun vr fr => ?_
  refine s_f (c := M) (by walk_at "nm") fun vv fv => ?_
  refine s_if (t_eq (a := m) (c := M) (by walk_at "nm") (by walk_at "nm")) ?_
  by_cases hmM : m = M
  · rw [decide_eq_true hmM]
    exact s_ret (e_tup (l_cons ec (l_cons ec (l_cons (e_fr (fr_freeze (by walk_at "lk") (ow_gone))) l_nil)))) ⟨_, rfl, _, _, _, rfl, vv, rfl, fv⟩
  rw [decide_eq_false hmM]
  refine ex_nil ?_
  have hne : M - m ≠ 0 := by omega
  refine s_fA (EA.div (EF.a (c := M - m) (by walk_at "nm")) (c := M) (by walk_at "nm") (by omega)) fun vs => ?_
  refine s_fA (EA.div (EF.a (EF.sub (a := M) (c := R) (by walk_at "nm") (by walk_at "nm") o1)) (by walk_at "nm") hne) fun vx => ?_
  refine s_fA (EA.div (EF.a (EF.sub (a := M) (c := G) (by walk_at "nm") (by walk_at "nm") o2)) (by walk_at "nm") hne) fun vy => ?_
  refine s_fA (EA.div (EF.a (EF.sub (a := M) (c := B) (by walk_at "nm") (by walk_at "nm") o3)) (by walk_at "nm") hne) fun vz => ?_
  refine hue_any 2 (by walk_at "sh") (by rfl) hr hg fM (by walk_at "lk") (by walk_at "lk") (by walk_at "lk") (by walk_at "lk") (by walk_at "lk") (by walk_at "lk") fun vh => ?_
  refine s_fA (EA.mod (EA.div (EA.nm fr_here) (EF.k fv6) (by decide)) (EF.k fv1) (by decide)) fun vi => ?_
  exact s_ret (e_tup (l_cons (by walk_at "n") (l_cons (by walk_at "n") (l_cons (by walk_at "n") l_nil)))) ⟨_, rfl, _, _, _, rfl, vv, rfl, fv⟩
set_option maxHeartbeats 4000000 in
theorem hls_any {C : Cx} {r g b : UInt64} {R G B M m q : Int} (T : Mm R G B M m) (hq : M + m = 2 * q) (hr : FV r R) (hg : FV g G) (hb : FV b B) : ∃ h l s : V, runP C (fnAt 1) [.flt r, .flt g, .flt b] (.tup [h, l, s]) ∧ (∃ z, l = .flt z ∧ FV z q) ∧ (m = M → h = .flt 0) := by
  suffices h : ∃ w, runP C (fnAt 1) [.flt r, .flt g, .flt b] w ∧ ∃ h l s, w = .tup [h, l, s] ∧ (∃ z, l = .flt z ∧ FV z q) ∧ (m = M → h = .flt 0) by
    obtain ⟨w, e, h, s, v, rfl, k⟩ := h
    exact ⟨h, s, v, e, k⟩
  obtain ⟨o1, o2, o3, o4, o5⟩ := T.off
  have hle := T.le
  have hM0 := T.m0
  have ht := T.top
  refine run_q (by rfl) fun ρ hfr how sh => ?_
  replace sh : Sh ρ (fnAt 1).ns none := sh
  have n0 : ∀ x, ρ.ow x = none := fun x => by rw [how]
  have a1 : ρ.fr ("r" : Str) = some (.flt r) := by rw [hfr]; rfl
  have a2 : ρ.fr ("g" : Str) = some (.flt g) := by rw [hfr]; rfl
  have a3 : ρ.fr ("b" : Str) = some (.flt b) := by rw [hfr]; rfl
  refine s_put (e_blt (vs := [.flt r, .flt g, .flt b]) (l_cons (by walk_at "n") (l_cons (by walk_at "n") (l_cons (by walk_at "n") l_nil))) blt_max) ?_
  have fM : FV (maxF (maxF r g) b) M := T.hmax ▸ maxF_fv (maxF_fv hr hg) hb
  have fm : FV (minF (minF r g) b) m := T.hmin ▸ minF_fv (minF_fv hr hg) hb
  refine s_put (e_blt (vs := [.flt r, .flt g, .flt b]) (l_cons (by walk_at "n") (l_cons (by walk_at "n") (l_cons (by walk_at "n") l_nil))) blt_min) ?_
  generalize maxF (maxF r g) b = vM at *
  generalize minF (minF r g) b = vm at *
  have b1 : (M + m) * 2 ^ 20 = q * (2 * 2 ^ 20) := by rw [hq]; omega
  have b2 : q.natAbs < 2 ^ 53 := by omega
  have b5 : (2 * 2 ^ 20 - M).natAbs < 2 ^ 53 := by omega
  have b6 : (2 * 2 ^ 20 - M - m).natAbs < 2 ^ 53 := by omega
  refine s_f (EF.add (a := M) (c := m) (by walk_at "nm") (by walk_at "nm") o4) fun vS fS => ?_
  refine s_f (EF.sub (a := M) (c := m) (by walk_at "nm") (by walk_at "nm") o5) fun vr fr => ?_
  refine s_f (EF.div q (a := M + m) (by walk_at "nm") (EF.k fv2) (by decide) b1 b2) fun vl fl => ?_
  refine s_if (t_eq (a := m) (c := M) (by walk_at "nm") (by walk_at "nm")) ?_
  by_cases hmM : m = M
  · rw [decide_eq_true hmM]
    exact s_ret (e_tup (l_cons ec (l_cons (e_fr (fr_freeze (by walk_at "lk") ow_gone)) (l_cons ec l_nil)))) ⟨_, rfl, _, _, _, rfl, ⟨vl, rfl, fl⟩, fun _ => rfl⟩
  rw [decide_eq_false hmM]
  refine ex_nil ?_
  have b3 : M + m ≠ 0 := by omega
  have b4 : 2 * 2 ^ 20 - M - m ≠ 0 := by omega
  have hne : M - m ≠ 0 := by omega
  refine s_if (t_le (a := q) (c := 2 ^ 19) (by walk_at "nm") (EF.k fvh)) ?_
  refine s_brA (y := "s") ?a fun vs => ?_
  case a =>
    split
    · exact s_fA (EF.divA (by walk_at "nm") (by walk_at "nm") b3) (fun _ => ex_nil ⟨rfl, _, rfl⟩)
    · exact s_fA (EF.divA (by walk_at "nm") (EF.sub (EF.sub (EF.k fv2) (by walk_at "nm") b5) (by walk_at "nm") b6) b4) (fun _ => ex_nil ⟨rfl, _, rfl⟩)
  refine s_fA (EA.div (EF.a (EF.sub (a := M) (c := R) (by walk_at "nm") (by walk_at "nm") o1)) (by walk_at "nm") hne) fun vx => ?_
  refine s_fA (EA.div (EF.a (EF.sub (a := M) (c := G) (by walk_at "nm") (by walk_at "nm") o2)) (by walk_at "nm") hne) fun vy => ?_
  refine s_fA (EA.div (EF.a (EF.sub (a := M) (c := B) (by walk_at "nm") (by walk_at "nm") o3)) (by walk_at "nm") hne) fun vz => ?_
  refine hue_any 1 (by walk_at "sh") (by rfl) hr hg fM (by walk_at "lk") (by walk_at "lk") (by walk_at "lk") (by walk_at "lk") (by walk_at "lk") (by walk_at "lk") fun vh => ?_
  refine s_fA (EA.mod (EA.div (EA.nm fr_here) (EF.k fv6) (by decide)) (EF.k fv1) (by decide)) fun vi => ?_
  exact s_ret (e_tup (l_cons (by walk_at "n") (l_cons (by walk_at "n") (l_cons (by walk_at "n") l_nil)))) ⟨_, rfl, _, _, _, rfl, ⟨vl, rfl, fl⟩, fun h => absurd h hmM⟩
end Mine
end
section
namespace Mine
open PySem
theorem rgb_grey {C : Cx} {h s v : UInt64} (fs : FV s 0) : runP C (fnAt 3) [.flt h, .flt s, .flt v] (.tup [.flt v, .flt v, .flt v]) := by
  refine run_f (by rfl) fun ρ hfr how sh => ?_
  replace sh : Sh ρ (fnAt 3).ns none := sh
  have a1 : ρ.fr ("s" : Str) = some (.flt s) := by rw [hfr]; rfl
  have a2 : ρ.fr ("v" : Str) = some (.flt v) := by rw [hfr]; rfl
  have c2 : ρ.ow ("v" : Str) = none := by rw [how]
  refine s_if (t_eq (a := 0) (c := 0) (by walk_at "nm") (EF.k fv0)) ?_
  rw [decide_eq_true rfl]
  exact s_ret (e_tup (l_cons (by walk_at "n") (l_cons (by walk_at "n") (l_cons (by walk_at "n") l_nil)))) rfl
theorem frac64 {i : Int} (h : 0 ≤ i ∧ i < 64) : ∃ z, binV .Div (.int i) (.int 64) = some (.flt z) ∧ FV z (i * 2 ^ 14) := by
  refine ⟨Float64.ofFrac (decide (i < 0) != decide ((64 : Int) < 0)) i.natAbs (64 : Int).natAbs, if_neg (by omega), fv_frac _ (by decide) (by omega) (by omega)⟩
theorem frac8 {i : Int} (h : 0 ≤ i ∧ i ≤ 8) : ∃ z, binV .Div (.int i) (.int 8) = some (.flt z) ∧ FV z (i * 2 ^ 17) := by
  refine ⟨Float64.ofFrac (decide (i < 0) != decide ((8 : Int) < 0)) i.natAbs (8 : Int).natAbs, if_neg (by omega), fv_frac _ (by decide) (by omega) (by omega)⟩
theorem mod_int {i j : Int} (h : j ≠ 0) : binV .Mod (.int i) (.int j) = some (.int (Int.fmod i j)) := if_neg h
theorem fmod_bd {x k : Int} (hk : 0 < k) : 0 ≤ Int.fmod x k ∧ Int.fmod x k < k := by
  rw [Int.fmod_eq_emod_of_nonneg x (Int.le_of_lt hk)]
  exact ⟨Int.emod_nonneg _ (by omega), Int.emod_lt_of_pos _ hk⟩
structure Lt where
  p : Int
  s : Int
  v : Int
noncomputable def Lt.u (t : Lt) : Int × Int × Int := Uf (3 * t.p / 32) (3 * t.p % 32)
structure Lt.Ok (t : Lt) : Prop where
  p : 0 ≤ t.p ∧ t.p < 64
  s : 0 ≤ t.s ∧ t.s ≤ 8
  v : 1 ≤ t.v ∧ t.v ≤ 8
noncomputable def LtV (t : Lt) (w : V) : Prop := ∃ r g b : UInt64, w = .tup [.flt r, .flt g, .flt b] ∧ FV r (part t.v t.s t.u.1) ∧ FV g (part t.v t.s t.u.2.1) ∧ FV b (part t.v t.s t.u.2.2)
theorem part_0 {v u : Int} : part v 0 u = v * 2 ^ 17 := by unfold part; omega
theorem light_call {CX : Cx} {l : Nat} {t : Lt} (ht : t.Ok) {h s v : UInt64} (fh : FV h (t.p * 2 ^ 14)) (fs : FV s (t.s * 2 ^ 17)) (fv : FV v (t.v * 2 ^ 17)) : ∃ w, (CX.lv (l + 1)).pure "hsv_to_rgb" [.flt h, .flt s, .flt v] w ∧ LtV t w := by
  have hp := ht.p
  have hs := ht.s
  by_cases h0 : t.s = 0
  · refine ⟨_, pure_of ft_rgb (rgb_grey (C := CX.lv l) (by rw [h0, Int.zero_mul] at fs; exact fs)), v, v, v, rfl, ?_⟩
    rw [h0, part_0, part_0, part_0]
    exact ⟨fv, fv, fv⟩
  · obtain ⟨r, g, b, e, f1, f2, f3⟩ := rgb_ok (C := CX.lv l) (i := 3 * t.p / 32) (m := 3 * t.p % 32) (by omega) (by omega) (by omega) ht.v (c := t.p * 2 ^ 14) (by omega) fh fs fv
    exact ⟨_, pure_of ft_rgb e, r, g, b, rfl, f1, f2, f3⟩
theorem every_map (n k : Nat) (xs : List Int) : ∃ ys : List Int, every n k (xs.map V.int) = ys.map V.int := by
  unfold every
  simp only [List.length_map]
  generalize sliceRange _ _ _ = R
  refine ⟨R.filterMap (xs[·]?), ?_⟩
  rw [List.map_filterMap]
  congr 1
  funext i
  simp
structure Lights (m : Nat) (t : Nat → Lt) (W : Nat → V) : Prop where
  ok : ∀ k, k < m → (t k).Ok ∧ LtV (t k) (W k)
theorem Lights.snoc {m : Nat} {t : Nat → Lt} {W : Nat → V} (H : Lights m t W) {x : Lt} {w : V} (hx : x.Ok) (hw : LtV x w) : ∃ t' W', Lights (m + 1) t' W' ∧ (List.range (m + 1)).map W' = (List.range m).map W ++ [w] := by
  refine ⟨fun k => if k < m then t k else x, fun k => if k < m then W k else w, ⟨fun k hk => ?_⟩, ?_⟩
  · by_cases h : k < m
    · simp only [if_pos h]; exact H.ok k h
    · simp only [if_neg h]; exact ⟨hx, hw⟩
  · rw [List.range_succ, List.map_append, List.map_singleton, if_neg (Nat.lt_irrefl m)]
    congr 1
    exact List.map_congr_left fun k hk => if_pos (List.mem_range.mp hk)
set_option maxHeartbeats 2000000 in
theorem lights_ok {CX : Cx} {l : Nat} {is : List Int} (hl : is.length < 2 ^ 19) : ∃ w, runP (CX.lv (l + 1)) (fnAt 15) [.list (is.map .int)] w ∧ ∃ m t W, (m = 4 ∨ m = 5) ∧ w = .list ((List.range m).map W) ∧ Lights m t W := by
  refine run_q (by rfl) fun ρ hfr how sh => ?_
  replace sh : Sh ρ (fnAt 15).ns none := sh
  have b1 : ρ.fr ("script" : Str) = some (.list (is.map .int)) := by rw [hfr]; rfl
  refine s_put (v := .tup [.int 4293, .int 3412, .int 3621, .int 2170, .int 1512]) (e_tup (vs := [.int 4293, .int 3412, .int 3621, .int 2170, .int 1512]) (l_cons ec (l_cons ec (l_cons ec (l_cons ec (l_cons ec l_nil)))))) ?_
  have hz : ∃ m : Nat, (m = 4 ∨ m = 5) ∧ (if decide (((is.map V.int).length : Int) > 1) = true then (V.int 5) else V.int 4) = V.int (m : Nat) := by
    by_cases h : ((is.map V.int).length : Int) > 1
    · exact ⟨5, .inr rfl, if_pos (decide_eq_true h)⟩
    · exact ⟨4, .inl rfl, if_neg (by simpa using h)⟩
  obtain ⟨m, hm, em⟩ := hz
  refine s_put (v := .int m) (e_ifx (k := decide (((is.map V.int).length : Int) > 1)) (t_cmp (op := .Gt) (e_blt1 (by walk_at "n") (len_v (by simp; omega))) ec c_gtI) ?_) ?_
  · rw [← em]
    cases decide (((is.map V.int).length : Int) > 1) with
    | true => exact ec
    | false => exact ec
  refine s_own (v := .list []) (n_list l_nil) ?_
  refine s_forI (α := Nat) (xs := List.range m) (g := fun i => V.int (i : Int)) (fun ds ρ => (∃ t W, ρ.ow ("lights" : Str) = some (.list ((List.range ds.length).map W)) ∧ Lights ds.length t W) ∧
      ρ.fr ("script" : Str) = some (.list (is.map .int)) ∧ ρ.fr ("seeds" : Str) = some (.tup [.int 4293, .int 3412, .int 3621, .int 2170, .int 1512]) ∧ ρ.fr ("size" : Str) = some (.int m) ∧ Sh ρ (fnAt 15).ns none)
    (src_range (k := m) (by walk_at "n") (by omega)) ⟨⟨fun _ => ⟨0, 0, 0⟩, fun _ => .none, ow_here, ⟨fun k hk => absurd hk (Nat.not_lt_zero k)⟩⟩, by walk_at "lk", by walk_at "lk", by walk_at "lk", by walk_at "sh"⟩ (fun ds k l' ρ e ⟨⟨t, W, q1, q2⟩, q3, q4, q5, q6⟩ => ?_)
    fun ρ ⟨⟨t, W, q1, q2⟩, q3, q4, q5, q6⟩ => ?_
  · have hk : k < m := by
      have : k ∈ List.range m := by rw [e]; simp
      simpa using this
    have hd : ds.length < m := by
      have := congrArg List.length e
      simp at this; omega
    obtain ⟨ys, hys⟩ := every_map m k is
    have hseed : ∃ c : Int, subV (.tup [.int 4293, .int 3412, .int 3621, .int 2170, .int 1512]) (.int k) = some (.int c) := by
      match k, (show k < 5 by omega) with
      | 0, _ => exact ⟨_, rfl⟩
      | 1, _ => exact ⟨_, rfl⟩
      | 2, _ => exact ⟨_, rfl⟩
      | 3, _ => exact ⟨_, rfl⟩
      | 4, _ => exact ⟨_, rfl⟩
    obtain ⟨c, hseed⟩ := hseed
    have hsum : Blt "sum" [.list (every (m : Int).toNat (k : Int).toNat (is.map .int))] (.int ys.sum) := blt_sum (by rw [show every (m : Int).toNat (k : Int).toNat (is.map V.int) = ys.map .int from hys]; exact ints_mapV ys)
    refine ⟨_, bt_name, ?_⟩
    refine s_put (e_bin (e_blt1 (e_slice (by walk_at "n") (by walk_at "n") (by walk_at "n") ⟨⟨by omega, by omega, by omega, by omega⟩, by simp; omega⟩) hsum) (e_sub (by walk_at "n") (by walk_at "n") hseed) rfl) ?_
    generalize ys.sum + c = N
    let x : Lt := ⟨Int.fmod N 64, Int.fmod (Int.fdiv N 64) 9, Int.fmod (Int.fdiv N 576) 8 + 1⟩
    have m9 := fmod_bd (x := Int.fdiv N 64) (k := 9) (by decide)
    have m8 := fmod_bd (x := Int.fdiv N 576) (k := 8) (by decide)
    have hx : x.Ok := ⟨fmod_bd (by decide), by show 0 ≤ Int.fmod (Int.fdiv N 64) 9 ∧ Int.fmod (Int.fdiv N 64) 9 ≤ 8; omega, by show 1 ≤ Int.fmod (Int.fdiv N 576) 8 + 1 ∧ Int.fmod (Int.fdiv N 576) 8 + 1 ≤ 8; omega⟩
    obtain ⟨zs, es, fs⟩ := frac8 hx.s
    obtain ⟨zv, ev, fv⟩ := frac8 (i := x.v) (by have := hx.v; omega)
    obtain ⟨zp, ep, fp⟩ := frac64 hx.p
    obtain ⟨w, ew, hw⟩ := light_call (CX := CX) (l := l) hx fp fs fv
    refine s_put (v := .flt zs) (e_bin (e_bin (e_bin (v := .int (Int.fdiv N 64)) (by walk_at "n") ec rfl) ec (mod_int (by decide))) ec es) ?_
    refine s_put (v := .flt zv) (e_bin (e_bin (e_bin (e_bin (v := .int (Int.fdiv N 576)) (by walk_at "n") ec rfl) ec (mod_int (by decide))) ec rfl) ec ev) ?_
    refine s_expr (mv_append (xs := (List.range ds.length).map W) (v := w) (by walk_at "ow") (e_pure (vs := [.flt zp, .flt zs, .flt zv]) (l_cons (e_bin (e_bin (v := .int (Int.fmod N 64)) (by walk_at "n") ec (mod_int (by decide))) ec ep) (l_cons (by walk_at "n") (l_cons (by walk_at "n") l_nil))) ew) (by simp; omega)) ?_
    obtain ⟨t', W', h1, h2⟩ := q2.snoc hx hw
    have el : (ds ++ [k]).length = ds.length + 1 := by simp
    exact ex_nil ⟨.inl rfl, ⟨t', W', by rw [el, h2]; walk_at "ow", by rw [el]; exact h1⟩, by walk_at "lk", by walk_at "lk", by walk_at "lk", by walk_at "sh"⟩
  · rw [List.length_range] at q1 q2
    exact s_ret (e_fr (fr_frozen q1 q6.bon)) ⟨_, rfl, m, t, W, hm, rfl, q2⟩
end Mine
end
section
namespace Mine
open PySem
theorem blt_intI {i : Int} : Blt "int" [.int i] (.int i) := blt_one (fun _ _ G => G.int) (.inr ⟨_, rfl⟩) fun C c A u hh k r => by
  obtain ⟨t, e⟩ := r.toInt
  rw [e]
  exact gives_le k fun Q E hQ => call_int_int (hQ _ c.s.heap c.s.toks (Le.rfl' _) (Rep.int' _ _))
structure P3 where
  x : Int
  y : Int
  z : Int
noncomputable def P3.add (p q : P3) : P3 := ⟨p.x + q.x, p.y + q.y, p.z + q.z⟩
noncomputable def pv (p : P3) : V := .list [.int p.x, .int p.y, .int p.z]
noncomputable def cr (p q : P3) : Int := (p.x - p.z) * (q.y - q.z) - (p.y - p.z) * (q.x - q.z)
structure P3.Small (p : P3) : Prop where
  x : p.x.natAbs < 2 ^ 30
  y : p.y.natAbs < 2 ^ 30
  z : p.z.natAbs < 2 ^ 30
theorem flat1 {α : Type} {f : α → V} : ∀ {l : List α}, (l.map fun a => [f a]).flatten = l.map f
  | [] => rfl
  | a :: l => by rw [List.map_cons, List.flatten_cons, flat1 (l := l)]; rfl
theorem n_lcm {C : Cx} {ρ : St} {α : Type} {g F : α → V} {xs : List α} {y : Str} {py : Pos} {elt it : Expr} {sc : Scope} {p : Pos} (hs : Src C ρ it false (xs.map g)) (hit : ∀ ρi, Inn ρ sc.names ρi → ∀ a ∈ xs, Ev C (ρi.set y (g a)) elt true (F a)) (hl : (xs.map F).length < 2 ^ 20)
    (hi : innerOk ρ.ns sc = true := by first | walk_at "in" | rfl) (hy : (sc.names.lookup y == some .free) = false := by rfl) (hm : (sc.names.lookup y == some .local || sc.names.lookup y == some .cell) = true := by rfl) : New C ρ (.ListComp elt [⟨.Name y py, it, [], 0⟩] sc p) (.list (xs.map F)) := by
  have := n_lc1 (F := fun a => [F a]) (py := py) (p := p) hs (fun ρi I a ha => it_e (hit ρi I a ha)) (by rw [flat1]; exact hl) hi hy hm
  rwa [flat1] at this
structure Pt (v : V) (a : Int) : Prop where
  n : Nv v (256 * a)
  b : a.natAbs < 2 ^ 30
theorem Pt.whole {v : V} {a : Int} (h : Pt v a) : ∃ w, binV .Mult v (.int 4096) = some w ∧ Blt "int" [w] (.int a) := by
  obtain ⟨⟨e, h0⟩ | ⟨x, e, f⟩, hb⟩ := h
  · exact ⟨.int 0, by rw [e]; rfl, by rw [show a = 0 by omega]; exact blt_intI⟩
  · have hi := int_fv (f.mul (256 * a * 4096) (fv_ofInt (n := 4096) (by decide)) (by omega) (by omega))
    rw [show (256 * a * 4096).tdiv (2 ^ 20) = a by rw [show 256 * a * 4096 = a * 2 ^ 20 by omega]; exact Int.mul_tdiv_cancel a (by decide)] at hi
    exact ⟨_, by rw [e]; exact (if_pos (by decide) : (if (4096 : Int).natAbs < 2 ^ 33 then some (V.flt (Float64.mul x (Float64.ofInt 4096))) else none) = _), hi⟩
theorem whole_ok {C : Cx} {v1 v2 v3 : V} {p : P3} (h1 : Pt v1 p.x) (h2 : Pt v2 p.y) (h3 : Pt v3 p.z) : runP C (fnAt 17) [.tup [v1, v2, v3]] (pv p) := by
  refine run_f (by rfl) fun ρ hfr how sh => ?_
  replace sh : Sh ρ (fnAt 17).ns none := sh
  have a1 : ρ.fr ("parts" : Str) = some (.tup [v1, v2, v3]) := by rw [hfr]; rfl
  have c1 : ρ.ow ("parts" : Str) = none := by rw [how]
  refine s_ret (v := pv p) (n_lcm (α := V × Int) (g := Prod.fst) (F := fun q => V.int q.2) (xs := [(v1, p.x), (v2, p.y), (v3, p.z)]) (src_name (v := .tup [v1, v2, v3]) (by walk_at "lk") (.inr rfl)) (fun ρi I q hq => ?_) (by simp)).ev rfl
  have shi := I.sh
  have hp : Pt q.1 q.2 := by
    simp only [List.mem_cons, List.not_mem_nil, or_false] at hq
    rcases hq with rfl | rfl | rfl
    · exact h1
    · exact h2
    · exact h3
  obtain ⟨w, e1, e2⟩ := hp.whole
  exact e_blt1 (e_bin (by walk_at "n") ec e1) e2
theorem mul_int' {i j : Int} (h : i.natAbs < 2 ^ 62) : binV .Mult (.int i) (.int j) = some (.int (i * j)) := if_pos h
theorem cross_ok {C : Cx} {p q : P3} (hp : p.Small) : runP C (fnAt 19) [pv p, pv q] (.int (cr p q)) := by
  have x1 := hp.x
  have x2 := hp.y
  have x3 := hp.z
  refine run_f (by rfl) fun ρ hfr how sh => ?_
  replace sh : Sh ρ (fnAt 19).ns none := sh
  have a1 : ρ.fr ("one" : Str) = some (.list [.int p.x, .int p.y, .int p.z]) := by rw [hfr]; rfl
  have a2 : ρ.fr ("other" : Str) = some (.list [.int q.x, .int q.y, .int q.z]) := by rw [hfr]; rfl
  have c1 : ρ.ow ("one" : Str) = none := by rw [how]
  have c2 : ρ.ow ("other" : Str) = none := by rw [how]
  refine s_put (e_bin (e_bin (v := .int (p.x - p.z)) (e_sub (by walk_at "n") ec rfl) (e_sub (by walk_at "n") ec rfl) rfl) (e_bin (v := .int (q.y - q.z)) (e_sub (by walk_at "n") ec rfl) (e_sub (by walk_at "n") ec rfl) rfl) (mul_int' (by omega))) ?_
  exact s_ret (e_bin (e_fr (fr_freeze fr_here ow_gone)) (e_bin (e_bin (v := .int (p.y - p.z)) (e_sub (by walk_at "n") ec rfl) (e_sub (by walk_at "n") ec rfl) rfl) (e_bin (v := .int (q.x - q.z)) (e_sub (by walk_at "n") ec rfl) (e_sub (by walk_at "n") ec rfl) rfl) (mul_int' (by omega))) rfl) rfl
noncomputable def mixL (ws : List P3) : List P3 := ws.foldl (fun M w => M ++ M.map fun p => p.add w) [⟨0, 0, 0⟩]
theorem mixL_snoc {ws : List P3} {w : P3} : mixL (ws ++ [w]) = mixL ws ++ (mixL ws).map fun p => p.add w := by unfold mixL; rw [List.foldl_append]; rfl
theorem mixL_go (ws : List P3) : ∀ M : List P3, (ws.foldl (fun M w => M ++ M.map fun p => p.add w) M).length = M.length * 2 ^ ws.length := by
  induction ws with
  | nil => intro M; simp
  | cons w ws ih =>
    intro M
    rw [List.foldl_cons, ih, List.length_append, List.length_map, List.length_cons, Nat.pow_succ]
    rw [← Nat.two_mul, Nat.mul_comm 2 M.length, Nat.mul_assoc, Nat.mul_comm 2]
theorem mixL_len (ws : List P3) : (mixL ws).length = 2 ^ ws.length := (mixL_go ws _).trans (by simp)
theorem mixL_lt {ws : List P3} (h : ws.length ≤ 5) : (mixL ws).length ≤ 32 := by
  rw [mixL_len]
  exact Nat.le_trans (Nat.pow_le_pow_right (by decide) h) (by decide)
set_option maxHeartbeats 1000000 in
theorem mixes_ok {C : Cx} {ws : List P3} (hl : ws.length ≤ 5) : runP C (fnAt 18) [.list (ws.map pv)] (.list ((mixL ws).map pv)) := by
  refine run_f (by rfl) fun ρ hfr how sh => ?_
  replace sh : Sh ρ (fnAt 18).ns none := sh
  have a1 : ρ.fr ("wholes" : Str) = some (.list (ws.map pv)) := by rw [hfr]; rfl
  refine s_putN (v := .list [pv ⟨0, 0, 0⟩]) (n_list (vs := [pv ⟨0, 0, 0⟩]) (l_cons (n_list (l_cons ec (l_cons ec (l_cons ec l_nil)))).ev l_nil)) ?_
  refine s_forI (α := P3) (g := pv) (xs := ws) (fun ds ρ => ρ.fr ("mixes" : Str) = some (.list ((mixL ds).map pv)) ∧ ρ.ow ("mixes" : Str) = none ∧ Sh ρ (fnAt 18).ns none) (src_nameT (by walk_at "lk")) ⟨fr_here, ow_gone, by walk_at "sh"⟩ (fun ds w l ρ e ⟨q1, q2, q3⟩ => ?_) fun ρ ⟨q1, q2, q3⟩ => s_ret (by walk_at "n") rfl
  have hd : (mixL ds).length ≤ 32 := mixL_lt (by rw [e] at hl; simp at hl; omega)
  refine ⟨_, bt_tupL (vs := [.int w.x, .int w.y, .int w.z]) (b_cons (b_cons (b_cons b_nil))), ?_⟩
  refine s_putN (n_add (by walk_at "n") (n_lcm (α := P3) (g := pv) (F := fun p => pv (p.add w)) (xs := mixL ds) (src_name (by walk_at "lk") (.inl rfl)) (fun ρi I p hp => ?_) (by rw [List.length_map]; omega)).ev (by rw [List.length_map, List.length_map]; omega)) ?_
  · have r1 := I.fre (x := "red") (v := .int w.x) (by walk_at "lk") rfl
    have r2 := I.fre (x := "green") (v := .int w.y) (by walk_at "lk") rfl
    have r3 := I.fre (x := "blue") (v := .int w.z) (by walk_at "lk") rfl
    have shi := I.sh
    have hh : ∀ {v : V}, (ρi.set "mix" v).fr ("mix" : Str) = some v := fr_here
    exact (n_list (vs := [.int (p.x + w.x), .int (p.y + w.y), .int (p.z + w.z)]) (l_cons (e_bin (e_sub (a := .list [.int p.x, .int p.y, .int p.z]) (e_fr fr_here) ec rfl) (by walk_at "n") rfl) (l_cons (e_bin (e_sub (a := .list [.int p.x, .int p.y, .int p.z]) (e_fr fr_here) ec rfl) (by walk_at "n") rfl) (l_cons (e_bin (e_sub (a := .list [.int p.x, .int p.y, .int p.z]) (e_fr fr_here) ec rfl) (by walk_at "n") rfl) l_nil)))).ev
  · refine ex_nil ⟨.inl rfl, ?_, ow_gone, by walk_at "sh"⟩
    rw [mixL_snoc, List.map_append, List.map_map]
    exact fr_here
end Mine
end
section
namespace Mine
open PySem
noncomputable def P3.sub (p q : P3) : P3 := ⟨p.x - q.x, p.y - q.y, p.z - q.z⟩
noncomputable def P3.at (p : P3) (k : Nat) : Int := if k = 0 then p.x else if k = 1 then p.y else p.z
theorem pv_at (p : P3) : pv p = .list ((List.range 3).map fun k => V.int (p.at k)) := rfl
theorem rng_get {m k : Nat} {f : Nat → V} (hk : k < m) : ((List.range m).map f)[k]? = some (f k) := by simp [hk]
theorem sub_pv {p : P3} {k : Nat} (hk : k < 3) : subV (pv p) (.int k) = some (.int (p.at k)) := by rw [pv_at]; exact sub_at (rng_get hk) (by simp)
theorem cross_call {CX : Cx} {l : Nat} {p q : P3} (hp : p.Small) : (CX.lv (l + 1)).pure "_law_cross" [pv p, pv q] (.int (cr p q)) := pure_of ft_cross (cross_ok hp)
theorem c_eqI {i j : Int} : cmpV .Eq (.int i) (.int j) = some (decide (i = j)) := rfl
structure Reach (M ws : List P3) (d s : P3) (mx : Int) : Prop where
  small : d.Small
  lo : cr d s ∈ M.map (cr d)
  least : ∀ i ∈ M.map (cr d), cr d s ≤ i
  hi : mx ∈ M.map (cr d)
  most : ∀ i ∈ M.map (cr d), i ≤ mx
  wide : mx - cr d s = (ws.map fun w => ((cr d w).natAbs : Int)).sum
set_option maxHeartbeats 1000000 in
theorem beyond_ok {CX : Cx} {l : Nat} {s e : P3} {M ws : List P3} {mx : Int} (H : Reach M ws (e.sub s) s mx) (hM : M.length ≤ 64) (hw : ws.length ≤ 64) : runP (CX.lv (l + 1)) (fnAt 21) [pv s, pv e, .list (M.map pv), .list (ws.map pv)] (.bool true) := by
  refine run_f (by rfl) fun ρ hfr how sh => ?_
  replace sh : Sh ρ (fnAt 21).ns none := sh
  have n0 : ∀ x, ρ.ow x = none := fun x => by rw [how]
  have a1 : ρ.fr ("start" : Str) = some (pv s) := by rw [hfr]; rfl
  have a2 : ρ.fr ("end" : Str) = some (pv e) := by rw [hfr]; rfl
  have a3 : ρ.fr ("mixes" : Str) = some (.list (M.map pv)) := by rw [hfr]; rfl
  have a4 : ρ.fr ("wholes" : Str) = some (.list (ws.map pv)) := by rw [hfr]; rfl
  have c1 := n0 "start"
  have hd := H.small
  refine s_putN (v := pv (e.sub s)) (n_lcm (α := Nat) (g := fun i => V.int (i : Int)) (xs := List.range 3) (F := fun k => V.int ((e.sub s).at k)) (src_range (k := 3) ec (by decide)) (fun ρi I k hk => ?_) (by simp)) ?_
  · have r1 := I.fre (x := "end") (v := pv e) (by walk_at "lk") rfl
    have r2 := I.fre (x := "start") (v := pv s) (by walk_at "lk") rfl
    have hk := List.mem_range.mp hk
    refine e_bin (e_sub (by walk_at "n") (by walk_at "n") (sub_pv hk)) (e_sub (by walk_at "n") (by walk_at "n") (sub_pv hk)) ?_
    show some (V.int (e.at k - s.at k)) = _
    match k, hk with
    | 0, _ => rfl
    | 1, _ => rfl
    | 2, _ => rfl
  generalize e.sub s = d at *
  refine s_putN (n_lcm (α := P3) (g := pv) (xs := M) (F := fun p => V.int (cr d p)) (src_name (by walk_at "lk") (.inl rfl)) (fun ρi I p hp => ?_) (by rw [List.length_map]; omega)) ?_
  · have shi := I.sh
    have r1 := I.fre (x := "edge") (v := pv d) (by walk_at "lk") rfl
    exact e_pure (vs := [pv d, pv p]) (l_cons (by walk_at "n") (l_cons (by walk_at "n") l_nil)) (cross_call hd)
  rw [show M.map (fun p => V.int (cr d p)) = (M.map (cr d)).map V.int by rw [List.map_map]; rfl]
  refine s_put (e_blt1 (n_lcm (α := P3) (g := pv) (xs := ws) (F := fun p => V.int ((cr d p).natAbs : Int)) (src_name (by walk_at "lk") (.inl rfl)) (fun ρi I p hp => ?_) (by rw [List.length_map]; omega)).ev (blt_sum (is := ws.map fun w => ((cr d w).natAbs : Int)) (by rw [← ints_mapV, List.map_map]; rfl))) ?_
  · have shi := I.sh
    have r1 := I.fre (x := "edge") (v := pv d) (by walk_at "lk") rfl
    exact e_blt1 (e_pure (vs := [pv d, pv p]) (l_cons (by walk_at "n") (l_cons (by walk_at "n") l_nil)) (cross_call hd)) blt_abs
  have mn := blt_minI H.lo H.least
  have mxx := blt_maxI H.hi H.most
  refine s_ret (v := .bool true) (e_and (r := true) (s := true) (e_cmp (e_blt1 (by walk_at "n") mn) (e_pure (vs := [pv d, pv s]) (l_cons (by walk_at "n") (l_cons (by walk_at "n") l_nil)) (cross_call hd)) (c_eqI.trans (congrArg some (decide_eq_true rfl)))) fun _ =>
    e_cmp (e_bin (v := .int (mx - cr d s)) (e_blt1 (by walk_at "n") mxx) (e_blt1 (by walk_at "n") mn) rfl) (by walk_at "n") (c_eqI.trans (congrArg some (decide_eq_true H.wide)))) rfl
theorem mul_if {i : Int} {z : UInt64} (h : i.natAbs < 2 ^ 33) : binV .Mult (.int i) (.flt z) = some (.flt (Float64.mul (Float64.ofInt i) z)) := if_pos h
theorem mul_fi {i : Int} {z : UInt64} (h : i.natAbs < 2 ^ 33) : binV .Mult (.flt z) (.int i) = some (.flt (Float64.mul z (Float64.ofInt i))) := if_pos h
noncomputable def spread (p : P3) : Int := max (max p.x p.y) p.z - min (min p.x p.y) p.z
structure P3.In (p : P3) : Prop where
  x : 0 ≤ p.x ∧ p.x ≤ 2 ^ 15
  y : 0 ≤ p.y ∧ p.y ≤ 2 ^ 15
  z : 0 ≤ p.z ∧ p.z ≤ 2 ^ 15
theorem Pt.eighth {v : V} {a : Int} (h : Pt v a) : ∃ z, binV .Div v (.int 8) = some (.flt z) ∧ FV z (32 * a) := by
  obtain ⟨⟨e, h0⟩ | ⟨x, e, f⟩, hb⟩ := h
  · obtain ⟨z, e1, f1⟩ := frac8 (i := 0) (by decide)
    exact ⟨z, by rw [e]; exact e1, by rw [show 32 * a = 0 * 2 ^ 17 by omega]; exact f1⟩
  · have f8 : FV (Float64.ofInt 8) (8 * 2 ^ 20) := fv_ofInt (n := 8) (by decide)
    refine ⟨_, ?_, f.div (32 * a) f8 (by decide) (by omega) (by omega)⟩
    rw [e]
    show (if (8 : Int).natAbs < 2 ^ 33 then (if Float64.isZero (Float64.ofInt 8) = true then none else some (V.flt (Float64.div x (Float64.ofInt 8)))) else none) = _
    rw [if_pos (by decide), f8.isZero, if_neg (by decide)]
theorem sp_mm {p : P3} (h : p.In) : Mm (32 * p.x) (32 * p.y) (32 * p.z) (32 * max (max p.x p.y) p.z) (32 * min (min p.x p.y) p.z) := by
  obtain ⟨h1, h2, h3⟩ := h
  exact ⟨by omega, by omega, by omega, by omega⟩
set_option maxHeartbeats 1000000 in
theorem spread_ok {CX : Cx} {l : Nat} {v1 v2 v3 c d : V} {p : P3} (h1 : Pt v1 p.x) (h2 : Pt v2 p.y) (h3 : Pt v3 p.z) (hp : p.In) : ∃ z, runP (CX.lv (l + 1)) (fnAt 20) [.tup [v1, v2, v3, c, d]] (.flt z) ∧ FV z (spread p * 2 ^ 20) := by
  suffices h : ∃ w, runP (CX.lv (l + 1)) (fnAt 20) [.tup [v1, v2, v3, c, d]] w ∧ ∃ z, w = .flt z ∧ FV z (spread p * 2 ^ 20) by
    obtain ⟨w, e, z, rfl, f⟩ := h
    exact ⟨z, e, f⟩
  obtain ⟨x, ex, fx⟩ := h1.eighth
  obtain ⟨y, ey, fy⟩ := h2.eighth
  obtain ⟨z, ez, fz⟩ := h3.eighth
  have T := sp_mm hp
  have hsp : spread p = max (max p.x p.y) p.z - min (min p.x p.y) p.z := rfl
  have hq : 32 * max (max p.x p.y) p.z + 32 * min (min p.x p.y) p.z = 2 * (16 * (max (max p.x p.y) p.z + min (min p.x p.y) p.z)) := by omega
  obtain ⟨q1, q2, _, e1, zv, rfl, fv⟩ := hsv_any (C := CX.lv l) T fx fy fz
  obtain ⟨r1, _, r3, e2, ⟨zl, rfl, fl⟩, _⟩ := hls_any (C := CX.lv l) T hq fx fy fz
  have hle := T.le
  have hm0 := T.m0
  have ht := T.top
  generalize max (max p.x p.y) p.z = M at *
  generalize min (min p.x p.y) p.z = m at *
  refine run_q (by rfl) fun ρ hfr how sh => ?_
  replace sh : Sh ρ (fnAt 20).ns none := sh
  have a1 : ρ.fr ("station" : Str) = some (.tup [v1, v2, v3, c, d]) := by rw [hfr]; rfl
  refine s_tupL (vs := [.flt x, .flt y, .flt z]) (n_lcm (α := V × UInt64) (g := Prod.fst) (xs := [(v1, x), (v2, y), (v3, z)]) (F := fun q => V.flt q.2) (src_ev (v := .tup [v1, v2, v3]) (e_upto (xs := [v1, v2, v3, c, d]) (k := 3) (by walk_at "n") ec (by simp) (by simp)) (.inr rfl)) (fun ρi I q hq => ?_) (by simp)).ev (b_cons (b_cons (b_cons b_nil))) ?_
  · have hq' : binV .Div q.1 (.int 8) = some (.flt q.2) := by
      simp only [List.mem_cons, List.not_mem_nil, or_false] at hq
      rcases hq with rfl | rfl | rfl
      · exact ex
      · exact ey
      · exact ez
    exact e_bin (e_fr fr_here) ec hq'
  refine s_put (v := .flt zv) (e_sub (e_pure (vs := [.flt x, .flt y, .flt z]) (l_cons (by walk_at "n") (l_cons (by walk_at "n") (l_cons (by walk_at "n") l_nil))) (pure_of ft_hsv e1)) ec rfl) ?_
  refine s_put (v := .flt zl) (e_sub (e_pure (vs := [.flt x, .flt y, .flt z]) (l_cons (by walk_at "n") (l_cons (by walk_at "n") (l_cons (by walk_at "n") l_nil))) (pure_of ft_hls e2)) ec rfl) ?_
  have f1 := fv.sub fl (by omega)
  have f2 := (fv_ofInt (n := 2) (by decide)).mul (32 * (M - m)) f1 (by omega) (by omega)
  have f3 := f2.mul ((M - m) * 2 ^ 20) (fv_ofInt (n := 32768) (by decide)) (by omega) (by omega)
  rw [hsp]
  exact s_ret (e_bin (e_bin ec (e_bin (by walk_at "n") (by walk_at "n") rfl) (mul_if (by decide))) ec (mul_fi (by decide))) ⟨_, rfl, _, rfl, f3⟩
end Mine
end
section
namespace Mine
open PySem
noncomputable def ah (p q : Int) : Prop := 0 < (q - p) % 64 ∧ (q - p) % 64 < 32
noncomputable def U (p : Int) : Int × Int × Int := Uf (3 * p / 32) (3 * p % 32)
noncomputable def X (p : Int) : Int := (U p).1 - (U p).2.2
noncomputable def Y (p : Int) : Int := (U p).2.1 - (U p).2.2
noncomputable def D (p q : Int) : Int := X p * Y q - Y p * X q
noncomputable def hueOf (u : Int × Int × Int) : Int := if u.1 = 32 then u.2.1 - u.2.2 else if u.2.1 = 32 then 64 + u.2.2 - u.1 else 128 + u.1 - u.2.1
noncomputable def uOk (p : Int) : Bool := let u := U p
  decide (0 ≤ u.1 ∧ u.1 ≤ 32 ∧ 0 ≤ u.2.1 ∧ u.2.1 ≤ 32 ∧ 0 ≤ u.2.2 ∧ u.2.2 ≤ 32) && decide (u.1 = 32 ∨ u.2.1 = 32 ∨ u.2.2 = 32) && decide (u.1 = 0 ∨ u.2.1 = 0 ∨ u.2.2 = 0) && (decide (hueOf u = 3 * p) || decide (hueOf u = 3 * p - 192))
theorem u_all : ((List.range 64).all fun p => uOk (p : Nat)) = true := by decide +kernel
theorem d_all : ((List.range 64).all fun p => (List.range 64).all fun q => decide (0 < D (p : Nat) (q : Nat)) == (decide (0 < ((q : Nat) - (p : Nat) : Int) % 64) && decide (((q : Nat) - (p : Nat) : Int) % 64 < 32))) = true := by decide +kernel
theorem nat_of {p : Int} (h : 0 ≤ p ∧ p < 64) : ∃ n : Nat, n < 64 ∧ p = n := ⟨p.toNat, by omega, by omega⟩
theorem u_ok {p : Int} (h : 0 ≤ p ∧ p < 64) : uOk p = true := by
  obtain ⟨n, hn, rfl⟩ := nat_of h
  exact List.all_eq_true.mp u_all n (by simpa using hn)
theorem d_pos {p q : Int} (hp : 0 ≤ p ∧ p < 64) (hq : 0 ≤ q ∧ q < 64) : 0 < D p q ↔ ah p q := by
  obtain ⟨n, hn, rfl⟩ := nat_of hp
  obtain ⟨k, hk, rfl⟩ := nat_of hq
  have := List.all_eq_true.mp (List.all_eq_true.mp d_all n (by simpa using hn)) k (by simpa using hk)
  have h2 := beq_iff_eq.mp this
  rw [← Bool.decide_and] at h2
  exact decide_eq_decide.mp h2
theorem d_neg (p q : Int) : D q p = - D p q := by unfold D; grind
theorem hue_tri {p G K : Int} (hp : 0 ≤ p ∧ p < 64) (hG : 0 ≤ G) (hK : 0 < K) (ht : G + 32 * K < 2 ^ 50) :
    ∃ x y z h1, Tri (G + K * (U p).1) (G + K * (U p).2.1) (G + K * (U p).2.2) (G + 32 * K) G x y z h1 ∧ h1 % 2 ^ 20 = p * 2 ^ 14 := by
  have hu := u_ok hp
  unfold uOk at hu
  simp only [Bool.and_eq_true, Bool.or_eq_true, decide_eq_true_eq] at hu
  obtain ⟨⟨⟨⟨a1, a2, b1, b2, c1, c2⟩, hmax⟩, hmin⟩, hh⟩ := hu
  unfold hueOf at hh
  generalize (U p).1 = r at *
  generalize (U p).2.1 = g at *
  generalize (U p).2.2 = b at *
  have k1 : ∀ {a : Int}, 0 ≤ a → a ≤ 32 → 0 ≤ K * a ∧ K * a ≤ 32 * K := fun {a} h h' => ⟨Int.mul_nonneg (by omega) h, by have := Int.mul_le_mul_of_nonneg_left h' (show 0 ≤ K by omega); omega⟩
  have r1 := k1 a1 a2
  have g1 := k1 b1 b2
  have b1' := k1 c1 c2
  have e32 : ∀ {a : Int}, a = 32 → K * a = 32 * K := fun {a} h => by rw [h]; omega
  have e0 : ∀ {a : Int}, a = 0 → K * a = 0 := fun {a} h => by rw [h]; omega
  have qt : ∀ {a : Int}, 0 ≤ a → a ≤ 32 → Qt (G + 32 * K - (G + K * a)) (G + 32 * K - G) ((32 - a) * 2 ^ 15) := fun {a} h h' => ⟨by grind, by omega, by omega⟩
  have hmx : G + 32 * K = max (max (G + K * r) (G + K * g)) (G + K * b) := by
    rcases hmax with h | h | h <;> have := e32 h <;> clear hh qt k1 e32 e0 <;> omega
  have hmn : G = min (min (G + K * r) (G + K * g)) (G + K * b) := by
    rcases hmin with h | h | h <;> have := e0 h <;> clear hh qt k1 e32 e0 hmx <;> omega
  have inj : ∀ {a : Int}, (G + K * a = G + 32 * K) ↔ a = 32 := fun {a} => ⟨fun h => by
    have h' : K * a = K * 32 := by omega
    exact Int.eq_of_mul_eq_mul_left (by omega) h', fun h => by have := e32 h; omega⟩
  have hq : ∃ h1, (if r = 32 then g - b else if g = 32 then 64 + b - r else 128 + r - g) * 2 ^ 15 = 6 * h1 ∧ h1 % 2 ^ 20 = p * 2 ^ 14 := by
    rcases hh with h | h
    · exact ⟨p * 2 ^ 14, by rw [h]; omega, by omega⟩
    · exact ⟨(p - 64) * 2 ^ 14, by rw [h]; omega, by omega⟩
  obtain ⟨h1, q1, q2⟩ := hq
  refine ⟨_, _, _, h1, ⟨hmx, hmn, hG, by omega, ht, qt a1 a2, qt b1 b2, qt c1 c2, ?_⟩, q2⟩
  rw [← q1]
  clear q1 q2 hmx hmn hh qt
  by_cases h : r = 32
  · rw [if_pos (inj.mpr h), if_pos h]; omega
  · rw [if_neg (fun e => h (inj.mp e)), if_neg h]
    by_cases h' : g = 32
    · rw [if_pos (inj.mpr h'), if_pos h']; omega
    · rw [if_neg (fun e => h' (inj.mp e)), if_neg h']; omega
theorem part_lin {v s u : Int} : part v s u = 512 * (v * (256 - 32 * s)) + 512 * (v * s) * u := by unfold part; grind
theorem u_bds {p : Int} (h : 0 ≤ p ∧ p < 64) : (0 ≤ (U p).1 ∧ (U p).1 ≤ 32) ∧ (0 ≤ (U p).2.1 ∧ (U p).2.1 ≤ 32) ∧ (0 ≤ (U p).2.2 ∧ (U p).2.2 ≤ 32) := by
  have hu := u_ok h
  unfold uOk at hu
  simp only [Bool.and_eq_true, Bool.or_eq_true, decide_eq_true_eq] at hu
  obtain ⟨⟨⟨⟨a1, a2, b1, b2, c1, c2⟩, _⟩, _⟩, _⟩ := hu
  exact ⟨⟨a1, a2⟩, ⟨b1, b2⟩, ⟨c1, c2⟩⟩
noncomputable def Lt.c (t : Lt) : Int := t.v * t.s
noncomputable def Lt.a (t : Lt) : Int := t.v * (256 - 32 * t.s)
noncomputable def Lt.w (t : Lt) (u : Int) : Int := 2 * t.a + 2 * (t.c * u)
noncomputable def Lt.pt (t : Lt) : P3 := ⟨t.w (U t.p).1, t.w (U t.p).2.1, t.w (U t.p).2.2⟩
noncomputable def Lt.h (t : Lt) : Int := if t.s = 0 then 0 else t.p
theorem Lt.u_eq {t : Lt} : t.u = U t.p := rfl
theorem Lt.part {t : Lt} {u : Int} : part t.v t.s u = 256 * t.w u := by unfold Lt.w Lt.a Lt.c; rw [part_lin]; grind
theorem Lt.c_bd {t : Lt} (h : t.Ok) : 0 ≤ t.c ∧ t.c ≤ 64 := bd2 (a := t.v) (A := 8) (b := t.s) (B := 8) (by have := h.v; omega) h.s
theorem Lt.a_bd {t : Lt} (h : t.Ok) : 0 ≤ t.a ∧ t.a + 32 * t.c ≤ 2048 := by
  have h1 := bd2 (a := t.v) (A := 8) (b := 256 - 32 * t.s) (B := 256) (by have := h.v; omega) (by have := h.s; omega)
  have h2 := h.v
  have e : t.a + 32 * t.c = 256 * t.v := by unfold Lt.a Lt.c; grind
  exact ⟨h1.1, by rw [e]; omega⟩
theorem Lt.w_bd {t : Lt} (h : t.Ok) {u : Int} (hu : 0 ≤ u ∧ u ≤ 32) : 0 ≤ t.w u ∧ t.w u ≤ 4096 := by
  have h1 := Lt.c_bd h
  have h2 := Lt.a_bd h
  have h3 := bd2 (a := t.c) (A := t.c) (b := u) (B := 32) (by omega) hu
  unfold Lt.w
  generalize t.c * u = w at *
  generalize t.a = g at *
  generalize t.c = c at *
  omega
theorem Lt.h_bd {t : Lt} (h : t.Ok) : 0 ≤ t.h ∧ t.h < 64 := by
  have := h.p
  unfold Lt.h
  split <;> omega
theorem Lt.c_pos {t : Lt} (h : t.Ok) (h0 : t.s ≠ 0) : 0 < t.c := Int.mul_pos (by have := h.v; omega) (by have := h.s; omega)
theorem Lt.c_zero {t : Lt} (h0 : t.s = 0) : t.c = 0 := by unfold Lt.c; rw [h0, Int.mul_zero]
theorem cr_pt (t u : Lt) : cr t.pt u.pt = 4 * (t.c * u.c) * D t.p u.p := by
  show (t.w _ - t.w _) * (u.w _ - u.w _) - (t.w _ - t.w _) * (u.w _ - u.w _) = _
  unfold Lt.w D X Y
  grind
theorem hls_call {CX : Cx} {l : Nat} {t : Lt} {r g b : UInt64} (h : t.Ok) (f1 : FV r (Mine.part t.v t.s t.u.1)) (f2 : FV g (Mine.part t.v t.s t.u.2.1)) (f3 : FV b (Mine.part t.v t.s t.u.2.2)) :
    ∃ (z : UInt64) (li sa : V), (CX.lv (l + 1)).pure "rgb_to_hls" [.flt r, .flt g, .flt b] (.tup [.flt z, li, sa]) ∧ FV z (t.h * 2 ^ 14) := by
  rw [Lt.part, Lt.u_eq] at f1 f2 f3
  have hc := Lt.c_bd h
  have hg := Lt.a_bd h
  by_cases h0 : t.s = 0
  · have ew : ∀ u, t.w u = 2 * t.a := fun u => by unfold Lt.w; rw [Lt.c_zero h0]; omega
    rw [ew] at f1 f2 f3
    obtain ⟨zh, zl, zs, er, _, e0⟩ := hls_any (C := CX.lv l) (M := 256 * (2 * t.a)) (m := 256 * (2 * t.a)) (q := 256 * (2 * t.a)) ⟨by omega, by omega, by omega, by omega⟩ (by omega) f1 f2 f3
    have eh := e0 rfl
    subst eh
    exact ⟨0, zl, zs, pure_of ft_hls er, by unfold Lt.h; rw [if_pos h0, Int.zero_mul]; exact fv0⟩
  · have hcp := Lt.c_pos h h0
    obtain ⟨x, y, z, h1, T, e⟩ := hue_tri (p := t.p) (G := 512 * t.a) (K := 512 * t.c) h.p (by omega) (by omega) (by omega)
    have ew : ∀ u, 256 * t.w u = 512 * t.a + 512 * t.c * u := fun u => by unfold Lt.w; grind
    rw [ew] at f1 f2 f3
    obtain ⟨zh, zl, zs, er, fh⟩ := hls_ok (C := CX.lv l) T (by omega) (q := 512 * t.a + 8192 * t.c) (by omega) f1 f2 f3
    rw [e] at fh
    exact ⟨zh, _, _, pure_of ft_hls er, by unfold Lt.h; rw [if_neg h0]; exact fh⟩
end Mine
end
section
namespace Mine
open PySem
noncomputable def P3.zero : P3 := ⟨0, 0, 0⟩
noncomputable def P3.times (s : Int) (p : P3) : P3 := ⟨s * p.x, s * p.y, s * p.z⟩
theorem P3.ext' {p q : P3} (h1 : p.x = q.x) (h2 : p.y = q.y) (h3 : p.z = q.z) : p = q := by
  cases p; cases q
  simp only at h1 h2 h3
  rw [h1, h2, h3]
noncomputable def SP (q : Nat → P3) (b : Nat → Bool) : Nat → P3
  | 0 => .zero
  | k + 1 => if b k = true then (SP q b k).add (q k) else SP q b k
noncomputable def CN (b : Nat → Bool) : Nat → Int
  | 0 => 0
  | k + 1 => CN b k + (b k).toNat
noncomputable def flip (b : Nat → Bool) (k : Nat) (j : Nat) : Bool := if j = k then !b k else b j
noncomputable def sgnOf (r : Bool) : Int := if r = true then -1 else 1
theorem SP_congr {q : Nat → P3} {b b' : Nat → Bool} : ∀ {m : Nat}, (∀ k, k < m → b k = b' k) → SP q b m = SP q b' m
  | 0, _ => rfl
  | m + 1, h => by
    unfold SP
    rw [h m (Nat.lt_succ_self m), SP_congr fun k hk => h k (Nat.lt_succ_of_lt hk)]
theorem CN_congr {b b' : Nat → Bool} : ∀ {m : Nat}, (∀ k, k < m → b k = b' k) → CN b m = CN b' m
  | 0, _ => rfl
  | m + 1, h => by
    unfold CN
    rw [h m (Nat.lt_succ_self m), CN_congr fun k hk => h k (Nat.lt_succ_of_lt hk)]
theorem flip_ne {b : Nat → Bool} {k j : Nat} (h : j ≠ k) : flip b k j = b j := if_neg h
theorem flip_same {b : Nat → Bool} {k : Nat} : flip b k k = !b k := if_pos rfl
theorem SP_flip {q : Nat → P3} {b : Nat → Bool} {k : Nat} : ∀ {m : Nat}, k < m → SP q (flip b k) m = (SP q b m).add ((q k).times (sgnOf (b k)))
  | 0, h => absurd h (Nat.not_lt_zero k)
  | m + 1, h => by
    unfold SP
    by_cases hk : k = m
    · subst hk
      rw [flip_same, SP_congr (b := flip b k) (b' := b) fun j hj => flip_ne (Nat.ne_of_lt hj)]
      cases b k <;> exact P3.ext' (by simp [P3.add, P3.times, sgnOf]; try omega) (by simp [P3.add, P3.times, sgnOf]; try omega) (by simp [P3.add, P3.times, sgnOf]; try omega)
    · rw [flip_ne (Ne.symm hk), SP_flip (m := m) (by omega)]
      cases b m with
      | false => rfl
      | true => exact P3.ext' (by simp only [P3.add, if_true]; omega) (by simp only [P3.add, if_true]; omega) (by simp only [P3.add, if_true]; omega)
theorem CN_flip {b : Nat → Bool} {k : Nat} : ∀ {m : Nat}, k < m → CN (flip b k) m = CN b m + sgnOf (b k)
  | 0, h => absurd h (Nat.not_lt_zero k)
  | m + 1, h => by
    unfold CN
    by_cases hk : k = m
    · subst hk
      rw [flip_same, CN_congr (b := flip b k) (b' := b) fun j hj => flip_ne (Nat.ne_of_lt hj)]
      cases b k <;> simp [sgnOf] <;> omega
    · rw [flip_ne (Ne.symm hk), CN_flip (m := m) (by omega)]; omega
theorem SP_none {q : Nat → P3} {b : Nat → Bool} : ∀ {m : Nat}, (∀ k, k < m → b k = false) → SP q b m = .zero
  | 0, _ => rfl
  | m + 1, h => by unfold SP; rw [h m (Nat.lt_succ_self m), if_neg Bool.false_ne_true, SP_none fun k hk => h k (Nat.lt_succ_of_lt hk)]
theorem CN_none {b : Nat → Bool} : ∀ {m : Nat}, (∀ k, k < m → b k = false) → CN b m = 0
  | 0, _ => rfl
  | m + 1, h => by unfold CN; rw [h m (Nat.lt_succ_self m), CN_none fun k hk => h k (Nat.lt_succ_of_lt hk)]; rfl
structure P3.Le (p : P3) (c : Int) : Prop where
  x : 0 ≤ p.x ∧ p.x ≤ c
  y : 0 ≤ p.y ∧ p.y ≤ c
  z : 0 ≤ p.z ∧ p.z ≤ c
theorem SP_in {q : Nat → P3} {b : Nat → Bool} {c : Int} : ∀ {m : Nat}, (∀ k, k < m → (q k).Le c) → (SP q b m).Le (m * c)
  | 0, _ => by unfold SP P3.zero; exact ⟨by simp, by simp, by simp⟩
  | m + 1, hq => by
    obtain ⟨h1, h2, h3⟩ := SP_in (b := b) (m := m) fun k hk => hq k (Nat.lt_succ_of_lt hk)
    obtain ⟨k1, k2, k3⟩ := hq m (Nat.lt_succ_self m)
    have e : ((m + 1 : Nat) : Int) * c = m * c + c := by rw [Int.natCast_succ, Int.add_mul, Int.one_mul]
    rw [e]
    unfold SP
    generalize (m : Int) * c = mc at *
    cases b m with
    | false => exact ⟨by simp only [Bool.false_eq_true, if_false]; omega, by simp only [Bool.false_eq_true, if_false]; omega, by simp only [Bool.false_eq_true, if_false]; omega⟩
    | true => exact ⟨by simp only [if_true, P3.add]; omega, by simp only [if_true, P3.add]; omega, by simp only [if_true, P3.add]; omega⟩
structure DictOk (m : Nat) (b : Nat → Bool) (d : List (Int × Int)) : Prop where
  nodup : (d.map (·.1)).Nodup
  keys : ∀ x : Int, x ∈ d.map (·.1) → ∃ k : Nat, k < m ∧ x = (k : Int)
  get : ∀ k : Nat, k < m → (d.lookup (k : Int)).getD 0 = (b k).toNat
  sum : (d.map (·.2)).sum = CN b m
theorem look_cons {x : Int} {p : Int × Int} {r : List (Int × Int)} : (p :: r).lookup x = if x = p.1 then some p.2 else r.lookup x := by
  obtain ⟨a, b⟩ := p
  rw [List.lookup_cons]
  by_cases h : x = a
  · simp [h]
  · have : (x == a) = false := beq_eq_false_iff_ne.mpr h
    rw [this, if_neg h]
theorem put_lookup {k v x : Int} : ∀ {d : List (Int × Int)}, (dictPut k v d).lookup x = if x = k then some v else d.lookup x
  | [] => look_cons
  | p :: r => by
    unfold dictPut
    by_cases hp : p.1 = k
    · rw [if_pos hp, look_cons, look_cons]
      by_cases h : x = k
      · rw [if_pos (h.trans hp.symm), if_pos h]
      · rw [if_neg (fun e => h (e.trans hp)), if_neg h, if_neg fun e => h (e.trans hp)]
    · rw [if_neg hp, look_cons, look_cons, put_lookup]
      by_cases h : x = k
      · rw [if_neg (fun e => hp (e.symm.trans h)), if_pos h, if_pos h]
      · rw [if_neg h, if_neg h]
theorem put_keys {k v : Int} : ∀ {d : List (Int × Int)}, (d.map (·.1)).Nodup → ((dictPut k v d).map (·.1)).Nodup ∧ ∀ x, x ∈ (dictPut k v d).map (·.1) → x = k ∨ x ∈ d.map (·.1)
  | [], _ => ⟨List.pairwise_singleton _ _, fun x h => .inl (List.mem_singleton.mp h)⟩
  | p :: r, h => by
    obtain ⟨h1, h2⟩ := List.nodup_cons.mp (by simpa only [List.map_cons] using h)
    unfold dictPut
    by_cases hp : p.1 = k
    · rw [if_pos hp]
      refine ⟨?_, fun x hx => ?_⟩
      · rw [List.map_cons]; exact List.nodup_cons.mpr ⟨hp ▸ h1, h2⟩
      · rw [List.map_cons] at hx ⊢
        exact (List.mem_cons.mp hx).elim (fun e => .inl (e.trans hp)) fun h => .inr (List.mem_cons_of_mem _ h)
    · rw [if_neg hp]
      obtain ⟨g1, g2⟩ := put_keys (k := k) (v := v) h2
      refine ⟨?_, fun x hx => ?_⟩
      · rw [List.map_cons]; exact List.nodup_cons.mpr ⟨fun hm => (g2 _ hm).elim hp h1, g1⟩
      · rw [List.map_cons] at hx ⊢
        exact (List.mem_cons.mp hx).elim (fun e => .inr (e ▸ List.mem_cons_self)) fun h => (g2 x h).imp id fun h => List.mem_cons_of_mem _ h
theorem put_sum {k v : Int} : ∀ {d : List (Int × Int)}, ((dictPut k v d).map (·.2)).sum = (d.map (·.2)).sum + v - (d.lookup k).getD 0
  | [] => by unfold dictPut; simp
  | p :: r => by
    unfold dictPut
    by_cases hp : p.1 = k
    · rw [if_pos hp, look_cons, if_pos hp.symm, List.map_cons, List.map_cons, List.sum_cons, List.sum_cons, Option.getD_some]; omega
    · rw [if_neg hp, look_cons, if_neg (Ne.symm hp), List.map_cons, List.map_cons, List.sum_cons, List.sum_cons, put_sum]; omega
theorem addC_eq {d : List (Int × Int)} {k v : Int} : addC d (k, v) = dictPut k ((d.lookup k).getD 0 + v) d := by
  unfold addC
  cases d.lookup k with
  | none => show dictPut k v d = dictPut k (0 + v) d; rw [Int.zero_add]
  | some j => rfl
theorem DictOk.flip {m k : Nat} {b : Nat → Bool} {d : List (Int × Int)} (D : DictOk m b d) (hk : k < m) : DictOk m (flip b k) (addC d ((k : Int), sgnOf (b k))) := by
  rw [addC_eq]
  have hg := D.get k hk
  obtain ⟨p1, p2⟩ := put_keys (k := (k : Int)) (v := (d.lookup (k : Int)).getD 0 + sgnOf (b k)) D.nodup
  refine ⟨p1, fun x hx => (p2 x hx).elim (fun e => ⟨k, hk, e⟩) (D.keys x), fun j hj => ?_, ?_⟩
  · rw [put_lookup]
    by_cases h : j = k
    · subst h
      rw [if_pos rfl, flip_same, hg]
      cases b j <;> rfl
    · rw [if_neg (by omega), flip_ne h]; exact D.get j hj
  · rw [put_sum, CN_flip hk, D.sum]; omega
theorem keys_lenI : ∀ {m : Nat} {ks : List Int}, ks.Nodup → (∀ x ∈ ks, ∃ k : Nat, k < m ∧ x = (k : Int)) → ks.length ≤ m
  | 0, ks, _, h => by
    match ks with
    | [] => exact Nat.le_refl _
    | x :: _ => exact absurd (h x List.mem_cons_self) fun ⟨_, h, _⟩ => Nat.not_lt_zero _ h
  | m + 1, ks, n, h => by
    have := keys_lenI (m := m) (n.erase (m : Int)) fun x hx => by
      have := (List.Nodup.mem_erase_iff n).mp hx
      obtain ⟨k, hk, e⟩ := h x this.2
      exact ⟨k, by omega, e⟩
    rw [List.length_erase] at this
    split at this <;> omega
theorem DictOk.len {m : Nat} {b : Nat → Bool} {d : List (Int × Int)} (D : DictOk m b d) : d.length ≤ m := by
  have h := keys_lenI D.nodup D.keys
  rwa [List.length_map] at h
theorem DictOk.to {m : Nat} {b b' : Nat → Bool} {d : List (Int × Int)} (D : DictOk m b d) (h : ∀ k, k < m → b k = b' k) : DictOk m b' d := ⟨D.nodup, D.keys, fun k hk => (D.get k hk).trans (by rw [h k hk]), D.sum.trans (CN_congr h)⟩
structure EntryOk (m : Nat) (q : Nat → P3) (b : Nat → Bool) (w : V) : Prop where
  ex : ∃ v1 v2 v3 d, w = .tup [v1, v2, v3, .int (CN b m), .dict d] ∧ Pt v1 (SP q b m).x ∧ Pt v2 (SP q b m).y ∧ Pt v3 (SP q b m).z ∧ DictOk m b d
theorem EntryOk.to {m : Nat} {q : Nat → P3} {b b' : Nat → Bool} {w : V} (E : EntryOk m q b w) (h : ∀ k, k < m → b k = b' k) : EntryOk m q b' w := by
  obtain ⟨v1, v2, v3, d, e, h1, h2, h3, D⟩ := E.ex
  rw [SP_congr h] at h1 h2 h3
  exact ⟨v1, v2, v3, d, by rw [e, CN_congr h], h1, h2, h3, D.to h⟩
theorem EntryOk.start {m : Nat} {q : Nat → P3} {b : Nat → Bool} (h : ∀ k, k < m → b k = false) : EntryOk m q b (.tup [.int 0, .int 0, .int 0, .int 0, .dict []]) := by
  refine ⟨.int 0, .int 0, .int 0, [], by rw [CN_none h], ?_, ?_, ?_, List.nodup_nil, fun x hx => (by cases hx), fun k hk => by rw [h k hk]; rfl, by rw [CN_none h]; rfl⟩ <;> (rw [SP_none h]; exact ⟨.inl ⟨rfl, rfl⟩, by decide⟩)
end Mine
end
section
namespace Mine
open PySem
noncomputable def an (h : Nat → Int) (k : Nat) : Int := h k % 32
noncomputable def big (h : Nat → Int) (k : Nat) : Bool := decide (32 ≤ h k)
noncomputable def en0 (h : Nat → Int) (k : Nat) : Int := an h k * 32 + k * 4 + sgnOf (big h k)
noncomputable def en1 (h : Nat → Int) (k : Nat) : Int := (an h k + 32) * 32 + k * 4 + sgnOf (!big h k)
theorem sgn_not (b : Bool) : sgnOf (!b) = -sgnOf b := by cases b <;> rfl
theorem sgn_bd (b : Bool) : -1 ≤ sgnOf b ∧ sgnOf b ≤ 1 := by cases b <;> decide
structure Ord (m : Nat) (h : Nat → Int) (L : List Nat) : Prop where
  m8 : m ≤ 8
  perm : L.Perm (List.range m)
  srt : L.Pairwise fun i j => en0 h i < en0 h j
theorem an_bd {h : Nat → Int} {k : Nat} : 0 ≤ an h k ∧ an h k < 32 := by unfold an; omega
theorem en0_inj {h : Nat → Int} {i j : Nat} (hi : i < 8) (hj : j < 8) (e : en0 h i = en0 h j) : i = j := by
  have h1 := an_bd (h := h) (k := i)
  have h2 := an_bd (h := h) (k := j)
  have h3 := sgn_bd (big h i)
  have h4 := sgn_bd (big h j)
  unfold en0 at e
  omega
theorem exists_ord {m : Nat} (hm : m ≤ 8) (h : Nat → Int) : ∃ L, Ord m h L := by
  refine ⟨(List.range m).mergeSort fun i j => decide (en0 h i ≤ en0 h j), hm, List.mergeSort_perm _ _, ?_⟩
  have p := List.mergeSort_perm (List.range m) fun i j => decide (en0 h i ≤ en0 h j)
  have s := List.pairwise_mergeSort (le := fun i j => decide (en0 h i ≤ en0 h j)) (fun a b c h1 h2 => by simp at h1 h2 ⊢; omega) (fun a b => by simp; omega) (List.range m)
  have n : ((List.range m).mergeSort fun i j => decide (en0 h i ≤ en0 h j)).Nodup := p.nodup_iff.mpr List.nodup_range
  refine List.Pairwise.imp_of_mem (fun {a b} ha hb hab => ?_) (List.Pairwise.and s n)
  obtain ⟨h1, h2⟩ := hab
  have h1 := of_decide_eq_true h1
  have a8 := List.mem_range.mp (p.mem_iff.mp ha)
  have b8 := List.mem_range.mp (p.mem_iff.mp hb)
  exact Int.lt_iff_le_and_ne.mpr ⟨h1, fun e => h2 (en0_inj (by omega) (by omega) e)⟩
section
variable {m : Nat} {h : Nat → Int} {L : List Nat} {e k : Nat}
theorem Ord.len (O : Ord m h L) : L.length = m := O.perm.length_eq.trans List.length_range
theorem Ord.nodup (O : Ord m h L) : L.Nodup := O.perm.nodup_iff.mpr List.nodup_range
theorem Ord.mem (O : Ord m h L) : k ∈ L ↔ k < m := O.perm.mem_iff.trans List.mem_range
noncomputable def HP (m : Nat) (h : Nat → Int) (L : List Nat) (e : Nat) : List Int := (L.drop e).map (en0 h) ++ ((L.take e).drop (e - m)).map (en1 h)
noncomputable def bt (m : Nat) (h : Nat → Int) (L : List Nat) (e k : Nat) : Bool := (big h k != decide (k ∈ L.take e)) != decide (k ∈ L.take (e - m))
theorem bt_0 : bt m h L 0 k = big h k := by
  unfold bt
  rw [Nat.zero_sub, List.take_zero]
  simp
theorem HP_0 : HP m h L 0 = L.map (en0 h) := by
  unfold HP
  simp
theorem Ord.hp0 (O : Ord m h L) : ((List.range m).map (en0 h)).Perm (HP m h L 0) := by rw [HP_0]; exact O.perm.symm.map _
structure Step (m : Nat) (h : Nat → Int) (L : List Nat) (e : Nat) (A : Int) (k : Nat) (r : List Int) : Prop where
  lt : k < m
  top : (HP m h L e).Perm ((A * 32 + k * 4 + sgnOf (bt m h L e k)) :: r)
  le : ∀ x ∈ r, A * 32 + k * 4 + sgnOf (bt m h L e k) ≤ x
  lo : 0 ≤ A
  first : A < 32 → A < 32 ∧ (HP m h L (e + 1)).Perm (((A + 32) * 32 + k * 4 + sgnOf (!bt m h L e k)) :: r)
  second : ¬ A < 32 → A < 64 ∧ (HP m h L (e + 1)).Perm r
  flip : ∀ j, j < m → bt m h L (e + 1) j = flip (bt m h L e) k j
theorem flip_b : ∀ a b c : Bool, ((a != !b) != c) = !((a != b) != c) := by decide
theorem flip_c : ∀ a b c : Bool, ((a != b) != !c) = !((a != b) != c) := by decide
theorem not_take {i : Nat} (n : L.Nodup) (hi : i < L.length) : L[i] ∉ L.take i := fun hm => by
  obtain ⟨j, hj, ej⟩ := List.getElem_of_mem hm
  rw [List.getElem_take] at ej
  have hj' : j < i := by rw [List.length_take] at hj; omega
  exact absurd ((List.getElem_inj n).mp ej) (Nat.ne_of_lt hj')
theorem take_flip {i : Nat} (n : L.Nodup) (hi : i < L.length) (j : Nat) : decide (j ∈ L.take (i + 1)) = if j = L[i] then !decide (j ∈ L.take i) else decide (j ∈ L.take i) := by
  rw [List.take_succ_eq_append_getElem hi]
  by_cases hj : j = L[i]
  · rw [if_pos hj, hj, decide_eq_true (List.mem_append_right _ (List.mem_singleton.mpr rfl)), decide_eq_false (not_take n hi)]; rfl
  · rw [if_neg hj]
    exact decide_eq_decide.mpr ⟨fun h => (List.mem_append.mp h).elim id fun h => absurd (List.mem_singleton.mp h) hj, fun h => List.mem_append_left _ h⟩
theorem step_first (O : Ord m h L) (he : e < m) : ∃ A k r, Step m h L e A k r := by
  have hl : e < L.length := O.len.symm ▸ he
  have hk : L[e] < m := O.mem.mp (List.getElem_mem hl)
  have e0 : e - m = 0 := by omega
  have e1 : e + 1 - m = 0 := by omega
  have hb : bt m h L e L[e] = big h L[e] := by
    unfold bt
    rw [e0, List.take_zero, decide_eq_false (not_take O.nodup hl)]
    simp
  have hx : an h L[e] * 32 + (L[e] : Nat) * 4 + sgnOf (bt m h L e L[e]) = en0 h L[e] := by rw [hb]; rfl
  have ab := an_bd (h := h) (k := L[e])
  have d0 : L.drop e = L[e] :: L.drop (e + 1) := List.drop_eq_getElem_cons hl
  have srt : (L[e] :: L.drop (e + 1)).Pairwise fun i j => en0 h i < en0 h j := d0 ▸ O.srt.sublist (List.drop_sublist e L)
  refine ⟨an h L[e], L[e], (L.drop (e + 1)).map (en0 h) ++ (L.take e).map (en1 h), hk, ?_, fun x hx' => ?_, ab.1, fun _ => ⟨ab.2, ?_⟩, fun h => absurd ab.2 h, fun j hj => ?_⟩
  · rw [hx]
    unfold HP
    rw [e0, List.drop_zero, d0]
    exact .refl _
  · rw [hx]
    rcases List.mem_append.mp hx' with hm | hm
    · obtain ⟨j, hj, ej⟩ := List.mem_map.mp hm
      exact ej ▸ Int.le_of_lt ((List.pairwise_cons.mp srt).1 j hj)
    · obtain ⟨j, hj, ej⟩ := List.mem_map.mp hm
      rw [← ej]
      have h1 := an_bd (h := h) (k := j)
      have h2 := sgn_bd (!big h j)
      have h3 := sgn_bd (big h L[e])
      have h4 := O.m8
      unfold en0 en1
      omega
  · rw [hb]
    unfold HP
    rw [e1, List.drop_zero, List.take_succ_eq_append_getElem hl, List.map_append, List.map_singleton, ← List.append_assoc]
    exact List.perm_append_singleton _ _
  · unfold bt Mine.flip
    rw [e0, e1, List.take_zero, take_flip O.nodup hl]
    by_cases hjk : j = L[e]
    · rw [if_pos hjk, if_pos hjk, ← hjk]
      exact flip_b _ _ _
    · rw [if_neg hjk, if_neg hjk]
theorem step_second (O : Ord m h L) (h1 : m ≤ e) (he : e < 2 * m) : ∃ A k r, Step m h L e A k r := by
  have hl : e - m < L.length := by rw [O.len]; omega
  have hk : L[e - m] < m := O.mem.mp (List.getElem_mem hl)
  have t0 : L.take e = L := List.take_of_length_le (by rw [O.len]; exact h1)
  have t1 : L.take (e + 1) = L := List.take_of_length_le (by rw [O.len]; omega)
  have d0 : L.drop e = [] := List.drop_eq_nil_of_le (by rw [O.len]; exact h1)
  have d1 : L.drop (e + 1) = [] := List.drop_eq_nil_of_le (by rw [O.len]; omega)
  have e1 : e + 1 - m = e - m + 1 := by omega
  have hb : bt m h L e L[e - m] = !big h L[e - m] := by
    unfold bt
    rw [t0, decide_eq_true (List.getElem_mem hl), decide_eq_false (not_take O.nodup hl)]
    simp
  have hx : (an h L[e - m] + 32) * 32 + (L[e - m] : Nat) * 4 + sgnOf (bt m h L e L[e - m]) = en1 h L[e - m] := by rw [hb]; rfl
  have ab := an_bd (h := h) (k := L[e - m])
  have dd : L.drop (e - m) = L[e - m] :: L.drop (e - m + 1) := List.drop_eq_getElem_cons hl
  have srt : (L[e - m] :: L.drop (e - m + 1)).Pairwise fun i j => en0 h i < en0 h j := dd ▸ O.srt.sublist (List.drop_sublist _ L)
  refine ⟨an h L[e - m] + 32, L[e - m], (L.drop (e - m + 1)).map (en1 h), hk, ?_, fun x hx' => ?_, by omega, fun h => by omega, fun _ => ⟨by omega, ?_⟩, fun j hj => ?_⟩
  · rw [hx]
    unfold HP
    rw [d0, t0, dd]
    exact .refl _
  · rw [hx]
    obtain ⟨j, hj, ej⟩ := List.mem_map.mp hx'
    have hlt := (List.pairwise_cons.mp srt).1 j hj
    have hjm : j < m := O.mem.mp (List.drop_subset _ _ hj)
    have ne : L[e - m] ≠ j := fun q => by rw [q] at hlt; exact Int.lt_irrefl _ hlt
    rw [← ej]
    have h2 := sgn_bd (big h j)
    have h3 := sgn_bd (big h L[e - m])
    have h4 := an_bd (h := h) (k := j)
    have h8 := O.m8
    unfold en0 at hlt
    unfold en1
    rw [sgn_not, sgn_not]
    omega
  · unfold HP
    rw [d1, t1, e1]
    exact .refl _
  · unfold bt Mine.flip
    rw [t0, t1, e1, take_flip O.nodup hl]
    by_cases hjk : j = L[e - m]
    · rw [if_pos hjk, if_pos hjk, ← hjk]
      exact flip_c _ _ _
    · rw [if_neg hjk, if_neg hjk]
theorem step_of (O : Ord m h L) (he : e < 2 * m) : ∃ A k r, Step m h L e A k r := (Nat.lt_or_ge e m).elim (step_first O) fun h1 => step_second O h1 he
theorem HP_len (O : Ord m h L) (he : e ≤ 2 * m) : (HP m h L e).length = (if e ≤ m then m else 2 * m - e) := by
  unfold HP
  rw [List.length_append, List.length_map, List.length_map, List.length_drop, List.length_drop, List.length_take, O.len]
  split <;> omega
end
theorem heap_top {h : List Int} {x : Int} {r : List Int} (p : h.Perm (x :: r)) (hr : ∀ y ∈ r, x ≤ y) (H : HeapFrom h 0) : ∃ t, h = x :: t ∧ t.Perm r := by
  match h, p with
  | [], p => exact absurd p.length_eq (by simp)
  | y :: t, p =>
    have hx : x ∈ y :: t := p.symm.subset List.mem_cons_self
    obtain ⟨i, hi, ei⟩ := List.getElem_of_mem hx
    have h0 := heap_min H i hi
    have gi : g (y :: t) i = x := by unfold g; rw [List.getD_eq_getElem?_getD, List.getElem?_eq_getElem hi]; exact ei
    rw [gi] at h0
    have g0 : g (y :: t) 0 = y := rfl
    rw [g0] at h0
    have hy : x ≤ y := (List.mem_cons.mp (p.subset List.mem_cons_self)).elim (fun e => e ▸ Int.le_refl _) (hr y)
    have e : y = x := Int.le_antisymm h0 hy
    subst e
    exact ⟨t, rfl, p.cons_inv⟩
theorem heap_rest {x : Int} {t : List Int} : ((x :: t).dropLast.set 0 (g (x :: t) ((x :: t).length - 1))).Perm t := by
  rcases List.eq_nil_or_concat t with rfl | ⟨r, y, rfl⟩
  · exact .refl _
  · rw [List.concat_eq_append]
    have e1 : (x :: (r ++ [y])).dropLast = x :: r := by rw [← List.cons_append, List.dropLast_concat]
    have e2 : g (x :: (r ++ [y])) ((x :: (r ++ [y])).length - 1) = y := by
      unfold g
      rw [List.getD_eq_getElem?_getD]
      simp
    rw [e1, e2]
    exact (List.perm_append_singleton y r).symm
end Mine
end
section
namespace Mine
open PySem
theorem c_ltF {x y : UInt64} {a c : Int} (hx : FV x a) (hy : FV y c) : cmpV .Lt (.flt x) (.flt y) = some (decide (a < c)) := by
  show (Float64.cmp x y).map (· == .lt) = _
  rw [hx.cmp hy]
  exact congrArg some (cmp_lt a c)
theorem c_neL {vs : List V} : cmpV .NotEq (.list vs) (.list []) = some (!decide (vs.length = 0)) := by
  show (if vs.length = 0 then eqL (eqV 3) vs [] else some false).map (!·) = _
  cases vs with
  | nil => rfl
  | cons _ _ => rfl
theorem Lt.pt_le {t : Lt} (h : t.Ok) : t.pt.Le 4096 := by
  obtain ⟨h1, h2, h3⟩ := u_bds h.p
  exact ⟨Lt.w_bd h h1, Lt.w_bd h h2, Lt.w_bd h h3⟩
theorem toggle_call {CX : Cx} {l m k : Nat} {q : Nat → P3} {b : Nat → Bool} {w : V} {x y z : UInt64} (hm : m ≤ 8) (hq : ∀ k, k < m → (q k).Le 4096) (E : EntryOk m q b w) (hk : k < m) (fx : FV x (256 * (sgnOf (b k) * (q k).x))) (fy : FV y (256 * (sgnOf (b k) * (q k).y))) (fz : FV z (256 * (sgnOf (b k) * (q k).z))) :
    ∃ w', (CX.lv (l + 2)).pure "add_func_stats" [w, .tup [.flt x, .flt y, .flt z, .int (sgnOf (b k)), .dict [((k : Int), sgnOf (b k))]]] w' ∧ EntryOk m q (flip b k) w' := by
  obtain ⟨v1, v2, v3, d, e, h1, h2, h3, D⟩ := E.ex
  have s0 := SP_in (b := b) hq
  have s1 := SP_in (b := flip b k) hq
  have hs := SP_flip (q := q) (b := b) hk
  have ex : (SP q (flip b k) m).x = (SP q b m).x + sgnOf (b k) * (q k).x := by rw [hs]; rfl
  have ey : (SP q (flip b k) m).y = (SP q b m).y + sgnOf (b k) * (q k).y := by rw [hs]; rfl
  have ez : (SP q (flip b k) m).z = (SP q b m).z + sgnOf (b k) * (q k).z := by rw [hs]; rfl
  have b0 := s0.x; have b1 := s0.y; have b2 := s0.z
  have c0 := s1.x; have c1 := s1.y; have c2 := s1.z
  obtain ⟨x', e1, f1⟩ := add_nv fx h1.n (by omega)
  obtain ⟨y', e2, f2⟩ := add_nv fy h2.n (by omega)
  obtain ⟨z', e3, f3⟩ := add_nv fz h3.n (by omega)
  have hd := D.len
  have hc := callers_ok (C := CX.lv l) (t := d) (s := [((k : Int), sgnOf (b k))]) (by simp; omega)
  rw [putC_id (by simpa using D.nodup), List.nil_append, List.foldl_cons, List.foldl_nil] at hc
  refine ⟨_, e ▸ pure_of ft_stats (stats_ok (pure_of ft_callers hc) e1 e2 e3 rfl), .flt x', .flt y', .flt z', addC d ((k : Int), sgnOf (b k)), ?_, ⟨.inr ⟨x', rfl, ?_⟩, by omega⟩, ⟨.inr ⟨y', rfl, ?_⟩, by omega⟩, ⟨.inr ⟨z', rfl, ?_⟩, by omega⟩, D.flip hk⟩
  · rw [CN_flip hk, Int.add_comm]
  · rw [ex, Int.mul_add, Int.add_comm]; exact f1
  · rw [ey, Int.mul_add, Int.add_comm]; exact f2
  · rw [ez, Int.mul_add, Int.add_comm]; exact f3
theorem Evs.snoc {h : List Int} {vs : List V} {N : Int} {v : V} (E : Evs h vs) (hv : EvV N v) : Evs (h ++ [N]) (vs ++ [v]) := by
  refine ⟨by simp [E.len], fun i hi => ?_⟩
  have hi' : i < h.length + 1 := by simpa using hi
  by_cases hl : i < h.length
  · obtain ⟨w, e, hw⟩ := E.get i hl
    have eg : g (h ++ [N]) i = g h i := by
      unfold g
      rw [List.getD_eq_getElem?_getD, List.getD_eq_getElem?_getD, List.getElem?_append_left hl]
    exact ⟨w, by rw [List.getElem?_append_left (by rw [E.len]; exact hl)]; exact e, eg ▸ hw⟩
  · have e : i = h.length := by omega
    subst e
    have eg : g (h ++ [N]) h.length = N := by
      unfold g
      rw [List.getD_eq_getElem?_getD, List.getElem?_append_right (Nat.le_refl _), Nat.sub_self]; rfl
    exact ⟨v, by rw [List.getElem?_append_right (by rw [E.len]; exact Nat.le_refl _), E.len, Nat.sub_self]; rfl, by rw [eg]; exact hv⟩
theorem LtV.at {t : Lt} {w : V} (h : LtV t w) : ∃ x y z : UInt64, w = .tup [.flt x, .flt y, .flt z] ∧ FV x (256 * t.pt.x) ∧ FV y (256 * t.pt.y) ∧ FV z (256 * t.pt.z) := by
  obtain ⟨x, y, z, e, f1, f2, f3⟩ := h
  rw [Lt.part, Lt.u_eq] at f1 f2 f3
  exact ⟨x, y, z, e, f1, f2, f3⟩
theorem hues_fn {CX : Cx} {l m : Nat} {t : Nat → Lt} {W : Nat → V} (H : Lights m t W) : ∃ z : Nat → UInt64, ∀ k, k < m → FV (z k) ((t k).h * 2 ^ 14) ∧ ∃ (r g b : UInt64) (li sa : V), W k = .tup [.flt r, .flt g, .flt b] ∧ (CX.lv (l + 1)).pure "rgb_to_hls" [.flt r, .flt g, .flt b] (.tup [.flt (z k), li, sa]) := by
  have Hk : ∀ k, ∃ z : UInt64, k < m → FV z ((t k).h * 2 ^ 14) ∧ ∃ (r g b : UInt64) (li sa : V), W k = .tup [.flt r, .flt g, .flt b] ∧ (CX.lv (l + 1)).pure "rgb_to_hls" [.flt r, .flt g, .flt b] (.tup [.flt z, li, sa]) := fun k => by
    by_cases hk : k < m
    · obtain ⟨ok, r, g, b, e, f1, f2, f3⟩ := H.ok k hk
      obtain ⟨z, li, sa, eH, fz⟩ := hls_call (CX := CX) (l := l) ok f1 f2 f3
      exact ⟨z, fun _ => ⟨fz, r, g, b, li, sa, e, eH⟩⟩
    · exact ⟨0, fun h => absurd h hk⟩
  exact ⟨fun k => Classical.choose (Hk k), fun k => Classical.choose_spec (Hk k)⟩
theorem range_at {m k : Nat} {ds l : List Nat} (e : List.range m = ds ++ k :: l) : k = ds.length ∧ ds.length < m := by
  have hl := congrArg List.length e
  rw [List.length_range, List.length_append, List.length_cons] at hl
  have h2 : (List.range m)[ds.length]? = some k := by rw [e, List.getElem?_append_right (Nat.le_refl _), Nat.sub_self]; rfl
  rw [List.getElem?_range (by omega)] at h2
  exact ⟨(Option.some.inj h2).symm, by omega⟩
theorem half_up {z : UInt64} {A : Int} (hz : FV z (A * 2 ^ 14)) (hA : A.natAbs < 2 ^ 30) : ∃ y, binV .Add (.flt z) (.flt 4602678819172646912) = some (.flt y) ∧ FV y ((A + 32) * 2 ^ 14) := by
  refine ⟨_, rfl, ?_⟩
  have := hz.add fvh (by omega)
  rwa [show (A + 32) * 2 ^ 14 = A * 2 ^ 14 + 2 ^ 19 by omega]
theorem half_down {z : UInt64} {A : Int} (hz : FV z (A * 2 ^ 14)) (hA : A.natAbs < 2 ^ 30) : ∃ y, binV .Sub (.flt z) (.flt 4602678819172646912) = some (.flt y) ∧ FV y ((A - 32) * 2 ^ 14) := by
  refine ⟨_, rfl, ?_⟩
  have := hz.sub fvh (by omega)
  rwa [show (A - 32) * 2 ^ 14 = A * 2 ^ 14 - 2 ^ 19 by omega]
theorem ev_of {z : UInt64} {A s N : Int} {k : Nat} (hk : k < 8) (fz : FV z (A * 2 ^ 14)) (hs : -1 ≤ s ∧ s ≤ 1) (e : N = A * 32 + k * 4 + s) : EvV N (.tup [.flt z, .int k, .int s]) := ⟨z, A, k, s, rfl, fz, by omega, hs, e⟩
theorem ev_is {v : V} {A s : Int} {k : Nat} (h : EvV (A * 32 + k * 4 + s) v) (hk : k < 8) (hs : -1 ≤ s ∧ s ≤ 1) : ∃ z, v = .tup [.flt z, .int k, .int s] ∧ FV z (A * 2 ^ 14) := by
  obtain ⟨z, A', k', s', e, fz, hk', hs', eN⟩ := h
  have h1 : k' = k := by omega
  have h2 : s' = s := by omega
  have h3 : A' = A := by omega
  rw [h1, h2] at e
  rw [h3] at fz
  exact ⟨z, e, fz⟩
end Mine
end
section
namespace Mine
open PySem
structure FillI (m : Nat) (q : Nat → P3) (h : Nat → Int) (z : Nat → UInt64) (W : Nat → V) (j : Nat) (ρ : St) : Prop where
  heap : ∃ vs, ρ.ow ("heap" : Str) = some (.list vs) ∧ Evs ((List.range j).map (en0 h)) vs
  entry : ∃ w, ρ.fr ("entry" : Str) = some w ∧ EntryOk m q (fun i => big h i && decide (i < j)) w
  hues : ρ.fr ("hues" : Str) = some (.list ((List.range m).map fun k => V.flt (z k)))
  lights : ρ.fr ("lights" : Str) = some (.list ((List.range m).map W))
  sh : Sh ρ (fnAt 16).ns none
theorem fill_more {h : Nat → Int} {j i : Nat} (hb : big h j = false) : (big h i && decide (i < j)) = (big h i && decide (i < j + 1)) := by
  by_cases hi : i = j
  · rw [hi, hb]; rfl
  · congr 1
    exact decide_eq_decide.mpr (by omega)
theorem fill_flip {h : Nat → Int} {j i : Nat} (hb : big h j = true) : flip (fun i => big h i && decide (i < j)) j i = (big h i && decide (i < j + 1)) := by
  unfold flip
  by_cases hi : i = j
  · rw [if_pos hi, hi, hb]; simp
  · rw [if_neg hi]
    show (big h i && decide (i < j)) = _
    rw [show decide (i < j) = decide (i < j + 1) from decide_eq_decide.mpr (by omega)]
theorem map_snoc {h : Nat → Int} {j : Nat} : (List.range (j + 1)).map (en0 h) = (List.range j).map (en0 h) ++ [en0 h j] := by rw [List.range_succ, List.map_append]; rfl
structure RoundI (m : Nat) (q : Nat → P3) (h : Nat → Int) (L : List Nat) (W : Nat → V) (e : Nat) (ρ : St) : Prop where
  le : e ≤ 2 * m
  heap : ∃ k vs, ρ.ow ("heap" : Str) = some (.list vs) ∧ Evs k vs ∧ HeapFrom k 0 ∧ k.Perm (HP m h L e)
  entry : ∃ w, ρ.fr ("entry" : Str) = some w ∧ EntryOk m q (bt m h L e) w
  st : ∃ st : Nat → V, ρ.ow ("stations" : Str) = some (.list ((List.range (e + 1)).map st)) ∧ ∀ i, i ≤ e → EntryOk m q (bt m h L i) (st i)
  lights : ρ.fr ("lights" : Str) = some (.list ((List.range m).map W))
  sh : Sh ρ (fnAt 16).ns none
theorem snoc_st {st : Nat → V} {n : Nat} {w : V} : (List.range (n + 1)).map (fun i => if i < n then st i else w) = (List.range n).map st ++ [w] := by
  rw [List.range_succ, List.map_append, List.map_singleton, if_neg (Nat.lt_irrefl n)]
  congr 1
  exact List.map_congr_left fun k hk => if_pos (List.mem_range.mp hk)
set_option maxHeartbeats 4000000 in
theorem round_ok {CX : Cx} {l m : Nat} {t : Nat → Lt} {W : Nat → V} {L : List Nat} (hm : m ≤ 5) (H : Lights m t W) (O : Ord m (fun k => (t k).h) L) :
    ∃ w, runP (CX.lv (l + 3)) (fnAt 16) [.list ((List.range m).map W)] w ∧ ∃ st : Nat → V, w = .list ((List.range (2 * m + 1)).map st) ∧ ∀ i, i ≤ 2 * m → EntryOk m (fun k => (t k).pt) (bt m (fun k => (t k).h) L i) (st i) := by
  have hq : ∀ k, k < m → ((fun k => (t k).pt) k).Le 4096 := fun k hk => Lt.pt_le (H.ok k hk).1
  have hh : ∀ k, k < m → 0 ≤ (fun k => (t k).h) k ∧ (fun k => (t k).h) k < 64 := fun k hk => Lt.h_bd (H.ok k hk).1
  have HW : ∀ k, k < m → ∃ x y z : UInt64, W k = .tup [.flt x, .flt y, .flt z] ∧ FV x (256 * ((fun k => (t k).pt) k).x) ∧ FV y (256 * ((fun k => (t k).pt) k).y) ∧ FV z (256 * ((fun k => (t k).pt) k).z) := fun k hk => (H.ok k hk).2.at
  obtain ⟨z, hz⟩ := hues_fn (CX := CX) (l := l + 2) H
  have hz' : ∀ k, k < m → FV (z k) ((fun k => (t k).h) k * 2 ^ 14) := fun k hk => (hz k hk).1
  generalize (fun k => (t k).pt) = q at *
  generalize hHd : (fun k => (t k).h) = h at *
  refine run_q (by rfl) fun ρ hfr how sh => ?_
  replace sh : Sh ρ (fnAt 16).ns none := sh
  have b1 : ρ.fr ("lights" : Str) = some (.list ((List.range m).map W)) := by rw [hfr]; rfl
  refine s_putN (n_lcm (α := Nat) (g := W) (xs := List.range m) (F := fun k => V.flt (z k)) (src_name (by walk_at "lk") (.inl rfl)) (fun ρi I k hk => ?_) (by simp; omega)) ?_
  · have shi := I.sh
    obtain ⟨_, r, g, b, li, sa, eW, eH⟩ := hz k (List.mem_range.mp hk)
    rw [eW]
    exact e_sub (e_pure (vs := [.flt r, .flt g, .flt b]) (l_cons (e_sub (by walk_at "n") ec rfl) (l_cons (e_sub (by walk_at "n") ec rfl) (l_cons (e_sub (by walk_at "n") ec rfl) l_nil))) eH) ec rfl
  clear hz
  refine s_put (v := .tup [.int 0, .int 0, .int 0, .int 0, .dict []]) (e_tup (vs := [.int 0, .int 0, .int 0, .int 0, .dict []]) (l_cons ec (l_cons ec (l_cons ec (l_cons ec (l_cons n_dict0.ev l_nil)))))) ?_
  refine s_own (v := .list []) (n_list l_nil) ?_
  have lenL : Blt "len" [.list ((List.range m).map W)] (.int m) := by
    have := len_v (xs := (List.range m).map W) (by simp; omega)
    rwa [List.length_map, List.length_range] at this
  refine s_forI (α := Nat) (xs := List.range m) (g := fun i => V.int (i : Int)) (fun ds ρ => FillI m q h z W ds.length ρ) (src_range (k := m) (e_blt1 (by walk_at "n") lenL) (by omega))
    ⟨⟨[], ow_here, ⟨rfl, fun i hi => absurd hi (by simp)⟩⟩, ⟨_, by walk_at "lk", .start fun k hk => by simp⟩, by walk_at "lk", by walk_at "lk", by walk_at "sh"⟩ (fun ds k l' ρ e I => ?_) fun ρ I => ?_
  · obtain ⟨hk, hd⟩ := range_at e
    subst hk
    obtain ⟨⟨vs, q1, E⟩, ⟨w, q2, EO⟩, q3, q4, sh⟩ := I
    obtain ⟨x, y, zz, eW, fx, fy, fz⟩ := HW ds.length hd
    have hzk := hz' ds.length hd
    have hhk := hh ds.length hd
    have vl := E.len
    have el : (ds ++ [ds.length]).length = ds.length + 1 := by simp
    refine ⟨_, bt_name, s_tup (vs := [.flt x, .flt y, .flt zz]) (e_sub (by walk_at "n") (by walk_at "n") (by rw [← eW]; exact sub_at (rng_get hd) (by simp; omega))) (b_cons (b_cons (b_cons b_nil))) ?_⟩
    refine s_if (t_cmp (op := .Lt) (e_sub (by walk_at "n") (by walk_at "n") (sub_at (rng_get hd) (by simp; omega))) ec (c_ltF hzk fvh)) ?_
    by_cases hb : 32 ≤ h ds.length
    · have bg : big h ds.length = true := decide_eq_true hb
      have a1 : an h ds.length = h ds.length - 32 := by unfold an; omega
      rw [decide_eq_false (by omega)]
      obtain ⟨y2, ey, fy2⟩ := half_down hzk (by omega)
      refine s_expr (mv_append (xs := vs) (v := .tup [.flt y2, .int ds.length, .int (-1)]) (by walk_at "ow") (e_tup (vs := [.flt y2, .int ds.length, .int (-1)]) (l_cons (e_bin (e_sub (by walk_at "n") (by walk_at "n") (sub_at (rng_get hd) (by simp; omega))) ec ey) (l_cons (by walk_at "n") (l_cons (e_neg ec) l_nil)))) (by simp at vl; omega)) ?_
      have b0 : (fun i => big h i && decide (i < ds.length)) ds.length = false := by simp
      have s0 : sgnOf ((fun i => big h i && decide (i < ds.length)) ds.length) = 1 := by rw [b0]; rfl
      obtain ⟨w', eP, EO'⟩ := toggle_call (CX := CX) (l := l + 1) (by omega) hq EO hd (by rw [s0, Int.one_mul]; exact fx) (by rw [s0, Int.one_mul]; exact fy) (by rw [s0, Int.one_mul]; exact fz)
      rw [s0] at eP
      refine s_put (e_pure (vs := [w, .tup [.flt x, .flt y, .flt zz, .int 1, .dict [((ds.length : Int), 1)]]]) (l_cons (by walk_at "n") (l_cons (e_tup (vs := [.flt x, .flt y, .flt zz, .int 1, .dict [((ds.length : Int), 1)]]) (l_cons (by walk_at "n") (l_cons (by walk_at "n") (l_cons (by walk_at "n") (l_cons ec (l_cons (n_dict1 (by walk_at "n") ec).ev l_nil)))))) l_nil)) eP) ?_
      refine ex_nil (ex_nil ⟨.inl rfl, ⟨_, by walk_at "ow", ?_⟩, ⟨w', fr_here, ?_⟩, by walk_at "lk", by walk_at "lk", by walk_at "sh"⟩)
      · rw [el, map_snoc]
        exact E.snoc (ev_of (s := -1) (by omega) fy2 (by decide) (by unfold en0; rw [bg, a1]; rfl))
      · rw [el]
        exact EO'.to fun i hi => fill_flip bg
    · have bg : big h ds.length = false := decide_eq_false hb
      have a1 : an h ds.length = h ds.length := by unfold an; omega
      rw [decide_eq_true (by omega)]
      refine s_expr (mv_append (xs := vs) (v := .tup [.flt (z ds.length), .int ds.length, .int 1]) (by walk_at "ow") (e_tup (vs := [.flt (z ds.length), .int ds.length, .int 1]) (l_cons (e_sub (by walk_at "n") (by walk_at "n") (sub_at (rng_get hd) (by simp; omega))) (l_cons (by walk_at "n") (l_cons ec l_nil)))) (by simp at vl; omega)) ?_
      refine ex_nil (ex_nil ⟨.inl rfl, ⟨_, by walk_at "ow", ?_⟩, ⟨w, by walk_at "lk", ?_⟩, by walk_at "lk", by walk_at "lk", by walk_at "sh"⟩)
      · rw [el, map_snoc]
        exact E.snoc (ev_of (s := 1) (by omega) hzk (by decide) (by unfold en0; rw [bg, a1]; rfl))
      · rw [el]
        exact EO.to fun i hi => fill_more bg
  obtain ⟨⟨vs, q1, E⟩, ⟨w, q2, EO⟩, q3, q4, sh⟩ := I
  rw [List.length_range] at E EO
  obtain ⟨_, _, e3, h', vs', rfl, E', p', H'⟩ := heapify_ok (CX := CX) (l := l) E (by simp; omega)
  refine s_expr (mv_chg (vs := []) (by walk_at "ow") l_nil (chg_of ft_heapify e3)) ?_
  refine s_own (v := .list [w]) (n_list (vs := [w]) (l_cons (by walk_at "n") l_nil)) ?_
  have EO0 : EntryOk m q (bt m h L 0) w := EO.to fun k hk => by rw [bt_0, decide_eq_true hk, Bool.and_true]
  refine s_while (m := 2 * m) (fun c ρ => ∃ e, c = 2 * m - e ∧ RoundI m q h L W e ρ) (fun ρ => RoundI m q h L W (2 * m) ρ)
    ⟨0, rfl, Nat.zero_le _, ⟨h', vs', by walk_at "ow", E', H', p'.trans O.hp0⟩, ⟨w, by walk_at "lk", EO0⟩, ⟨fun _ => w, ow_here, fun i hi => by rw [Nat.le_zero.mp hi]; exact EO0⟩, by walk_at "lk", by walk_at "sh"⟩ (fun c ρ ⟨e, eC, I⟩ => ?_) fun ρ I => ?_
  · clear q1 q2 q3 q4 sh EO EO0 E E' e3 H' p' lenL b1 how hfr
    obtain ⟨le, ⟨hp, vs, q1, E, HF, pm⟩, ⟨w, q2, EO⟩, ⟨st, q3, hst⟩, q4, sh⟩ := I
    have vl := E.len
    have hl := pm.length_eq.trans (HP_len O le)
    refine ⟨_, t_cmp (by walk_at "o") (d := .list []) (b2 := true) (n_list l_nil).ev c_neL, fun h0 => ?_, fun h0 => ?_⟩
    · have h0 : vs.length = 0 := by simpa using h0
      have hm0 : e = 2 * m := by
        rw [vl, hl] at h0
        split at h0 <;> omega
      subst hm0
      exact ⟨le, ⟨hp, vs, q1, E, HF, pm⟩, ⟨w, q2, EO⟩, ⟨st, q3, hst⟩, q4, sh⟩
    · have h0 : vs.length ≠ 0 := by simpa using h0
      have he : e < 2 * m := by
        rw [vl, hl] at h0
        split at h0 <;> omega
      have h9 : hp.length < 2 ^ 9 := by rw [hl]; split <;> omega
      obtain ⟨A, k, r, S⟩ := step_of O he
      obtain ⟨tl, et, pt⟩ := heap_top (pm.trans S.top) S.le HF
      have hk := S.lt
      have sb := sgn_bd (bt m h L e k)
      obtain ⟨v, ev, hv⟩ := zero_ev E (by omega) h9
      have g0 : g hp 0 = A * 32 + k * 4 + sgnOf (bt m h L e k) := by rw [et]; rfl
      rw [g0] at hv
      obtain ⟨zA, rfl, fA⟩ := ev_is hv (by omega) sb
      obtain ⟨x, y, zz, eW, fx, fy, fz⟩ := HW k hk
      have qk := hq k hk
      have qx := qk.x; have qy := qk.y; have qz := qk.z
      have sx : ∀ {u : Int}, 0 ≤ u ∧ u ≤ 4096 → (256 * (sgnOf (bt m h L e k) * u)).natAbs < 2 ^ 53 := fun {u} hu => by
        rcases Bool.eq_false_or_eq_true (bt m h L e k) with hb | hb <;> rw [hb] <;> simp [sgnOf] <;> omega
      have s33 : (sgnOf (bt m h L e k)).natAbs < 2 ^ 33 := by omega
      have fs := fv_ofInt (n := sgnOf (bt m h L e k)) (by omega)
      have mulc : ∀ {u : Int}, sgnOf (bt m h L e k) * 2 ^ 20 * (256 * u) = 256 * (sgnOf (bt m h L e k) * u) * 2 ^ 20 := fun {u} => by grind
      obtain ⟨w', eP, EO'⟩ := toggle_call (CX := CX) (l := l + 1) (by omega) hq EO hk (fs.mul _ fx mulc (sx qx)) (fs.mul _ fy mulc (sx qy)) (fs.mul _ fz mulc (sx qz))
      refine s_tup (e_sub (by walk_at "o") ec ev) (b_cons (b_cons (b_cons b_nil))) ?_
      refine s_tup (vs := [.flt x, .flt y, .flt zz]) (e_sub (by walk_at "n") (by walk_at "n") (by rw [← eW]; exact sub_at (rng_get hk) (by simp; omega))) (b_cons (b_cons (b_cons b_nil))) ?_
      refine s_put (e_pure (l_cons (by walk_at "n") (l_cons (e_tup (l_cons (e_bin (by walk_at "n") (by walk_at "n") (mul_if s33)) (l_cons (e_bin (by walk_at "n") (by walk_at "n") (mul_if s33)) (l_cons (e_bin (by walk_at "n") (by walk_at "n") (mul_if s33)) (l_cons (by walk_at "n") (l_cons (n_dict1 (by walk_at "n") (by walk_at "n")).ev l_nil)))))) l_nil)) eP) ?_
      refine s_expr (mv_append (v := w') (by walk_at "ow") (by walk_at "n") (by simp; omega)) ?_
      have EO1 : EntryOk m q (bt m h L (e + 1)) w' := EO'.to fun j hj => (S.flip j hj).symm
      have st1 : ∀ i, i ≤ e + 1 → EntryOk m q (bt m h L i) (if i < e + 1 then st i else w') := fun i hi => by
        by_cases hlt : i < e + 1
        · rw [if_pos hlt]; exact hst i (by omega)
        · rw [if_neg hlt, show i = e + 1 by omega]; exact EO1
      clear fs mulc sx fx fy fz
      refine s_if (t_cmp (op := .Lt) (by walk_at "n") (d := .flt 4602678819172646912) (b2 := true) ec (c_ltF fA fvh)) ?_
      by_cases hA : A < 32
      · rw [decide_eq_true (by omega)]
        obtain ⟨y2, ey, fy2⟩ := half_up fA (by have := S.lo; omega)
        have hN : EvV ((A + 32) * 32 + k * 4 + sgnOf (!bt m h L e k)) (.tup [.flt y2, .int k, .int (-sgnOf (bt m h L e k))]) := ev_of (by omega) fy2 (by omega) (by rw [sgn_not])
        obtain ⟨_, _, e3, h2, vs2, rfl, E2, p2, H2⟩ := replace_ok (CX := CX) (l := l) E h9 (by omega) HF hN
        refine s_expr (mv_chg (y := .list vs) (vs := [.tup [.flt y2, .int k, .int (-sgnOf (bt m h L e k))]]) (by walk_at "ow") (l_cons (e_tup (vs := [.flt y2, .int k, .int (-sgnOf (bt m h L e k))]) (l_cons (e_bin (by walk_at "n") ec ey) (l_cons (by walk_at "n") (l_cons (e_neg (by walk_at "n")) l_nil)))) l_nil) (chg_of ft_replace e3)) ?_
        refine ex_nil (ex_nil (.inl ⟨.inl rfl, 2 * m - (e + 1), by omega, e + 1, rfl, he, ⟨h2, vs2, by walk_at "ow", E2, H2, ?_⟩, ⟨w', by walk_at "lk", EO1⟩, ⟨fun i => if i < e + 1 then st i else w', ?_, st1⟩, by walk_at "lk", by walk_at "sh"⟩))
        · refine p2.trans (.trans ?_ (S.first hA).2.symm)
          rw [et]
          exact pt.cons _
        · rw [snoc_st]; walk_at "ow"
      · rw [decide_eq_false (by omega)]
        obtain ⟨_, _, e3, h2, vs2, rfl, E2, p2, H2⟩ := pop_fn (CX := CX) (l := l) E h9 (by omega) HF
        refine s_expr (mv_chg (y := .list vs) (vs := []) (by walk_at "ow") l_nil (chg_of ft_pop e3)) ?_
        refine ex_nil (ex_nil (.inl ⟨.inl rfl, 2 * m - (e + 1), by omega, e + 1, rfl, he, ⟨h2, vs2, by walk_at "ow", E2, H2, ?_⟩, ⟨w', by walk_at "lk", EO1⟩, ⟨fun i => if i < e + 1 then st i else w', ?_, st1⟩, by walk_at "lk", by walk_at "sh"⟩))
        · refine p2.trans (.trans ?_ (S.second hA).2.symm)
          rw [et]
          exact heap_rest.trans pt
        · rw [snoc_st]; walk_at "ow"
  · obtain ⟨_, _, _, ⟨st, q3, hst⟩, _, sh⟩ := I
    exact s_ret (e_fr (fr_frozen q3 sh.bon)) ⟨_, rfl, st, rfl, hst⟩
end Mine
end
section
namespace Mine
open PySem
noncomputable def sI (f : Nat → Int) : Nat → Int
  | 0 => 0
  | n + 1 => sI f n + f n
noncomputable def SX (f : Nat → Int) (b : Nat → Bool) (m : Nat) : Int := sI (fun k => if b k = true then f k else 0) m
theorem sI_congr {f g : Nat → Int} : ∀ {n : Nat}, (∀ k, k < n → f k = g k) → sI f n = sI g n
  | 0, _ => rfl
  | n + 1, h => by unfold sI; rw [sI_congr fun k hk => h k (Nat.lt_succ_of_lt hk), h n (Nat.lt_succ_self n)]
theorem sI_le {f g : Nat → Int} : ∀ {n : Nat}, (∀ k, k < n → f k ≤ g k) → sI f n ≤ sI g n
  | 0, _ => Int.le_refl _
  | n + 1, h => Int.add_le_add (sI_le fun k hk => h k (Nat.lt_succ_of_lt hk)) (h n (Nat.lt_succ_self n))
theorem sI_add {f g : Nat → Int} : ∀ {n : Nat}, sI (fun k => f k + g k) n = sI f n + sI g n
  | 0 => rfl
  | n + 1 => by unfold sI; rw [sI_add]; omega
theorem sI_sub {f g : Nat → Int} : ∀ {n : Nat}, sI (fun k => f k - g k) n = sI f n - sI g n
  | 0 => rfl
  | n + 1 => by unfold sI; rw [sI_sub]; omega
theorem sI_split {f : Nat → Int} {m : Nat} : ∀ n, sI f (m + n) = sI f m + sI (fun i => f (m + i)) n
  | 0 => by unfold sI; rw [Int.add_zero]; rfl
  | n + 1 => by
    show sI f (m + n) + f (m + n) = _
    rw [sI_split n]
    show _ = _ + (sI (fun i => f (m + i)) n + f (m + n))
    omega
theorem sI_list {f : Nat → Int} : ∀ n, ((List.range n).map f).sum = sI f n
  | 0 => rfl
  | n + 1 => by rw [List.range_succ, List.map_append, List.sum_append, sI_list n]; show _ = sI f n + f n; simp
theorem perm_sum {a b : List Int} (p : a.Perm b) : a.sum = b.sum := by
  induction p with
  | nil => rfl
  | cons x _ ih => rw [List.sum_cons, List.sum_cons, ih]
  | swap x y l => rw [List.sum_cons, List.sum_cons, List.sum_cons, List.sum_cons]; omega
  | trans _ _ h1 h2 => exact h1.trans h2
theorem sI_pairs {F : Nat → Nat → Int} (hs : ∀ i j, F i j = F j i) (h0 : ∀ i, F i i = 0) : ∀ m, sI (fun k => sI (F k) m) m = 2 * sI (fun j => sI (fun i => F i j) j) m
  | 0 => rfl
  | m + 1 => by
    show sI (fun k => sI (F k) m + F k m) m + (sI (F m) m + F m m) = 2 * (sI (fun j => sI (fun i => F i j) j) m + sI (fun i => F i m) m)
    rw [sI_add, sI_pairs hs h0 m, h0, sI_congr (f := F m) (g := fun i => F i m) fun k _ => hs m k]
    omega
theorem SX_congr {f : Nat → Int} {b b' : Nat → Bool} {m : Nat} (h : ∀ k, k < m → b k = b' k) : SX f b m = SX f b' m := sI_congr fun k hk => by rw [h k hk]
structure Below (f : Nat → Int) (b : Nat → Bool) (m : Nat) : Prop where
  le : ∀ k, k < m → b k = true → f k ≤ 0
  ge : ∀ k, k < m → b k = false → 0 ≤ f k
theorem Below.least {f : Nat → Int} {b b' : Nat → Bool} {m : Nat} (B : Below f b m) : SX f b m ≤ SX f b' m := sI_le fun k hk => by
  have h1 := B.le k hk
  have h2 := B.ge k hk
  cases hb : b k <;> cases hb' : b' k <;> simp [hb] at h1 h2 ⊢ <;> assumption
theorem Below.most {f : Nat → Int} {b b' : Nat → Bool} {m : Nat} (B : Below f b m) : SX f b' m ≤ SX f (fun k => !b k) m := sI_le fun k hk => by
  have h1 := B.le k hk
  have h2 := B.ge k hk
  cases hb : b k <;> cases hb' : b' k <;> simp [hb] at h1 h2 ⊢ <;> assumption
theorem Below.wide {f : Nat → Int} {b : Nat → Bool} {m : Nat} (B : Below f b m) : SX f (fun k => !b k) m - SX f b m = sI (fun k => ((f k).natAbs : Int)) m := by
  unfold SX
  rw [← sI_sub]
  refine sI_congr fun k hk => ?_
  have h1 := B.le k hk
  have h2 := B.ge k hk
  cases hb : b k <;> simp [hb] at h1 h2 ⊢ <;> omega
theorem cr_add {d p r : P3} : cr d (p.add r) = cr d p + cr d r := by
  show (d.x - d.z) * (p.y + r.y - (p.z + r.z)) - (d.y - d.z) * (p.x + r.x - (p.z + r.z)) = (d.x - d.z) * (p.y - p.z) - (d.y - d.z) * (p.x - p.z) + ((d.x - d.z) * (r.y - r.z) - (d.y - d.z) * (r.x - r.z))
  grind
theorem cr_zero {d : P3} : cr d .zero = 0 := by
  show (d.x - d.z) * (0 - 0) - (d.y - d.z) * (0 - 0) = 0
  grind
theorem cr_times {p r : P3} {s : Int} : cr (p.times s) r = s * cr p r := by
  show (s * p.x - s * p.z) * (r.y - r.z) - (s * p.y - s * p.z) * (r.x - r.z) = s * ((p.x - p.z) * (r.y - r.z) - (p.y - p.z) * (r.x - r.z))
  grind
theorem cr_anti (p r : P3) : cr r p = -cr p r := by
  show (r.x - r.z) * (p.y - p.z) - (r.y - r.z) * (p.x - p.z) = -((p.x - p.z) * (r.y - r.z) - (p.y - p.z) * (r.x - r.z))
  grind
theorem cr_self (p : P3) : cr p p = 0 := by have := cr_anti p p; omega
theorem cr_SP {q : Nat → P3} {b : Nat → Bool} {d : P3} : ∀ m, cr d (SP q b m) = SX (fun k => cr d (q k)) b m
  | 0 => cr_zero
  | m + 1 => by
    show cr d (if b m = true then (SP q b m).add (q m) else SP q b m) = SX _ b m + if b m = true then cr d (q m) else 0
    rw [← cr_SP m]
    cases b m with
    | false => exact (Int.add_zero _).symm
    | true => exact cr_add
theorem sub_add {p d : P3} : (p.add d).sub p = d := P3.ext' (by show p.x + d.x - p.x = d.x; omega) (by show p.y + d.y - p.y = d.y; omega) (by show p.z + d.z - p.z = d.z; omega)
noncomputable def MK (b : Nat → Bool) : Nat → Nat
  | 0 => 0
  | k + 1 => MK b k + if b k = true then 2 ^ k else 0
theorem MK_lt {b : Nat → Bool} : ∀ m, MK b m < 2 ^ m
  | 0 => by unfold MK; decide
  | m + 1 => by
    have := MK_lt (b := b) m
    unfold MK
    rw [Nat.pow_succ]
    split <;> omega
theorem MK_not {b b' : Nat → Bool} : ∀ {m : Nat}, (∀ k, k < m → b' k = !b k) → MK b m + MK b' m + 1 = 2 ^ m
  | 0, _ => rfl
  | m + 1, h => by
    have ih := MK_not (m := m) fun k hk => h k (Nat.lt_succ_of_lt hk)
    unfold MK
    rw [h m (Nat.lt_succ_self m), Nat.pow_succ]
    cases b m <;> simp <;> omega
theorem MK_sum {b : Nat → Bool} : ∀ m, (((List.range m).filter b).map fun k : Nat => (2 : Int) ^ k).sum = (MK b m : Nat)
  | 0 => rfl
  | m + 1 => by
    rw [List.range_succ, List.filter_append, List.map_append, List.sum_append, MK_sum m]
    show _ = ((MK b m + if b m = true then 2 ^ m else 0 : Nat) : Int)
    cases hb : b m with
    | false => simp [hb]
    | true => simp [hb]
noncomputable def MX (q : Nat → P3) (m : Nat) : List P3 := mixL ((List.range m).map q)
theorem MX_succ {q : Nat → P3} {m : Nat} : MX q (m + 1) = MX q m ++ (MX q m).map fun p => p.add (q m) := by
  unfold MX
  rw [List.range_succ, List.map_append, List.map_singleton, mixL_snoc]
theorem MX_len {q : Nat → P3} {m : Nat} : (MX q m).length = 2 ^ m := by unfold MX; rw [mixL_len]; simp
theorem MX_at {q : Nat → P3} {b : Nat → Bool} : ∀ m, (MX q m)[MK b m]? = some (SP q b m)
  | 0 => rfl
  | m + 1 => by
    have ih := MX_at (q := q) (b := b) m
    have hl := MK_lt (b := b) m
    rw [MX_succ]
    unfold MK SP
    cases b m with
    | false =>
      simp only [Bool.false_eq_true, if_false, Nat.add_zero]
      rw [List.getElem?_append_left (by rw [MX_len]; exact hl)]
      exact ih
    | true =>
      simp only [if_true]
      rw [List.getElem?_append_right (by rw [MX_len]; omega), MX_len, Nat.add_sub_cancel, List.getElem?_map, ih]
      rfl
theorem MX_mem {q : Nat → P3} : ∀ {m : Nat} {p : P3}, p ∈ MX q m → ∃ b, p = SP q b m
  | 0, p, h => ⟨fun _ => false, List.mem_singleton.mp h⟩
  | m + 1, p, h => by
    rw [MX_succ] at h
    rcases List.mem_append.mp h with h | h
    · obtain ⟨b, e⟩ := MX_mem h
      refine ⟨fun k => if k = m then false else b k, ?_⟩
      unfold SP
      rw [if_pos rfl, if_neg Bool.false_ne_true, e]
      exact SP_congr fun k hk => (if_neg (Nat.ne_of_lt hk)).symm
    · obtain ⟨r, hr, e⟩ := List.mem_map.mp h
      obtain ⟨b, eb⟩ := MX_mem hr
      refine ⟨fun k => if k = m then true else b k, ?_⟩
      unfold SP
      rw [if_pos rfl, if_pos rfl, ← e, eb]
      congr 1
      exact SP_congr fun k hk => (if_neg (Nat.ne_of_lt hk)).symm
theorem SP_mem {q : Nat → P3} {b : Nat → Bool} {m : Nat} : SP q b m ∈ MX q m := List.mem_of_getElem? (MX_at m)
theorem SP_times_small {p : P3} {b : Bool} (h : p.Le 4096) : (p.times (sgnOf b)).Small := by
  have h1 := h.x; have h2 := h.y; have h3 := h.z
  cases b <;> exact ⟨by simp only [P3.times, sgnOf]; simp; omega, by simp only [P3.times, sgnOf]; simp; omega, by simp only [P3.times, sgnOf]; simp; omega⟩
theorem reach_of {q : Nat → P3} {b : Nat → Bool} {m : Nat} {d : P3} (hd : d.Small) (B : Below (fun k => cr d (q k)) b m) : Reach (MX q m) ((List.range m).map q) d (SP q b m) (SX (fun k => cr d (q k)) (fun k => !b k) m) where
  small := hd
  lo := List.mem_map_of_mem SP_mem
  least := fun i hi => by
    obtain ⟨p, hp, e⟩ := List.mem_map.mp hi
    obtain ⟨b', eb⟩ := MX_mem hp
    rw [← e, eb, cr_SP, cr_SP]
    exact B.least
  hi := List.mem_map.mpr ⟨SP q (fun k => !b k) m, SP_mem, cr_SP m⟩
  most := fun i hi => by
    obtain ⟨p, hp, e⟩ := List.mem_map.mp hi
    obtain ⟨b', eb⟩ := MX_mem hp
    rw [← e, eb, cr_SP]
    exact B.most
  wide := by
    rw [cr_SP, B.wide, List.map_map]
    exact (sI_list m).symm
end Mine
end
section
namespace Mine
open PySem
section
variable {m : Nat} {h : Nat → Int} {L : List Nat} {e k : Nat}
theorem bt_low (he : e ≤ m) {j : Nat} : bt m h L e j = (big h j != decide (j ∈ L.take e)) := by
  unfold bt
  rw [Nat.sub_eq_zero_of_le he, List.take_zero]
  simp
theorem bt_half (O : Ord m h L) (he : e ≤ m) {j : Nat} (hj : j < m) : bt m h L (e + m) j = !bt m h L e j := by
  rw [bt_low he]
  unfold bt
  rw [List.take_of_length_le (by rw [O.len]; omega), Nat.add_sub_cancel, decide_eq_true (O.mem.mpr hj)]
  cases big h j <;> cases decide (j ∈ L.take e) <;> rfl
theorem met (O : Ord m h L) (he : e < L.length) {j : Nat} (hj : j < m) : j ∈ L.take e ↔ en0 h j < en0 h L[e] := by
  have s := O.srt
  rw [List.pairwise_iff_getElem] at s
  obtain ⟨i, hi, rfl⟩ := List.getElem_of_mem (O.mem.mpr hj)
  constructor
  · intro hm
    obtain ⟨i', hi', ei⟩ := List.getElem_of_mem hm
    rw [List.length_take] at hi'
    rw [List.getElem_take] at ei
    have := (List.getElem_inj O.nodup).mp ei
    exact s i e hi he (by omega)
  · intro hlt
    have hie : i < e := Nat.lt_of_not_le fun hle => by
      rcases Nat.eq_or_lt_of_le hle with rfl | hl
      · exact Int.lt_irrefl _ hlt
      · have := s e i he hi hl
        omega
    exact List.mem_take_iff_getElem.mpr ⟨i, by omega, rfl⟩
theorem cut {f : Nat → Int} {c : Int} : ∀ {L : List Nat}, (L.Pairwise fun i j => f i < f j) → ∃ e, e ≤ L.length ∧ ∀ k ∈ L, (k ∈ L.take e ↔ f k < c)
  | [], _ => ⟨0, Nat.le_refl _, fun _ h => absurd h List.not_mem_nil⟩
  | x :: L, s => by
    obtain ⟨s1, s2⟩ := List.pairwise_cons.mp s
    by_cases hx : f x < c
    · obtain ⟨e, he, H⟩ := cut (c := c) s2
      refine ⟨e + 1, Nat.succ_le_succ he, fun k hk => ?_⟩
      rw [List.take_succ_cons]
      rcases List.mem_cons.mp hk with rfl | hk'
      · exact ⟨fun _ => hx, fun _ => List.mem_cons_self⟩
      · exact ⟨fun h => (List.mem_cons.mp h).elim (fun q => q ▸ hx) (H k hk').mp, fun h => List.mem_cons_of_mem _ ((H k hk').mpr h)⟩
    · refine ⟨0, Nat.zero_le _, fun k hk => ⟨fun h => absurd h List.not_mem_nil, fun h => ?_⟩⟩
      rcases List.mem_cons.mp hk with rfl | hk'
      · exact absurd h hx
      · have := s1 k hk'; omega
theorem station (O : Ord m h L) (hh : ∀ k, k < m → 0 ≤ h k ∧ h k < 64) {θ : Int} (h0 : 0 ≤ θ) (h1 : θ < 64) : ∃ e, e ≤ 2 * m ∧ ∀ k, k < m → bt m h L e k = decide ((θ - h k) % 64 < 32) := by
  have low : ∀ {θ : Int}, 0 ≤ θ → θ < 32 → ∃ e, e ≤ m ∧ ∀ k, k < m → bt m h L e k = decide ((θ - h k) % 64 < 32) := fun {θ} h0 h1 => by
    obtain ⟨e, he, H⟩ := cut (c := θ * 32 + 30) O.srt
    rw [O.len] at he
    refine ⟨e, he, fun k hk => ?_⟩
    rw [bt_low he]
    have hm := H k (O.mem.mpr hk)
    have hb := hh k hk
    have h8 := O.m8
    have sb := sgn_bd (big h k)
    have e2 : decide (k ∈ L.take e) = decide (an h k ≤ θ) := decide_eq_decide.mpr (hm.trans (by unfold en0; omega))
    rw [e2]
    unfold big an
    rw [Bool.eq_iff_iff]
    simp only [bne_iff_ne, ne_eq, decide_eq_decide, decide_eq_true_eq]
    omega
  by_cases hθ : θ < 32
  · obtain ⟨e, he, H⟩ := low h0 hθ
    exact ⟨e, by omega, H⟩
  · obtain ⟨e, he, H⟩ := low (θ := θ - 32) (by omega) (by omega)
    refine ⟨e + m, by omega, fun k hk => ?_⟩
    rw [bt_half O he hk, H k hk, ← decide_not]
    exact decide_eq_decide.mpr (by omega)
end
theorem sgn_cr {t u : Lt} (ht : t.Ok) (hu : u.Ok) : (t.h = u.h → cr t.pt u.pt = 0) ∧ (¬ ah t.h u.h → cr t.pt u.pt ≤ 0) ∧ (¬ ah u.h t.h → 0 ≤ cr t.pt u.pt) := by
  rw [cr_pt]
  by_cases h1 : t.s = 0
  · rw [Lt.c_zero h1, Int.zero_mul, Int.mul_zero, Int.zero_mul]
    exact ⟨fun _ => rfl, fun _ => Int.le_refl _, fun _ => Int.le_refl _⟩
  by_cases h2 : u.s = 0
  · rw [Lt.c_zero h2, Int.mul_zero, Int.mul_zero, Int.zero_mul]
    exact ⟨fun _ => rfl, fun _ => Int.le_refl _, fun _ => Int.le_refl _⟩
  have e1 : t.h = t.p := if_neg h1
  have e2 : u.h = u.p := if_neg h2
  rw [e1, e2]
  have c0 : 0 ≤ 4 * (t.c * u.c) := by have := Int.mul_pos (Lt.c_pos ht h1) (Lt.c_pos hu h2); omega
  have le : ¬ ah t.p u.p → D t.p u.p ≤ 0 := fun h => Int.not_lt.mp fun q => h ((d_pos ht.p hu.p).mp q)
  have ge : ¬ ah u.p t.p → 0 ≤ D t.p u.p := fun h => by
    have : ¬ 0 < D u.p t.p := fun q => h ((d_pos hu.p ht.p).mp q)
    rw [d_neg] at this
    omega
  have L := fun h => Int.mul_nonpos_of_nonneg_of_nonpos c0 (le h)
  have G := fun h => Int.mul_nonneg c0 (ge h)
  refine ⟨fun h => ?_, L, G⟩
  have := L (by unfold ah; omega)
  have := G (by unfold ah; omega)
  omega
structure Edge (m : Nat) (t : Nat → Lt) (L : List Nat) (e k : Nat) (s : Int) : Prop where
  lt : k < m
  who : L[e]? = some k
  sg : s = 1 ∨ s = -1
  next : SP (fun k => (t k).pt) (bt m (fun k => (t k).h) L (e + 1)) m = (SP (fun k => (t k).pt) (bt m (fun k => (t k).h) L e) m).add ((t k).pt.times s)
  anti : SP (fun k => (t k).pt) (bt m (fun k => (t k).h) L (e + 1 + m)) m = (SP (fun k => (t k).pt) (bt m (fun k => (t k).h) L (e + m)) m).add ((t k).pt.times (-s))
  side : Below (fun j => cr ((t k).pt.times s) (t j).pt) (bt m (fun k => (t k).h) L e) m
theorem edge_of {m : Nat} {t : Nat → Lt} {L : List Nat} {e : Nat} (ok : ∀ k, k < m → (t k).Ok) (O : Ord m (fun k => (t k).h) L) (he : e < m) : ∃ k s, Edge m t L e k s := by
  have hl : e < L.length := by rw [O.len]; exact he
  have hk : L[e] < m := O.mem.mp (List.getElem_mem hl)
  have hbd : ∀ k, k < m → 0 ≤ (fun k => (t k).h) k ∧ (fun k => (t k).h) k < 64 := fun k hk => Lt.h_bd (ok k hk)
  have sg : ∀ j, j < m → (((fun k => (t k).h) L[e] = (fun k => (t k).h) j → cr (t L[e]).pt (t j).pt = 0) ∧ (¬ ah ((fun k => (t k).h) L[e]) ((fun k => (t k).h) j) → cr (t L[e]).pt (t j).pt ≤ 0) ∧ (¬ ah ((fun k => (t k).h) j) ((fun k => (t k).h) L[e]) → 0 ≤ cr (t L[e]).pt (t j).pt)) := fun j hj => sgn_cr (ok _ hk) (ok j hj)
  have fl : ∀ j, bt m (fun k => (t k).h) L (e + 1) j = flip (bt m (fun k => (t k).h) L e) L[e] j := fun j => by
    rw [bt_low (by omega), take_flip O.nodup hl]
    unfold flip
    rw [bt_low (by omega), bt_low (by omega)]
    by_cases hj : j = L[e]
    · rw [if_pos hj, if_pos hj, ← hj]
      cases big (fun k => (t k).h) j <;> cases decide (j ∈ L.take e) <;> rfl
    · rw [if_neg hj, if_neg hj]
  have bk : bt m (fun k => (t k).h) L e L[e] = big (fun k => (t k).h) L[e] := by
    rw [bt_low (by omega), decide_eq_false (not_take O.nodup hl)]
    simp
  refine ⟨L[e], sgnOf (big (fun k => (t k).h) L[e]), hk, List.getElem?_eq_getElem hl, by cases big (fun k => (t k).h) L[e]; exact .inl rfl; exact .inr rfl, ?_, ?_, ?_⟩
  · rw [SP_congr fun j _ => fl j, SP_flip hk, bk]
  · have e1 : ∀ j, j < m → bt m (fun k => (t k).h) L (e + 1 + m) j = flip (bt m (fun k => (t k).h) L (e + m)) L[e] j := fun j hj => by
      rw [bt_half O (by omega) hj, fl]
      unfold flip
      rw [bt_half O (by omega) hk, bt_half O (by omega) hj]
      split <;> rfl
    rw [SP_congr e1, SP_flip hk, bt_half O (by omega) hk, bk, sgn_not]
  · generalize (fun k => (t k).h) = h at *
    have key : ∀ j, j < m → (bt m h L e j = true → sgnOf (big h L[e]) * cr (t L[e]).pt (t j).pt ≤ 0) ∧ (bt m h L e j = false → 0 ≤ sgnOf (big h L[e]) * cr (t L[e]).pt (t j).pt) := fun j hj => by
      obtain ⟨s0, s1, s2⟩ := sg j hj
      have b1 := hbd _ hk
      have b2 := hbd j hj
      have h8 := O.m8
      have g1 := sgn_bd (big h j)
      have g2 := sgn_bd (big h L[e])
      have em : decide (j ∈ L.take e) = decide (en0 h j < en0 h L[e]) := decide_eq_decide.mpr (met O hl hj)
      rw [bt_low (by omega), em]
      generalize cr (t L[e]).pt (t j).pt = c at *
      generalize L[e] = k at *
      have hen : (an h j < an h k → en0 h j < en0 h k) ∧ (en0 h j < en0 h k → an h j ≤ an h k) := by unfold en0; omega
      generalize en0 h j = x at *
      generalize en0 h k = y at *
      unfold ah at *
      unfold an at *
      unfold big at *
      by_cases hb1 : 32 ≤ h k <;> by_cases hb2 : 32 ≤ h j <;> by_cases hx : x < y <;> simp only [hb1, hb2, hx, decide_true, decide_false, sgnOf, if_true, Bool.false_eq_true, if_false, bne_self_eq_false, Bool.true_bne, Bool.false_bne, Bool.bne_true, Bool.bne_false, Bool.not_true, Bool.not_false, false_imp_iff, true_imp_iff, Bool.true_eq_false, and_true, true_and] <;> omega
    exact ⟨fun j hj hb => by rw [show cr _ _ = _ from cr_times]; exact (key j hj).1 hb, fun j hj hb => by rw [show cr _ _ = _ from cr_times]; exact (key j hj).2 hb⟩
end Mine
end
section
namespace Mine
open PySem
theorem sI_along {F : Nat → Int} {L : List Nat} {m : Nat} (h : L.length = m) : sI (fun e => F (L.getD e 0)) m = (L.map F).sum := by
  rw [← sI_list]
  congr 1
  refine List.ext_getElem (by simp [h]) fun i h1 h2 => ?_
  have hi : i < L.length := by simpa using h2
  rw [List.getElem_map, List.getElem_map, List.getElem_range, List.getD_eq_getElem?_getD, List.getElem?_eq_getElem hi, Option.getD_some]
theorem cr_step (p d : P3) : cr p (p.add d) = -cr d p := by rw [cr_add, cr_self, cr_anti d p]; omega
section
variable {m : Nat} {t : Nat → Lt} {L : List Nat} (ok : ∀ k, k < m → (t k).Ok) (O : Ord m (fun k => (t k).h) L)
noncomputable def Pn (m : Nat) (t : Nat → Lt) (L : List Nat) (e : Nat) : P3 := SP (fun k => (t k).pt) (bt m (fun k => (t k).h) L e) m
include ok O
theorem ring_two {e : Nat} (he : e < m) : cr (Pn m t L e) (Pn m t L (e + 1)) + cr (Pn m t L (m + e)) (Pn m t L (m + e + 1)) = sI (fun j => ((cr (t (L.getD e 0)).pt (t j).pt).natAbs : Int)) m := by
  obtain ⟨k, s, E⟩ := edge_of ok O he
  have ek : L.getD e 0 = k := by rw [List.getD_eq_getElem?_getD, E.who]; rfl
  have n1 : Pn m t L (e + 1) = (Pn m t L e).add ((t k).pt.times s) := E.next
  have n2 : Pn m t L (m + e + 1) = (Pn m t L (m + e)).add ((t k).pt.times (-s)) := by
    rw [show m + e + 1 = e + 1 + m by omega, show m + e = e + m by omega]; exact E.anti
  have hc : Pn m t L (m + e) = SP (fun k => (t k).pt) (fun k => !bt m (fun k => (t k).h) L e k) m := by
    rw [show m + e = e + m by omega]
    exact SP_congr fun j hj => bt_half O (by omega) hj
  rw [n1, n2, cr_step, cr_step, ek, show cr ((t k).pt.times (-s)) _ = _ from cr_times, Int.neg_mul, Int.neg_neg, ← cr_times, hc]
  have w := E.side.wide
  rw [← cr_SP, ← cr_SP] at w
  rw [show sI (fun j => ((cr (t k).pt (t j).pt).natAbs : Int)) m = sI (fun j => ((cr ((t k).pt.times s) (t j).pt).natAbs : Int)) m from sI_congr fun j _ => by
    rw [show cr ((t k).pt.times s) _ = _ from cr_times]
    rcases E.sg with rfl | rfl
    · rw [Int.one_mul]
    · rw [Int.neg_mul, Int.one_mul, Int.natAbs_neg]]
  rw [← w]
  show -cr _ (SP _ _ m) + _ = _
  omega
theorem ring_eq : sI (fun e => cr (Pn m t L e) (Pn m t L (e + 1))) (2 * m) = 2 * sI (fun j => sI (fun i => ((cr (t i).pt (t j).pt).natAbs : Int)) j) m := by
  have hF : ∀ i j, (fun i j => ((cr (t i).pt (t j).pt).natAbs : Int)) i j = (fun i j => ((cr (t i).pt (t j).pt).natAbs : Int)) j i := fun i j => by
    show ((cr (t i).pt (t j).pt).natAbs : Int) = (cr (t j).pt (t i).pt).natAbs
    rw [cr_anti (t i).pt (t j).pt, Int.natAbs_neg]
  rw [Nat.two_mul, sI_split, ← sI_add, sI_congr fun e he => ring_two ok O he, sI_along (F := fun k => sI (fun j => ((cr (t k).pt (t j).pt).natAbs : Int)) m) O.len, perm_sum (O.perm.map _), sI_list, ← sI_pairs hF fun i => ?_]
  show ((cr (t i).pt (t i).pt).natAbs : Int) = 0
  rw [cr_self]; rfl
end
noncomputable def Ua (p : Int) (k : Nat) : Int := if k = 0 then (U p).1 else if k = 1 then (U p).2.1 else (U p).2.2
theorem half_all : ((List.range 3).all fun i => (List.range 3).all fun j => (List.range 64).any fun a => (List.range 64).all fun p =>
    (!decide (0 < Ua (p : Nat) i - Ua (p : Nat) j) || decide (((a : Nat) - (p : Nat) : Int) % 64 < 32)) && (!decide (Ua (p : Nat) i - Ua (p : Nat) j < 0) || !decide (((a : Nat) - (p : Nat) : Int) % 64 < 32))) = true := by decide +kernel
theorem half_of {i j : Nat} (hi : i < 3) (hj : j < 3) : ∃ θ : Int, (0 ≤ θ ∧ θ < 64) ∧ ∀ p : Int, 0 ≤ p ∧ p < 64 → (0 < Ua p i - Ua p j → (θ - p) % 64 < 32) ∧ (Ua p i - Ua p j < 0 → ¬ (θ - p) % 64 < 32) := by
  obtain ⟨a, ha, H⟩ := List.any_eq_true.mp (List.all_eq_true.mp (List.all_eq_true.mp half_all i (List.mem_range.mpr hi)) j (List.mem_range.mpr hj))
  have ha := List.mem_range.mp ha
  refine ⟨a, by omega, fun p hp => ?_⟩
  obtain ⟨n, hn, rfl⟩ := nat_of hp
  have := List.all_eq_true.mp H n (List.mem_range.mpr hn)
  simp only [Bool.and_eq_true, Bool.or_eq_true, Bool.not_eq_true', decide_eq_true_eq, decide_eq_false_iff_not] at this
  exact ⟨fun h => this.1.resolve_left fun q => q h, fun h => this.2.resolve_left fun q => q h⟩
theorem pt_at {t : Lt} {k : Nat} : t.pt.at k = t.w (Ua t.p k) := by
  unfold P3.at Ua
  split
  · rfl
  · split <;> rfl
theorem pt_diff {t : Lt} {i j : Nat} : t.pt.at i - t.pt.at j = 2 * t.c * (Ua t.p i - Ua t.p j) := by rw [pt_at, pt_at]; unfold Lt.w; grind
theorem add_at {p r : P3} {k : Nat} : (p.add r).at k = p.at k + r.at k := by
  unfold P3.at
  split
  · rfl
  · split <;> rfl
theorem SP_diff {q : Nat → P3} {b : Nat → Bool} {i j : Nat} : ∀ m, (SP q b m).at i - (SP q b m).at j = SX (fun k => (q k).at i - (q k).at j) b m
  | 0 => by
    have : ∀ k, P3.zero.at k = 0 := fun k => by unfold P3.at P3.zero; split; rfl; split <;> rfl
    show P3.zero.at i - P3.zero.at j = 0
    rw [this, this]; rfl
  | m + 1 => by
    show (if b m = true then (SP q b m).add (q m) else SP q b m).at i - (if b m = true then (SP q b m).add (q m) else SP q b m).at j = SX _ b m + if b m = true then (q m).at i - (q m).at j else 0
    rw [← SP_diff m]
    cases b m with
    | false => exact (Int.add_zero _).symm
    | true => rw [if_pos rfl, if_pos rfl, add_at, add_at]; omega
theorem spread_ge {p : P3} (i j : Nat) : p.at i - p.at j ≤ spread p := by
  unfold P3.at spread
  split <;> split <;> (try split) <;> (try split) <;> omega
theorem spread_is (p : P3) : ∃ i j, i < 3 ∧ j < 3 ∧ spread p = p.at i - p.at j := by
  have hi : ∃ i, i < 3 ∧ max (max p.x p.y) p.z = p.at i := by
    by_cases h1 : max (max p.x p.y) p.z = p.x
    · exact ⟨0, by decide, h1⟩
    · by_cases h2 : max (max p.x p.y) p.z = p.y
      · exact ⟨1, by decide, h2⟩
      · exact ⟨2, by decide, show _ = p.z by omega⟩
  have hj : ∃ i, i < 3 ∧ min (min p.x p.y) p.z = p.at i := by
    by_cases h1 : min (min p.x p.y) p.z = p.x
    · exact ⟨0, by decide, h1⟩
    · by_cases h2 : min (min p.x p.y) p.z = p.y
      · exact ⟨1, by decide, h2⟩
      · exact ⟨2, by decide, show _ = p.z by omega⟩
  obtain ⟨i, hi, ei⟩ := hi
  obtain ⟨j, hj, ej⟩ := hj
  exact ⟨i, j, hi, hj, by unfold spread; rw [ei, ej]⟩
theorem best {m : Nat} {t : Nat → Lt} {L : List Nat} (ok : ∀ k, k < m → (t k).Ok) (O : Ord m (fun k => (t k).h) L) (b : Nat → Bool) : ∃ e, e ≤ 2 * m ∧ spread (SP (fun k => (t k).pt) b m) ≤ spread (Pn m t L e) := by
  obtain ⟨i, j, hi, hj, es⟩ := spread_is (SP (fun k => (t k).pt) b m)
  obtain ⟨θ, hθ, H⟩ := half_of hi hj
  obtain ⟨e, he, hb⟩ := station O (fun k hk => Lt.h_bd (ok k hk)) hθ.1 hθ.2
  refine ⟨e, he, ?_⟩
  have B : Below (fun k => (t k).pt.at i - (t k).pt.at j) (fun k => !bt m (fun k => (t k).h) L e k) m := by
    have key : ∀ k, k < m → (bt m (fun k => (t k).h) L e k = false → (t k).pt.at i - (t k).pt.at j ≤ 0) ∧ (bt m (fun k => (t k).h) L e k = true → 0 ≤ (t k).pt.at i - (t k).pt.at j) := fun k hk => by
      rw [hb k hk, decide_eq_false_iff_not, decide_eq_true_iff, pt_diff]
      by_cases h0 : (t k).s = 0
      · rw [Lt.c_zero h0, Int.mul_zero, Int.zero_mul]
        exact ⟨fun _ => Int.le_refl _, fun _ => Int.le_refl _⟩
      · have eh : (t k).h = (t k).p := if_neg h0
        rw [eh]
        obtain ⟨a1, a2⟩ := H (t k).p (ok k hk).p
        have cp := Lt.c_pos (ok k hk) h0
        exact ⟨fun h => Int.mul_nonpos_of_nonneg_of_nonpos (by omega) (Int.not_lt.mp fun q => h (a1 q)), fun h => Int.mul_nonneg (by omega) (Int.not_lt.mp fun q => a2 q h)⟩
    exact ⟨fun k hk h => (key k hk).1 (by simpa using h), fun k hk h => (key k hk).2 (by simpa using h)⟩
  have := B.most (b' := b)
  rw [SX_congr (b := fun k => !!bt m (fun k => (t k).h) L e k) (b' := bt m (fun k => (t k).h) L e) fun k _ => Bool.not_not _, ← SP_diff, ← SP_diff] at this
  rw [es]
  exact Int.le_trans this (spread_ge i j)
end Mine
end
section
namespace Mine
open PySem
structure Plan (m : Nat) (q : Nat → P3) (b : Nat → Nat → Bool) : Prop where
  m4 : 4 ≤ m
  m5 : m ≤ 5
  le : ∀ k, k < m → (q k).Le 4096
  half : ∀ e, e ≤ m → ∀ k, k < m → b (e + m) k = !b e k
  beyond : ∀ e, e < m → ∃ mx, Reach (MX q m) ((List.range m).map q) ((SP q (b (e + 1)) m).sub (SP q (b e) m)) (SP q (b e) m) mx
  ring : sI (fun e => cr (SP q (b e) m) (SP q (b (e + 1)) m)) (2 * m) = 2 * sI (fun j => sI (fun i => ((cr (q i) (q j)).natAbs : Int)) j) m
  best : ∀ b', ∃ e, e ≤ 2 * m ∧ spread (SP q b' m) ≤ spread (SP q (b e) m)
theorem times_small {p : P3} {s : Int} (h : p.Le 4096) (hs : s = 1 ∨ s = -1) : (p.times s).Small := by
  have := SP_times_small (b := false) h
  have := SP_times_small (b := true) h
  rcases hs with rfl | rfl
  · assumption
  · assumption
theorem plan_of {m : Nat} {t : Nat → Lt} {L : List Nat} (h4 : 4 ≤ m) (h5 : m ≤ 5) (ok : ∀ k, k < m → (t k).Ok) (O : Ord m (fun k => (t k).h) L) : Plan m (fun k => (t k).pt) (bt m (fun k => (t k).h) L) where
  m4 := h4
  m5 := h5
  le := fun k hk => Lt.pt_le (ok k hk)
  half := fun e he k hk => bt_half O he hk
  beyond := fun e he => by
    obtain ⟨k, s, E⟩ := edge_of ok O he
    rw [E.next, sub_add]
    exact ⟨_, reach_of (times_small (Lt.pt_le (ok k E.lt)) E.sg) E.side⟩
  ring := ring_eq ok O
  best := best ok O
section
variable {m : Nat} {q : Nat → P3} {b : Nat → Nat → Bool} (H : Plan m q b)
include H
theorem Plan.sp (b' : Nat → Bool) : (SP q b' m).Le 20480 := by
  have := SP_in (b := b') H.le
  have h5 := H.m5
  obtain ⟨h1, h2, h3⟩ := this
  exact ⟨by omega, by omega, by omega⟩
theorem Plan.in (b' : Nat → Bool) : (SP q b' m).In := by
  obtain ⟨h1, h2, h3⟩ := H.sp b'
  exact ⟨by omega, by omega, by omega⟩
theorem Plan.small (b' : Nat → Bool) : (SP q b' m).Small := by
  obtain ⟨h1, h2, h3⟩ := H.sp b'
  exact ⟨by omega, by omega, by omega⟩
theorem Plan.sm {k : Nat} (hk : k < m) : (q k).Small := by
  obtain ⟨h1, h2, h3⟩ := H.le k hk
  exact ⟨by omega, by omega, by omega⟩
theorem Plan.mlen : (MX q m).length ≤ 32 := by
  rw [MX_len]
  have h4 := H.m4
  have h5 := H.m5
  rcases (show m = 4 ∨ m = 5 by omega) with rfl | rfl <;> decide
end
theorem sum_flat {f : Nat → List Int} : ∀ m, (((List.range m).map f).flatten).sum = sI (fun j => (f j).sum) m
  | 0 => rfl
  | m + 1 => by
    rw [List.range_succ, List.map_append, List.flatten_append, List.sum_append, sum_flat m]
    show _ = sI (fun j => (f j).sum) m + (f m).sum
    simp
theorem flat_if {α : Type} {r : α → Bool} {f : α → V} : ∀ {l : List α}, (l.map fun a => if r a = true then [f a] else []).flatten = (l.filter r).map f
  | [] => rfl
  | a :: l => by
    rw [List.map_cons, List.flatten_cons, flat_if]
    cases h : r a <;> simp [h]
theorem all_true {α : Type} : ∀ {l : List α}, allB (l.map fun _ => V.bool true) = some true
  | [] => rfl
  | _ :: l => by show (allB (l.map fun _ => V.bool true)).map _ = _; rw [all_true]; rfl
theorem eqL_map {α : Type} {f g : α → V} {e : V → V → Option Bool} : ∀ {l : List α}, (∀ a ∈ l, e (f a) (g a) = some true) → eqL e (l.map f) (l.map g) = some true
  | [], _ => rfl
  | a :: l, h => by
    show Option.bind (e (f a) (g a)) _ = _
    rw [h a List.mem_cons_self]
    show Option.map _ (eqL e (l.map f) (l.map g)) = _
    rw [eqL_map fun b hb => h b (List.mem_cons_of_mem _ hb)]; rfl
theorem c_ne {α : Type} {f g : α → V} {l : List α} (h : ∀ a ∈ l, eqV 3 (f a) (g a) = some true) : cmpV .NotEq (.list (l.map f)) (.list (l.map g)) = some false := by
  show (if (l.map f).length = (l.map g).length then eqL (eqV 3) (l.map f) (l.map g) else some false).map (!·) = _
  rw [if_pos (by simp), eqL_map h]; rfl
theorem eq_int {n : Nat} {i j : Int} (h : i = j) : eqV (n + 1) (.int i) (.int j) = some true := by
  show some (i == j) = _
  rw [h, beq_self_eq_true]
theorem eq_pv {p : P3} : eqV 3 (pv p) (pv p) = some true := by
  show (if [V.int p.x, V.int p.y, V.int p.z].length = [V.int p.x, V.int p.y, V.int p.z].length then eqL (eqV 2) ([p.x, p.y, p.z].map V.int) ([p.x, p.y, p.z].map V.int) else some false) = _
  rw [if_pos rfl, eqL_map fun a _ => eq_int rfl]
theorem c_neI {i j : Int} (h : i = j) : cmpV .NotEq (.int i) (.int j) = some false := by
  show (eqV 4 (.int i) (.int j)).map (!·) = _
  rw [eq_int h]; rfl
theorem rep_map {v : V} {n : Nat} : List.replicate n v = (List.range n).map fun _ => v := by
  refine List.ext_getElem (by simp) fun i h1 h2 => by simp
theorem blt_max3 {p : P3} : Blt "max" [pv p] (.int (max (max p.x p.y) p.z)) := blt_maxI (is := [p.x, p.y, p.z]) (by simp; omega) (by simp; omega)
theorem blt_min3 {p : P3} : Blt "min" [pv p] (.int (min (min p.x p.y) p.z)) := blt_minI (is := [p.x, p.y, p.z]) (by simp; omega) (by simp; omega)
theorem sum_blt {f : Nat → Int} {n : Nat} : Blt "sum" [.list ((List.range n).map fun e => V.int (f e))] (.int (sI f n)) := by
  rw [← sI_list]
  exact blt_sum (by rw [show ((List.range n).map fun e => V.int (f e)) = ((List.range n).map f).map .int by rw [List.map_map]; rfl, ints_mapV])
end Mine
end
section
namespace Mine
open PySem
theorem eq_fl {n : Nat} {z : UInt64} {i : Int} (h : FV z (i * 2 ^ 20)) : eqV (n + 1) (.flt z) (.int i) = some true := by
  show some (Float64.cmpInt z i == some .eq) = _
  rw [h.cmpInt, show compare (i * 2 ^ 20) (i * 2 ^ 20) = .eq by simp [compare, compareOfLessAndEq]]; rfl
structure StOk (m : Nat) (q : Nat → P3) (b : Nat → Nat → Bool) (st : Nat → V) : Prop where
  ok : ∀ e, e ≤ 2 * m → EntryOk m q (b e) (st e)
theorem spreads_fn {CX : Cx} {l m : Nat} {q : Nat → P3} {b : Nat → Nat → Bool} {st : Nat → V} (H : Plan m q b) (S : StOk m q b st) : ∃ z : Nat → UInt64, ∀ e, e ≤ 2 * m → (CX.lv (l + 2)).pure "_law_spread" [st e] (.flt (z e)) ∧ FV (z e) (spread (SP q (b e) m) * 2 ^ 20) := by
  have Hk : ∀ e, ∃ z : UInt64, e ≤ 2 * m → (CX.lv (l + 2)).pure "_law_spread" [st e] (.flt z) ∧ FV z (spread (SP q (b e) m) * 2 ^ 20) := fun e => by
    by_cases he : e ≤ 2 * m
    · obtain ⟨v1, v2, v3, d, es, h1, h2, h3, _⟩ := (S.ok e he).ex
      obtain ⟨z, r, f⟩ := spread_ok (CX := CX) (l := l) (c := .int (CN (b e) m)) (d := .dict d) h1 h2 h3 (H.in (b e))
      exact ⟨z, fun _ => ⟨es ▸ pure_of ft_spread r, f⟩⟩
    · exact ⟨0, fun h => absurd h he⟩
  exact ⟨fun k => Classical.choose (Hk k), fun k => Classical.choose_spec (Hk k)⟩
structure Run2 (CX : Cx) (l m : Nat) (q : Nat → P3) (b : Nat → Nat → Bool) (W st : Nat → V) : Prop where
  plan : Plan m q b
  round : runP (CX.lv (l + 3)) (fnAt 16) [.list ((List.range m).map W)] (.list ((List.range (2 * m + 1)).map st))
  st : StOk m q b st
  lights : ∀ k, k < m → ∃ x y z : UInt64, W k = .tup [.flt x, .flt y, .flt z] ∧ Pt (.flt x) (q k).x ∧ Pt (.flt y) (q k).y ∧ Pt (.flt z) (q k).z
theorem run2 {CX : Cx} {l : Nat} {is : List Int} (hl : is.length < 2 ^ 19) : ∃ m q b W st, runP (CX.lv (l + 3)) (fnAt 15) [.list (is.map .int)] (.list ((List.range m).map W)) ∧ Run2 CX l m q b W st := by
  obtain ⟨_, ew, m, t, W, hm, rfl, HL⟩ := lights_ok (CX := CX) (l := l + 2) hl
  obtain ⟨L, O⟩ := exists_ord (m := m) (by omega) fun k => (t k).h
  obtain ⟨_, er, st, rfl, hst⟩ := round_ok (CX := CX) (l := l) (by omega) HL O
  refine ⟨m, _, _, W, st, ew, plan_of (by omega) (by omega) (fun k hk => (HL.ok k hk).1) O, er, ⟨hst⟩, fun k hk => ?_⟩
  obtain ⟨x, y, z, e, f1, f2, f3⟩ := (HL.ok k hk).2.at
  obtain ⟨h1, h2, h3⟩ := Lt.pt_le (HL.ok k hk).1
  exact ⟨x, y, z, e, ⟨.inr ⟨x, rfl, f1⟩, by omega⟩, ⟨.inr ⟨y, rfl, f2⟩, by omega⟩, ⟨.inr ⟨z, rfl, f3⟩, by omega⟩⟩
theorem c_neR {n : Nat} {f : Nat → V} {v : V} (h : ∀ a ∈ List.range n, eqV 3 (f a) v = some true) : cmpV .NotEq (.list ((List.range n).map f)) (.list (List.replicate n v)) = some false := by
  rw [rep_map]
  exact c_ne h
theorem pairs_map {G : Nat → Nat → Int} {m : Nat} : ((List.range m).map fun j => ((List.range j).map fun i => [V.int (G i j)]).flatten).flatten = ((((List.range m).map fun j => (List.range j).map fun i => G i j).flatten)).map .int := by
  rw [List.map_flatten, List.map_map]
  congr 1
  refine List.map_congr_left fun j _ => ?_
  rw [flat1]
  show _ = List.map V.int ((List.range j).map fun i => G i j)
  rw [List.map_map]; rfl
theorem pairs_sum {G : Nat → Nat → Int} {m : Nat} : Blt "sum" [.list ((List.range m).map fun j => ((List.range j).map fun i => [V.int (G i j)]).flatten).flatten] (.int (sI (fun j => sI (fun i => G i j) j) m)) := by
  have e : (((List.range m).map fun j => (List.range j).map fun i => G i j).flatten).sum = sI (fun j => sI (fun i => G i j) j) m := by
    rw [sum_flat]
    exact sI_congr fun j _ => sI_list j
  rw [← e, pairs_map]
  exact blt_sum (ints_mapV _)
theorem pairs_len {G : Nat → Nat → V} {m : Nat} (h4 : 4 ≤ m) (h5 : m ≤ 5) : (((List.range m).map fun j => ((List.range j).map fun i => [G i j]).flatten).flatten).length < 2 ^ 20 := by
  rcases (show m = 4 ∨ m = 5 by omega) with rfl | rfl
  · exact (show (6 : Nat) < 2 ^ 20 by decide)
  · exact (show (10 : Nat) < 2 ^ 20 by decide)
set_option maxHeartbeats 4000000 in
theorem law_ok {CX : Cx} {is : List Int} (hlen : is.length < 2 ^ 19) : runP (CX.lv 7) (fnAt 22) [.list (is.map .int)] (.bool true) := by
  obtain ⟨m, q, b, W, st, ew, R⟩ := run2 (CX := CX) (l := 3) hlen
  obtain ⟨H, er, S, HW⟩ := R
  obtain ⟨z, hz⟩ := spreads_fn (CX := CX) (l := 5) H S
  have m4 := H.m4
  have m5 := H.m5
  refine run_f (by rfl) fun ρ hfr how sh => ?_
  replace sh : Sh ρ (fnAt 22).ns none := sh
  have b1 : ρ.fr ("script" : Str) = some (.list (is.map .int)) := by rw [hfr]; rfl
  refine s_put (e_pure (l_cons (by walk_at "n") l_nil) (pure_of ft_lights ew)) ?_
  have lenV : ∀ {n : Nat} {f : Nat → V}, n < 2 ^ 20 → Blt "len" [.list ((List.range n).map f)] (.int n) := fun {n f} hn => by
    have := len_v (xs := (List.range n).map f) (by simp; omega)
    rwa [List.length_map, List.length_range] at this
  refine s_put (v := .int m) (e_blt1 (by walk_at "n") (lenV (by omega))) ?_
  refine s_putN (n_lcm (α := Nat) (g := W) (xs := List.range m) (F := fun k => pv (q k)) (src_name (by walk_at "lk") (.inl rfl)) (fun ρi I k hk => ?_) (by simp; omega)) ?_
  · have shi := I.sh
    obtain ⟨x, y, zz, eW, h1, h2, h3⟩ := HW k (List.mem_range.mp hk)
    rw [eW]
    exact e_pure (vs := [.tup [.flt x, .flt y, .flt zz]]) (l_cons (by walk_at "n") l_nil) (pure_of (X := CX) (l := 6) ft_whole (whole_ok h1 h2 h3))
  rw [show ((List.range m).map fun k => pv (q k)) = ((List.range m).map q).map pv by rw [List.map_map]; rfl]
  refine s_put (v := .list ((MX q m).map pv)) (e_pure (l_cons (by walk_at "n") l_nil) (pure_of (X := CX) (l := 6) ft_mixes (mixes_ok (by simp; omega)))) ?_
  refine s_put (e_pure (l_cons (by walk_at "n") l_nil) (pure_of ft_round er)) ?_
  refine s_putN (n_lcm (α := Nat) (g := st) (xs := List.range (2 * m + 1)) (F := fun e => pv (SP q (b e) m)) (src_name (by walk_at "lk") (.inl rfl)) (fun ρi I e he => ?_) (by simp; omega)) ?_
  · have shi := I.sh
    obtain ⟨v1, v2, v3, d, es, h1, h2, h3, _⟩ := (S.ok e (by have := List.mem_range.mp he; omega)).ex
    rw [es]
    exact e_pure (vs := [.tup [v1, v2, v3]]) (l_cons (e_upto (xs := [v1, v2, v3, .int (CN (b e) m), .dict d]) (k := 3) (by walk_at "n") ec (by simp) (by simp)) l_nil) (pure_of (X := CX) (l := 6) ft_whole (whole_ok h1 h2 h3))
  refine s_putN (n_lcm (α := Nat) (g := st) (xs := List.range (2 * m + 1)) (F := fun e => V.list (((List.range m).filter (b e)).map fun k : Nat => V.int k)) (src_name (by walk_at "lk") (.inl rfl)) (fun ρi I e he => ?_) (by simp; omega)) ?_
  · have shi := I.sh
    have sz := I.fre (x := "size") (v := .int m) (by walk_at "lk") rfl
    obtain ⟨v1, v2, v3, d, es, _, _, _, D⟩ := (S.ok e (by have := List.mem_range.mp he; omega)).ex
    rw [es, ← flat_if]
    refine (n_lc1 (α := Nat) (g := fun i => V.int (i : Int)) (xs := List.range m) (F := fun k => if b e k = true then [V.int k] else []) (src_range (k := m) (by walk_at "n") (by omega)) (fun ρk Ik k hk => ?_) (by rw [flat_if, List.length_map]; have := List.length_filter_le (b e) (List.range m); simp at this; omega)).ev
    have sd := Ik.fre (x := "station") (v := .tup [v1, v2, v3, .int (CN (b e) m), .dict d]) (by walk_at "lk") rfl
    have hd : decide ((d.lookup (k : Int)).getD 0 = 1) = b e k := by
      rw [D.get k (List.mem_range.mp hk)]
      cases b e k <;> rfl
    rw [← hd]
    exact it_if (t_cmp (e_get (e_sub (by walk_at "n") ec rfl) (by walk_at "n") ec) ec c_eqI) fun _ => by walk_at "n"
  refine s_putN (n_lcm (α := Nat) (g := fun e => V.list (((List.range m).filter (b e)).map fun k : Nat => V.int k)) (xs := List.range (2 * m + 1)) (F := fun e => V.int (MK (b e) m : Nat)) (src_name (by walk_at "lk") (.inl rfl)) (fun ρi I e he => ?_) (by simp; omega)) ?_
  · have shi := I.sh
    rw [← MK_sum]
    refine e_blt1 (n_lcm (α := Nat) (g := fun k : Nat => V.int k) (xs := (List.range m).filter (b e)) (F := fun k : Nat => V.int ((2 : Int) ^ k)) (src_name (by walk_at "lk") (.inl rfl)) (fun ρk Ik k hk => ?_) (by rw [List.length_map]; have := List.length_filter_le (b e) (List.range m); simp at this; omega)).ev (blt_sum (by rw [← ints_mapV, List.map_map]; rfl))
    have hk : k < m := List.mem_range.mp (List.mem_filter.mp hk).1
    exact e_pow2 (k := (k : Int)) ec (by walk_at "n") (by omega)
  refine s_if (r := false || false) (t_or (t_cmp (e_blt1 (by walk_at "n") (lenV (by omega))) (e_bin (e_bin ec (by walk_at "n") (mul_int' (by decide))) ec rfl) (c_neI (by push_cast; omega))) fun _ => t_cmp (by walk_at "n") (n_lcm (α := Nat) (g := fun e => V.int (MK (b e) m : Nat)) (xs := List.range (2 * m + 1)) (F := fun e => pv (SP q (b e) m)) (src_name (by walk_at "lk") (.inl rfl)) (fun ρi I e he => ?_) (by simp; omega)).ev (c_ne fun e he => eq_pv)) ?_
  · have shi := I.sh
    have mx := I.fre (x := "mixes") (v := .list ((MX q m).map pv)) (by walk_at "lk") rfl
    exact e_sub (by walk_at "n") (by walk_at "n") (sub_at (by rw [List.getElem?_map, MX_at]; rfl) (by have := H.mlen; rw [List.length_map]; omega))
  rw [show (false || false) = false from rfl]
  refine ex_nil ?_
  refine s_if (r := false) (t_cmp (n_lcm (α := Nat) (g := st) (xs := List.range (2 * m + 1)) (F := fun e => V.int (CN (b e) m)) (src_name (by walk_at "lk") (.inl rfl)) (fun ρi I e he => ?_) (by simp; omega)).ev (n_lcm (α := Nat) (g := st) (xs := List.range (2 * m + 1)) (F := fun e => V.int (CN (b e) m)) (src_name (by walk_at "lk") (.inl rfl)) (fun ρi I e he => ?_) (by simp; omega)).ev (c_ne fun e he => eq_int rfl)) ?_
  · have shi := I.sh
    obtain ⟨v1, v2, v3, d, es, _⟩ := (S.ok e (by have := List.mem_range.mp he; omega)).ex
    rw [es]
    exact e_sub (by walk_at "n") ec rfl
  · have shi := I.sh
    obtain ⟨v1, v2, v3, d, es, _, _, _, D⟩ := (S.ok e (by have := List.mem_range.mp he; omega)).ex
    rw [es, ← D.sum]
    exact e_pure (vs := [.dict d]) (l_cons (e_sub (by walk_at "n") ec rfl) l_nil) (pure_of (X := CX) (l := 6) ft_count count_ok)
  refine ex_nil ?_
  refine s_if (r := false) (t_cmp (n_lcm (α := Nat) (g := fun i => V.int (i : Int)) (xs := List.range (m + 1)) (F := fun e => V.int ((2 : Int) ^ m - 1)) (src_range (k := ((m + 1 : Nat) : Int)) (e_bin (by walk_at "n") ec rfl) (by omega)) (fun ρi I e he => ?_) (by simp; omega)).ev
    (n_mul1 (k := ((m + 1 : Nat) : Int)) (v := .int ((2 : Int) ^ m - 1)) (n_list (l_cons (e_bin (e_pow2 (k := (m : Int)) ec (by walk_at "n") (by omega)) ec rfl) l_nil)).ev (e_bin (by walk_at "n") ec rfl) (by omega)).ev (c_neR fun e he => eq_int rfl)) ?_
  · have shi := I.sh
    have he := List.mem_range.mp he
    have mk := I.fre (x := "masks") (v := .list ((List.range (2 * m + 1)).map fun e => V.int (MK (b e) m : Nat))) (by walk_at "lk") rfl
    have sz := I.fre (x := "size") (v := .int m) (by walk_at "lk") rfl
    have hn := congrArg (Nat.cast : Nat → Int) (MK_not (b := b e) (b' := b (e + m)) (m := m) (H.half e (by omega)))
    refine e_bin (e_sub (by walk_at "n") (by walk_at "n") (sub_at (rng_get (by omega)) (by simp; omega))) (e_sub (by walk_at "n") (e_bin (v := .int ((e + m : Nat) : Int)) (by walk_at "n") (by walk_at "n") rfl) (sub_at (rng_get (by omega)) (by simp; omega))) ?_
    show some (V.int (((MK (b e) m : Nat) : Int) + ((MK (b (e + m)) m : Nat) : Int))) = _
    congr 2
    push_cast at hn
    omega
  refine ex_nil ?_
  refine s_if (r := !true) (t_not (t_call (e_blt (vs := [.list ((List.range m).map fun _ => V.bool true)]) (l_cons (n_lcm (α := Nat) (g := fun i => V.int (i : Int)) (xs := List.range m) (F := fun _ => V.bool true) (src_range (k := m) (by walk_at "n") (by omega)) (fun ρi I e he => ?_) (by simp; omega)).ev l_nil) (blt_all all_true)) rfl)) ?_
  · have shi := I.sh
    have he := List.mem_range.mp he
    obtain ⟨mx, HR⟩ := H.beyond e he
    have g0 := rng_get (m := 2 * m + 1) (k := e) (f := fun e => pv (SP q (b e) m)) (by omega)
    have g1 := rng_get (m := 2 * m + 1) (k := e + 1) (f := fun e => pv (SP q (b e) m)) (by omega)
    have r1 := I.fre (x := "points") (v := .list ((List.range (2 * m + 1)).map fun e => pv (SP q (b e) m))) (by walk_at "lk") rfl
    have r2 := I.fre (x := "mixes") (v := .list ((MX q m).map pv)) (by walk_at "lk") rfl
    have r3 := I.fre (x := "wholes") (v := .list (((List.range m).map q).map pv)) (by walk_at "lk") rfl
    exact e_pure (vs := [pv (SP q (b e) m), pv (SP q (b (e + 1)) m), .list ((MX q m).map pv), .list (((List.range m).map q).map pv)]) (l_cons (e_sub (by walk_at "n") (by walk_at "n") (sub_at g0 (by simp; omega))) (l_cons (e_sub (by walk_at "n") (e_bin (v := .int ((e + 1 : Nat) : Int)) (by walk_at "n") ec rfl) (sub_at g1 (by simp; omega))) (l_cons (by walk_at "n") (l_cons (by walk_at "n") l_nil))))
      (pure_of ft_beyond (beyond_ok (CX := CX) (l := 5) HR (by have := H.mlen; omega) (by simp; omega)))
  rw [show (!true) = false from rfl]
  refine ex_nil ?_
  refine s_put (e_blt1 (n_lcm (α := Nat) (g := fun i => V.int (i : Int)) (xs := List.range (2 * m)) (F := fun e => V.int (cr (SP q (b e) m) (SP q (b (e + 1)) m))) (src_range (k := ((2 * m : Nat) : Int)) (e_bin ec (by walk_at "n") (mul_int' (i := 2) (j := (m : Int)) (by decide))) (by omega)) (fun ρi I e he => ?_) (by simp; omega)).ev sum_blt) ?_
  · have shi := I.sh
    have he := List.mem_range.mp he
    have g0 := rng_get (m := 2 * m + 1) (k := e) (f := fun e => pv (SP q (b e) m)) (by omega)
    have g1 := rng_get (m := 2 * m + 1) (k := e + 1) (f := fun e => pv (SP q (b e) m)) (by omega)
    have r1 := I.fre (x := "points") (v := .list ((List.range (2 * m + 1)).map fun e => pv (SP q (b e) m))) (by walk_at "lk") rfl
    exact e_pure (vs := [pv (SP q (b e) m), pv (SP q (b (e + 1)) m)]) (l_cons (e_sub (by walk_at "n") (by walk_at "n") (sub_at g0 (by simp; omega))) (l_cons (e_sub (by walk_at "n") (e_bin (v := .int ((e + 1 : Nat) : Int)) (by walk_at "n") ec rfl) (sub_at g1 (by simp; omega))) l_nil))
      (cross_call (CX := CX) (l := 6) (H.small _))
  refine s_put (e_blt1 (n_lc1 (α := Nat) (g := fun i => V.int (i : Int)) (xs := List.range m) (F := fun j => ((List.range j).map fun i => [V.int ((cr (q i) (q j)).natAbs : Int)]).flatten) (src_range (k := m) (by walk_at "n") (by omega)) (fun ρi I j hj => ?_) (pairs_len m4 m5)).ev (pairs_sum (G := fun i j => ((cr (q i) (q j)).natAbs : Int)))) ?_
  · have shi := I.sh
    have hj := List.mem_range.mp hj
    have r3 := I.fre (x := "wholes") (v := .list (((List.range m).map q).map pv)) (by walk_at "lk") rfl
    refine it_in (src_range (k := j) (by walk_at "n") (by omega)) (gen_ok (α := Nat) (g := fun i => V.int (i : Int)) (xs := List.range j) (G := fun i : Nat => [V.int ((cr (q i) (q j)).natAbs : Int)]) (fr_skip (by decide) (I.new rfl)) (ow_skip (by decide) (I.ow _)) (Sh.mine (Sh.set shi) rfl) (Sh.bon (Sh.set shi)) fun i hi => ?_)
    have hi := List.mem_range.mp hi
    refine it_e (e_blt1 (e_pure (vs := [pv (q i), pv (q j)]) (l_cons (e_sub (by walk_at "n") (by walk_at "n") (sub_at (by rw [List.map_map]; exact rng_get (by omega)) (by simp; omega))) (l_cons (e_sub (by walk_at "n") (by walk_at "n") (sub_at (by rw [List.map_map]; exact rng_get (by omega)) (by simp; omega))) l_nil)) (cross_call (CX := CX) (l := 6) (H.sm (by omega)))) blt_abs)
  refine s_putN (n_lcm (α := Nat) (g := st) (xs := List.range (2 * m + 1)) (F := fun e => V.flt (z e)) (src_name (by walk_at "lk") (.inl rfl)) (fun ρi I e he => ?_) (by simp; omega)) ?_
  · have shi := I.sh
    exact e_pure (vs := [st e]) (l_cons (by walk_at "n") l_nil) (hz e (by have := List.mem_range.mp he; omega)).1
  refine s_if (r := false || false) (t_or (t_cmp (by walk_at "n") (e_bin ec (by walk_at "n") (mul_int' (by decide))) (c_neI H.ring)) fun _ => t_cmp (by walk_at "n") (n_lcm (α := Nat) (g := fun e => pv (SP q (b e) m)) (xs := List.range (2 * m + 1)) (F := fun e => V.int (spread (SP q (b e) m))) (src_name (by walk_at "lk") (.inl rfl)) (fun ρi I e he => ?_) (by simp; omega)).ev (c_ne fun e he => eq_fl (hz e (by have := List.mem_range.mp he; omega)).2)) ?_
  · have shi := I.sh
    exact e_bin (e_blt1 (e_fr fr_here) blt_max3) (e_blt1 (e_fr fr_here) blt_min3) rfl
  rw [show (false || false) = false from rfl]
  refine ex_nil ?_
  have lz : ((List.range (2 * m + 1)).map z).length = 2 * m + 1 := by simp
  obtain ⟨k, hk, eF, hF⟩ := blt_maxF (zs := (List.range (2 * m + 1)).map z) (f := fun e => spread (SP q (b e) m) * 2 ^ 20) (fun i h => by
    rw [List.getElem_map, List.getElem_range]
    exact (hz i (by omega)).2) (by rw [lz]; omega)
  rw [List.getElem_map, List.getElem_range, List.map_map] at eF
  rw [lz] at hk hF
  have eI : Blt "max" [.list (((MX q m).map spread).map .int)] (.int (spread (SP q (b k) m))) := blt_maxI (List.mem_map_of_mem SP_mem) fun x hx => by
    obtain ⟨p, hp, e⟩ := List.mem_map.mp hx
    obtain ⟨b', eb⟩ := MX_mem hp
    obtain ⟨e', he', hle⟩ := H.best b'
    have := hF e' (by omega)
    rw [← e, eb]
    omega
  rw [List.map_map] at eI
  replace eF : Blt "max" [.list ((List.range (2 * m + 1)).map fun e => V.flt (z e))] (.flt (z k)) := eF
  replace eI : Blt "max" [.list ((MX q m).map fun p => V.int (spread p))] (.int (spread (SP q (b k) m))) := eI
  refine s_ret (v := .bool true) (e_cmp (e_blt1 (by walk_at "n") eF) (e_blt1 (n_lcm (α := P3) (g := pv) (xs := MX q m) (F := fun p => V.int (spread p)) (src_name (by walk_at "lk") (.inl rfl)) (fun ρi I p hp => ?_) (by have := H.mlen; rw [List.length_map]; omega)).ev eI) (eq_fl (n := 3) (hz k (by omega)).2)) rfl
  have shi := I.sh
  exact e_bin (e_blt1 (e_fr fr_here) blt_max3) (e_blt1 (e_fr fr_here) blt_min3) rfl
end Mine
end
section
namespace Mine
open PySem
theorem law2 : rw1.Holds := top fun X is h => law_ok (CX := X) (Nat.lt_of_le_of_lt h (by decide))
end Mine
end
end
theorem PySem.Challenge.cw_pg0166_02_holds : PySem.Challenge.rw_pg0166_02.Holds :=
  Mine.law2
