import PyProof.Rows.All
import Wide.All
import OpenK.AllK
import Wide.FinOn
import Lean
import PySem.Challenge.RW_ad5020_01
open PySem PySem.W PyProof.Rows
set_option Elab.async false
set_option maxRecDepth 100000
set_option linter.unusedVariables false

-- FF
namespace Mine
section SFF
open PySem PySem.Float64

/-- a finite double -/
def Fin' (x : UInt64) : Prop := ∃ a m e, decode x = .fin a m e
/-- the unit: one part of 8192 -/
def U : Nat := 2 ^ 1061
theorem U_pos : 0 < U := Nat.two_pow_pos _
theorem pow1074 : 2 ^ 1074 = 8192 * U := by unfold U; rw [show (8192 : Nat) = 2 ^ 13 from rfl, ← Nat.pow_add]

def Bt (x : UInt64) (lo hi : Int) : Prop := Fin' x ∧ lo * (U : Int) ≤ val x ∧ val x ≤ hi * (U : Int)

/-- a count of units up to 2^53 is a double -/
theorem rep_pos (n : Nat) (h0 : 0 < n) (h : n ≤ 2 ^ 53) : ∃ t, t < infMag ∧ V t = n * U := by
  by_cases h53 : n = 2 ^ 53
  · refine ⟨1062 * 2 ^ 52 + 2 ^ 52, ?_, ?_⟩
    · have hi : infMag = 2047 * 2 ^ 52 := rfl
      omega
    · rw [V_at (by omega) (.inl (by omega)), h53]; unfold U; rw [← Nat.pow_add, ← Nat.pow_add]
  · have hl : n.log2 ≤ 52 := by
      have := (Nat.log2_lt (by omega : n ≠ 0) (k := 53)).mpr (by omega)
      omega
    have h1 := Nat.log2_self_le (by omega : n ≠ 0)
    have h2 : n < 2 ^ (n.log2 + 1) := Nat.lt_log2_self
    have e1 : 2 ^ (52 - n.log2) * 2 ^ n.log2 = 2 ^ 52 := by rw [← Nat.pow_add]; congr 1; omega
    have e2 : 2 ^ (52 - n.log2) * 2 ^ (n.log2 + 1) = 2 ^ 53 := by rw [← Nat.pow_add]; congr 1; omega
    have h3 : 2 ^ 52 ≤ n * 2 ^ (52 - n.log2) := by rw [← e1, Nat.mul_comm n]; exact Nat.mul_le_mul_left _ h1
    have h4 : n * 2 ^ (52 - n.log2) < 2 ^ 53 := by rw [← e2, Nat.mul_comm n]; exact Nat.mul_lt_mul_of_pos_left h2 (Nat.two_pow_pos _)
    refine ⟨(1061 - (52 - n.log2)) * 2 ^ 52 + n * 2 ^ (52 - n.log2), ?_, ?_⟩
    · have hi : infMag = 2047 * 2 ^ 52 := rfl
      have : (1061 - (52 - n.log2)) * 2 ^ 52 ≤ 1061 * 2 ^ 52 := Nat.mul_le_mul_right _ (by omega)
      omega
    · rw [V_at (by omega) (.inl h3)]; unfold U; rw [Nat.mul_assoc, ← Nat.pow_add]; congr 2; omega

theorem rep (n : Nat) (h : n ≤ 2 ^ 53) : ∃ t, t < infMag ∧ V t = n * U := by
  by_cases h0 : n = 0
  · exact ⟨0, by decide, by rw [h0, V_zero]; simp⟩
  · exact rep_pos n (by omega) h

theorem near_le {W D t t' : Nat} (hn : dist W (D * V t) ≤ dist W (D * V t')) (h : W ≤ D * V t') : D * V t ≤ D * V t' := by
  unfold dist at hn; omega
theorem near_ge {W D t t' : Nat} (hn : dist W (D * V t) ≤ dist W (D * V t')) (h : D * V t' ≤ W) : D * V t' ≤ D * V t := by
  unfold dist at hn; omega

theorem nat_bound : 2 * (2 ^ 53 * U) < (2 ^ 54 - 1) * 2 ^ 2045 := by
  have e : (2 : Nat) ^ 2045 = 2 ^ 984 * U := by unfold U; rw [← Nat.pow_add]
  rw [e, ← Nat.mul_assoc, ← Nat.mul_assoc]
  exact Nat.mul_lt_mul_of_pos_right (by decide) U_pos

/-- nearest is monotone: between two counts of units -/
theorem right_bt {r : UInt64} {neg : Bool} {W D : Nat} {lo hi : Int} (h : Right r neg W D) (hD : 0 < D)
    (hlo : (D : Int) * (lo * U) ≤ sgn neg W) (hhi : sgn neg W ≤ (D : Int) * (hi * U)) (b1 : -2 ^ 53 ≤ lo) (b2 : hi ≤ 2 ^ 53) (b3 : lo ≤ 2 ^ 53) (b4 : -2 ^ 53 ≤ hi) : Bt r lo hi := by
  obtain ⟨t, rfl, hle, hov, hnear⟩ := h
  have hUp : (0 : Int) < (U : Int) := Int.ofNat_lt.mpr U_pos
  have hWb : W ≤ D * (2 ^ 53 * U) := by
    clear hov hnear
    have x1 : hi * (U : Int) ≤ 2 ^ 53 * (U : Int) := Int.mul_le_mul_of_nonneg_right b2 (Int.le_of_lt hUp)
    have x2 : -2 ^ 53 * (U : Int) ≤ lo * (U : Int) := Int.mul_le_mul_of_nonneg_right b1 (Int.le_of_lt hUp)
    have y1 : (D : Int) * (hi * (U : Int)) ≤ (D : Int) * (2 ^ 53 * (U : Int)) := Int.mul_le_mul_of_nonneg_left x1 (by omega)
    have y2 : (D : Int) * (-2 ^ 53 * (U : Int)) ≤ (D : Int) * (lo * (U : Int)) := Int.mul_le_mul_of_nonneg_left x2 (by omega)
    have z : (D : Int) * (-2 ^ 53 * (U : Int)) = -((D : Int) * (2 ^ 53 * (U : Int))) := by rw [Int.neg_mul, Int.mul_neg]
    have z2 : ((D * (2 ^ 53 * U) : Nat) : Int) = (D : Int) * (2 ^ 53 * (U : Int)) := by simp
    rw [z] at y2
    rw [← z2] at y1 y2
    generalize D * (2 ^ 53 * U) = P at *
    clear z z2 x1 x2
    clear hle
    unfold sgn at hlo hhi
    cases neg
    · rw [if_neg (by decide)] at hlo hhi; omega
    · rw [if_pos rfl] at hlo hhi; omega
  have ht : t < infMag := by
    rcases Nat.lt_or_eq_of_le hle with h | h
    · exact h
    · have q := hov.mp h
      have nb := Nat.mul_lt_mul_of_pos_left nat_bound hD
      have : D * (2 * (2 ^ 53 * U)) = 2 * (D * (2 ^ 53 * U)) := Nat.mul_left_comm _ _ _
      omega
  obtain ⟨m, e, hd, _⟩ := decode_pack neg ht
  refine ⟨⟨_, _, _, hd⟩, ?_, ?_⟩
  · rw [val_pack neg ht]
    by_cases hs : 0 ≤ lo
    · obtain ⟨t', ht', hv⟩ := rep lo.toNat (by omega)
      have el : lo * (U : Int) = ((V t' : Nat) : Int) := by rw [hv, Int.natCast_mul, Int.toNat_of_nonneg hs]
      rw [el] at hlo ⊢
      unfold sgn at hlo ⊢
      split
      · rename_i hneg
        rw [if_pos hneg] at hlo
        have : V t' = 0 := by
          have : (D : Int) * ((V t' : Nat) : Int) ≤ 0 := by omega
          have : D * V t' = 0 := by
            have : ((D * V t' : Nat) : Int) ≤ 0 := by simpa using this
            omega
          rcases Nat.mul_eq_zero.mp this with h | h
          · omega
          · exact h
        have hW0 : W = 0 := by rw [this] at hlo; omega
        have := near_le (hnear ht t').1 (by rw [hW0]; exact Nat.zero_le _)
        have := Nat.le_of_mul_le_mul_left this hD
        omega
      · rename_i hneg
        rw [if_neg hneg] at hlo
        have := near_ge (hnear ht t').1 (by have : ((D * V t' : Nat) : Int) ≤ W := by simpa using hlo
                                            omega)
        have := Nat.le_of_mul_le_mul_left this hD
        omega
    · obtain ⟨t', ht', hv⟩ := rep (-lo).toNat (by omega)
      have el : lo * (U : Int) = -((V t' : Nat) : Int) := by rw [hv, Int.natCast_mul, Int.toNat_of_nonneg (by omega), Int.neg_mul, Int.neg_neg]
      rw [el] at hlo ⊢
      unfold sgn at hlo ⊢
      split
      · rename_i hneg
        rw [if_pos hneg] at hlo
        have := near_le (hnear ht t').1 (by have : -((D * V t' : Nat) : Int) ≤ -W := by rw [Int.mul_neg] at hlo; simpa using hlo
                                            omega)
        have := Nat.le_of_mul_le_mul_left this hD
        omega
      · omega
  · rw [val_pack neg ht]
    by_cases hs : 0 ≤ hi
    · obtain ⟨t', ht', hv⟩ := rep hi.toNat (by omega)
      have el : hi * (U : Int) = ((V t' : Nat) : Int) := by rw [hv, Int.natCast_mul, Int.toNat_of_nonneg hs]
      rw [el] at hhi ⊢
      unfold sgn at hhi ⊢
      split
      · omega
      · rename_i hneg
        rw [if_neg hneg] at hhi
        have := near_le (hnear ht t').1 (by have : (W : Int) ≤ ((D * V t' : Nat) : Int) := by simpa using hhi
                                            omega)
        have := Nat.le_of_mul_le_mul_left this hD
        omega
    · obtain ⟨t', ht', hv⟩ := rep (-hi).toNat (by omega)
      have el : hi * (U : Int) = -((V t' : Nat) : Int) := by rw [hv, Int.natCast_mul, Int.toNat_of_nonneg (by omega), Int.neg_mul, Int.neg_neg]
      rw [el] at hhi ⊢
      unfold sgn at hhi ⊢
      split
      · rename_i hneg
        rw [if_pos hneg] at hhi
        have := near_ge (hnear ht t').1 (by have : -(W : Int) ≤ -((D * V t' : Nat) : Int) := by rw [Int.mul_neg] at hhi; simpa using hhi
                                            omega)
        have := Nat.le_of_mul_le_mul_left this hD
        omega
      · rename_i hneg
        rw [if_neg hneg] at hhi
        have : V t' = 0 := by
          have : (0 : Int) ≤ (D : Int) * -((V t' : Nat) : Int) := by omega
          have : D * V t' = 0 := by
            have : (0 : Int) ≤ -((D * V t' : Nat) : Int) := by rw [Int.mul_neg] at this; simpa using this
            omega
          rcases Nat.mul_eq_zero.mp this with h | h
          · omega
          · exact h
        have hW0 : W = 0 := by rw [this] at hhi; omega
        have := near_le (hnear ht t').1 (by rw [hW0]; exact Nat.zero_le _)
        have := Nat.le_of_mul_le_mul_left this hD
        omega

theorem sgn_val (z : Int) : sgn (decide (z < 0)) z.natAbs = z := by
  unfold sgn; by_cases h : z < 0 <;> simp [h] <;> omega

theorem bt_zero (neg : Bool) : Bt (zero neg) 0 0 := by
  have hz : zero neg = pack neg 0 := rfl
  have hlt : (0 : Nat) < infMag := by decide
  obtain ⟨m, e, hd, _⟩ := decode_pack neg hlt
  refine ⟨⟨_, _, _, hz ▸ hd⟩, ?_, ?_⟩ <;> rw [hz, val_pack neg hlt, V_zero] <;> cases neg <;> simp [sgn]

theorem mul_sum {a b : Int} : (a + b) * (U : Int) = a * U + b * U := Int.add_mul _ _ _

theorem bt_add {x y : UInt64} {a b c d : Int} (hx : Bt x a b) (hy : Bt y c d) (b1 : -2 ^ 53 ≤ a + c) (b2 : b + d ≤ 2 ^ 53) : Bt (add x y) (a + c) (b + d) := by
  obtain ⟨⟨sx, _, _, dx⟩, x1, x2⟩ := hx
  obtain ⟨⟨sy, _, _, dy⟩, y1, y2⟩ := hy
  have R := add_right dx dy
  have hUp : (0 : Int) < (U : Int) := Int.ofNat_lt.mpr U_pos
  have l1 : (a + c) * (U : Int) ≤ val x + val y := by rw [mul_sum]; omega
  have l2 : val x + val y ≤ (b + d) * (U : Int) := by rw [mul_sum]; omega
  have l3 : a + c ≤ b + d := by
    have := Int.le_trans l1 l2
    exact Int.le_of_mul_le_mul_right this hUp
  by_cases h0 : val x + val y = 0
  · rw [R.1 h0]
    obtain ⟨f, z1, z2⟩ := bt_zero (sx && sy)
    rw [h0] at l1 l2
    rw [Int.zero_mul] at z1 z2
    exact ⟨f, by omega, by omega⟩
  · refine right_bt (R.2 h0) (by decide) ?_ ?_ b1 b2 (by omega) (by omega) <;> rw [sgn_val] <;> omega


theorem fin_neg {y : UInt64} (h : Fin' y) : Fin' (neg y) := by
  obtain ⟨_, _, _, d⟩ := h
  exact ⟨_, _, _, neg_decode d⟩
theorem bt_sub {x y : UInt64} {a b c d : Int} (hx : Bt x a b) (hy : Bt y c d) (b1 : -2 ^ 53 ≤ a - d) (b2 : b - c ≤ 2 ^ 53) : Bt (sub x y) (a - d) (b - c) := by
  have hn : Bt (neg y) (-d) (-c) := by
    obtain ⟨f, y1, y2⟩ := hy
    obtain ⟨_, _, _, dy⟩ := f
    exact ⟨⟨_, _, _, neg_decode dy⟩, by rw [neg_val dy, Int.neg_mul]; omega, by rw [neg_val dy, Int.neg_mul]; omega⟩
  have := bt_add hx hn (by omega) (by omega)
  rw [← Int.sub_eq_add_neg, ← Int.sub_eq_add_neg] at this
  unfold PySem.Float64.sub
  exact this

theorem sgn_xor (a b : Bool) (m k : Nat) : sgn (a != b) (m * k) = sgn a m * sgn b k := by
  cases a <;> cases b <;> simp [sgn, Int.neg_mul, Int.mul_neg]

theorem U2_pos : (0 : Int) < (U : Int) * (U : Int) := Int.mul_pos (Int.ofNat_lt.mpr U_pos) (Int.ofNat_lt.mpr U_pos)

theorem val_sgn {x : UInt64} {a : Bool} {m : Nat} {e : Int} (h : decode x = .fin a m e) : sgn a (val x).natAbs = val x := by
  rw [val_natAbs h, val_eq h]

theorem bt_mul {x y : UInt64} {p q lo hi : Int} (hx : Bt x p p) (hy : Bt y q q) (h1 : 8192 * lo ≤ p * q) (h2 : p * q ≤ 8192 * hi)
    (b1 : -2 ^ 53 ≤ lo) (b2 : hi ≤ 2 ^ 53) (b3 : lo ≤ 2 ^ 53) (b4 : -2 ^ 53 ≤ hi) : Bt (mul x y) lo hi := by
  obtain ⟨⟨sx, _, _, dx⟩, x1, x2⟩ := hx
  obtain ⟨⟨sy, _, _, dy⟩, y1, y2⟩ := hy
  have ex : val x = p * (U : Int) := by omega
  have ey : val y = q * (U : Int) := by omega
  have R := mul_right dx dy
  rw [pow1074] at R
  have hs : sgn (sx != sy) ((val x).natAbs * (val y).natAbs) = p * q * ((U : Int) * U) := by
    rw [sgn_xor, val_sgn dx, val_sgn dy, ex, ey]; ac_rfl
  have e : ((8192 * U : Nat) : Int) = 8192 * (U : Int) := by simp
  refine right_bt R (Nat.mul_pos (by decide) U_pos) ?_ ?_ b1 b2 b3 b4
  · rw [hs, e]
    have := Int.mul_le_mul_of_nonneg_right h1 (Int.le_of_lt U2_pos)
    rwa [show (8192 * (U : Int)) * (lo * U) = 8192 * lo * ((U : Int) * U) by ac_rfl]
  · rw [hs, e]
    have := Int.mul_le_mul_of_nonneg_right h2 (Int.le_of_lt U2_pos)
    rwa [show (8192 * (U : Int)) * (hi * U) = 8192 * hi * ((U : Int) * U) by ac_rfl]

theorem bt_div {x y : UInt64} {a b q lo hi : Int} (hx : Bt x a b) (hy : Bt y q q) (hq : 0 < q) (h1 : q * lo ≤ 8192 * a) (h2 : 8192 * b ≤ q * hi)
    (b1 : -2 ^ 53 ≤ lo) (b2 : hi ≤ 2 ^ 53) (b3 : lo ≤ 2 ^ 53) (b4 : -2 ^ 53 ≤ hi) : Bt (div x y) lo hi := by
  obtain ⟨⟨sx, _, _, dx⟩, x1, x2⟩ := hx
  obtain ⟨⟨sy, ky, _, dy⟩, y1, y2⟩ := hy
  have hUp : (0 : Int) < (U : Int) := Int.ofNat_lt.mpr U_pos
  have ey : val y = q * (U : Int) := by omega
  have hqU : 0 < q * (U : Int) := Int.mul_pos hq hUp
  have hy0 : 0 < val y := by omega
  have hsy : sy = false := by
    cases sy
    · rfl
    · have := val_sgn dy; unfold sgn at this; simp only [if_true] at this; omega
  have hk : ky ≠ 0 := by
    intro h0
    have := val_eq dy
    rw [h0, Nat.zero_mul] at this
    unfold sgn at this
    cases sy <;> simp at this <;> omega
  have R := div_right dx dy hk
  rw [pow1074, hsy] at R
  have hs : sgn (sx != false) ((val x).natAbs * (8192 * U)) = val x * (8192 * (U : Int)) := by
    rw [sgn_xor, val_sgn dx]; congr 1
  have eD : (((val y).natAbs : Nat) : Int) = q * (U : Int) := by omega
  refine right_bt R (by omega) ?_ ?_ b1 b2 b3 b4
  · rw [hs, eD]
    have z1 := Int.mul_le_mul_of_nonneg_right h1 (Int.le_of_lt U2_pos)
    have z2 := Int.mul_le_mul_of_nonneg_right x1 (show (0 : Int) ≤ 8192 * (U : Int) by omega)
    rw [show (q * (U : Int)) * (lo * U) = q * lo * ((U : Int) * U) by ac_rfl]
    rw [show a * (U : Int) * (8192 * (U : Int)) = 8192 * a * ((U : Int) * U) by ac_rfl] at z2
    exact Int.le_trans z1 z2
  · rw [hs, eD]
    have z1 := Int.mul_le_mul_of_nonneg_right h2 (Int.le_of_lt U2_pos)
    have z2 := Int.mul_le_mul_of_nonneg_right x2 (show (0 : Int) ≤ 8192 * (U : Int) by omega)
    rw [show (q * (U : Int)) * (hi * U) = q * hi * ((U : Int) * U) by ac_rfl]
    rw [show b * (U : Int) * (8192 * (U : Int)) = 8192 * b * ((U : Int) * U) by ac_rfl] at z2
    exact Int.le_trans z2 z1

theorem bt_ofInt {n : Int} (b1 : -2 ^ 53 ≤ 8192 * n) (b2 : 8192 * n ≤ 2 ^ 53) : Bt (ofInt n) (8192 * n) (8192 * n) := by
  have R := ofInt_right n
  have hs : sgn (decide (n < 0)) (n.natAbs * (8192 * U)) = n * (8192 * (U : Int)) := by
    rw [sgn_mul, sgn_val]; congr 1
  rw [pow1074] at R
  refine right_bt R (by decide) ?_ ?_ b1 b2 b2 b1 <;>
    (rw [hs, show n * (8192 * (U : Int)) = 8192 * n * (U : Int) by ac_rfl]; simp)

theorem bt_frac {n d lo hi : Int} (hd : 0 < d) (h1 : d * lo ≤ 8192 * n) (h2 : 8192 * n ≤ d * hi)
    (b1 : -2 ^ 53 ≤ lo) (b2 : hi ≤ 2 ^ 53) (b3 : lo ≤ 2 ^ 53) (b4 : -2 ^ 53 ≤ hi) : Bt (ofFrac (decide (n < 0) != decide (d < 0)) n.natAbs d.natAbs) lo hi := by
  have hUp : (0 : Int) < (U : Int) := Int.ofNat_lt.mpr U_pos
  have e : (decide (n < 0) != decide (d < 0)) = decide (n < 0) := by
    rw [decide_eq_false (show ¬ d < 0 by omega)]; simp
  rw [e]
  have R : Right (ofFrac (decide (n < 0)) n.natAbs d.natAbs) (decide (n < 0)) (n.natAbs * 2 ^ 1074) d.natAbs := ofFrac_right (by omega) rfl (by omega)
  rw [pow1074] at R
  have hs : sgn (decide (n < 0)) (n.natAbs * (8192 * U)) = n * (8192 * (U : Int)) := by
    rw [sgn_mul, sgn_val]; congr 1
  have eD : ((d.natAbs : Nat) : Int) = d := by omega
  refine right_bt R (by omega) ?_ ?_ b1 b2 b3 b4
  · rw [hs, eD]
    have := Int.mul_le_mul_of_nonneg_right h1 (Int.le_of_lt hUp)
    rwa [show d * (lo * (U : Int)) = d * lo * (U : Int) by ac_rfl, show n * (8192 * (U : Int)) = 8192 * n * (U : Int) by ac_rfl]
  · rw [hs, eD]
    have := Int.mul_le_mul_of_nonneg_right h2 (Int.le_of_lt hUp)
    rwa [show d * (hi * (U : Int)) = d * hi * (U : Int) by ac_rfl, show n * (8192 * (U : Int)) = 8192 * n * (U : Int) by ac_rfl]

theorem fdiv_of {n d c : Int} (hd : 0 < d) (h1 : c * d ≤ n) (h2 : n < (c + 1) * d) : n.fdiv d = c := by
  rw [Int.fdiv_eq_ediv_of_nonneg _ (by omega)]
  have a : c ≤ n / d := (Int.le_ediv_iff_mul_le hd).mpr h1
  have b : n / d < c + 1 := (Int.ediv_lt_iff_lt_mul hd).mpr h2
  omega

theorem pow_int (n : Nat) : ((2 ^ n : Nat) : Int) = (2 : Int) ^ n := by simp

theorem floor_fin {x : UInt64} {a : Bool} {m : Nat} {e : Int} {c : Int} (hd : decode x = .fin a m e) (h1 : 8192 * c * (U : Int) ≤ val x) (h2 : val x < 8192 * (c + 1) * (U : Int)) : floorOf a m e = c := by
  have hp : ((2 ^ 1074 : Nat) : Int) = 8192 * (U : Int) := by rw [pow1074]; simp
  have hv : val x = sgn a m * ((2 ^ (e + 1074).toNat : Nat) : Int) := by rw [val_eq hd, sgn_mul]
  have he := decode_ge hd
  unfold floorOf
  split
  · rename_i h
    have e1 : (e + 1074).toNat = e.toNat + 1074 := by omega
    have e2 : ((2 ^ (e + 1074).toNat : Nat) : Int) = (2 : Int) ^ e.toNat * (8192 * (U : Int)) := by
      rw [e1, Nat.pow_add, Int.natCast_mul, pow_int, hp]
    rw [hv, e2] at h1 h2
    generalize sgn a m = z at *
    generalize (2 : Int) ^ e.toNat = k at *
    have hUp : (0 : Int) < 8192 * (U : Int) := by have : (0 : Int) < (U : Int) := Int.ofNat_lt.mpr U_pos
                                                  omega
    rw [show z * (k * (8192 * (U : Int))) = z * k * (8192 * (U : Int)) by ac_rfl] at h1 h2
    rw [show 8192 * c * (U : Int) = c * (8192 * (U : Int)) by ac_rfl] at h1
    rw [show 8192 * (c + 1) * (U : Int) = (c + 1) * (8192 * (U : Int)) by ac_rfl] at h2
    have g1 := Int.le_of_mul_le_mul_right h1 hUp
    have g2 := Int.lt_of_mul_lt_mul_right h2 (Int.le_of_lt hUp)
    omega
  · rename_i h
    have e1 : (2 : Nat) ^ 1074 = 2 ^ (-e).toNat * 2 ^ (e + 1074).toNat := by rw [← Nat.pow_add]; congr 1; omega
    have e2 : 8192 * (U : Int) = (2 : Int) ^ (-e).toNat * ((2 ^ (e + 1074).toNat : Nat) : Int) := by
      rw [← hp, e1, Int.natCast_mul, pow_int]
    rw [hv] at h1 h2
    rw [show 8192 * c * (U : Int) = c * (8192 * (U : Int)) by ac_rfl, e2, ← Int.mul_assoc] at h1
    rw [show 8192 * (c + 1) * (U : Int) = (c + 1) * (8192 * (U : Int)) by ac_rfl, e2, ← Int.mul_assoc] at h2
    have hP : (0 : Int) < ((2 ^ (e + 1074).toNat : Nat) : Int) := Int.ofNat_lt.mpr (Nat.two_pow_pos _)
    have hQ : (0 : Int) < (2 : Int) ^ (-e).toNat := by rw [← pow_int]; exact Int.ofNat_lt.mpr (Nat.two_pow_pos _)
    exact fdiv_of hQ (Int.le_of_mul_le_mul_right h1 hP) (Int.lt_of_mul_lt_mul_right h2 (Int.le_of_lt hP))

theorem bt_floor {x : UInt64} {a b c : Int} (h : Bt x a b) (h1 : 8192 * c ≤ a) (h2 : b < 8192 * (c + 1)) : PySem.Flt.toInt floorOf x = c := by
  obtain ⟨⟨_, _, _, d⟩, x1, x2⟩ := h
  have hUp : (0 : Int) < (U : Int) := Int.ofNat_lt.mpr U_pos
  rw [PySem.Flt.toInt_fin d]
  exact floor_fin d (Int.le_trans (Int.mul_le_mul_of_nonneg_right h1 (Int.le_of_lt hUp)) x1) (Int.lt_of_le_of_lt x2 (Int.mul_lt_mul_of_pos_right h2 hUp))

theorem bt_trunc {x : UInt64} {a b c : Int} (h : Bt x a b) (h0 : 0 ≤ c) (h1 : 8192 * c ≤ a) (h2 : b < 8192 * (c + 1)) : PySem.Flt.toInt truncOf x = c := by
  have hf := bt_floor h h1 h2
  obtain ⟨⟨s, m, e, d⟩, x1, x2⟩ := h
  have hUp : (0 : Int) < (U : Int) := Int.ofNat_lt.mpr U_pos
  rw [PySem.Flt.toInt_fin d] at hf ⊢
  unfold truncOf
  cases s
  · exact hf
  · have hv : 0 ≤ val x := Int.le_trans (Int.mul_nonneg (by omega) (Int.le_of_lt hUp)) x1
    have hm : m = 0 := by
      have := val_eq d
      unfold sgn at this
      simp only [if_true] at this
      have h2 : m * 2 ^ (e + 1074).toNat = 0 := by omega
      rcases Nat.mul_eq_zero.mp h2 with h | h
      · exact h
      · have := Nat.two_pow_pos (e + 1074).toNat
        omega
    subst hm
    have z : floorOf true 0 e = 0 := by unfold floorOf sgn; simp
    have z' : floorOf false 0 e = 0 := by unfold floorOf sgn; simp
    rw [z] at hf
    unfold ceilOf
    simp only [Bool.not_true, z', if_true]; omega

theorem bt_cmpInt {x : UInt64} {a b : Int} (h : Bt x a b) (h0 : 0 ≤ a) : (cmpInt x 0 == some .lt) = false := by
  obtain ⟨⟨_, _, _, d⟩, x1, x2⟩ := h
  have hUp : (0 : Int) < (U : Int) := Int.ofNat_lt.mpr U_pos
  have hv : 0 ≤ val x := Int.le_trans (Int.mul_nonneg h0 (Int.le_of_lt hUp)) x1
  rw [cmpInt_right d, Int.zero_mul]
  have : compare (val x) 0 ≠ .lt := by
    intro h
    have := Int.compare_eq_lt.mp h
    omega
  cases hc : compare (val x) 0 <;> simp_all


theorem bt_fmod {x y : UInt64} {n d : Int} (hx : Bt x (8192 * n) (8192 * n)) (hy : Bt y (8192 * d) (8192 * d)) (h0 : 0 ≤ n) (hd : 0 < d) (hb : 8192 * d ≤ 2 ^ 53) :
    Bt (fmod x y) (8192 * (n % d)) (8192 * (n % d)) := by
  have hm1 := Int.emod_nonneg n (by omega : d ≠ 0)
  have hm2 := Int.emod_lt_of_pos n hd
  obtain ⟨⟨a, m, e, dx⟩, x1, x2⟩ := hx
  obtain ⟨⟨b, k, f, dy⟩, y1, y2⟩ := hy
  have hUp : (0 : Int) < (U : Int) := Int.ofNat_lt.mpr U_pos
  have ex : val x = 8192 * n * (U : Int) := by omega
  have ey : val y = 8192 * d * (U : Int) := by omega
  have he := decode_ge dx
  have hf := decode_ge dy
  have hk : k ≠ 0 := by
    intro h0
    have := val_eq dy
    rw [h0, Nat.zero_mul] at this
    have hp : 0 < 8192 * d * (U : Int) := Int.mul_pos (by omega) hUp
    unfold sgn at this
    cases b <;> simp at this <;> omega
  have hfm : fmod x y = ofBin a ((m * 2 ^ (e - min e f).toNat) % (k * 2 ^ (f - min e f).toNat)) (min e f) := by
    unfold fmod
    rw [dx, dy]
    simp only [align, sgn]
    rw [if_neg (by simpa using hk)]
    rfl
  have w1 : m * 2 ^ (e - min e f).toNat * 2 ^ (min e f + 1074).toNat = (val x).natAbs := by
    rw [val_natAbs dx, Nat.mul_assoc, ← Nat.pow_add]; congr 2; omega
  have w2 : k * 2 ^ (f - min e f).toNat * 2 ^ (min e f + 1074).toNat = (val y).natAbs := by
    rw [val_natAbs dy, Nat.mul_assoc, ← Nat.pow_add]; congr 2; omega
  have hg := shift_one ((m * 2 ^ (e - min e f).toNat) % (k * 2 ^ (f - min e f).toNat)) (min e f) 1074 (by omega)
  have hmod : ((m * 2 ^ (e - min e f).toNat) % (k * 2 ^ (f - min e f).toNat)) * 2 ^ (min e f + 1074).toNat = (val x).natAbs % (val y).natAbs := by
    rw [← w1, ← w2, Nat.mul_mod_mul_right]
  have hval : (val x).natAbs % (val y).natAbs = (8192 * (n % d) * (U : Int)).natAbs := by
    have a1 : 0 ≤ val x := by rw [ex]; exact Int.mul_nonneg (by omega) (Int.le_of_lt hUp)
    have a2 : 0 ≤ val y := by rw [ey]; exact Int.mul_nonneg (by omega) (Int.le_of_lt hUp)
    have a3 : val x % val y = 8192 * (n % d) * (U : Int) := by
      rw [ex, ey, show 8192 * n * (U : Int) = (8192 * (U : Int)) * n by ac_rfl, show 8192 * d * (U : Int) = (8192 * (U : Int)) * d by ac_rfl,
        Int.mul_emod_mul_of_pos _ _ (by omega)]
      ac_rfl
    have a4 := Int.emod_nonneg (val x) (show val y ≠ 0 by rw [ey]; exact Int.ne_of_gt (Int.mul_pos (by omega) hUp))
    rw [← a3]
    have q : (((val x).natAbs % (val y).natAbs : Nat) : Int) = val x % val y := by
      rw [Int.natCast_emod, Int.natAbs_of_nonneg a1, Int.natAbs_of_nonneg a2]
    omega
  have R : Right (fmod x y) a ((val x).natAbs % (val y).natAbs) 1 := by
    rw [hfm]
    unfold ofBin
    refine ofFrac_right (shift_pos _ _ _ (by decide)) ?_ (by decide)
    rw [← hmod, Nat.mul_one]
    exact hg
  rw [hval] at R
  have hnn : 0 ≤ 8192 * (n % d) * (U : Int) := Int.mul_nonneg (by omega) (Int.le_of_lt hUp)
  cases a
  · refine right_bt R (by decide) ?_ ?_ (by omega) (by omega) (by omega) (by omega) <;> (unfold sgn; simp only [Bool.false_eq_true, if_false]; omega)
  · -- a negative zero
    have hx0 : val x = 0 := by
      have := val_sgn dx
      unfold sgn at this
      simp only [if_true] at this
      have a1 : 0 ≤ val x := by rw [ex]; exact Int.mul_nonneg (by omega) (Int.le_of_lt hUp)
      omega
    have hn0 : n = 0 := by
      rw [ex] at hx0
      rcases Int.mul_eq_zero.mp hx0 with h | h <;> omega
    have hz : n % d = 0 := by rw [hn0]; simp
    rw [hz] at R ⊢
    refine right_bt R (by decide) ?_ ?_ (by omega) (by omega) (by omega) (by omega) <;> (unfold sgn; simp)

theorem bt_mod {x y : UInt64} {n d : Int} (hx : Bt x (8192 * n) (8192 * n)) (hy : Bt y (8192 * d) (8192 * d)) (h0 : 0 ≤ n) (hd : 0 < d) (hb : 8192 * d ≤ 2 ^ 53) :
    Bt (divmod x y).2 (8192 * (n % d)) (8192 * (n % d)) := by
  have hF := bt_fmod hx hy h0 hd hb
  have hm1 := Int.emod_nonneg n (by omega : d ≠ 0)
  have hUp : (0 : Int) < (U : Int) := Int.ofNat_lt.mpr U_pos
  have hc : copysign (zero false) y = zero (signBit y) := by
    unfold copysign
    have e1 : isNaN (zero false) = false := by decide +kernel
    have e2 : (zero false).toNat % 2 ^ 63 = 0 := by decide +kernel
    rw [e1, e2]; rfl
  have ez : ∀ {z : UInt64}, Fin' z → 0 ≤ val z → lt z (zero false) = false := by
    intro z hz hv
    obtain ⟨_, _, _, dz⟩ := hz
    obtain ⟨m, e, d0, _⟩ := decode_pack false (show 0 < infMag by decide)
    have d0 : decode (zero false) = .fin false m e := d0
    have v0 : val (zero false) = 0 := by
      have := val_pack false (show 0 < infMag by decide)
      rw [V_zero] at this
      exact this
    unfold lt
    rw [cmp_right dz d0]
    rw [v0]
    have : compare (val z) 0 ≠ .lt := by
      intro h
      have := Int.compare_eq_lt.mp h
      omega
    cases hc : compare (val z) 0 <;> simp_all
  have l1 : lt y (zero false) = false := ez hy.1 (Int.le_trans (Int.mul_nonneg (by omega) (Int.le_of_lt hUp)) hy.2.1)
  have l2 : lt (fmod x y) (zero false) = false := ez hF.1 (Int.le_trans (Int.mul_nonneg (by omega) (Int.le_of_lt hUp)) hF.2.1)
  have key : (divmod x y).2 = if isZero (fmod x y) then zero (signBit y) else fmod x y := by
    unfold divmod
    simp only [hc, l1, l2]
    split <;> simp
  rw [key]
  split
  · rename_i h
    have hz : val (fmod x y) = 0 := by
      obtain ⟨⟨_, m, _, dz⟩, _, _⟩ := hF
      unfold isZero at h
      rw [dz] at h
      cases m with
      | zero => have := val_eq dz; rw [Nat.zero_mul] at this; rw [this]; unfold sgn; simp
      | succ _ => cases h
    have h1 := hF.2.1
    rw [hz] at h1
    have : n % d = 0 := by
      rcases Int.lt_or_le 0 (n % d) with q | q
      · have := Int.mul_pos (show 0 < 8192 * (n % d) by omega) hUp
        omega
      · omega
    rw [this]
    exact bt_zero _
  · exact hF

end SFF
end Mine

-- FW
namespace Mine
section SFW
open PySem PySem.Float64 PySem.Calls PyProof.Rows PySem.Flt

theorem fin_of {x : UInt64} (h : isFinite x = true) : Fin' x := by
  rcases three x with ⟨hd, _⟩ | ⟨_, hd, _⟩ | ⟨sg, m, e, hd, _⟩
  · unfold isFinite at h; rw [hd] at h; cases h
  · unfold isFinite at h; rw [hd] at h; cases h
  · exact ⟨_, _, _, hd⟩

-- the constants
theorem k_half : Bt 4602678819172646912 4096 4096 := ⟨fin_of (by decide +kernel), by unfold U; decide +kernel, by unfold U; decide +kernel⟩
theorem k_12210 : Bt 4638292440600962662 1000243 1000244 := ⟨fin_of (by decide +kernel), by unfold U; decide +kernel, by unfold U; decide +kernel⟩
theorem k_36525 : Bt 4645133162144333824 2992128 2992128 := ⟨fin_of (by decide +kernel), by unfold U; decide +kernel, by unfold U; decide +kernel⟩
theorem k_arm : Bt 4701007892789067776 (8192 * 1922501 + 4096) (8192 * 1922501 + 4096) := ⟨fin_of (by decide +kernel), by unfold U; decide +kernel, by unfold U; decide +kernel⟩
theorem k_sar : Bt 4701801086275551232 (8192 * 2117210 + 4096) (8192 * 2117210 + 4096) := ⟨fin_of (by decide +kernel), by unfold U; decide +kernel, by unfold U; decide +kernel⟩
theorem k_cop : Bt 4700589253736792064 (8192 * 1825029 + 4096) (8192 * 1825029 + 4096) := ⟨fin_of (by decide +kernel), by unfold U; decide +kernel, by unfold U; decide +kernel⟩

def chkE (n : Nat) : Bool := isFinite (Float64.div (ofInt n) 4629306380116972641) && (toInt floorOf (Float64.div (ofInt n) 4629306380116972641) == (10000 * (n : Int)) / 306001)
theorem chkE_all : ((List.range 512).all chkE) = true := by decide +kernel
def chkG (n : Nat) : Bool := isFinite (Float64.mul 4629306380116972641 (ofInt n)) && (toInt floorOf (Float64.mul 4629306380116972641 (ofInt n)) == (306001 * (n : Int)) / 10000)
theorem chkG_all : ((List.range 32).all chkG) = true := by decide +kernel

-- what floor and trunc give
theorem fl_half {x : UInt64} {k : Int} (hx : Bt x (8192 * k + 4096) (8192 * k + 4096)) (h1 : -549755813888 ≤ k) (h2 : k ≤ 549755813888) :
    Bt (add x 4602678819172646912) (8192 * (k + 1)) (8192 * (k + 1)) := by
  have := bt_add hx k_half (by omega) (by omega)
  rwa [show 8192 * k + 4096 + 4096 = 8192 * (k + 1) by omega] at this
theorem fl_c {b c : Int} (h1 : -549755813888 ≤ b) (h2 : b ≤ 549755813888) (c1 : 1461 * c ≤ 4 * b - 489) (c2 : 4 * b - 489 < 1461 * c + 1461) :
    Bt (div (sub (ofInt b) 4638292440600962662) 4645133162144333824) (8192 * c) (8192 * c + 8191) := by
  have e1 := bt_sub (bt_ofInt (n := b) (by omega) (by omega)) k_12210 (by omega) (by omega)
  exact bt_div e1 k_36525 (by decide) (by omega) (by omega) (by omega) (by omega) (by omega) (by omega)
theorem fl_d {c d : Int} (h1 : -2147483648 ≤ c) (h2 : c ≤ 2147483648) (d1 : 4 * d ≤ 1461 * c) (d2 : 1461 * c < 4 * d + 4) :
    Bt (mul 4645133162144333824 (ofInt c)) (2992128 * c) (2992128 * c) :=
  bt_mul k_36525 (bt_ofInt (n := c) (by omega) (by omega)) (by omega) (by omega) (by omega) (by omega) (by omega) (by omega)
theorem fl_e {n : Int} (h1 : 0 ≤ n) (h2 : n ≤ 511) : Fin' (div (ofInt n) 4629306380116972641) ∧ toInt floorOf (div (ofInt n) 4629306380116972641) = 10000 * n / 306001 := by
  have h := List.all_eq_true.mp chkE_all n.toNat (List.mem_range.mpr (by omega))
  have e : ((n.toNat : Nat) : Int) = n := Int.toNat_of_nonneg h1
  unfold chkE at h
  rw [e, Bool.and_eq_true] at h
  exact ⟨fin_of h.1, by simpa using h.2⟩
theorem fl_g {n : Int} (h1 : 0 ≤ n) (h2 : n ≤ 31) : Fin' (mul 4629306380116972641 (ofInt n)) ∧ toInt floorOf (mul 4629306380116972641 (ofInt n)) = 306001 * n / 10000 := by
  have h := List.all_eq_true.mp chkG_all n.toNat (List.mem_range.mpr (by omega))
  have e : ((n.toNat : Nat) : Int) = n := Int.toNat_of_nonneg h1
  unfold chkG at h
  rw [e, Bool.and_eq_true] at h
  exact ⟨fin_of h.1, by simpa using h.2⟩

section
variable {prog : Program} {w : World} {A : Around} {E : Value → Shared → Prop} {s : Shared} {Q : Value → Shared → Prop} {x y : UInt64} {t u : Tok}
theorem w_floor {c : Int} (hf : Fin' x) (he : toInt floorOf x = c) (h : Q (.int c s.toks) { s with toks := s.toks + 1 }) : wpAny (model prog w) A (call (.builtin "math.floor") [.float x t]) Q E s := by
  obtain ⟨sg, m, e, hd⟩ := hf
  rw [toInt_fin hd] at he
  subst he
  exact call_fn_gives kind_floor plain_floor entry_floor (args_floor _) (gives_mfloor t hd) h
theorem w_trunc {c : Int} (hf : Fin' x) (he : toInt truncOf x = c) (h : Q (.int c s.toks) { s with toks := s.toks + 1 }) : wpAny (model prog w) A (call (.builtin "math.trunc") [.float x t]) Q E s := by
  obtain ⟨sg, m, e, hd⟩ := hf
  refine trunc_via ?_
  rw [toInt_fin hd] at he
  subst he
  exact call_gives F.slot_float_trunc (typeIs_float s x t) F.entry_float_trunc (F.args_float_trunc_1 _) (gives_trunc t hd) h

theorem r_half {k : Int} (hx : Bt x (8192 * k + 4096) (8192 * k + 4096)) (h1 : -549755813888 ≤ k) (h2 : k ≤ 549755813888) (h : Q (.int (k + 1) s.toks) { s with toks := s.toks + 1 }) :
    wpAny (model prog w) A (call (.builtin "math.floor") [.float (add x 4602678819172646912) t]) Q E s :=
  let b := fl_half hx h1 h2
  w_floor b.1 (bt_floor b (by omega) (by omega)) h
theorem r_c {b : Int} (h1 : -549755813888 ≤ b) (h2 : b ≤ 549755813888) (h : ∀ c, 1461 * c ≤ 4 * b - 489 → 4 * b - 489 < 1461 * c + 1461 → Q (.int c s.toks) { s with toks := s.toks + 1 }) :
    wpAny (model prog w) A (call (.builtin "math.floor") [.float (div (sub (ofInt b) 4638292440600962662) 4645133162144333824) t]) Q E s :=
  let c1 : 1461 * ((4 * b - 489) / 1461) ≤ 4 * b - 489 := by omega
  let c2 : 4 * b - 489 < 1461 * ((4 * b - 489) / 1461) + 1461 := by omega
  let z := fl_c h1 h2 c1 c2
  w_floor z.1 (bt_floor z (by omega) (by omega)) (h _ c1 c2)
theorem r_d {c : Int} (h1 : -2147483648 ≤ c) (h2 : c ≤ 2147483648) (h : ∀ d, 4 * d ≤ 1461 * c → 1461 * c < 4 * d + 4 → Q (.int d s.toks) { s with toks := s.toks + 1 }) :
    wpAny (model prog w) A (call (.builtin "math.floor") [.float (mul 4645133162144333824 (ofInt c)) t]) Q E s :=
  let d1 : 4 * (1461 * c / 4) ≤ 1461 * c := by omega
  let d2 : 1461 * c < 4 * (1461 * c / 4) + 4 := by omega
  let z := fl_d h1 h2 d1 d2
  w_floor z.1 (bt_floor z (by omega) (by omega)) (h _ d1 d2)
theorem r_e {n : Int} (h1 : 0 ≤ n) (h2 : n ≤ 511) (h : ∀ e, 306001 * e ≤ 10000 * n → 10000 * n < 306001 * e + 306001 → Q (.int e s.toks) { s with toks := s.toks + 1 }) :
    wpAny (model prog w) A (call (.builtin "math.floor") [.float (div (ofInt n) 4629306380116972641) t]) Q E s :=
  w_floor (fl_e h1 h2).1 (fl_e h1 h2).2 (h _ (by omega) (by omega))
theorem r_g {n : Int} (h1 : 0 ≤ n) (h2 : n ≤ 31) (h : ∀ g, 10000 * g ≤ 306001 * n → 306001 * n < 10000 * g + 10000 → Q (.int g s.toks) { s with toks := s.toks + 1 }) :
    wpAny (model prog w) A (call (.builtin "math.floor") [.float (mul 4629306380116972641 (ofInt n)) t]) Q E s :=
  w_floor (fl_g h1 h2).1 (fl_g h1 h2).2 (h _ (by omega) (by omega))

-- an int beside a double: no overflow
theorem small_ne {n : Int} (h1 : -2251799813685248 ≤ n) (h2 : n ≤ 2251799813685248) : n.natAbs < 2 ^ 53 := by omega
theorem two_big : 2 ^ 53 ≤ 2 ^ 1024 - 2 ^ 970 := by decide +kernel
theorem o_add_fi {n : Int} (hA : A.handled = none) (h1 : -2251799813685248 ≤ n) (h2 : n ≤ 2251799813685248) (h : Q (.float (add x (ofInt n)) s.toks) { s with toks := s.toks + 1 }) :
    wpAny (model prog w) A (binaryOp .Add (.float x t) (.int n u)) Q E s :=
  add_fi_sharp hA (fun hb => absurd (Nat.le_trans two_big hb) (Nat.not_le.mpr (small_ne h1 h2))) (fun _ => h)
theorem o_add_if {n : Int} (hA : A.handled = none) (h1 : -2251799813685248 ≤ n) (h2 : n ≤ 2251799813685248) (h : Q (.float (add (ofInt n) x) s.toks) { s with toks := s.toks + 1 }) :
    wpAny (model prog w) A (binaryOp .Add (.int n u) (.float x t)) Q E s :=
  add_if_sharp hA (fun hb => absurd (Nat.le_trans two_big hb) (Nat.not_le.mpr (small_ne h1 h2))) (fun _ => h)
theorem o_sub_fi {n : Int} (hA : A.handled = none) (h1 : -2251799813685248 ≤ n) (h2 : n ≤ 2251799813685248) (h : Q (.float (sub x (ofInt n)) s.toks) { s with toks := s.toks + 1 }) :
    wpAny (model prog w) A (binaryOp .Sub (.float x t) (.int n u)) Q E s :=
  sub_fi_sharp hA (fun hb => absurd (Nat.le_trans two_big hb) (Nat.not_le.mpr (small_ne h1 h2))) (fun _ => h)
theorem o_sub_if {n : Int} (hA : A.handled = none) (h1 : -2251799813685248 ≤ n) (h2 : n ≤ 2251799813685248) (h : Q (.float (sub (ofInt n) x) s.toks) { s with toks := s.toks + 1 }) :
    wpAny (model prog w) A (binaryOp .Sub (.int n u) (.float x t)) Q E s :=
  sub_if_sharp hA (fun hb => absurd (Nat.le_trans two_big hb) (Nat.not_le.mpr (small_ne h1 h2))) (fun _ => h)
theorem o_mul_fi {n : Int} (hA : A.handled = none) (h1 : -2251799813685248 ≤ n) (h2 : n ≤ 2251799813685248) (h : Q (.float (mul x (ofInt n)) s.toks) { s with toks := s.toks + 1 }) :
    wpAny (model prog w) A (binaryOp .Mult (.float x t) (.int n u)) Q E s :=
  mul_fi_sharp hA (fun hb => absurd (Nat.le_trans two_big hb) (Nat.not_le.mpr (small_ne h1 h2))) (fun _ => h)
theorem not_over {n : Int} (h1 : -2251799813685248 ≤ n) (h2 : n ≤ 2251799813685248) : ¬ Over n := fun ho => by
  have := small_ne h1 h2
  have h3 := two_big
  unfold Over at ho
  omega
theorem o_div_if {n : Int} (hA : A.handled = none) (hz : isZero x = false) (h1 : -2251799813685248 ≤ n) (h2 : n ≤ 2251799813685248) (h : Q (.float (div (ofInt n) x) s.toks) { s with toks := s.toks + 1 }) :
    wpAny (model prog w) A (binaryOp .Div (.int n u) (.float x t)) Q E s :=
  truediv_if hA (fun ho => absurd ho (not_over h1 h2)) (fun _ hz' => absurd hz' (by rw [hz]; decide)) (fun _ _ => h)
theorem o_div_ff (hA : A.handled = none) (hz : isZero y = false) (h : Q (.float (div x y) s.toks) { s with toks := s.toks + 1 }) :
    wpAny (model prog w) A (binaryOp .Div (.float x t) (.float y u)) Q E s :=
  truediv_float_or hA (fun hz' => absurd hz' (by rw [hz]; decide)) (fun _ => h)
theorem o_div_fi {n : Int} (hA : A.handled = none) (hz : n ≠ 0) (h1 : -2251799813685248 ≤ n) (h2 : n ≤ 2251799813685248) (h : Q (.float (div x (ofInt n)) s.toks) { s with toks := s.toks + 1 }) :
    wpAny (model prog w) A (binaryOp .Div (.float x t) (.int n u)) Q E s :=
  truediv_fi hA (fun ho => absurd ho (not_over h1 h2)) (fun hz' => absurd hz' hz) (fun _ _ => h)
theorem o_mod_fi {n : Int} (hA : A.handled = none) (hz : n ≠ 0) (h1 : -2251799813685248 ≤ n) (h2 : n ≤ 2251799813685248) (h : Q (.float (divmod x (ofInt n)).2 s.toks) { s with toks := s.toks + 1 }) :
    wpAny (model prog w) A (binaryOp .Mod (.float x t) (.int n u)) Q E s :=
  Flt.mod_fi hA (fun ho => absurd ho (not_over h1 h2)) (fun hz' => absurd hz' hz) (fun _ _ => h)
theorem o_div_ii {n d : Int} (hA : A.handled = none) (hz : d ≠ 0) (h1 : -2251799813685248 ≤ n) (h2 : n ≤ 2251799813685248) (h : Q (.float (ofFrac (decide (n < 0) != decide (d < 0)) n.natAbs d.natAbs) s.toks) { s with toks := s.toks + 1 }) :
    wpAny (model prog w) A (binaryOp .Div (.int n t) (.int d u)) Q E s :=
  div_ii_fits hA (Nat.lt_of_lt_of_le (small_ne h1 h2) (by decide +kernel)) (fun hz' => absurd hz' hz) (fun _ _ => h)
end
end SFW
end Mine

set_option maxHeartbeats 8000000
namespace Mine
open_top hd for PySem.Challenge.rw_ad5020_01
end Mine

-- C1
namespace Mine
section SC1
noncomputable abbrev LS := looseW hd.view_39 [Str.ofString "leap_julian", Str.ofString "from_jd", Str.ofString "from_jd_julian", Str.ofString "to_jd_julian",
      Str.ofString "_valid_date", Str.ofString "leap_armenian", Str.ofString "to_jd_armenian",
      Str.ofString "from_jd_armenian", Str.ofString "to_julian", Str.ofString "from_julian",
      Str.ofString "to_jd_coptic"]

def Jul (k y mo d : Int) : Prop := ∃ c dd e g : Int, 1461 * c ≤ 4 * (k + 1525) - 489 ∧ 4 * (k + 1525) - 489 < 1461 * c + 1461 ∧ 4 * dd ≤ 1461 * c ∧ 1461 * c < 4 * dd + 4 ∧
  306001 * e ≤ 10000 * (k + 1525 - dd) ∧ 10000 * (k + 1525 - dd) < 306001 * e + 306001 ∧ 10000 * g ≤ 306001 * e ∧ 306001 * e < 10000 * g + 10000 ∧
  mo = (if e < 14 then e - 1 else e - 13) ∧ y = (if e < 14 then c - 4716 else c - 4715) ∧ d = k + 1525 - dd - g
theorem jul_of {k y mo d c dd e g : Int} (h1 : 1461 * c ≤ 4 * (k + 1 + 1524) - 489) (h2 : 4 * (k + 1 + 1524) - 489 < 1461 * c + 1461) (h3 : 4 * dd ≤ 1461 * c) (h4 : 1461 * c < 4 * dd + 4)
  (h5 : 306001 * e ≤ 10000 * (k + 1 + 1524 - dd)) (h6 : 10000 * (k + 1 + 1524 - dd) < 306001 * e + 306001) (h7 : 10000 * g ≤ 306001 * e) (h8 : 306001 * e < 10000 * g + 10000)
  (h9 : mo = (if e < 14 then e - 1 else e - 13)) (h10 : y = (if e < 14 then c - 4716 else c - 4715)) (h11 : d = k + 1 + 1524 - dd - g) : Jul k y mo d :=
  ⟨c, dd, e, g, by omega, by omega, by omega, by omega, by omega, by omega, by omega, by omega, h9, h10, by omega⟩


local macro_rules | `(tactic| walk_at "binaryOp Sub int float") => `(tactic| (k_here; k_dflt (refine o_sub_if rfl (by omega) (by omega) ?_); (try dsimp only)))
local macro_rules | `(tactic| walk_at "binaryOp Mult float int") => `(tactic| (k_here; k_dflt (refine o_mul_fi rfl (by omega) (by omega) ?_); (try dsimp only)))
local macro_rules | `(tactic| walk_at "binaryOp Div int float") => `(tactic| (k_here; k_dflt (refine o_div_if rfl (by decide +kernel) (by omega) (by omega) ?_); (try dsimp only)))
local macro_rules | `(tactic| walk_at "binaryOp Div float float") => `(tactic| (k_here; k_dflt (refine o_div_ff rfl (by decide +kernel) ?_); (try dsimp only)))
local macro_rules | `(tactic| walk_at "call builtin:math.floor") => `(tactic| (k_here; k_dflt (first | (refine r_half (by assumption) (by omega) (by omega) ?_) | (refine r_c (by omega) (by omega) ?_; intro _ _ _) | (refine r_d (by omega) (by omega) ?_; intro _ _ _) | (refine r_e (by omega) (by omega) ?_; intro _ _ _) | (refine r_g (by omega) (by omega) ?_; intro _ _ _)); (try dsimp only)))

theorem c_from_jd {w : World} {mean : ExcName → Option Value} {mg mb : Str → Option Value} {x : UInt64} {tx : Tok} {k : Int}
  {dp un : Nat} {gd : Option (List Code)} {cn : Str} {cs : Scope} {a : Addr} {ccd : Value} {cl : List (Str × Addr)} {outer : List Env} {A₀ : Around} {base h₀ : Heap} {L : Addr} {m : Str → Option Value} {news : List (Addr × Obj)} {s : Shared}
    {Q E : Value → Shared → Prop} (hx : Bt x (8192 * k + 4096) (8192 * k + 4096)) (k1 : -500000000000 ≤ k) (k2 : k ≤ 500000000000)
  (B : Below A₀ base outer h₀) (F : Fr h₀ L s.heap m) (X : (hd.heap_39 w.params).In h₀) (N : News h₀ L s.heap news) (T : Top hd.view_39 LS mean mg mb h₀) (hk : cs.kind = .function) (hdp : dp + 6 < recursionLimit)
  (hret : ∀ T t1 t2 t3 y mo d h' tk', Jul k y mo d → Fr h₀ L h' m → News h₀ L h' ((T, ({ cls := .type "tuple", data := .seq #[.int y t1, .int mo t2, .int d t3] } : Obj)) :: news) → (∀ p ∈ news, p.1 < T) → Q (.ref T) {s with heap := h', toks := tk'}) :
  wpAny (model PySem.Challenge.rw_ad5020_01.row.prog w) (ktrTop dp un gd cn cs L a ccd cl outer) (call (.ref 71) [.float x tx]) Q E s := by
  revert X; k_fill; intro X
  refine wpAny_call ?_
  k_dflt cell_enter
  k_steps
  all_goals (refine hret _ _ _ _ _ _ _ _ _ ?_ (by k_asm) (by k_asm) (by k_asm); refine jul_of (by assumption) (by assumption) (by assumption) (by assumption) (by assumption) (by assumption) (by assumption) (by assumption) ?_ ?_ rfl <;> (split <;> omega))
end SC1
end Mine

-- P1
namespace Mine
section SP1
theorem fl_same {n x y z : Int} (h1 : n * x ≤ z) (h2 : z < n * x + n) (h3 : n * y ≤ z) (h4 : z < n * y + n) (hn : 0 < n) : x = y := by
  have a : x < y + 1 := Int.lt_of_mul_lt_mul_left (show n * x < n * (y + 1) by rw [Int.mul_add, Int.mul_one]; omega) (by omega)
  have b : y < x + 1 := Int.lt_of_mul_lt_mul_left (show n * y < n * (x + 1) by rw [Int.mul_add, Int.mul_one]; omega) (by omega)
  omega
theorem jul_feb {k c dd : Int} (h1 : 1461 * c ≤ 4 * (k + 1525) - 489) (h2 : 4 * (k + 1525) - 489 < 1461 * c + 1461) (h3 : 4 * dd ≤ 1461 * c) (h4 : 1461 * c < 4 * dd + 4) :
    k + 1525 - dd ≤ 488 ∧ (c % 4 = 3 ∨ k + 1525 - dd ≤ 487) := by
  have e : c = 4 * (c / 4) + c % 4 := by omega
  have hr : c % 4 = 0 ∨ c % 4 = 1 ∨ c % 4 = 2 ∨ c % 4 = 3 := by omega
  generalize c / 4 = q at e
  rcases hr with hr | hr | hr | hr <;> rw [hr] at e ⊢ <;> subst e
  · have : dd = 1461 * q := by omega
    omega
  · have : dd = 1461 * q + 365 := by omega
    omega
  · have : dd = 1461 * q + 730 := by omega
    omega
  · have : dd = 1461 * q + 1095 := by omega
    omega
theorem jul_valid {k y mo d : Int} (h : Jul k y mo d) : 1 ≤ mo ∧ mo ≤ 12 ∧ 1 ≤ d ∧ d ≤ 31 ∧ ((mo ≠ 4 ∧ mo ≠ 6 ∧ mo ≠ 9 ∧ mo ≠ 11) ∨ d ≤ 30) ∧ (mo ≠ 2 ∨ d ≤ 29) ∧ (mo ≠ 2 ∨ y % 4 = 0 ∨ d ≤ 28) := by
  obtain ⟨c, dd, e, g, h1, h2, h3, h4, h5, h6, h7, h8, h9, h10, h11⟩ := h
  have hf := jul_feb h1 h2 h3 h4
  have he : e = 4 ∨ e = 5 ∨ e = 6 ∨ e = 7 ∨ e = 8 ∨ e = 9 ∨ e = 10 ∨ e = 11 ∨ e = 12 ∨ e = 13 ∨ e = 14 ∨ e = 15 := by omega
  generalize k + 1525 - dd = n at *
  clear h1 h2 h3 h4
  rcases he with rfl | rfl | rfl | rfl | rfl | rfl | rfl | rfl | rfl | rfl | rfl | rfl
  all_goals (split at h9 <;> split at h10 <;> first | omega | (refine ⟨?_, ?_, ?_, ?_, ?_, ?_, ?_⟩ <;> omega))
theorem jul_back {k y mo d r c' e' dd' g' : Int} (h : Jul k y mo d) (hc : c' = if mo ≤ 2 then y + 1460 * r - 1 + 4716 else y + 1460 * r + 4716) (he : e' = if mo ≤ 2 then mo + 12 + 1 else mo + 1)
    (d1 : 4 * dd' ≤ 1461 * c') (d2 : 1461 * c' < 4 * dd' + 4) (g1 : 10000 * g' ≤ 306001 * e') (g2 : 306001 * e' < 10000 * g' + 10000) : dd' + g' + d - 1525 = k + 533265 * r := by
  obtain ⟨c, dd, e, g, h1, h2, h3, h4, h5, h6, h7, h8, h9, h10, h11⟩ := h
  have he4 : 4 ≤ e ∧ e ≤ 15 := by omega
  have key : c' = c + 1460 * r ∧ e' = e := by
    split at h9
    · rw [if_pos (by assumption)] at h10
      rw [if_neg (by omega)] at hc he
      omega
    · rw [if_neg (by assumption)] at h10
      rw [if_pos (by omega)] at hc he
      omega
  obtain ⟨rfl, rfl⟩ := key
  have q1 : g' = g := fl_same g1 g2 h7 h8 (by decide)
  have q2 : dd' = dd + 533265 * r := fl_same (n := 4) (z := 1461 * (c + 1460 * r)) d1 d2 (by omega) (by omega) (by decide)
  omega
theorem jul_year {k y mo d : Int} (h : Jul k y mo d) (k1 : -500000000000 ≤ k) (k2 : k ≤ 500000000000) : -1400000000 ≤ y ∧ y ≤ 1400000000 := by
  obtain ⟨c, dd, e, g, h1, h2, h3, h4, h5, h6, h7, h8, h9, h10, h11⟩ := h
  split at h10 <;> omega
end SP1
end Mine

-- P2
namespace Mine
section SP2
abbrev tcop : List (Int × Int × Int) := [(0, 8, 29), (0, 9, 28), (0, 10, 28), (0, 11, 27), (0, 12, 27), (1, 1, 26), (1, 2, 25), (1, 3, 27), (1, 4, 26), (1, 5, 26), (1, 6, 25), (1, 7, 25), (1, 8, 24)]
abbrev tsar : List (Int × Int × Int) := [(0, 8, 11), (0, 9, 10), (0, 10, 10), (0, 11, 9), (0, 12, 9), (1, 1, 8), (1, 2, 7), (1, 3, 9), (1, 4, 8), (1, 5, 8), (1, 6, 7), (1, 7, 7), (1, 8, 6)]
theorem pure_cop {y mo q a b c jy jm jd : Int} (m0 : 0 ≤ mo) (m1 : mo ≤ 12) (q1 : 4 * q ≤ y) (q2 : y < 4 * q + 4) (ht : tcop[mo.toNat]? = some (a, b, c)) (hj : Jul (1 + (mo + 1 - 1) * 30 + (y - 1) * 365 + q + 1825028) jy jm jd) :
    jy = y + 283 + a ∧ jm = b ∧ ((y % 4 = 0 ∧ mo < 7 ∧ jd = c + 1) ∨ (¬ (y % 4 = 0 ∧ mo < 7) ∧ jd = c)) := by
  obtain ⟨r, hr, hr4⟩ : ∃ r, y = 4 * q + r ∧ (r = 0 ∨ r = 1 ∨ r = 2 ∨ r = 3) := ⟨y - 4 * q, by omega, by omega⟩
  have hm : mo = 0 ∨ mo = 1 ∨ mo = 2 ∨ mo = 3 ∨ mo = 4 ∨ mo = 5 ∨ mo = 6 ∨ mo = 7 ∨ mo = 8 ∨ mo = 9 ∨ mo = 10 ∨ mo = 11 ∨ mo = 12 := by omega
  obtain ⟨cc, dd, e, g, h1, h2, h3, h4, h5, h6, h7, h8, h9, h10, h11⟩ := hj
  subst hr
  rcases hm with rfl | rfl | rfl | rfl | rfl | rfl | rfl | rfl | rfl | rfl | rfl | rfl | rfl
  all_goals (simp [tcop] at ht; obtain ⟨rfl, rfl, rfl⟩ := ht; rcases hr4 with rfl | rfl | rfl | rfl <;> (split at h9 <;> split at h10 <;> omega))
theorem pure_sar {y mo q a b c jy jm jd : Int} (m0 : 0 ≤ mo) (m1 : mo ≤ 12) (q1 : 4 * q ≤ y - 533) (q2 : y - 533 < 4 * q + 4) (ht : tsar[mo.toNat]? = some (a, b, c)) (hj : Jul (2117210 + 365 * (y - 533) + q + ((mo + 1 - 1) * 30 + 1)) jy jm jd) :
    jy = y + 551 + a ∧ jm = b ∧ ((y % 4 = 0 ∧ mo > 6 ∧ jd = c - 1) ∨ (¬ (y % 4 = 0 ∧ mo > 6) ∧ jd = c)) := by
  obtain ⟨r, hr, hr4⟩ : ∃ r, y = 533 + 4 * q + r ∧ (r = 0 ∨ r = 1 ∨ r = 2 ∨ r = 3) := ⟨y - 533 - 4 * q, by omega, by omega⟩
  have hm : mo = 0 ∨ mo = 1 ∨ mo = 2 ∨ mo = 3 ∨ mo = 4 ∨ mo = 5 ∨ mo = 6 ∨ mo = 7 ∨ mo = 8 ∨ mo = 9 ∨ mo = 10 ∨ mo = 11 ∨ mo = 12 := by omega
  obtain ⟨cc, dd, e, g, h1, h2, h3, h4, h5, h6, h7, h8, h9, h10, h11⟩ := hj
  subst hr
  rcases hm with rfl | rfl | rfl | rfl | rfl | rfl | rfl | rfl | rfl | rfl | rfl | rfl | rfl
  all_goals (simp [tsar] at ht; obtain ⟨rfl, rfl, rfl⟩ := ht; rcases hr4 with rfl | rfl | rfl | rfl <;> (split at h9 <;> split at h10 <;> omega))
end SP2
end Mine

-- C2
namespace Mine
section SC2

local macro_rules | `(tactic| walk_at "binaryOp Sub int float") => `(tactic| (k_here; k_dflt (refine o_sub_if rfl (by omega) (by omega) ?_); (try dsimp only)))
local macro_rules | `(tactic| walk_at "binaryOp Mult float int") => `(tactic| (k_here; k_dflt (refine o_mul_fi rfl (by omega) (by omega) ?_); (try dsimp only)))
local macro_rules | `(tactic| walk_at "call builtin:math.floor") => `(tactic| (k_here; k_dflt (first | (refine r_half (by assumption) (by omega) (by omega) ?_) | (refine r_c (by omega) (by omega) ?_; intro _ _ _) | (refine r_d (by omega) (by omega) ?_; intro _ _ _) | (refine r_e (by omega) (by omega) ?_; intro _ _ _) | (refine r_g (by omega) (by omega) ?_; intro _ _ _)); (try dsimp only)))

local macro_rules | `(tactic| walk_at "call ref") => `(tactic| (k_here; (with_reducible show wpAny _ _ (call (Value.ref _) _) _ _ _); (refine wpAny_call ?_); k_dflt (refine' code_def ?k1 ?k2 ?k3 ?k4 ?k5 ?kA ?kF ?kK ?k6 ?k7 ?k8 ?k9 ?kB ?_ ?c2 ?c3 ?c4 ?c5; (case kA => exact rfl); (case kF => exact rfl); (case kK => first | exact rfl | assumption); (case k1 => k_asm); (case k2 => k_asm); (case k3 => k_asm); (case k4 => k_asm); (case k5 => k_asm); (case k6 => k_is); (case k7 => k_is); (case k8 => ktr_room); (case k9 => exact BindsTo.of_eq rfl); (case c5 => decide); (case kB => exact locs rfl); (case c2 => exact rfl); (case c3 => exact rfl); (case c4 => exact rfl); k_whole; intro g' L' h' FG' F' N' B' X' T'; (try dsimp only); (try k_lift B'); (try k_fold))))

theorem in_30 {prog : Program} {w : World} {A : Around} {E : Value → Shared → Prop} {s : Shared} {K : Frag} {h₀ : Heap} {L : Addr} {m : Str → Option Value} {Q : Value → Shared → Prop} {t : Addr} {x : Int} {u t1 t2 t3 t4 : Tok} {od : Option Addr} {sl : Array (Option Value)} {n : Nat}
  (F : Fr h₀ L s.heap m) (X : K.In h₀) (e : K.lookup t = some ⟨.type "tuple", od, .seq #[.int 4 t1, .int 6 t2, .int 9 t3, .int 11 t4] n, sl⟩)
  (h : Q (.bool (decide (x = 4 ∨ x = 6 ∨ x = 9 ∨ x = 11))) s) : wpAny (model prog w) A (compareOp .In (.int x u) (.ref t)) Q E s := by
  refine in_tuple_ints ⟨_, (X.keeps F.keep) _ _ e, rfl, _, rfl⟩ (ns := [4, 6, 9, 11]) (by repeat constructor) ?_
  have q : ([4, 6, 9, 11] : List Int).any (· == x) = decide (x = 4 ∨ x = 6 ∨ x = 9 ∨ x = 11) := by
    rw [Bool.eq_iff_iff]
    simp only [List.any_cons, List.any_nil, Bool.or_false, Bool.or_eq_true, beq_iff_eq, decide_eq_true_eq]
    omega
  rw [q]
  exact h
local macro_rules | `(tactic| walk_at "compareOp In int ref") => `(tactic| (k_here; k_dflt (refine' in_30 ?k1 ?k2 ?k3 ?_; (case k1 => k_asm); (case k2 => k_asm); (case k3 => k_is)); (try dsimp only)))
theorem k_1524 : Bt 4654419637352529920 (8192 * 1524 + 4096) (8192 * 1524 + 4096) := ⟨fin_of (by decide +kernel), by unfold U; decide +kernel, by unfold U; decide +kernel⟩
theorem fl_jd {n : Int} (h1 : -1000000000000 ≤ n) (h2 : n ≤ 1000000000000) : Bt (Float64.sub (Float64.ofInt n) 4654419637352529920) (8192 * (n - 1525) + 4096) (8192 * (n - 1525) + 4096) := by
  have := bt_sub (bt_ofInt (n := n) (by omega) (by omega)) k_1524 (by omega) (by omega)
  rwa [show 8192 * n - (8192 * 1524 + 4096) = 8192 * (n - 1525) + 4096 by omega] at this
local macro_rules | `(tactic| walk_at "exec Raise") => `(tactic| (exfalso; omega))

theorem c_to_jd {w : World} {mean : ExcName → Option Value} {mg mb : Str → Option Value} {y mo d : Int} {ty tm td : Tok}
  {dp un : Nat} {gd : Option (List Code)} {cn : Str} {cs : Scope} {a : Addr} {ccd : Value} {cl : List (Str × Addr)} {outer : List Env} {A₀ : Around} {base h₀ : Heap} {L : Addr} {m : Str → Option Value} {news : List (Addr × Obj)} {s : Shared}
    {Q E : Value → Shared → Prop} (y1 : -2000000000 ≤ y) (y2 : y ≤ 2000000000) (m1 : 1 ≤ mo) (m2 : mo ≤ 12) (d1 : 1 ≤ d) (d2 : d ≤ 31) (d3 : (mo ≠ 4 ∧ mo ≠ 6 ∧ mo ≠ 9 ∧ mo ≠ 11) ∨ d ≤ 30) (d4 : mo ≠ 2 ∨ d ≤ 29) (d5 : mo ≠ 2 ∨ y % 4 = 0 ∨ d ≤ 28)
  (B : Below A₀ base outer h₀) (F : Fr h₀ L s.heap m) (X : (hd.heap_39 w.params).In h₀) (N : News h₀ L s.heap news) (T : Top hd.view_39 LS mean mg mb h₀) (hk : cs.kind = .function) (hdp : dp + 6 < recursionLimit)
  (hret : ∀ x t c dd e g h' tk', (c = if mo ≤ 2 then y - 1 + 4716 else y + 4716) → (e = if mo ≤ 2 then mo + 12 + 1 else mo + 1) → 4 * dd ≤ 1461 * c → 1461 * c < 4 * dd + 4 → 10000 * g ≤ 306001 * e → 306001 * e < 10000 * g + 10000 →
    Bt x (8192 * (dd + g + d - 1525) + 4096) (8192 * (dd + g + d - 1525) + 4096) → Fr h₀ L h' m → News h₀ L h' news → Q (.float x t) {s with heap := h', toks := tk'}) :
  wpAny (model PySem.Challenge.rw_ad5020_01.row.prog w) (ktrTop dp un gd cn cs L a ccd cl outer) (call (.ref 78) [.int y ty, .int mo tm, .int d td]) Q E s := by
  have d6 : y.fmod 4 = y % 4 := Int.fmod_eq_emod_of_nonneg _ (by decide)
  revert X; k_fill; intro X
  refine wpAny_call ?_
  k_dflt cell_enter
  k_steps
  all_goals (refine hret _ _ _ _ _ _ _ _ ?_ ?_ (by assumption) (by assumption) (by assumption) (by assumption) ?_ (by k_asm) (by k_asm))
  all_goals first | (split <;> omega) | exact fl_jd (by omega) (by omega)
end SC2
end Mine

-- C3
namespace Mine
section SC3
theorem fl_q4 {y : Int} (h1 : -1099511627776 ≤ y) (h2 : y ≤ 1099511627776) : Bt (Float64.ofFrac (decide (y < 0) != decide ((4 : Int) < 0)) y.natAbs (4 : Int).natAbs) (2048 * y) (2048 * y) :=
  bt_frac (by decide) (by omega) (by omega) (by omega) (by omega) (by omega) (by omega)
theorem r_q4 {prog : Program} {w : World} {A : Around} {E : Value → Shared → Prop} {s : Shared} {Q : Value → Shared → Prop} {t : Tok} {y : Int} (h1 : -1099511627776 ≤ y) (h2 : y ≤ 1099511627776) (h : ∀ q, 4 * q ≤ y → y < 4 * q + 4 → Q (.int q s.toks) { s with toks := s.toks + 1 }) :
    wpAny (model prog w) A (call (.builtin "math.floor") [.float (Float64.ofFrac (decide (y < 0) != decide ((4 : Int) < 0)) y.natAbs (4 : Int).natAbs) t]) Q E s :=
  let b := fl_q4 h1 h2
  w_floor (c := y / 4) b.1 (bt_floor b (by omega) (by omega)) (h _ (by omega) (by omega))
local macro_rules | `(tactic| walk_at "binaryOp Sub float int") => `(tactic| (k_here; k_dflt (refine o_sub_fi rfl (by omega) (by omega) ?_); (try dsimp only)))
local macro_rules | `(tactic| walk_at "binaryOp Add int float") => `(tactic| (k_here; k_dflt (refine o_add_if rfl (by omega) (by omega) ?_); (try dsimp only)))
local macro_rules | `(tactic| walk_at "binaryOp Div int int") => `(tactic| (k_here; k_dflt (refine o_div_ii rfl (by decide) (by omega) (by omega) ?_); (try dsimp only)))
local macro_rules | `(tactic| walk_at "call builtin:math.floor") => `(tactic| (k_here; k_dflt (refine r_q4 (by omega) (by omega) ?_; intro _ _ _); (try dsimp only)))

theorem fl_cop {n : Int} (h1 : -1000000000000 ≤ n) (h2 : n ≤ 1000000000000) : Bt (Float64.sub (Float64.add (Float64.ofInt n) 4700589253736792064) (Float64.ofInt 1)) (8192 * (n + 1825028) + 4096) (8192 * (n + 1825028) + 4096) := by
  have := bt_sub (bt_add (bt_ofInt (n := n) (by omega) (by omega)) k_cop (by omega) (by omega)) (bt_ofInt (n := 1) (by omega) (by omega)) (by omega) (by omega)
  rwa [show 8192 * n + (8192 * 1825029 + 4096) - 8192 * 1 = 8192 * (n + 1825028) + 4096 by omega] at this

theorem c_coptic {w : World} {mean : ExcName → Option Value} {mg mb : Str → Option Value} {y mo d : Int} {ty tm td : Tok}
  {dp un : Nat} {gd : Option (List Code)} {cn : Str} {cs : Scope} {a : Addr} {ccd : Value} {cl : List (Str × Addr)} {outer : List Env} {A₀ : Around} {base h₀ : Heap} {L : Addr} {m : Str → Option Value} {news : List (Addr × Obj)} {s : Shared}
    {Q E : Value → Shared → Prop} (y1 : -2000000000 ≤ y) (y2 : y ≤ 2000000000) (m1 : 1 ≤ mo) (m2 : mo ≤ 13) (d1 : 1 ≤ d) (d2 : d ≤ 31)
  (B : Below A₀ base outer h₀) (F : Fr h₀ L s.heap m) (X : (hd.heap_39 w.params).In h₀) (N : News h₀ L s.heap news) (T : Top hd.view_39 LS mean mg mb h₀) (hk : cs.kind = .function) (hdp : dp + 6 < recursionLimit)
  (hret : ∀ x t q h' tk', 4 * q ≤ y → y < 4 * q + 4 → Bt x (8192 * (d + (mo - 1) * 30 + (y - 1) * 365 + q + 1825028) + 4096) (8192 * (d + (mo - 1) * 30 + (y - 1) * 365 + q + 1825028) + 4096) → Fr h₀ L h' m → News h₀ L h' news → Q (.float x t) {s with heap := h', toks := tk'}) :
  wpAny (model PySem.Challenge.rw_ad5020_01.row.prog w) (ktrTop dp un gd cn cs L a ccd cl outer) (call (.ref 132) [.int y ty, .int mo tm, .int d td]) Q E s := by
  revert X; k_fill; intro X
  refine wpAny_call ?_
  k_dflt cell_enter
  k_steps
  all_goals exact hret _ _ _ _ _ (by assumption) (by assumption) (fl_cop (by omega) (by omega)) (by k_asm) (by k_asm)
end SC3
end Mine

-- C4
namespace Mine
section SC4
local macro_rules | `(tactic| walk_at "call ref") => `(tactic| (k_here; (with_reducible show wpAny _ _ (call (Value.ref _) _) _ _ _); (refine wpAny_call ?_); k_dflt (refine' code_def ?k1 ?k2 ?k3 ?k4 ?k5 ?kA ?kF ?kK ?k6 ?k7 ?k8 ?k9 ?kB ?_ ?c2 ?c3 ?c4 ?c5; (case kA => exact rfl); (case kF => exact rfl); (case kK => first | exact rfl | assumption); (case k1 => k_asm); (case k2 => k_asm); (case k3 => k_asm); (case k4 => k_asm); (case k5 => k_asm); (case k6 => k_is); (case k7 => k_is); (case k8 => ktr_room); (case k9 => first | exact BindsTo.of_eq rfl | exact binds_K (by k_in) rfl (by k_is) rfl rfl rfl); (case c5 => decide); (case kB => exact locs rfl); (case c2 => exact rfl); (case c3 => exact rfl); (case c4 => exact rfl); k_whole; intro g' L' h' FG' F' N' B' X' T'; (try dsimp only); (try k_lift B'); (try k_fold))))

theorem c_valid_n {w : World} {mean : ExcName → Option Value} {mg mb : Str → Option Value} {y mo d : Int} {ty tm td : Tok}
  {dp un : Nat} {gd : Option (List Code)} {cn : Str} {cs : Scope} {a : Addr} {ccd : Value} {cl : List (Str × Addr)} {outer : List Env} {A₀ : Around} {base h₀ : Heap} {L : Addr} {m : Str → Option Value} {news : List (Addr × Obj)} {s : Shared}
    {Q E : Value → Shared → Prop} (y1 : 1 ≤ y) (y2 : y ≤ 2000000000) (m1 : 1 ≤ mo) (m2 : mo ≤ 13) (d1 : 1 ≤ d) (d2 : d ≤ 30) (d3 : mo ≠ 13 ∨ d ≤ 5)
  (B : Below A₀ base outer h₀) (F : Fr h₀ L s.heap m) (X : (hd.heap_39 w.params).In h₀) (N : News h₀ L s.heap news) (T : Top hd.view_39 LS mean mg mb h₀) (hk : cs.kind = .function) (hdp : dp + 6 < recursionLimit)
  (hret : ∀ h' tk', Fr h₀ L h' m → News h₀ L h' news → Q (.bool true) {s with heap := h', toks := tk'}) :
  wpAny (model PySem.Challenge.rw_ad5020_01.row.prog w) (ktrTop dp un gd cn cs L a ccd cl outer) (call (.ref 86) [.int y ty, .int mo tm, .int d td, .none]) Q E s := by
  revert X; k_fill; intro X
  refine wpAny_call ?_
  k_dflt (refine' code_def ?k1 ?k2 ?k3 ?k4 ?k5 ?kA ?kF ?kK ?k6 ?k7 ?k8 ?k9 ?kB ?_ ?c2 ?c3 ?c4 ?c5; (case kA => exact rfl); (case kF => exact rfl); (case kK => first | exact rfl | assumption); (case k1 => k_asm); (case k2 => k_asm); (case k3 => k_asm); (case k4 => k_asm); (case k5 => k_asm); (case k6 => k_is); (case k7 => k_is); (case k8 => ktr_room); (case k9 => first | exact BindsTo.of_eq rfl | exact binds_K (by k_in) rfl (by k_is) rfl rfl rfl); (case c5 => decide); (case kB => exact locs rfl); (case c2 => exact rfl); (case c3 => exact rfl); (case c4 => exact rfl); k_whole; intro g' L' h' FG' F' N' B' X' T'; (try dsimp only); (try k_lift B'); (try k_fold))
  k_steps
  all_goals exact hret _ _ (by k_asm) (by k_asm)
theorem c_valid_s {w : World} {mean : ExcName → Option Value} {mg mb : Str → Option Value} {y mo d : Int} {ty tm td tt : Tok}
  {dp un : Nat} {gd : Option (List Code)} {cn : Str} {cs : Scope} {a : Addr} {ccd : Value} {cl : List (Str × Addr)} {outer : List Env} {A₀ : Around} {base h₀ : Heap} {L : Addr} {m : Str → Option Value} {news : List (Addr × Obj)} {s : Shared}
    {Q E : Value → Shared → Prop} (y1 : 533 ≤ y) (y2 : y ≤ 2000000000) (m1 : 1 ≤ mo) (m2 : mo ≤ 13) (d1 : 1 ≤ d) (d2 : d ≤ 30) (d3 : mo ≠ 13 ∨ d ≤ 5)
  (B : Below A₀ base outer h₀) (F : Fr h₀ L s.heap m) (X : (hd.heap_39 w.params).In h₀) (N : News h₀ L s.heap news) (T : Top hd.view_39 LS mean mg mb h₀) (hk : cs.kind = .function) (hdp : dp + 6 < recursionLimit)
  (hret : ∀ h' tk', Fr h₀ L h' m → News h₀ L h' news → Q (.bool true) {s with heap := h', toks := tk'}) :
  wpAny (model PySem.Challenge.rw_ad5020_01.row.prog w) (ktrTop dp un gd cn cs L a ccd cl outer) (call (.ref 86) [.int y ty, .int mo tm, .int d td, .str (Str.ofString "sarkawag") tt]) Q E s := by
  revert X; k_fill; intro X
  refine wpAny_call ?_
  k_dflt (refine' code_def ?k1 ?k2 ?k3 ?k4 ?k5 ?kA ?kF ?kK ?k6 ?k7 ?k8 ?k9 ?kB ?_ ?c2 ?c3 ?c4 ?c5; (case kA => exact rfl); (case kF => exact rfl); (case kK => first | exact rfl | assumption); (case k1 => k_asm); (case k2 => k_asm); (case k3 => k_asm); (case k4 => k_asm); (case k5 => k_asm); (case k6 => k_is); (case k7 => k_is); (case k8 => ktr_room); (case k9 => first | exact BindsTo.of_eq rfl | exact binds_K (by k_in) rfl (by k_is) rfl rfl rfl); (case c5 => decide); (case kB => exact locs rfl); (case c2 => exact rfl); (case c3 => exact rfl); (case c4 => exact rfl); k_whole; intro g' L' h' FG' F' N' B' X' T'; (try dsimp only); (try k_lift B'); (try k_fold))
  k_steps
  all_goals exact hret _ _ (by k_asm) (by k_asm)
end SC4
end Mine

-- C5
namespace Mine
section SC5
theorem r_t4 {prog : Program} {w : World} {A : Around} {E : Value → Shared → Prop} {s : Shared} {Q : Value → Shared → Prop} {t : Tok} {y : Int} (h1 : 0 ≤ y) (h2 : y ≤ 1099511627776) (h : ∀ q, 4 * q ≤ y → y < 4 * q + 4 → Q (.int q s.toks) { s with toks := s.toks + 1 }) :
    wpAny (model prog w) A (call (.builtin "math.trunc") [.float (Float64.ofFrac (decide (y < 0) != decide ((4 : Int) < 0)) y.natAbs (4 : Int).natAbs) t]) Q E s :=
  let b := fl_q4 (y := y) (by omega) h2
  w_trunc (c := y / 4) b.1 (bt_trunc b (by omega) (by omega) (by omega)) (h _ (by omega) (by omega))
theorem fl_sar {a b c : Int} (h1 : 0 ≤ a) (h2 : a ≤ 500000000000) (h3 : 0 ≤ b) (h4 : b ≤ 500000000) (h5 : 0 ≤ c) (h6 : c ≤ 1000) :
    Bt (Float64.add (Float64.add (Float64.add 4701801086275551232 (Float64.ofInt a)) (Float64.ofInt b)) (Float64.ofInt c)) (8192 * (2117210 + a + b + c) + 4096) (8192 * (2117210 + a + b + c) + 4096) := by
  have := bt_add (bt_add (bt_add k_sar (bt_ofInt (n := a) (by omega) (by omega)) (by omega) (by omega)) (bt_ofInt (n := b) (by omega) (by omega)) (by omega) (by omega)) (bt_ofInt (n := c) (by omega) (by omega)) (by omega) (by omega)
  rwa [show 8192 * 2117210 + 4096 + 8192 * a + 8192 * b + 8192 * c = 8192 * (2117210 + a + b + c) + 4096 by omega] at this
theorem fl_arm {a c : Int} (h1 : 0 ≤ a) (h2 : a ≤ 1000000000000) (h5 : 0 ≤ c) (h6 : c ≤ 1000) :
    Bt (Float64.add (Float64.add 4701007892789067776 (Float64.ofInt a)) (Float64.ofInt c)) (8192 * (1922501 + a + c) + 4096) (8192 * (1922501 + a + c) + 4096) := by
  have := bt_add (bt_add k_arm (bt_ofInt (n := a) (by omega) (by omega)) (by omega) (by omega)) (bt_ofInt (n := c) (by omega) (by omega)) (by omega) (by omega)
  rwa [show 8192 * 1922501 + 4096 + 8192 * a + 8192 * c = 8192 * (1922501 + a + c) + 4096 by omega] at this

local macro_rules | `(tactic| walk_at "binaryOp Add float int") => `(tactic| (k_here; k_dflt (refine o_add_fi rfl (by omega) (by omega) ?_); (try dsimp only)))
local macro_rules | `(tactic| walk_at "binaryOp Div int int") => `(tactic| (k_here; k_dflt (refine o_div_ii rfl (by decide) (by omega) (by omega) ?_); (try dsimp only)))
local macro_rules | `(tactic| walk_at "call builtin:math.trunc") => `(tactic| (k_here; k_dflt (refine r_t4 (by omega) (by omega) ?_; intro _ _ _); (try dsimp only)))
local macro_rules | `(tactic| walk_at "call ref") => `(tactic| (k_here; k_dflt (first
  | refine' c_valid_n ?a1 ?a2 ?a3 ?a4 ?a5 ?a6 ?a7 ?k1 ?k2 ?k3 ?k4 ?k5 ?kK ?kd ?_
  | refine' c_valid_s ?a1 ?a2 ?a3 ?a4 ?a5 ?a6 ?a7 ?k1 ?k2 ?k3 ?k4 ?k5 ?kK ?kd ?_); (case k1 => k_asm); (case k2 => k_asm); (case k3 => k_asm); (case k4 => k_asm); (case k5 => k_asm); (case kK => first | exact rfl | assumption); (case kd => ktr_room); (case a1 => omega); (case a2 => omega); (case a3 => omega); (case a4 => omega); (case a5 => omega); (case a6 => omega); (case a7 => omega); intro h9 tk9 F9 N9; (try dsimp only); (try k_fold)))

theorem c_arm_n {w : World} {mean : ExcName → Option Value} {mg mb : Str → Option Value} {y mo d : Int} {ty tm td : Tok}
  {dp un : Nat} {gd : Option (List Code)} {cn : Str} {cs : Scope} {a : Addr} {ccd : Value} {cl : List (Str × Addr)} {outer : List Env} {A₀ : Around} {base h₀ : Heap} {L : Addr} {m : Str → Option Value} {news : List (Addr × Obj)} {s : Shared}
    {Q E : Value → Shared → Prop} (y1 : 1 ≤ y) (y2 : y ≤ 1200000000) (m1 : 1 ≤ mo) (m2 : mo ≤ 13) (d1 : 1 ≤ d) (d2 : d ≤ 30) (d3 : mo ≠ 13 ∨ d ≤ 5)
  (B : Below A₀ base outer h₀) (F : Fr h₀ L s.heap m) (X : (hd.heap_39 w.params).In h₀) (N : News h₀ L s.heap news) (T : Top hd.view_39 LS mean mg mb h₀) (hk : cs.kind = .function) (hdp : dp + 8 < recursionLimit)
  (hret : ∀ x t h' tk', Bt x (8192 * (1922501 + 365 * y + ((mo - 1) * 30 + d)) + 4096) (8192 * (1922501 + 365 * y + ((mo - 1) * 30 + d)) + 4096) → Fr h₀ L h' m → News h₀ L h' news → Q (.float x t) {s with heap := h', toks := tk'}) :
  wpAny (model PySem.Challenge.rw_ad5020_01.row.prog w) (ktrTop dp un gd cn cs L a ccd cl outer) (call (.ref 101) [.int y ty, .int mo tm, .int d td, .none]) Q E s := by
  revert X; k_fill; intro X
  refine wpAny_call ?_
  k_dflt (refine' code_def ?k1 ?k2 ?k3 ?k4 ?k5 ?kA ?kF ?kK ?k6 ?k7 ?k8 ?k9 ?kB ?_ ?c2 ?c3 ?c4 ?c5; (case kA => exact rfl); (case kF => exact rfl); (case kK => first | exact rfl | assumption); (case k1 => k_asm); (case k2 => k_asm); (case k3 => k_asm); (case k4 => k_asm); (case k5 => k_asm); (case k6 => k_is); (case k7 => k_is); (case k8 => ktr_room); (case k9 => first | exact BindsTo.of_eq rfl | exact binds_K (by k_in) rfl (by k_is) rfl rfl rfl); (case c5 => decide); (case kB => exact locs rfl); (case c2 => exact rfl); (case c3 => exact rfl); (case c4 => exact rfl); k_whole; intro g' L' h' FG' F' N' B' X' T'; (try dsimp only); (try k_lift B'); (try k_fold))
  k_steps
  all_goals exact hret _ _ _ _ (fl_arm (by omega) (by omega) (by omega) (by omega)) (by k_asm) (by k_asm)

theorem c_arm_s {w : World} {mean : ExcName → Option Value} {mg mb : Str → Option Value} {y mo d : Int} {ty tm td tt : Tok}
  {dp un : Nat} {gd : Option (List Code)} {cn : Str} {cs : Scope} {a : Addr} {ccd : Value} {cl : List (Str × Addr)} {outer : List Env} {A₀ : Around} {base h₀ : Heap} {L : Addr} {m : Str → Option Value} {news : List (Addr × Obj)} {s : Shared}
    {Q E : Value → Shared → Prop} (y1 : 533 ≤ y) (y2 : y ≤ 1200000000) (m1 : 1 ≤ mo) (m2 : mo ≤ 13) (d1 : 1 ≤ d) (d2 : d ≤ 30) (d3 : mo ≠ 13 ∨ d ≤ 5)
  (B : Below A₀ base outer h₀) (F : Fr h₀ L s.heap m) (X : (hd.heap_39 w.params).In h₀) (N : News h₀ L s.heap news) (T : Top hd.view_39 LS mean mg mb h₀) (hk : cs.kind = .function) (hdp : dp + 8 < recursionLimit)
  (hret : ∀ x t q h' tk', 4 * q ≤ y - 533 → y - 533 < 4 * q + 4 → Bt x (8192 * (2117210 + 365 * (y - 533) + q + ((mo - 1) * 30 + d)) + 4096) (8192 * (2117210 + 365 * (y - 533) + q + ((mo - 1) * 30 + d)) + 4096) → Fr h₀ L h' m → News h₀ L h' news → Q (.float x t) {s with heap := h', toks := tk'}) :
  wpAny (model PySem.Challenge.rw_ad5020_01.row.prog w) (ktrTop dp un gd cn cs L a ccd cl outer) (call (.ref 101) [.int y ty, .int mo tm, .int d td, .str (Str.ofString "sarkawag") tt]) Q E s := by
  revert X; k_fill; intro X
  refine wpAny_call ?_
  k_dflt (refine' code_def ?k1 ?k2 ?k3 ?k4 ?k5 ?kA ?kF ?kK ?k6 ?k7 ?k8 ?k9 ?kB ?_ ?c2 ?c3 ?c4 ?c5; (case kA => exact rfl); (case kF => exact rfl); (case kK => first | exact rfl | assumption); (case k1 => k_asm); (case k2 => k_asm); (case k3 => k_asm); (case k4 => k_asm); (case k5 => k_asm); (case k6 => k_is); (case k7 => k_is); (case k8 => ktr_room); (case k9 => first | exact BindsTo.of_eq rfl | exact binds_K (by k_in) rfl (by k_is) rfl rfl rfl); (case c5 => decide); (case kB => exact locs rfl); (case c2 => exact rfl); (case c3 => exact rfl); (case c4 => exact rfl); k_whole; intro g' L' h' FG' F' N' B' X' T'; (try dsimp only); (try k_lift B'); (try k_fold))
  k_steps
  all_goals exact hret _ _ _ _ _ (by assumption) (by assumption) (fl_sar (by omega) (by omega) (by omega) (by omega) (by omega) (by omega)) (by k_asm) (by k_asm)
end SC5
end Mine

-- C6
namespace Mine
section SC6
section
variable {prog : Program} {w : World} {A : Around} {E : Value → Shared → Prop} {s : Shared} {Q : Value → Shared → Prop} {t u : Tok} {x : UInt64} {n : Int}
theorem fl_dc (hx : Bt x (8192 * (1922501 + n) + 4096) (8192 * (1922501 + n) + 4096)) (h1 : 0 ≤ n) (h2 : n ≤ 1000000000000) :
    Bt (Float64.sub x 4701007892789067776) (8192 * n) (8192 * n) := by
  have := bt_sub hx k_arm (by omega) (by omega)
  rwa [show 8192 * (1922501 + n) + 4096 - (8192 * 1922501 + 4096) = 8192 * n by omega] at this
theorem fl_dc1 (hx : Bt x (8192 * (1922501 + n) + 4096) (8192 * (1922501 + n) + 4096)) (h1 : 0 ≤ n) (h2 : n ≤ 1000000000000) :
    Bt (Float64.sub (Float64.sub x 4701007892789067776) (Float64.ofInt 1)) (8192 * (n - 1)) (8192 * (n - 1)) := by
  have := bt_sub (fl_dc hx h1 h2) (bt_ofInt (n := 1) (by omega) (by omega)) (by omega) (by omega)
  rwa [show 8192 * n - 8192 * 1 = 8192 * (n - 1) by omega] at this
theorem r_lt (hx : Bt x (8192 * (1922501 + n) + 4096) (8192 * (1922501 + n) + 4096)) (h1 : 0 ≤ n) (h2 : n ≤ 1000000000000) (h : Q (.bool false) s) :
    wpAny (model prog w) A (compareOp .Lt (.float (Float64.sub x 4701007892789067776) t) (.int 0 u)) Q E s := by
  refine lt_fi ?_
  rw [bt_cmpInt (fl_dc hx h1 h2) (by omega)]
  exact h
theorem r_yr (hx : Bt x (8192 * (1922501 + n) + 4096) (8192 * (1922501 + n) + 4096)) (h1 : 1 ≤ n) (h2 : n ≤ 1000000000000)
    (h : ∀ q, 365 * q ≤ n - 1 → n - 1 < 365 * q + 365 → Q (.int q s.toks) { s with toks := s.toks + 1 }) :
    wpAny (model prog w) A (call (.builtin "math.trunc") [.float (Float64.div (Float64.sub (Float64.sub x 4701007892789067776) (Float64.ofInt 1)) (Float64.ofInt 365)) t]) Q E s := by
  have b := bt_div (lo := 8192 * ((n - 1) / 365)) (hi := 8192 * ((n - 1) / 365) + 8191) (fl_dc1 hx (by omega) h2) (bt_ofInt (n := 365) (by omega) (by omega)) (by omega) (by omega) (by omega) (by omega) (by omega) (by omega) (by omega)
  exact w_trunc b.1 (bt_trunc b (c := (n - 1) / 365) (by omega) (by omega) (by omega)) (h _ (by omega) (by omega))
theorem r_mo (hx : Bt x (8192 * (1922501 + n) + 4096) (8192 * (1922501 + n) + 4096)) (h1 : 1 ≤ n) (h2 : n ≤ 1000000000000)
    (h : ∀ q, 30 * q ≤ (n - 1) % 365 → (n - 1) % 365 < 30 * q + 30 → Q (.int q s.toks) { s with toks := s.toks + 1 }) :
    wpAny (model prog w) A (call (.builtin "math.trunc") [.float (Float64.div (Float64.divmod (Float64.sub (Float64.sub x 4701007892789067776) (Float64.ofInt 1)) (Float64.ofInt 365)).2 (Float64.ofInt 30)) t]) Q E s := by
  have b0 := bt_mod (fl_dc1 hx (by omega) h2) (bt_ofInt (n := 365) (by omega) (by omega)) (by omega) (by omega) (by omega)
  have b := bt_div (lo := 8192 * ((n - 1) % 365 / 30)) (hi := 8192 * ((n - 1) % 365 / 30) + 8191) b0 (bt_ofInt (n := 30) (by omega) (by omega)) (by omega) (by omega) (by omega) (by omega) (by omega) (by omega) (by omega)
  exact w_trunc b.1 (bt_trunc b (c := (n - 1) % 365 / 30) (by omega) (by omega) (by omega)) (h _ (by omega) (by omega))
theorem r_dy {a b : Int} (hx : Bt x (8192 * (1922501 + n) + 4096) (8192 * (1922501 + n) + 4096)) (h1 : 1 ≤ n) (h2 : n ≤ 1000000000000) (h3 : 0 ≤ a) (h4 : a ≤ n) (h5 : 0 ≤ b) (h6 : b ≤ n - a)
    (h : Q (.int (n - a - b) s.toks) { s with toks := s.toks + 1 }) :
    wpAny (model prog w) A (call (.builtin "math.trunc") [.float (Float64.sub (Float64.sub (Float64.sub x 4701007892789067776) (Float64.ofInt a)) (Float64.ofInt b)) t]) Q E s := by
  have z := bt_sub (bt_sub (fl_dc hx (by omega) h2) (bt_ofInt (n := a) (by omega) (by omega)) (by omega) (by omega)) (bt_ofInt (n := b) (by omega) (by omega)) (by omega) (by omega)
  exact w_trunc z.1 (bt_trunc z (c := n - a - b) (by omega) (by omega) (by omega)) h
end

local macro_rules | `(tactic| walk_at "binaryOp Sub float int") => `(tactic| (k_here; k_dflt (refine o_sub_fi rfl (by omega) (by omega) ?_); (try dsimp only)))
local macro_rules | `(tactic| walk_at "binaryOp Div float int") => `(tactic| (k_here; k_dflt (refine o_div_fi rfl (by decide) (by omega) (by omega) ?_); (try dsimp only)))
local macro_rules | `(tactic| walk_at "binaryOp Mod float int") => `(tactic| (k_here; k_dflt (refine o_mod_fi rfl (by decide) (by omega) (by omega) ?_); (try dsimp only)))
local macro_rules | `(tactic| walk_at "compareOp Lt float int") => `(tactic| (k_here; k_dflt (refine r_lt (by assumption) (by omega) (by omega) ?_); (try dsimp only)))
local macro_rules | `(tactic| walk_at "call builtin:math.trunc") => `(tactic| (k_here; k_dflt (first | (refine r_yr (by assumption) (by omega) (by omega) ?_; intro _ _ _) | (refine r_mo (by assumption) (by omega) (by omega) ?_; intro _ _ _) | (refine r_dy (by assumption) (by omega) (by omega) (by omega) (by omega) (by omega) (by omega) ?_)); (try dsimp only)))

theorem c_from_arm {w : World} {mean : ExcName → Option Value} {mg mb : Str → Option Value} {x : UInt64} {tx : Tok} {n : Int}
  {dp un : Nat} {gd : Option (List Code)} {cn : Str} {cs : Scope} {a : Addr} {ccd : Value} {cl : List (Str × Addr)} {outer : List Env} {A₀ : Around} {base h₀ : Heap} {L : Addr} {m : Str → Option Value} {news : List (Addr × Obj)} {s : Shared}
    {Q E : Value → Shared → Prop} (hx : Bt x (8192 * (1922501 + n) + 4096) (8192 * (1922501 + n) + 4096)) (n1 : 1 ≤ n) (n2 : n ≤ 1000000000000)
  (B : Below A₀ base outer h₀) (F : Fr h₀ L s.heap m) (X : (hd.heap_39 w.params).In h₀) (N : News h₀ L s.heap news) (T : Top hd.view_39 LS mean mg mb h₀) (hk : cs.kind = .function) (hdp : dp + 6 < recursionLimit)
  (hret : ∀ T t1 t2 t3 y mo h' tk', 365 * y ≤ n - 1 → n - 1 < 365 * y + 365 → 30 * mo ≤ (n - 1) % 365 → (n - 1) % 365 < 30 * mo + 30 → Fr h₀ L h' m → News h₀ L h' ((T, ({ cls := .type "tuple", data := .seq #[.int y t1, .int (mo + 1) t2, .int (n - 365 * y - 30 * mo) t3] } : Obj)) :: news) → (∀ p ∈ news, p.1 < T) → Q (.ref T) {s with heap := h', toks := tk'}) :
  wpAny (model PySem.Challenge.rw_ad5020_01.row.prog w) (ktrTop dp un gd cn cs L a ccd cl outer) (call (.ref 109) [.float x tx, .none]) Q E s := by
  revert X; k_fill; intro X
  refine wpAny_call ?_
  k_dflt (refine' code_def ?k1 ?k2 ?k3 ?k4 ?k5 ?kA ?kF ?kK ?k6 ?k7 ?k8 ?k9 ?kB ?_ ?c2 ?c3 ?c4 ?c5; (case kA => exact rfl); (case kF => exact rfl); (case kK => first | exact rfl | assumption); (case k1 => k_asm); (case k2 => k_asm); (case k3 => k_asm); (case k4 => k_asm); (case k5 => k_asm); (case k6 => k_is); (case k7 => k_is); (case k8 => ktr_room); (case k9 => first | exact BindsTo.of_eq rfl | exact binds_K (by k_in) rfl (by k_is) rfl rfl rfl); (case c5 => decide); (case kB => exact locs rfl); (case c2 => exact rfl); (case c3 => exact rfl); (case c4 => exact rfl); k_whole; intro g' L' h' FG' F' N' B' X' T'; (try dsimp only); (try k_lift B'); (try k_fold))
  k_steps
  all_goals exact hret _ _ _ _ _ _ _ _ (by assumption) (by assumption) (by assumption) (by assumption) (by k_asm) (by k_asm) (by k_asm)
end SC6
end Mine

-- C7
namespace Mine
section SC7
theorem c_to_jd3 {w : World} {mean : ExcName → Option Value} {mg mb : Str → Option Value} {k r y mo d : Int} {ty tm td : Tok}
  {dp un : Nat} {gd : Option (List Code)} {cn : Str} {cs : Scope} {a : Addr} {ccd : Value} {cl : List (Str × Addr)} {outer : List Env} {A₀ : Around} {base h₀ : Heap} {L : Addr} {m : Str → Option Value} {news : List (Addr × Obj)} {s : Shared}
    {Q E : Value → Shared → Prop} (hj : Jul k y mo d) (k1 : -500000000000 ≤ k) (k2 : k ≤ 500000000000) (r1 : 0 ≤ r) (r2 : r ≤ 100000)
  (B : Below A₀ base outer h₀) (F : Fr h₀ L s.heap m) (X : (hd.heap_39 w.params).In h₀) (N : News h₀ L s.heap news) (T : Top hd.view_39 LS mean mg mb h₀) (hk : cs.kind = .function) (hdp : dp + 6 < recursionLimit)
  (hret : ∀ x t h' tk', Bt x (8192 * (k + 533265 * r) + 4096) (8192 * (k + 533265 * r) + 4096) → Fr h₀ L h' m → News h₀ L h' news → Q (.float x t) {s with heap := h', toks := tk'}) :
  wpAny (model PySem.Challenge.rw_ad5020_01.row.prog w) (ktrTop dp un gd cn cs L a ccd cl outer) (call (.ref 78) [.int (y + 1460 * r) ty, .int mo tm, .int d td]) Q E s := by
  have hy := jul_year hj k1 k2
  obtain ⟨v1, v2, v3, v4, v5, v6, v7⟩ := jul_valid hj
  refine c_to_jd (by omega) (by omega) v1 v2 v3 v4 v5 v6 (by omega) B F X N T hk hdp ?_
  intro x t c dd e g h' tk' hc he d1 d2 g1 g2 hb F' N'
  rw [jul_back hj hc he d1 d2 g1 g2] at hb
  exact hret _ _ _ _ hb F' N'

theorem c_from_arm3 {w : World} {mean : ExcName → Option Value} {mg mb : Str → Option Value} {x : UInt64} {tx : Tok} {k l mo d : Int}
  {dp un : Nat} {gd : Option (List Code)} {cn : Str} {cs : Scope} {a : Addr} {ccd : Value} {cl : List (Str × Addr)} {outer : List Env} {A₀ : Around} {base h₀ : Heap} {L : Addr} {m : Str → Option Value} {news : List (Addr × Obj)} {s : Shared}
    {Q E : Value → Shared → Prop} (hx : Bt x (8192 * k + 4096) (8192 * k + 4096)) (hkk : k = 1922501 + 365 * l + ((mo - 1) * 30 + d)) (l1 : 1 ≤ l) (l2 : l ≤ 2000000000) (m1 : 1 ≤ mo) (m2 : mo ≤ 13) (d1 : 1 ≤ d) (d2 : d ≤ 30) (d3 : mo ≠ 13 ∨ d ≤ 5)
  (B : Below A₀ base outer h₀) (F : Fr h₀ L s.heap m) (X : (hd.heap_39 w.params).In h₀) (N : News h₀ L s.heap news) (T : Top hd.view_39 LS mean mg mb h₀) (hk : cs.kind = .function) (hdp : dp + 6 < recursionLimit)
  (hret : ∀ T t1 t2 t3 h' tk', Fr h₀ L h' m → News h₀ L h' ((T, ({ cls := .type "tuple", data := .seq #[.int l t1, .int mo t2, .int d t3] } : Obj)) :: news) → (∀ p ∈ news, p.1 < T) → Q (.ref T) {s with heap := h', toks := tk'}) :
  wpAny (model PySem.Challenge.rw_ad5020_01.row.prog w) (ktrTop dp un gd cn cs L a ccd cl outer) (call (.ref 109) [.float x tx, .none]) Q E s := by
  have e : k = 1922501 + (365 * l + ((mo - 1) * 30 + d)) := by omega
  rw [e] at hx
  refine c_from_arm hx (by omega) (by omega) B F X N T hk hdp ?_
  intro T t1 t2 t3 y mo' h' tk' f1 f2 f3 f4 F' N' l'
  have e1 : y = l := by omega
  subst e1
  have e2 : mo' + 1 = mo := by omega
  have e3 : 365 * y + ((mo - 1) * 30 + d) - 365 * y - 30 * mo' = d := by omega
  rw [e2, e3] at N'
  exact hret _ _ _ _ _ _ F' N' l'

local macro_rules | `(tactic| walk_at "call ref") => `(tactic| (k_here; k_dflt (first
  | (refine' c_arm_n ?a1 ?a2 ?a3 ?a4 ?a5 ?a6 ?a7 ?k1 ?k2 ?k3 ?k4 ?k5 ?kK ?kd ?_; (case a1 => omega); (case a2 => omega); (case a3 => omega); (case a4 => omega); (case a5 => omega); (case a6 => omega); (case a7 => omega))
  | (refine' c_arm_s ?a1 ?a2 ?a3 ?a4 ?a5 ?a6 ?a7 ?k1 ?k2 ?k3 ?k4 ?k5 ?kK ?kd ?_; (case a1 => omega); (case a2 => omega); (case a3 => omega); (case a4 => omega); (case a5 => omega); (case a6 => omega); (case a7 => omega))
  | (refine' c_to_jd3 ?a1 ?a2 ?a3 ?a4 ?a5 ?k1 ?k2 ?k3 ?k4 ?k5 ?kK ?kd ?_; (case a1 => assumption); (case a2 => omega); (case a3 => omega); (case a4 => omega); (case a5 => omega))
  | (refine' c_from_arm3 ?a1 ?a2 ?a3 ?a4 ?a5 ?a6 ?a7 ?a8 ?a9 ?k1 ?k2 ?k3 ?k4 ?k5 ?kK ?kd ?_; (case a1 => assumption); (case a2 => assumption); (case a3 => omega); (case a4 => omega); (case a5 => omega); (case a6 => omega); (case a7 => omega); (case a8 => omega); (case a9 => omega))
  | (refine' c_from_jd ?a1 ?a2 ?a3 ?k1 ?k2 ?k3 ?k4 ?k5 ?kK ?kd ?_; (case a1 => assumption); (case a2 => omega); (case a3 => omega))); (case k1 => k_asm); (case k2 => k_asm); (case k3 => k_asm); (case k4 => k_asm); (case k5 => k_asm); (case kK => first | exact rfl | assumption); (case kd => ktr_room); intros; (try dsimp only); (try k_fold)))

theorem c_tojul_n {w : World} {mean : ExcName → Option Value} {mg mb : Str → Option Value} {y mo d : Int} {ty tm td : Tok}
  {dp un : Nat} {gd : Option (List Code)} {cn : Str} {cs : Scope} {a : Addr} {ccd : Value} {cl : List (Str × Addr)} {outer : List Env} {A₀ : Around} {base h₀ : Heap} {L : Addr} {m : Str → Option Value} {news : List (Addr × Obj)} {s : Shared}
    {Q E : Value → Shared → Prop} (y1 : 1 ≤ y) (y2 : y ≤ 1200000000) (m1 : 1 ≤ mo) (m2 : mo ≤ 13) (d1 : 1 ≤ d) (d2 : d ≤ 30) (d3 : mo ≠ 13 ∨ d ≤ 5)
  (B : Below A₀ base outer h₀) (F : Fr h₀ L s.heap m) (X : (hd.heap_39 w.params).In h₀) (N : News h₀ L s.heap news) (T : Top hd.view_39 LS mean mg mb h₀) (hk : cs.kind = .function) (hdp : dp + 10 < recursionLimit)
  (hret : ∀ T t1 t2 t3 oy om od h' tk', Jul (1922501 + 365 * y + ((mo - 1) * 30 + d)) oy om od → Fr h₀ L h' m → News h₀ L h' ((T, ({ cls := .type "tuple", data := .seq #[.int oy t1, .int om t2, .int od t3] } : Obj)) :: news) → (∀ p ∈ news, p.1 < T) → Q (.ref T) {s with heap := h', toks := tk'}) :
  wpAny (model PySem.Challenge.rw_ad5020_01.row.prog w) (ktrTop dp un gd cn cs L a ccd cl outer) (call (.ref 117) [.int y ty, .int mo tm, .int d td]) Q E s := by
  revert X; k_fill; intro X
  refine wpAny_call ?_
  k_dflt (refine' code_def ?k1 ?k2 ?k3 ?k4 ?k5 ?kA ?kF ?kK ?k6 ?k7 ?k8 ?k9 ?kB ?_ ?c2 ?c3 ?c4 ?c5; (case kA => exact rfl); (case kF => exact rfl); (case kK => first | exact rfl | assumption); (case k1 => k_asm); (case k2 => k_asm); (case k3 => k_asm); (case k4 => k_asm); (case k5 => k_asm); (case k6 => k_is); (case k7 => k_is); (case k8 => ktr_room); (case k9 => first | exact BindsTo.of_eq rfl | exact binds_K (by k_in) rfl (by k_is) rfl rfl rfl); (case c5 => decide); (case kB => exact locs rfl); (case c2 => exact rfl); (case c3 => exact rfl); (case c4 => exact rfl); k_whole; intro g' L' h' FG' F' N' B' X' T'; (try dsimp only); (try k_lift B'); (try k_fold))
  k_steps
  all_goals exact hret _ _ _ _ _ _ _ _ _ (by assumption) (by k_asm) (by k_asm) (by k_asm)

theorem c_tojul_s {w : World} {mean : ExcName → Option Value} {mg mb : Str → Option Value} {y mo d : Int} {ty tm td tt : Tok}
  {dp un : Nat} {gd : Option (List Code)} {cn : Str} {cs : Scope} {a : Addr} {ccd : Value} {cl : List (Str × Addr)} {outer : List Env} {A₀ : Around} {base h₀ : Heap} {L : Addr} {m : Str → Option Value} {news : List (Addr × Obj)} {s : Shared}
    {Q E : Value → Shared → Prop} (y1 : 533 ≤ y) (y2 : y ≤ 1200000000) (m1 : 1 ≤ mo) (m2 : mo ≤ 13) (d1 : 1 ≤ d) (d2 : d ≤ 30) (d3 : mo ≠ 13 ∨ d ≤ 5)
  (B : Below A₀ base outer h₀) (F : Fr h₀ L s.heap m) (X : (hd.heap_39 w.params).In h₀) (N : News h₀ L s.heap news) (T : Top hd.view_39 LS mean mg mb h₀) (hk : cs.kind = .function) (hdp : dp + 10 < recursionLimit)
  (hret : ∀ T t1 t2 t3 oy om od q h' tk', 4 * q ≤ y - 533 → y - 533 < 4 * q + 4 → Jul (2117210 + 365 * (y - 533) + q + ((mo - 1) * 30 + d)) oy om od → Fr h₀ L h' m → News h₀ L h' ((T, ({ cls := .type "tuple", data := .seq #[.int oy t1, .int om t2, .int od t3] } : Obj)) :: news) → (∀ p ∈ news, p.1 < T) → Q (.ref T) {s with heap := h', toks := tk'}) :
  wpAny (model PySem.Challenge.rw_ad5020_01.row.prog w) (ktrTop dp un gd cn cs L a ccd cl outer) (call (.ref 117) [.int y ty, .int mo tm, .int d td, .str (Str.ofString "sarkawag") tt]) Q E s := by
  revert X; k_fill; intro X
  refine wpAny_call ?_
  k_dflt (refine' code_def ?k1 ?k2 ?k3 ?k4 ?k5 ?kA ?kF ?kK ?k6 ?k7 ?k8 ?k9 ?kB ?_ ?c2 ?c3 ?c4 ?c5; (case kA => exact rfl); (case kF => exact rfl); (case kK => first | exact rfl | assumption); (case k1 => k_asm); (case k2 => k_asm); (case k3 => k_asm); (case k4 => k_asm); (case k5 => k_asm); (case k6 => k_is); (case k7 => k_is); (case k8 => ktr_room); (case k9 => first | exact BindsTo.of_eq rfl | exact binds_K (by k_in) rfl (by k_is) rfl rfl rfl); (case c5 => decide); (case kB => exact locs rfl); (case c2 => exact rfl); (case c3 => exact rfl); (case c4 => exact rfl); k_whole; intro g' L' h' FG' F' N' B' X' T'; (try dsimp only); (try k_lift B'); (try k_fold))
  k_steps
  all_goals exact hret _ _ _ _ _ _ _ _ _ _ (by assumption) (by assumption) (by assumption) (by k_asm) (by k_asm) (by k_asm)

theorem c_fromjul {w : World} {mean : ExcName → Option Value} {mg mb : Str → Option Value} {k r y mo d l M D : Int} {ty tm td : Tok}
  {dp un : Nat} {gd : Option (List Code)} {cn : Str} {cs : Scope} {a : Addr} {ccd : Value} {cl : List (Str × Addr)} {outer : List Env} {A₀ : Around} {base h₀ : Heap} {L : Addr} {m : Str → Option Value} {news : List (Addr × Obj)} {s : Shared}
    {Q E : Value → Shared → Prop} (hj : Jul k y mo d) (hkk : k = 1922501 + 365 * l + ((M - 1) * 30 + D)) (r1 : 0 ≤ r) (r2 : r ≤ 100000) (l1 : 1 ≤ l) (l2 : l ≤ 1200000000) (m1 : 1 ≤ M) (m2 : M ≤ 13) (d1 : 1 ≤ D) (d2 : D ≤ 30) (d3 : M ≠ 13 ∨ D ≤ 5)
  (B : Below A₀ base outer h₀) (F : Fr h₀ L s.heap m) (X : (hd.heap_39 w.params).In h₀) (N : News h₀ L s.heap news) (T : Top hd.view_39 LS mean mg mb h₀) (hk : cs.kind = .function) (hdp : dp + 10 < recursionLimit)
  (hret : ∀ T t1 t2 t3 h' tk', Fr h₀ L h' m → News h₀ L h' ((T, ({ cls := .type "tuple", data := .seq #[.int (l + 1461 * r) t1, .int M t2, .int D t3] } : Obj)) :: news) → (∀ p ∈ news, p.1 < T) → Q (.ref T) {s with heap := h', toks := tk'}) :
  wpAny (model PySem.Challenge.rw_ad5020_01.row.prog w) (ktrTop dp un gd cn cs L a ccd cl outer) (call (.ref 125) [.int (y + 1460 * r) ty, .int mo tm, .int d td]) Q E s := by
  have hk2 : k + 533265 * r = 1922501 + 365 * (l + 1461 * r) + ((M - 1) * 30 + D) := by omega
  revert X; k_fill; intro X
  refine wpAny_call ?_
  k_dflt (refine' code_def ?k1 ?k2 ?k3 ?k4 ?k5 ?kA ?kF ?kK ?k6 ?k7 ?k8 ?k9 ?kB ?_ ?c2 ?c3 ?c4 ?c5; (case kA => exact rfl); (case kF => exact rfl); (case kK => first | exact rfl | assumption); (case k1 => k_asm); (case k2 => k_asm); (case k3 => k_asm); (case k4 => k_asm); (case k5 => k_asm); (case k6 => k_is); (case k7 => k_is); (case k8 => ktr_room); (case k9 => first | exact BindsTo.of_eq rfl | exact binds_K (by k_in) rfl (by k_is) rfl rfl rfl); (case c5 => decide); (case kB => exact locs rfl); (case c2 => exact rfl); (case c3 => exact rfl); (case c4 => exact rfl); k_whole; intro g' L' h' FG' F' N' B' X' T'; (try dsimp only); (try k_lift B'); (try k_fold))
  k_steps
  all_goals exact hret _ _ _ _ _ _ (by k_asm) (by k_asm) (by k_asm)
end SC7
end Mine

-- C8
namespace Mine
section SC8
inductive Tab (h₀ : Heap) (L : Addr) (h : Heap) : List Value → List (Int × Int × Int) → Prop
  | nil : Tab h₀ L h [] []
  | cons {T : Addr} {t1 t2 t3 : Tok} {a b c : Int} {vs : List Value} {r : List (Int × Int × Int)} :
      News h₀ L h [(T, ({ cls := .type "tuple", data := .seq #[.int a t1, .int b t2, .int c t3] } : Obj))] → Tab h₀ L h vs r → Tab h₀ L h (.ref T :: vs) ((a, b, c) :: r)
theorem Tab.at {h₀ : Heap} {L : Addr} {h : Heap} {vs : List Value} {tab : List (Int × Int × Int)} (G : Tab h₀ L h vs tab) : ∀ {i : Nat} {a b c : Int}, tab[i]? = some (a, b, c) →
    ∃ T t1 t2 t3, vs[i]? = some (.ref T) ∧ News h₀ L h [(T, ({ cls := .type "tuple", data := .seq #[.int a t1, .int b t2, .int c t3] } : Obj))] := by
  induction G with
  | nil => intro i a b c h; cases i <;> cases h
  | cons n _ ih =>
    intro i a b c h
    cases i with
    | zero => cases h; exact ⟨_, _, _, _, rfl, n⟩
    | succ i => exact ih h
theorem news_one {h₀ : Heap} {L : Addr} {h : Heap} {news : List (Addr × Obj)} {p : Addr × Obj} (N : News h₀ L h news) (hm : p ∈ news) : News h₀ L h [p] := fun q hq => by
  cases hq with
  | head => exact N _ hm
  | tail _ h => cases h
theorem news_cons {h₀ : Heap} {L : Addr} {h : Heap} {news : List (Addr × Obj)} {p : Addr × Obj} (N : News h₀ L h news) (n : News h₀ L h [p]) : News h₀ L h (p :: news) := fun q hq => by
  cases hq with
  | head => exact n _ (.head _)
  | tail _ h => exact N _ h
theorem news_drop {h₀ : Heap} {L : Addr} {h : Heap} {news news' : List (Addr × Obj)} (N : News h₀ L h news) (hm : ∀ p ∈ news', p ∈ news) : News h₀ L h news' := fun q hq => N _ (hm _ hq)
theorem sub_tab {prog : Program} {w : World} {A : Around} {E : Value → Shared → Prop} {s : Shared} {value slice : PySem.Expr} {h₀ : Heap} {L D : Addr} {news : List (Addr × Obj)} {vs : List Value} {tab : List (Int × Int × Int)} {i : Int} {u : Tok} {Q : Value → Shared → Prop}
    (N : News h₀ L s.heap news) (hl : s.heap.IsList D vs.toArray) (G : Tab h₀ L s.heap vs tab) (h0 : 0 ≤ i) (h1 : i < tab.length) (hz : tab.length ≤ 100)
    (h : ∀ T t1 t2 t3 a b c, tab[i.toNat]? = some (a, b, c) → News h₀ L s.heap ((T, ({ cls := .type "tuple", data := .seq #[.int a t1, .int b t2, .int c t3] } : Obj)) :: news) → Q (.ref T) s)
    (hs : subscripted slice false (.ref D) (.int i u) = operate [.ref D, .int i u] (getItem (.ref D) (.int i u)) := by with_unfolding_all rfl) :
    wpAny (model prog w) A (subscriptTail value slice (.ref D) (.int i u)) Q E s := by
  have hlt : i.toNat < tab.length := by omega
  obtain ⟨a, b, c, hc⟩ : ∃ a b c, tab[i.toNat]? = some (a, b, c) := ⟨_, _, _, List.getElem?_eq_getElem hlt⟩
  obtain ⟨T, t1, t2, t3, hv, n⟩ := G.at hc
  exact tail_any hl.typeIs slot_list_getitem.lookup (wpAny_getItem_list hl h0 (by omega) (by simpa using hv) (h _ _ _ _ _ _ _ hc (news_cons N n))) hs

theorem c_tcop {w : World} {mean : ExcName → Option Value} {mg mb : Str → Option Value}
  {dp un : Nat} {gd : Option (List Code)} {cn : Str} {cs : Scope} {a : Addr} {ccd : Value} {cl : List (Str × Addr)} {outer : List Env} {A₀ : Around} {base h₀ : Heap} {L : Addr} {m : Str → Option Value} {news : List (Addr × Obj)} {s : Shared}
    {Q E : Value → Shared → Prop}
  (B : Below A₀ base outer h₀) (F : Fr h₀ L s.heap m) (X : (hd.heap_39 w.params).In h₀) (N : News h₀ L s.heap news) (T : Top hd.view_39 LS mean mg mb h₀) (hk : cs.kind = .function) (hdp : dp + 6 < recursionLimit)
  (hret : ∀ D vs h' tk', Fr h₀ L h' m → News h₀ L h' news → h'.IsList D vs.toArray → Tab h₀ L h' vs tcop → Q (.ref D) {s with heap := h', toks := tk'}) :
  wpAny (model PySem.Challenge.rw_ad5020_01.row.prog w) (ktrTop dp un gd cn cs L a ccd cl outer) (call (.ref 139) []) Q E s := by
  revert X; k_fill; intro X
  refine wpAny_call ?_
  k_dflt (refine' code_def ?k1 ?k2 ?k3 ?k4 ?k5 ?kA ?kF ?kK ?k6 ?k7 ?k8 ?k9 ?kB ?_ ?c2 ?c3 ?c4 ?c5; (case kA => exact rfl); (case kF => exact rfl); (case kK => first | exact rfl | assumption); (case k1 => k_asm); (case k2 => k_asm); (case k3 => k_asm); (case k4 => k_asm); (case k5 => k_asm); (case k6 => k_is); (case k7 => k_is); (case k8 => ktr_room); (case k9 => first | exact BindsTo.of_eq rfl | exact binds_K (by k_in) rfl (by k_is) rfl rfl rfl); (case c5 => decide); (case kB => exact locs rfl); (case c2 => exact rfl); (case c3 => exact rfl); (case c4 => exact rfl); k_whole; intro g' L' h' FG' F' N' B' X' T'; (try dsimp only); (try k_lift B'); (try k_fold))
  k_steps
  all_goals (refine' hret _ ?vs _ _ ?f ?n ?i ?t; rotate_left; (case f => k_asm); (case i => exact News.isList (by k_asm) (by k_mem)); (case n => exact news_drop (by k_asm) (fun p hp => by simp [hp])); (repeat' (first | exact Tab.nil | refine' Tab.cons (news_one (by k_asm) (by k_mem)) ?_)))

theorem c_tsar {w : World} {mean : ExcName → Option Value} {mg mb : Str → Option Value}
  {dp un : Nat} {gd : Option (List Code)} {cn : Str} {cs : Scope} {a : Addr} {ccd : Value} {cl : List (Str × Addr)} {outer : List Env} {A₀ : Around} {base h₀ : Heap} {L : Addr} {m : Str → Option Value} {news : List (Addr × Obj)} {s : Shared}
    {Q E : Value → Shared → Prop}
  (B : Below A₀ base outer h₀) (F : Fr h₀ L s.heap m) (X : (hd.heap_39 w.params).In h₀) (N : News h₀ L s.heap news) (T : Top hd.view_39 LS mean mg mb h₀) (hk : cs.kind = .function) (hdp : dp + 6 < recursionLimit)
  (hret : ∀ D vs h' tk', Fr h₀ L h' m → News h₀ L h' news → h'.IsList D vs.toArray → Tab h₀ L h' vs tsar → Q (.ref D) {s with heap := h', toks := tk'}) :
  wpAny (model PySem.Challenge.rw_ad5020_01.row.prog w) (ktrTop dp un gd cn cs L a ccd cl outer) (call (.ref 146) []) Q E s := by
  revert X; k_fill; intro X
  refine wpAny_call ?_
  k_dflt (refine' code_def ?k1 ?k2 ?k3 ?k4 ?k5 ?kA ?kF ?kK ?k6 ?k7 ?k8 ?k9 ?kB ?_ ?c2 ?c3 ?c4 ?c5; (case kA => exact rfl); (case kF => exact rfl); (case kK => first | exact rfl | assumption); (case k1 => k_asm); (case k2 => k_asm); (case k3 => k_asm); (case k4 => k_asm); (case k5 => k_asm); (case k6 => k_is); (case k7 => k_is); (case k8 => ktr_room); (case k9 => first | exact BindsTo.of_eq rfl | exact binds_K (by k_in) rfl (by k_is) rfl rfl rfl); (case c5 => decide); (case kB => exact locs rfl); (case c2 => exact rfl); (case c3 => exact rfl); (case c4 => exact rfl); k_whole; intro g' L' h' FG' F' N' B' X' T'; (try dsimp only); (try k_lift B'); (try k_fold))
  k_steps
  all_goals (refine' hret _ ?vs _ _ ?f ?n ?i ?t; rotate_left; (case f => k_asm); (case i => exact News.isList (by k_asm) (by k_mem)); (case n => exact news_drop (by k_asm) (fun p hp => by simp [hp])); (repeat' (first | exact Tab.nil | refine' Tab.cons (news_one (by k_asm) (by k_mem)) ?_)))
end SC8
end Mine

-- C9
namespace Mine
section SC9
theorem c_fj_copL {w : World} {mean : ExcName → Option Value} {mg mb : Str → Option Value} {x : UInt64} {tx : Tok} {y mo q a1 b1 c1 : Int}
  {dp un : Nat} {gd : Option (List Code)} {cn : Str} {cs : Scope} {a : Addr} {ccd : Value} {cl : List (Str × Addr)} {outer : List Env} {A₀ : Around} {base h₀ : Heap} {L : Addr} {m : Str → Option Value} {news : List (Addr × Obj)} {s : Shared}
    {Q E : Value → Shared → Prop} (hx : Bt x (8192 * (1 + (mo + 1 - 1) * 30 + (y - 1) * 365 + q + 1825028) + 4096) (8192 * (1 + (mo + 1 - 1) * 30 + (y - 1) * 365 + q + 1825028) + 4096)) (ht : tcop[mo.toNat]? = some (a1, b1, c1)) (q1 : 4 * q ≤ y) (q2 : y < 4 * q + 4) (y1 : -1000000000 ≤ y) (y2 : y ≤ 1000000000) (m1 : 0 ≤ mo) (m2 : mo ≤ 12)
  (B : Below A₀ base outer h₀) (F : Fr h₀ L s.heap m) (X : (hd.heap_39 w.params).In h₀) (N : News h₀ L s.heap news) (T : Top hd.view_39 LS mean mg mb h₀) (hk : cs.kind = .function) (hdp : dp + 6 < recursionLimit)
  (hcc : y % 4 = 0 ∧ mo < 7) (hret : ∀ T t1 t2 t3 h' tk', Fr h₀ L h' m → News h₀ L h' ((T, ({ cls := .type "tuple", data := .seq #[.int (y + 283 + a1) t1, .int b1 t2, .int (c1 + 1) t3] } : Obj)) :: news) → (∀ p ∈ news, p.1 < T) → Q (.ref T) {s with heap := h', toks := tk'}) :
  wpAny (model PySem.Challenge.rw_ad5020_01.row.prog w) (ktrTop dp un gd cn cs L a ccd cl outer) (call (.ref 71) [.float x tx]) Q E s := by
  refine c_from_jd hx (by omega) (by omega) B F X N T hk hdp ?_
  intro T t1 t2 t3 jy jm jd h' tk' hj F' N' l'
  obtain ⟨e1, e2, e3⟩ := pure_cop m1 m2 q1 q2 ht hj
  have e4 : jd = c1 + 1 := by omega
  rw [e1, e2, e4] at N'
  exact hret _ _ _ _ _ _ F' N' l'
theorem c_fj_copP {w : World} {mean : ExcName → Option Value} {mg mb : Str → Option Value} {x : UInt64} {tx : Tok} {y mo q a1 b1 c1 : Int}
  {dp un : Nat} {gd : Option (List Code)} {cn : Str} {cs : Scope} {a : Addr} {ccd : Value} {cl : List (Str × Addr)} {outer : List Env} {A₀ : Around} {base h₀ : Heap} {L : Addr} {m : Str → Option Value} {news : List (Addr × Obj)} {s : Shared}
    {Q E : Value → Shared → Prop} (hx : Bt x (8192 * (1 + (mo + 1 - 1) * 30 + (y - 1) * 365 + q + 1825028) + 4096) (8192 * (1 + (mo + 1 - 1) * 30 + (y - 1) * 365 + q + 1825028) + 4096)) (ht : tcop[mo.toNat]? = some (a1, b1, c1)) (q1 : 4 * q ≤ y) (q2 : y < 4 * q + 4) (y1 : -1000000000 ≤ y) (y2 : y ≤ 1000000000) (m1 : 0 ≤ mo) (m2 : mo ≤ 12)
  (B : Below A₀ base outer h₀) (F : Fr h₀ L s.heap m) (X : (hd.heap_39 w.params).In h₀) (N : News h₀ L s.heap news) (T : Top hd.view_39 LS mean mg mb h₀) (hk : cs.kind = .function) (hdp : dp + 6 < recursionLimit)
  (hcc : ¬ (y % 4 = 0 ∧ mo < 7)) (hret : ∀ T t1 t2 t3 h' tk', Fr h₀ L h' m → News h₀ L h' ((T, ({ cls := .type "tuple", data := .seq #[.int (y + 283 + a1) t1, .int b1 t2, .int c1 t3] } : Obj)) :: news) → (∀ p ∈ news, p.1 < T) → Q (.ref T) {s with heap := h', toks := tk'}) :
  wpAny (model PySem.Challenge.rw_ad5020_01.row.prog w) (ktrTop dp un gd cn cs L a ccd cl outer) (call (.ref 71) [.float x tx]) Q E s := by
  refine c_from_jd hx (by omega) (by omega) B F X N T hk hdp ?_
  intro T t1 t2 t3 jy jm jd h' tk' hj F' N' l'
  obtain ⟨e1, e2, e3⟩ := pure_cop m1 m2 q1 q2 ht hj
  have e4 : jd = c1 := by omega
  rw [e1, e2, e4] at N'
  exact hret _ _ _ _ _ _ F' N' l'
theorem c_tj_sarL {w : World} {mean : ExcName → Option Value} {mg mb : Str → Option Value} {y mo a1 b1 c1 : Int} {ty tm td tt : Tok}
  {dp un : Nat} {gd : Option (List Code)} {cn : Str} {cs : Scope} {a : Addr} {ccd : Value} {cl : List (Str × Addr)} {outer : List Env} {A₀ : Around} {base h₀ : Heap} {L : Addr} {m : Str → Option Value} {news : List (Addr × Obj)} {s : Shared}
    {Q E : Value → Shared → Prop} (ht : tsar[mo.toNat]? = some (a1, b1, c1)) (y1 : 533 ≤ y) (y2 : y ≤ 1200000000) (m1 : 0 ≤ mo) (m2 : mo ≤ 12)
  (B : Below A₀ base outer h₀) (F : Fr h₀ L s.heap m) (X : (hd.heap_39 w.params).In h₀) (N : News h₀ L s.heap news) (T : Top hd.view_39 LS mean mg mb h₀) (hk : cs.kind = .function) (hdp : dp + 10 < recursionLimit)
  (hcc : y % 4 = 0 ∧ mo > 6) (hret : ∀ T t1 t2 t3 h' tk', Fr h₀ L h' m → News h₀ L h' ((T, ({ cls := .type "tuple", data := .seq #[.int (y + 551 + a1) t1, .int b1 t2, .int (c1 - 1) t3] } : Obj)) :: news) → (∀ p ∈ news, p.1 < T) → Q (.ref T) {s with heap := h', toks := tk'}) :
  wpAny (model PySem.Challenge.rw_ad5020_01.row.prog w) (ktrTop dp un gd cn cs L a ccd cl outer) (call (.ref 117) [.int y ty, .int (mo + 1) tm, .int 1 td, .str (Str.ofString "sarkawag") tt]) Q E s := by
  refine c_tojul_s y1 y2 (by omega) (by omega) (by omega) (by omega) (by omega) B F X N T hk hdp ?_
  intro T t1 t2 t3 jy jm jd q h' tk' q1 q2 hj F' N' l'
  obtain ⟨e1, e2, e3⟩ := pure_sar m1 m2 q1 q2 ht hj
  have e4 : jd = c1 - 1 := by omega
  rw [e1, e2, e4] at N'
  exact hret _ _ _ _ _ _ F' N' l'

theorem c_tj_sarP {w : World} {mean : ExcName → Option Value} {mg mb : Str → Option Value} {y mo a1 b1 c1 : Int} {ty tm td tt : Tok}
  {dp un : Nat} {gd : Option (List Code)} {cn : Str} {cs : Scope} {a : Addr} {ccd : Value} {cl : List (Str × Addr)} {outer : List Env} {A₀ : Around} {base h₀ : Heap} {L : Addr} {m : Str → Option Value} {news : List (Addr × Obj)} {s : Shared}
    {Q E : Value → Shared → Prop} (ht : tsar[mo.toNat]? = some (a1, b1, c1)) (y1 : 533 ≤ y) (y2 : y ≤ 1200000000) (m1 : 0 ≤ mo) (m2 : mo ≤ 12)
  (B : Below A₀ base outer h₀) (F : Fr h₀ L s.heap m) (X : (hd.heap_39 w.params).In h₀) (N : News h₀ L s.heap news) (T : Top hd.view_39 LS mean mg mb h₀) (hk : cs.kind = .function) (hdp : dp + 10 < recursionLimit)
  (hcc : ¬ (y % 4 = 0 ∧ mo > 6)) (hret : ∀ T t1 t2 t3 h' tk', Fr h₀ L h' m → News h₀ L h' ((T, ({ cls := .type "tuple", data := .seq #[.int (y + 551 + a1) t1, .int b1 t2, .int c1 t3] } : Obj)) :: news) → (∀ p ∈ news, p.1 < T) → Q (.ref T) {s with heap := h', toks := tk'}) :
  wpAny (model PySem.Challenge.rw_ad5020_01.row.prog w) (ktrTop dp un gd cn cs L a ccd cl outer) (call (.ref 117) [.int y ty, .int (mo + 1) tm, .int 1 td, .str (Str.ofString "sarkawag") tt]) Q E s := by
  refine c_tojul_s y1 y2 (by omega) (by omega) (by omega) (by omega) (by omega) B F X N T hk hdp ?_
  intro T t1 t2 t3 jy jm jd q h' tk' q1 q2 hj F' N' l'
  obtain ⟨e1, e2, e3⟩ := pure_sar m1 m2 q1 q2 ht hj
  have e4 : jd = c1 := by omega
  rw [e1, e2, e4] at N'
  exact hret _ _ _ _ _ _ F' N' l'

local macro_rules | `(tactic| walk_at "subscriptTail") => `(tactic| (k_here; k_dflt (refine' sub_tab ?n ?i ?t ?h0 ?h1 ?hz ?_ ?hs; (case n => k_asm); (case i => assumption); (case t => assumption); (case h0 => omega); (case h1 => (simp; omega)); (case hz => decide); (case hs => with_unfolding_all rfl); intros); (try dsimp only)))
local macro_rules | `(tactic| walk_at "call ref") => `(tactic| (k_here; k_dflt (first
  | (refine' c_tcop ?k1 ?k2 ?k3 ?k4 ?k5 ?kK ?kd ?_)
  | (refine' c_tsar ?k1 ?k2 ?k3 ?k4 ?k5 ?kK ?kd ?_)
  | (refine' c_coptic ?a1 ?a2 ?a3 ?a4 ?a5 ?a6 ?k1 ?k2 ?k3 ?k4 ?k5 ?kK ?kd ?_; (case a1 => omega); (case a2 => omega); (case a3 => omega); (case a4 => omega); (case a5 => omega); (case a6 => omega))
  | (refine' c_fj_copL ?a1 ?a2 ?a3 ?a4 ?a5 ?a6 ?a7 ?a8 ?k1 ?k2 ?k3 ?k4 ?k5 ?kK ?kd ?ac ?_; (case a1 => assumption); (case a2 => assumption); (case a3 => omega); (case a4 => omega); (case a5 => omega); (case a6 => omega); (case a7 => omega); (case a8 => omega); (case ac => omega))
  | (refine' c_fj_copP ?a1 ?a2 ?a3 ?a4 ?a5 ?a6 ?a7 ?a8 ?k1 ?k2 ?k3 ?k4 ?k5 ?kK ?kd ?ac ?_; (case a1 => assumption); (case a2 => assumption); (case a3 => omega); (case a4 => omega); (case a5 => omega); (case a6 => omega); (case a7 => omega); (case a8 => omega); (case ac => omega))
  | (refine' c_tj_sarL ?a1 ?a2 ?a3 ?a4 ?a5 ?k1 ?k2 ?k3 ?k4 ?k5 ?kK ?kd ?ac ?_; (case a1 => assumption); (case a2 => omega); (case a3 => omega); (case a4 => omega); (case a5 => omega); (case ac => omega))
  | (refine' c_tj_sarP ?a1 ?a2 ?a3 ?a4 ?a5 ?k1 ?k2 ?k3 ?k4 ?k5 ?kK ?kd ?ac ?_; (case a1 => assumption); (case a2 => omega); (case a3 => omega); (case a4 => omega); (case a5 => omega); (case ac => omega))
  | (refine' c_tojul_n ?a1 ?a2 ?a3 ?a4 ?a5 ?a6 ?a7 ?k1 ?k2 ?k3 ?k4 ?k5 ?kK ?kd ?_; (case a1 => omega); (case a2 => omega); (case a3 => omega); (case a4 => omega); (case a5 => omega); (case a6 => omega); (case a7 => omega))
  | (refine' c_fromjul ?a1 ?a2 ?a3 ?a4 ?a5 ?a6 ?a7 ?a8 ?a9 ?b1 ?b2 ?k1 ?k2 ?k3 ?k4 ?k5 ?kK ?kd ?_; (case a1 => assumption); (case a2 => exact rfl); (case a3 => omega); (case a4 => omega); (case a5 => omega); (case a6 => omega); (case a7 => omega); (case a8 => omega); (case a9 => omega); (case b1 => omega); (case b2 => omega))); (case k1 => k_asm); (case k2 => k_asm); (case k3 => k_asm); (case k4 => k_asm); (case k5 => k_asm); (case kK => first | exact rfl | assumption); (case kd => ktr_room); intros; (try dsimp only); (try k_fold)))

def CutIs (P : Prop) : Prop := P
theorem cut_out {P : Prop} (h : CutIs P) : P := h
theorem fr_dup {h₀ h : Heap} {L : Addr} {k : Str} {v v' : Option Value} {m : Str → Option Value} (F : Fr h₀ L h (fun y => if y = k then v else if y = k then v' else m y)) : Fr h₀ L h (fun y => if y = k then v else m y) := by
  have e : (fun y => if y = k then v else if y = k then v' else m y) = (fun y => if y = k then v else m y) := by
    funext y
    by_cases h : y = k
    · rw [if_pos h, if_pos h]
    · rw [if_neg h, if_neg h, if_neg h]
  rw [e] at F
  exact F
theorem cut3 {M : Model} {A : Around} {env : Env} {body : List Stmt} {Q : Flow → Shared → Prop} {E : Value → Shared → Prop} {s : Shared} {g h' : Heap} {L : Addr} {m0 : Str → Option Value} {news : List (Addr × Obj)} (n : Nat) (_F : Fr g L h' m0) (_N : News g L h' news)
  (h2 : ∀ hh tk v1 t1 v2 t2 v3 t3, Fr g L hh (fun y => if y = Str.ofString "day" then some (.int v3 t3) else if y = Str.ofString "name" then some (.int v2 t2) else if y = Str.ofString "later" then some (.int v1 t1) else m0 y) → News g L hh news → wpAny M A (execs (body.drop n) env) Q E { s with heap := hh, toks := tk })
  (h1 : CutIs (∀ hh tk v1 t1 v2 t2 v3 t3, Fr g L hh (fun y => if y = Str.ofString "day" then some (.int v3 t3) else if y = Str.ofString "name" then some (.int v2 t2) else if y = Str.ofString "later" then some (.int v1 t1) else m0 y) → News g L hh news → wpAny M A (execs (body.drop n) env) Q E { s with heap := hh, toks := tk }) → wpAny M A (execs body env) Q E s) : wpAny M A (execs body env) Q E s := h1 h2
theorem cut4 {M : Model} {A : Around} {env : Env} {body : List Stmt} {Q : Flow → Shared → Prop} {E : Value → Shared → Prop} {s : Shared} {g h' : Heap} {L : Addr} {m0 : Str → Option Value} {news : List (Addr × Obj)} (n : Nat) (_F : Fr g L h' m0) (_N : News g L h' news)
  (h2 : ∀ hh tk v1 t1 v2 t2 v3 t3 v4 t4, Fr g L hh (fun y => if y = Str.ofString "day" then some (.int v3 t3) else if y = Str.ofString "name" then some (.int v2 t2) else if y = Str.ofString "later" then some (.int v1 t1) else if y = Str.ofString "fixed" then some (.int v4 t4) else m0 y) → News g L hh news → wpAny M A (execs (body.drop n) env) Q E { s with heap := hh, toks := tk })
  (h1 : CutIs (∀ hh tk v1 t1 v2 t2 v3 t3 v4 t4, Fr g L hh (fun y => if y = Str.ofString "day" then some (.int v3 t3) else if y = Str.ofString "name" then some (.int v2 t2) else if y = Str.ofString "later" then some (.int v1 t1) else if y = Str.ofString "fixed" then some (.int v4 t4) else m0 y) → News g L hh news → wpAny M A (execs (body.drop n) env) Q E { s with heap := hh, toks := tk }) → wpAny M A (execs body env) Q E s) : wpAny M A (execs body env) Q E s := h1 h2
local macro_rules | `(tactic| walk_at "execs cons") => `(tactic| (k_here; (with_reducible rename CutIs _ => hc); (have hc2 := cut_out hc); k_dflt (refine' hc2 _ _ _ _ _ _ _ _ ?kf ?kn; (case kf => first | k_asm | exact fr_dup (by k_asm)); (case kn => first | k_asm | exact news_drop (by k_asm) (fun p hp => by simp [hp])))))
local macro_rules | `(tactic| walk_at "execs cons") => `(tactic| (k_here; (with_reducible rename CutIs _ => hc); (have hc2 := cut_out hc); k_dflt (refine' hc2 _ _ _ _ _ _ _ _ _ _ ?kf ?kn; (case kf => first | k_asm | exact fr_dup (by k_asm)); (case kn => first | k_asm | exact news_drop (by k_asm) (fun p hp => by simp [hp])))))
theorem c_month {w : World} {mean : ExcName → Option Value} {mg mb : Str → Option Value} {y mo r pl : Int} {ty tm tr tp : Tok}
  {dp un : Nat} {gd : Option (List Code)} {cn : Str} {cs : Scope} {a : Addr} {ccd : Value} {cl : List (Str × Addr)} {outer : List Env} {A₀ : Around} {base h₀ : Heap} {L : Addr} {m : Str → Option Value} {news : List (Addr × Obj)} {s : Shared}
    {Q E : Value → Shared → Prop} (y1 : -1000000000 ≤ y) (y2 : y ≤ 1000000000) (m1 : 0 ≤ mo) (m2 : mo ≤ 12) (r1 : 1 ≤ r) (r2 : r ≤ 100000)
  (B : Below A₀ base outer h₀) (F : Fr h₀ L s.heap m) (X : (hd.heap_39 w.params).In h₀) (N : News h₀ L s.heap news) (T : Top hd.view_39 LS mean mg mb h₀) (hk : cs.kind = .function) (hdp : dp + 14 < recursionLimit) (hun : un + 100 < cLine)
  (hret : ∀ h' tk', Fr h₀ L h' m → News h₀ L h' news → Q (.bool true) {s with heap := h', toks := tk'}) :
  wpAny (model PySem.Challenge.rw_ad5020_01.row.prog w) (ktrTop dp un gd cn cs L a ccd cl outer) (call (.ref 160) [.int y ty, .int mo tm, .int r tr, .int pl tp]) Q E s := by
  have d6 : y.fmod 4 = y % 4 := Int.fmod_eq_emod_of_nonneg _ (by decide)
  have d7 : (533 + if y < 0 then -y else y).fmod 4 = (533 + if y < 0 then -y else y) % 4 := Int.fmod_eq_emod_of_nonneg _ (by decide)
  have p5 : pl.fmod 5 = pl % 5 := Int.fmod_eq_emod_of_nonneg _ (by decide)
  have p30 : pl.fmod 30 = pl % 30 := Int.fmod_eq_emod_of_nonneg _ (by decide)
  revert X; k_fill; intro X
  refine wpAny_call ?_
  k_dflt (refine' code_def ?k1 ?k2 ?k3 ?k4 ?k5 ?kA ?kF ?kK ?k6 ?k7 ?k8 ?k9 ?kB ?_ ?c2 ?c3 ?c4 ?c5; (case kA => exact rfl); (case kF => exact rfl); (case kK => first | exact rfl | assumption); (case k1 => k_asm); (case k2 => k_asm); (case k3 => k_asm); (case k4 => k_asm); (case k5 => k_asm); (case k6 => k_is); (case k7 => k_is); (case k8 => ktr_room); (case k9 => first | exact BindsTo.of_eq rfl | exact binds_K (by k_in) rfl (by k_is) rfl rfl rfl); (case c5 => decide); (case kB => exact locs rfl); (case c2 => exact rfl); (case c3 => exact rfl); (case c4 => exact rfl); k_whole; intro g' L' h' FG' F' N' B' X' T'; (try dsimp only); (try k_lift B'); (try k_fold))
  refine cut3 3 F' N' ?_ ?_
  · intro hh1 tk1 v1 t1 v2 t2 v3 t3 F2 N2
    clear F' N'
    dsimp only [List.drop]
    refine cut4 4 F2 N2 ?_ ?_
    · intro hh2 tk2 v5 t5 v6 t6 v7 t7 v8 t8 F3 N3
      clear F2 N2
      dsimp only [List.drop]
      k_steps
      all_goals exact hret _ _ (by k_asm) (by first | k_asm | exact news_drop (by k_asm) (fun p hp => by simp [hp]))
    · intro hcut
      k_steps
  · intro hcut
    k_steps
end SC9
end Mine

-- C10
namespace Mine
section SC10
theorem within_val {n k v : Int} (hk : k = 1000000000) (hv : (v = n.fmod (2 * k + 1) ∧ n.fmod (2 * k + 1) ≤ k) ∨ (v = n.fmod (2 * k + 1) - 2 * k - 1 ∧ ¬ n.fmod (2 * k + 1) ≤ k)) : -1000000000 ≤ v ∧ v ≤ 1000000000 := by
  subst hk
  have e : n.fmod (2 * 1000000000 + 1) = n % 2000000001 := Int.fmod_eq_emod_of_nonneg _ (by decide)
  rw [e] at hv
  omega
theorem rb1 {x : Int} : 1 ≤ 1 + x.fmod 100000 := by
  have e : x.fmod 100000 = x % 100000 := Int.fmod_eq_emod_of_nonneg _ (by decide)
  omega
theorem rb2 {x : Int} : 1 + x.fmod 100000 ≤ 100000 := by
  have e : x.fmod 100000 = x % 100000 := Int.fmod_eq_emod_of_nonneg _ (by decide)
  omega
theorem c_within {w : World} {mean : ExcName → Option Value} {mg mb : Str → Option Value} {n k : Int} {tn tk : Tok}
  {dp un : Nat} {gd : Option (List Code)} {cn : Str} {cs : Scope} {a : Addr} {ccd : Value} {cl : List (Str × Addr)} {outer : List Env} {A₀ : Around} {base h₀ : Heap} {L : Addr} {m : Str → Option Value} {news : List (Addr × Obj)} {s : Shared}
    {Q E : Value → Shared → Prop} (hkk : k = 1000000000)
  (B : Below A₀ base outer h₀) (F : Fr h₀ L s.heap m) (X : (hd.heap_39 w.params).In h₀) (N : News h₀ L s.heap news) (T : Top hd.view_39 LS mean mg mb h₀) (hk : cs.kind = .function) (hdp : dp + 6 < recursionLimit)
  (hret : ∀ v t h' tk', -1000000000 ≤ v → v ≤ 1000000000 → Fr h₀ L h' m → News h₀ L h' news → Q (.int v t) {s with heap := h', toks := tk'}) :
  wpAny (model PySem.Challenge.rw_ad5020_01.row.prog w) (ktrTop dp un gd cn cs L a ccd cl outer) (call (.ref 153) [.int n tn, .int k tk]) Q E s := by
  revert X; k_fill; intro X
  refine wpAny_call ?_
  k_dflt (refine' code_def ?k1 ?k2 ?k3 ?k4 ?k5 ?kA ?kF ?kK ?k6 ?k7 ?k8 ?k9 ?kB ?_ ?c2 ?c3 ?c4 ?c5; (case kA => exact rfl); (case kF => exact rfl); (case kK => first | exact rfl | assumption); (case k1 => k_asm); (case k2 => k_asm); (case k3 => k_asm); (case k4 => k_asm); (case k5 => k_asm); (case k6 => k_is); (case k7 => k_is); (case k8 => ktr_room); (case k9 => first | exact BindsTo.of_eq rfl | exact binds_K (by k_in) rfl (by k_is) rfl rfl rfl); (case c5 => decide); (case kB => exact locs rfl); (case c2 => exact rfl); (case c3 => exact rfl); (case c4 => exact rfl); k_whole; intro g' L' h' FG' F' N' B' X' T'; (try dsimp only); (try k_lift B'); (try k_fold))
  k_steps
  all_goals first
    | exact hret _ _ _ _ (within_val hkk (.inl ⟨rfl, by assumption⟩)).1 (within_val hkk (.inl ⟨rfl, by assumption⟩)).2 (by k_asm) (by k_asm)
    | exact hret _ _ _ _ (within_val hkk (.inr ⟨rfl, by assumption⟩)).1 (within_val hkk (.inr ⟨rfl, by assumption⟩)).2 (by k_asm) (by k_asm)
end SC10
end Mine

-- C11
namespace Mine
section SC11
theorem three_len {ns : List Int} : (List.take 3 (List.take 3 ns ++ [0, 0, 0])).length = 3 := by
  rw [List.length_take, List.length_append]
  simp
theorem three_ints {ws : List Value} {ns : List Int} (h : IntsAre ws (List.take 3 (List.take 3 ns ++ [0, 0, 0]))) : ∃ a b c t1 t2 t3, ws = [.int a t1, .int b t2, .int c t3] := by
  have hl := three_len (ns := ns)
  generalize List.take 3 (List.take 3 ns ++ [0, 0, 0]) = l at *
  match l, hl, h with
  | [a, b, c], _, h =>
    cases h with
    | cons _ _ h => cases h with
      | cons _ _ h => cases h with
        | cons _ _ h => cases h; exact ⟨_, _, _, _, _, _, rfl⟩
theorem fin_bool_eq : MeetsSeq.EqGives (.bool true) (.bool false) false := fun _ _ _ _ _ _ h => (PySem.SeqAt.EqAt.bool_bool true false) _ _ _ _ h
theorem notin_trues {prog : Program} {w : World} {A : Around} {E : Value → Shared → Prop} {s : Shared} {l : Addr} {n : Nat} {Q : Value → Shared → Prop} (hl : s.heap.IsList l (List.replicate n (Value.bool true)).toArray)
    (h : Q (.bool true) s) : wpAny (model prog w) A (compareOp .NotIn (.bool false) (.ref l)) Q E s := by
  refine SeqInW.notIn_listW (fun _ => false) (fun y hy => ?_) hl ?_
  · have : y = Value.bool true := by
      have hy : y ∈ List.replicate n (Value.bool true) := by simpa using hy
      exact (List.mem_replicate.mp hy).2
    subst this
    exact fin_bool_eq
  · have z : ((List.replicate n (Value.bool true)).toArray.any (fun _ => false)) = false := by
      rw [← Array.any_toList]; simp
    rw [z]; exact h
theorem kcb_range {prog : Program} {w : World} {A : Around} {h₀ : Heap} {L : Addr} {m : Str → Option Value} {env : Env} {elt : Expr} {x : Str} {scope : Scope} {cl : List (Str × Addr)} {s : Shared} {S : List (Addr × Obj) → Prop} {Fin : List Value → List (Addr × Obj) → Prop} {news : List (Addr × Obj)} {n : Nat} {a : Int}
    (turn : ∀ k t I oI C oC D m₂ ys h tk (E' : Value → Shared → Prop), a ≤ k → k < a + (n : Int) → LCg.NsObj oC m₂ → m₂ x = some (.int k t) → Fr h₀ L h m → News h₀ L h ((I, oI) :: (C, oC) :: (D, LCg.lst ys) :: news) → LCg.Off3 I C D news → ((@Ne Nat I C) ∧ (@Ne Nat I D) ∧ (@Ne Nat C D)) →
      wpAny (model prog w) A (eval elt (compEnvC scope cl C env)) (LCg.CompEnd h₀ L m { s with heap := h, toks := tk } I oI C oC D (LCg.lst ys) S (fun y news' => news' = news ∧ y = Value.bool true)) E' { s with heap := h, toks := tk })
    (fin : Fin (List.replicate n (.bool true)) news) : LCg.CompRest prog w A h₀ L m env elt x scope cl s S (fun i v => ∃ t, v = .int (a + (i : Int)) t) Fin n 0 [] news := by
  have key : ∀ (j i : Nat), i + j = n → LCg.CompRest prog w A h₀ L m env elt x scope cl s S (fun i v => ∃ t, v = .int (a + (i : Int)) t) Fin j i (List.replicate i (.bool true)) news := by
    intro j
    induction j with
    | zero =>
      intro i hi
      have e : i = n := by omega
      subst e
      exact LCg.CompRest.zero fin
    | succ j ih =>
      intro i hi
      refine LCg.CompRest.succ ?_
      intro v I oI C oC D m₂ h tk E' hv hC hx F N off ne
      obtain ⟨t, hv'⟩ := hv
      rw [hv'] at hx
      refine wpAny_mono (turn (a + (i : Int)) t I oI C oC D m₂ _ h tk E' (by omega) (by omega) hC hx F N off ne) (fun y s₂ hq => ?_) fun _ _ e => e
      obtain ⟨h', tk', nw, e, F', N', off', hS, hn, hy'⟩ := hq
      rw [hn] at N' off' hS
      refine ⟨h', tk', news, e, F', N', off', hS, ?_⟩
      have z := ih (i + 1) (by omega)
      rw [List.replicate_succ'] at z
      rw [hy']
      exact z
  exact key n 0 (by omega)
end SC11
end Mine

-- the law
open Mine
local macro_rules | `(tactic| walk_at "assign Tuple") => `(tactic| (k_here; (with_reducible rename IntsAre _ (List.take 3 (List.take 3 _ ++ _)) => hI3); (obtain ⟨a3, b3, c3, t31, t32, t33, e3⟩ := three_ints hI3); subst e3; clear hI3; k_dflt (refine' kun_list ?kF ?kN ?kl rfl ?kn ?ks ?_; (case kF => k_asm); (case kN => k_asm); (case kl => exact News.isList (by k_asm) (by k_mem)); (case kn => rfl); (case ks => rfl); intro h9 F9 N9); (try dsimp only)))
local macro_rules | `(tactic| walk_at "call ref") => `(tactic| (k_here; k_dflt (first
  | (refine' c_within ?a1 ?k1 ?k2 ?k3 ?k4 ?k5 ?kK ?kd ?_; (case a1 => decide))
  | (refine' c_month ?b1 ?b2 ?b3 ?b4 ?b5 ?b6 ?k1 ?k2 ?k3 ?k4 ?k5 ?kK ?kd ?ku ?_; (case ku => ktr_units); (case b1 => omega); (case b2 => omega); (case b3 => omega); (case b4 => omega); (case b5 => exact rb1); (case b6 => exact rb2))); (case k1 => k_asm); (case k2 => k_asm); (case k3 => k_asm); (case k4 => k_asm); (case k5 => k_asm); (case kK => first | exact rfl | assumption); (case kd => ktr_room); intros; (try dsimp only); (try k_fold)))
local macro_rules | `(tactic| walk_at "CompSrc") => `(tactic| (k_here; k_dflt (refine LCg.CompSrc.range (by rfl) (by k_asm) (by k_asm) (by assumption) (by decide) (by exact rangeSize_nat _ _) (by exact Nat.le_of_ble_eq_true rfl) ?_; intro g'; (refine' kcb_range (fun k' t' I' oI' C' oC' D' m' ys' h' tk' E' hlo' hhi' hC' hx' F' N' off' ne' => ?_) ?_); (all_goals (try (simp only [LCg.Off3, and_true] at off'))); kcf_last)))
local macro_rules | `(tactic| walk_at "CompEnd") => `(tactic| (refine' LCg.CompEnd.intro (by assumption) (by assumption) _ ?all ?off ?src ?el; rotate_left; rotate_left; rotate_left; (case el => exact ⟨rfl, rfl⟩); (case all => kcf_all); (case off => first | assumption | (simp only [LCg.Off3, and_true]; done) | (simp only [LCg.Off3, and_true]; assumption)); (case src => first | lcg_src | assumption)))
local macro_rules | `(tactic| walk_at "compareOp NotIn") => `(tactic| (k_here; k_dflt (refine' notin_trues ?kl ?_; (case kl => exact News.isList (by k_asm) (by k_mem)))))
set_option maxRecDepth 100000 in
set_option maxHeartbeats 8000000 in
theorem PySem.Challenge.cw_ad5020_01_holds : PySem.Challenge.rw_ad5020_01.Holds := by
  exact Mine.hd (by k_go0; (all_goals try k_fold); k_steps; (all_goals (try k_data)); all_goals w_report)
