/-
  float64(n) FOR AN int64 n, AS THE MODEL HAS IT (Ieee/Word.lean): a positive n gives a finite number above 0, another n none above 0. Plain arithmetic; no walk.
-/
import Derived.WalkKit
namespace Go.Flo
open Ieee

theorem sw : double.signWeight = 9223372036854775808 := by decide +kernel
theorem bi : double.binade = 4503599627370496 := by decide +kernel
theorem inf : double.infRung = 9218868437227405312 := by decide +kernel
theorem lp : double.leastPlace = -1074 := by decide +kernel

theorem read_pos (r : Nat) (h1 : 4503599627370496 ≤ r) (h2 : r < 9218868437227405312) : double.read r = .number false (4503599627370496 + r % 4503599627370496) (-1074 + (r / 4503599627370496 - 1 : Nat)) := by
  unfold Format.read
  rw [sw, bi, inf, lp]
  have e1 : r % 9223372036854775808 = r := Nat.mod_eq_of_lt (by omega)
  have e2 : r / 9223372036854775808 = 0 := Nat.div_eq_of_lt (by omega)
  simp only [e1, e2]
  rw [if_neg (by omega), if_pos h2]
  rfl
theorem read_zero : double.read 0 = .number false 0 (-1074) := by decide +kernel
theorem read_max : double.read 9218868437227405311 = .number false 9007199254740991 971 := by decide +kernel

theorem cmp_gt {a b : Int} (h : b < a) : compare a b = .gt := by
  rw [Int.compare_eq_gt]; exact h
theorem cmp_le {a b : Int} (h : a ≤ b) : (some (compare a b) == some Ordering.gt) = false := by
  have : compare a b ≠ .gt := by rw [Ne, Int.compare_eq_gt]; omega
  cases hc : compare a b <;> simp_all

theorem order_zero (r : Nat) (h1 : 4503599627370496 ≤ r) (h2 : r < 9218868437227405312) : double.order r 0 = some .gt := by
  unfold Format.order
  rw [read_pos r h1 h2, read_zero]
  unfold Datum.order
  simp only [signed]
  congr 1
  apply cmp_gt
  rw [Nat.zero_shiftLeft]
  simp only [Bool.false_eq_true, if_false]
  have : 0 < (4503599627370496 + r % 4503599627370496) <<< ((-1074 + ((r / 4503599627370496 - 1 : Nat) : Int)) - min (-1074 + ((r / 4503599627370496 - 1 : Nat) : Int)) (-1074)).toNat := by
    rw [Nat.shiftLeft_eq]
    exact Nat.mul_pos (by omega) (Nat.pow_pos (by omega))
  omega
theorem order_self (r : Nat) (h1 : 4503599627370496 ≤ r) (h2 : r < 9218868437227405312) : double.order r r = some .eq := by
  unfold Format.order
  rw [read_pos r h1 h2]
  unfold Datum.order
  simp only [signed]
  congr 1
  rw [Int.compare_eq_eq]
theorem order_max (r : Nat) (h1 : 4503599627370496 ≤ r) (h2 : r < 4953959590107545600) : (double.order r 9218868437227405311 == some .gt) = false := by
  unfold Format.order
  rw [read_pos r h1 (by omega), read_max]
  unfold Datum.order
  simp only [signed]
  apply cmp_le
  simp only [Bool.false_eq_true, if_false]
  have hmin : min (-1074 + ((r / 4503599627370496 - 1 : Nat) : Int)) 971 = -1074 + ((r / 4503599627370496 - 1 : Nat) : Int) := by omega
  rw [hmin]
  have h0 : ((-1074 + ((r / 4503599627370496 - 1 : Nat) : Int)) - (-1074 + ((r / 4503599627370496 - 1 : Nat) : Int))).toNat = 0 := by omega
  rw [h0, Nat.shiftLeft_zero, Nat.shiftLeft_eq]
  have hp := Nat.pow_pos (a := 2) (n := (971 - (-1074 + ((r / 4503599627370496 - 1 : Nat) : Int))).toNat) (by omega)
  have : 9007199254740991 * 1 ≤ 9007199254740991 * 2 ^ (971 - (-1074 + ((r / 4503599627370496 - 1 : Nat) : Int))).toNat := Nat.mul_le_mul_left _ hp
  omega

theorem cut_le (neg : Bool) (n drop : Nat) : Toward.even.cut neg n drop ≤ n / (1 <<< min drop (n.log2 + 2)) + 1 := by
  unfold Toward.cut
  dsimp only
  generalize n / (1 <<< min drop (n.log2 + 2)) = low
  have := Bool.toNat_le (decide (1 <<< min drop (n.log2 + 2) < 2 * (n % 1 <<< min drop (n.log2 + 2))) || 1 <<< min drop (n.log2 + 2) == 2 * (n % 1 <<< min drop (n.log2 + 2)) && low % 2 == 1)
  omega

/-- A whole number from 1 to 2^63 - 1: its word is a rung between the least normal number and far below infinity. -/
theorem near_pos (m : Nat) (h1 : 1 ≤ m) (h2 : m < 9223372036854775808) : 4503599627370496 ≤ double.nearest false m 0 ∧ double.nearest false m 0 < 4953959590107545600 := by
  have hL : m.log2 ≤ 62 := by
    have : m.log2 < 63 := (Nat.log2_lt (by omega)).2 (by omega)
    omega
  have hlo : 2 ^ m.log2 ≤ m := Nat.log2_self_le (by omega)
  have hhi : m < 2 ^ (m.log2 + 1) := Nat.lt_log2_self
  unfold Format.nearest
  rw [if_neg (by omega)]
  have hf : double.fractionBits = 52 := rfl
  rw [lp, bi, inf, hf]
  dsimp only
  have hlast : max ((0 : Int) + (m.log2 : Int) - (52 : Nat)) (-1074) = (m.log2 : Int) - 52 := by omega
  rw [hlast]
  have ht : ((m.log2 : Int) - 52 - (-1074)).toNat = m.log2 + 1022 := by omega
  rw [ht]
  have hk := cut_le false (m <<< ((0 : Int) - ((m.log2 : Int) - 52)).toNat) ((m.log2 : Int) - 52 - 0).toNat
  have hlow : (m <<< ((0 : Int) - ((m.log2 : Int) - 52)).toNat) / (1 <<< min ((m.log2 : Int) - 52 - 0).toNat ((m <<< ((0 : Int) - ((m.log2 : Int) - 52)).toNat).log2 + 2)) ≤ 9007199254740992 := by
    by_cases hc : m.log2 ≤ 52
    · have e1 : ((m.log2 : Int) - 52 - 0).toNat = 0 := by omega
      have e2 : ((0 : Int) - ((m.log2 : Int) - 52)).toNat = 52 - m.log2 := by omega
      rw [e1, e2, Nat.zero_min, Nat.shiftLeft_zero, Nat.div_one, Nat.shiftLeft_eq]
      have h3 : m * 2 ^ (52 - m.log2) ≤ 2 ^ (m.log2 + 1) * 2 ^ (52 - m.log2) := Nat.mul_le_mul_right _ (by omega)
      rw [← Nat.pow_add, show m.log2 + 1 + (52 - m.log2) = 53 from by omega] at h3
      omega
    · have e1 : ((m.log2 : Int) - 52 - 0).toNat = m.log2 - 52 := by omega
      have e2 : ((0 : Int) - ((m.log2 : Int) - 52)).toNat = 0 := by omega
      rw [e1, e2, Nat.shiftLeft_zero]
      have e3 : min (m.log2 - 52) (m.log2 + 2) = m.log2 - 52 := by omega
      rw [e3, Nat.shiftLeft_eq, Nat.one_mul]
      have hlt : m / 2 ^ (m.log2 - 52) < 2 ^ 53 := by
        rw [Nat.div_lt_iff_lt_mul (Nat.pow_pos (by omega)), ← Nat.pow_add, show 53 + (m.log2 - 52) = m.log2 + 1 from by omega]
        exact hhi
      omega
  generalize Toward.even.cut false (m <<< ((0 : Int) - ((m.log2 : Int) - 52)).toNat) ((m.log2 : Int) - 52 - 0).toNat = kept at *
  unfold Format.word
  simp only [Bool.false_eq_true, if_false]
  omega
theorem near_neg (m : Nat) : ∃ r, r ≤ 9218868437227405312 ∧ double.nearest true m 0 = 9223372036854775808 + r := by
  unfold Format.nearest
  split
  · exact ⟨0, by omega, by unfold Format.word; rw [if_pos rfl, sw]⟩
  · refine ⟨_, ?_, by unfold Format.word; rw [if_pos rfl, sw]⟩
    rw [inf]
    exact Nat.min_le_right _ _
theorem order_neg (r : Nat) (hr : r ≤ 9218868437227405312) : (double.order (9223372036854775808 + r) 0 == some .gt) = false := by
  unfold Format.order
  rw [read_zero]
  unfold Format.read
  rw [sw, bi, inf, lp]
  have e1 : (9223372036854775808 + r) % 9223372036854775808 = r := by omega
  have e2 : (9223372036854775808 + r) / 9223372036854775808 = 1 := by omega
  simp only [e1, e2]
  have hs : ∀ (m u v : Nat), (some (compare (signed true m u) (signed false 0 v)) == some Ordering.gt) = false := fun m u v => by
    apply cmp_le
    have a1 : signed true m u = -((m <<< u : Nat) : Int) := rfl
    have a2 : signed false 0 v = ((0 <<< v : Nat) : Int) := rfl
    rw [a1, a2, Nat.zero_shiftLeft]
    generalize m <<< u = q
    omega
  split
  · exact hs _ _ _
  · split
    · exact hs _ _ _
    · split
      · rfl
      · omega

/-- float64(n). -/
def f64 (n : Int) : Nat := FloatKind.f64.nearest n
theorem f64_pos (n : Int) (h1 : 1 ≤ n) (h2 : n ≤ 9223372036854775807) : double.order (f64 n) 0 = some .gt ∧ (double.order (f64 n) 9218868437227405311 == some .gt) = false ∧ double.order (f64 n) (f64 n) = some .eq := by
  have e : f64 n = double.nearest false n.natAbs 0 := by
    unfold f64 FloatKind.nearest
    rw [decide_eq_false (by omega)]
    rfl
  have h := near_pos n.natAbs (by omega) (by omega)
  rw [← e] at h
  exact ⟨order_zero _ h.1 (by omega), order_max _ h.1 h.2, order_self _ h.1 (by omega)⟩
theorem f64_not (n : Int) (h1 : n ≤ 0) : (double.order (f64 n) 0 == some .gt) = false := by
  by_cases h : n = 0
  · subst h; decide +kernel
  · have e : f64 n = double.nearest true n.natAbs 0 := by
      unfold f64 FloatKind.nearest
      rw [decide_eq_true (by omega)]
      rfl
    obtain ⟨r, hr, er⟩ := near_neg n.natAbs
    rw [e, er]
    exact order_neg r hr
end Go.Flo
