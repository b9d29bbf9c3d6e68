/-
  THE PLAIN LAW of FnStoredAtIndexLookup: no Go in sight.
-/
import Derived.Test.Qxb6604428aIdxParts
namespace Go.Proofs.Qxb6604428a.Idx

/-- The first k of zs rise. -/
def Asc (zs : List Int) (k : Nat) : Prop := ∀ j, j + 1 < k → zs.getD j 0 < zs.getD (j + 1) 0
theorem asc_one (zs : List Int) : Asc zs 1 := fun j h => by omega
theorem asc_step {zs : List Int} {k : Nat} (h : Asc zs k) (hk : 1 ≤ k) (hs : zs.getD (k - 1) 0 < zs.getD k 0) : Asc zs (k + 1) := by
  intro j hj
  by_cases e : j + 1 = k
  · subst e; simpa using hs
  · exact h j (by omega)
theorem asc_lt {zs : List Int} {n : Nat} (h : Asc zs n) : ∀ d i, i + d + 1 < n → zs.getD i 0 < zs.getD (i + d + 1) 0
  | 0, i, hi => h i (by omega)
  | d + 1, i, hi => by
    have h1 := asc_lt h d i (by omega)
    have h2 := h (i + d + 1) (by omega)
    have e : i + (d + 1) + 1 = i + d + 1 + 1 := by omega
    rw [e]; omega
theorem asc_lt' {zs : List Int} {n : Nat} (h : Asc zs n) (i j : Nat) (hij : i < j) (hj : j < n) : zs.getD i 0 < zs.getD j 0 := by
  have := asc_lt h (j - i - 1) i (by omega)
  rwa [show i + (j - i - 1) + 1 = j from by omega] at this

/-- What the search knows. -/
def Lo (zs : List Int) (q : Int) (l : Nat) : Prop := ∀ j, j < l → zs.getD j 0 < q
def Hi (zs : List Int) (q : Int) (n h : Nat) : Prop := ∀ j, h ≤ j → j < n → q ≤ zs.getD j 0
theorem lo_zero (zs : List Int) (q : Int) : Lo zs q 0 := fun j h => by omega
theorem hi_n (zs : List Int) (q : Int) (n : Nat) : Hi zs q n n := fun j h h' => by omega
theorem lo_step {zs : List Int} {q : Int} {n m : Nat} (h : Asc zs n) (hm : m < n) (hq : zs.getD m 0 < q) : Lo zs q (m + 1) := by
  intro j hj
  by_cases e : j = m
  · subst e; exact hq
  · have := asc_lt' h j m (by omega) hm; omega
theorem hi_step {zs : List Int} {q : Int} {n m : Nat} (h : Asc zs n) (hm : m < n) (hq : ¬ zs.getD m 0 < q) : Hi zs q n m := by
  intro j hj hjn
  by_cases e : j = m
  · subst e; omega
  · have := asc_lt' h m j (by omega) hjn; omega

/-- What the gathering loop holds behind k rounds. -/
def val (zs ss : List Int) (q : Int) (k : Nat) : Int := answer (zs.getD k 0) (ss.getD k 0) q
def gotK (zs ss : List Int) (q : Int) : Nat → Int
  | 0 => 0
  | k + 1 => if val zs ss q k = 0 then gotK zs ss q k else val zs ss q k
def nzK (zs ss : List Int) (q : Int) : Nat → Int
  | 0 => 0
  | k + 1 => if val zs ss q k = 0 then nzK zs ss q k else nzK zs ss q k + 1
theorem nz_bd (zs ss : List Int) (q : Int) : ∀ k, 0 ≤ nzK zs ss q k ∧ nzK zs ss q k ≤ k
  | 0 => by simp [nzK]
  | k + 1 => by
    have := nz_bd zs ss q k
    unfold nzK
    split <;> omega
theorem got_succ_zero {zs ss : List Int} {q : Int} {k : Nat} (h : val zs ss q k = 0) : gotK zs ss q (k + 1) = gotK zs ss q k ∧ nzK zs ss q (k + 1) = nzK zs ss q k := by
  simp [gotK, nzK, h]
theorem got_succ_hit {zs ss : List Int} {q : Int} {k : Nat} (h : val zs ss q k ≠ 0) : gotK zs ss q (k + 1) = val zs ss q k ∧ nzK zs ss q (k + 1) = nzK zs ss q k + 1 := by
  simp [gotK, nzK, h]
theorem val_ne {zs ss : List Int} {q : Int} {k : Nat} (h : zs.getD k 0 ≠ q) : val zs ss q k = 0 := by
  unfold val answer; rw [if_neg h]
theorem val_eq {zs ss : List Int} {q : Int} {k : Nat} (h : zs.getD k 0 = q) : val zs ss q k = ss.getD k 0 := by
  unfold val answer; rw [if_pos h]

theorem got_low {zs ss : List Int} {q : Int} {l : Nat} (h : Lo zs q l) : ∀ k, k ≤ l → gotK zs ss q k = 0 ∧ nzK zs ss q k = 0
  | 0, _ => by simp [gotK, nzK]
  | k + 1, hk => by
    have h1 := got_low (ss := ss) h k (by omega)
    have h2 := got_succ_zero (val_ne (ss := ss) (show zs.getD k 0 ≠ q by have := h k (by omega); omega))
    rw [h2.1, h2.2]; exact h1
theorem got_high {zs ss : List Int} {q : Int} {m n : Nat} (h : ∀ j, m ≤ j → j < n → zs.getD j 0 ≠ q) : ∀ d, m + d ≤ n → gotK zs ss q (m + d) = gotK zs ss q m ∧ nzK zs ss q (m + d) = nzK zs ss q m
  | 0, _ => ⟨rfl, rfl⟩
  | d + 1, hd => by
    have h1 := got_high (ss := ss) h d (by omega)
    have h2 := got_succ_zero (val_ne (ss := ss) (h (m + d) (by omega) (by omega)))
    rw [show m + (d + 1) = m + d + 1 from rfl, h2.1, h2.2]; exact h1
def want (zs ss : List Int) (q : Int) (n l : Nat) : Int := if l < n ∧ zs.getD l 0 = q then ss.getD l 0 else 0
theorem law {zs ss : List Int} {q : Int} {n l : Nat} (ha : Asc zs n) (hl : l ≤ n) (h1 : Lo zs q l) (h2 : Hi zs q n l) : gotK zs ss q n = want zs ss q n l ∧ nzK zs ss q n ≤ 1 := by
  have low := got_low (ss := ss) h1 l (Nat.le_refl _)
  by_cases e : l = n
  · subst e
    rw [low.1, low.2]; unfold want; rw [if_neg (by omega)]; exact ⟨rfl, by omega⟩
  · have hln : l < n := by omega
    have hrest : ∀ j, l + 1 ≤ j → j < n → zs.getD j 0 ≠ q := by
      intro j hj hjn
      have a := h2 l (Nat.le_refl _) hln
      have b := asc_lt' ha l j (by omega) hjn
      omega
    have hh := got_high (ss := ss) hrest (n - (l + 1)) (by omega)
    rw [show l + 1 + (n - (l + 1)) = n from by omega] at hh
    rw [hh.1, hh.2]
    by_cases hq : zs.getD l 0 = q
    · unfold want; rw [if_pos ⟨hln, hq⟩]
      have v := val_eq (ss := ss) hq
      by_cases h0 : val zs ss q l = 0
      · have g := got_succ_zero h0
        rw [g.1, g.2, low.1, low.2]; exact ⟨by rw [← v, h0], by omega⟩
      · have g := got_succ_hit h0
        rw [g.1, g.2, low.2]; exact ⟨v, by omega⟩
    · unfold want; rw [if_neg (fun h => hq h.2)]
      have g := got_succ_zero (val_ne (ss := ss) hq)
      rw [g.1, g.2, low.1, low.2]; exact ⟨rfl, by omega⟩
end Go.Proofs.Qxb6604428a.Idx
