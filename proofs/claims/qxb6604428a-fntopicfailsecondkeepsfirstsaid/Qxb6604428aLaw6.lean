import Derived.Test.Qxb6604428aFail15
namespace Go.Proofs.Qxb6604428a.Fail
open Go.ChangeShapes Go.WideShapes Go.ChangeAt Go.RowKit Go.Conc
set_option linter.unusedVariables false

theorem getD_at (zs : List Int) (j : Nat) (h : j < zs.length) : zs[j] = zs.getD j 0 := by
  rw [List.getD_eq_getElem?_getD, List.getElem?_eq_getElem h]; rfl
theorem row_cell {w : World} {b e n : Nat} {zs : List Int} (h : RowBlk w b e ((zs.take n).map (Value.int .i64))) (j : Nat) (hj : j < n) (hz : n ≤ zs.length) : w.cell? ⟨b, j, none⟩ = some (.int .i64 (zs.getD j 0)) := by
  rw [h.cell, List.getElem?_map, List.getElem?_take, if_pos hj, List.getElem?_eq_getElem (by omega), getD_at _ _ (by omega)]; rfl

theorem copy14_any (a : Option Addr) (n c : Nat) (zs : List Int) (w : World) (hn : n ≤ 1048576) (h : Ints w a n zs) :
    Calls Try.prog 14 #[.slice a n c] w fun e w' => ∃ a' c', e = .returned (.slice a' n c') ∧ Below w.heap.size w w' ∧ Ints w' a' n zs := by
  by_cases hp : 0 < n
  · obtain ⟨b, off, rfl, h1, h2, h3⟩ := h hp
    refine (Copy.copy14_some b off n c zs w h1 hn h2 h3).mono ?_
    rintro e w' ⟨rfl, hB, hS, hR⟩
    exact ⟨_, _, rfl, hB, fun _ => ⟨w.heap.size, 0, rfl, by omega, h2, fun j hj => by rw [Nat.zero_add]; exact row_cell hR j hj h2⟩⟩
  · obtain rfl : n = 0 := by omega
    refine (Copy.copy14_zero a c w).mono ?_
    rintro e w' ⟨⟨a', rfl⟩, hB⟩
    exact ⟨_, _, rfl, hB, fun h => by omega⟩

set_option maxRecDepth 100000 in
theorem law6_early (a0 : Option Addr) (n0 c0 : Nat) (a1 : Option Addr) (n1 c1 : Nat) (q : Bool) (w : World) (h0 : n0 ≤ maxLen) (h1 : n1 ≤ maxLen) (h : 131072 < n0 + n1) :
    Calls Try.prog 6 #[.slice a0 n0 c0, .slice a1 n1 c1, .bool q] w fun e w' => e = .returned (.bool true) ∧ w' = w := by
  by_cases hb : n0 + n1 ≤ 1048576
  · have H8 := bytes12 a0 n0 c0 a1 n1 c1 q w h0 h1
    rw [decide_eq_true hb] at H8
    clear h0 h1
    by_cases hx : (131072 : Int) < n0
    · go_enter Try.func6, Try.ntmps6
      go_wp2_with (go_at_call 12; refine H8.mono ?_; rintro e w' ⟨rfl, rfl⟩)
      go_ret
      exact ⟨rfl, rfl⟩
    · by_cases hy : (131072 : Int) < n1
      · go_enter Try.func6, Try.ntmps6
        go_wp2_with (go_at_call 12; refine H8.mono ?_; rintro e w' ⟨rfl, rfl⟩)
        go_ret
        exact ⟨rfl, rfl⟩
      · have hz' : (1048576 : Int) < (↑n0 + ↑n1) * 8 := by omega
        go_enter Try.func6, Try.ntmps6
        go_wp2_with (go_at_call 12; refine H8.mono ?_; rintro e w' ⟨rfl, rfl⟩)
        go_ret
        exact ⟨rfl, rfl⟩
  · have H8 := bytes12 a0 n0 c0 a1 n1 c1 q w h0 h1
    rw [decide_eq_false hb] at H8
    go_enter Try.func6, Try.ntmps6
    go_wp2_with (go_at_call 12; refine H8.mono ?_; rintro e w' ⟨rfl, rfl⟩)
    go_ret
    exact ⟨rfl, rfl⟩

theorem fail15 (a0 : Option Addr) (n0 c0 : Nat) (z0 : List Int) (a1 : Option Addr) (n1 c1 : Nat) (z1 : List Int) (we : Bool) (w : World) (hn0 : n0 ≤ 131072) (hn1 : n1 ≤ 131072) (h0 : Ints w a0 n0 z0) (h1 : Ints w a1 n1 z1) :
    Calls Try.prog 15 #[.slice a0 n0 c0, .slice a1 n1 c1, .bool we] w fun e w' => ∃ x y, e = .returned (.tuple #[.slice (some ⟨x, 0, none⟩) n0 n0, .slice (some ⟨y, 0, none⟩) n1 n1, .bool true]) ∧
      Strip w' x 75 5 n0 (fun i => endRow we (z0.getD i 0)) ∧ Strip w' y 75 5 n1 (fun i => endRow we (z1.getD i 0)) ∧ Below w.heap.size w w' := by
  cases we
  · exact fail15_false a0 n0 c0 z0 a1 n1 c1 z1 w hn0 hn1 h0 h1
  · exact fail15_true a0 n0 c0 z0 a1 n1 c1 z1 w hn0 hn1 h0 h1

set_option maxRecDepth 100000 in
set_option maxHeartbeats 1000000 in
theorem law6_main (a0 : Option Addr) (n0 c0 : Nat) (z0 : List Int) (a1 : Option Addr) (n1 c1 : Nat) (z1 : List Int) (we : Bool) (w : World) (h : n0 + n1 ≤ 131072) (h0 : Ints w a0 n0 z0) (h1 : Ints w a1 n1 z1) :
    Calls Try.prog 6 #[.slice a0 n0 c0, .slice a1 n1 c1, .bool we] w fun e w' => e = .returned (.bool true) ∧ Below w.heap.size w w' := by
  have H8 := bytes12 a0 n0 c0 a1 n1 c1 we w (by unfold maxLen; omega) (by unfold maxLen; omega)
  rw [decide_eq_true (by omega)] at H8
  have hz' : ¬ (1048576 : Int) < (↑n0 + ↑n1) * 8 := by omega
  have hx : ¬ (131072 : Int) < n0 := by omega
  have hy : ¬ (131072 : Int) < n1 := by omega
  have H0 := hide h0
  have H1 := hide h1
  clear h0 h1
  go_enter Try.func6, Try.ntmps6
  go_wp2_with (go_at_call 12; refine H8.mono ?_; rintro e w' ⟨rfl, hw⟩; subst w')
  clear H8
  refine (nonneg13 a0 n0 c0 z0 w (by omega) H0.out).mono ?_
  rintro e w' ⟨r0, rfl, hw, _⟩
  subst w'
  cases r0
  · go_wp2_with fail
    go_ret
    exact ⟨rfl, Below.refl _ _⟩
  · go_wp2_with fail
    refine (nonneg13 a1 n1 c1 z1 w (by omega) H1.out).mono ?_
    rintro e w' ⟨r1, rfl, hw, _⟩
    subst w'
    cases r1
    · go_wp2_with fail
      go_ret
      exact ⟨rfl, Below.refl _ _⟩
    · go_wp2_with fail
      refine (copy14_any a0 n0 c0 z0 w (by omega) H0.out).mono ?_
      rintro e w1 ⟨b0, d0, rfl, hB1, hI0⟩
      have HI0 := hide hI0
      have HI1 := hide (H1.out.below hB1)
      clear hI0
      go_wp2_with fail
      refine (copy14_any a1 n1 c1 z1 w1 (by omega) HI1.out).mono ?_
      rintro e w2 ⟨b1, d1, rfl, hB2, hI1⟩
      have HJ0 := hide (HI0.out.below hB2)
      have HJ1 := hide hI1
      clear hI1
      go_wp2_with fail
      refine (fail15 b0 n0 d0 z0 b1 n1 d1 z1 we w2 (by omega) (by omega) HJ0.out HJ1.out).mono ?_
      rintro e w3 ⟨x, y, rfl, hX, hY, hB3⟩
      have HL0 := hide (HJ0.out.below hB3)
      have HL1 := hide (HJ1.out.below hB3)
      have HX := hide hX
      have HY := hide hY
      clear hX hY
      have HB := hide (hB1.trans ((hB2.mono hB1.size).trans (hB3.mono (Nat.le_trans hB1.size hB2.size))))
      clear hB1 hB2 hB3
      go_wp2_with fail
      refine (ended16 x n0 d0 b0 z0 we w3 (by omega) HX.out HL0.out).mono ?_
      rintro e w4 ⟨rfl, hB4⟩
      have HY4 := hide (HY.out.below hB4 HY.out.lt)
      have HM1 := hide (HL1.out.below hB4)
      go_wp2_with fail
      refine (ended16 y n1 d1 b1 z1 we w4 (by omega) HY4.out HM1.out).mono ?_
      rintro e w5 ⟨rfl, hB5⟩
      have HB5 := hide (HB.out.trans ((hB4.mono HB.out.size).trans (hB5.mono (Nat.le_trans HB.out.size hB4.size))))
      go_wp2_with fail
      go_ret
      exact ⟨rfl, HB5.out⟩
end Go.Proofs.Qxb6604428a.Fail
