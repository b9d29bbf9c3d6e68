import Derived.Test.Qxb6604428aFail18
namespace Go.Proofs.Qxb6604428a.Fail
open Go.ChangeShapes Go.WideShapes Go.ChangeAt Go.RowKit Go.Conc
set_option linter.unusedVariables false

theorem bytes17 (a0 : Option Addr) (n0 c0 : Nat) (a1 : Option Addr) (n1 c1 : Nat) (a2 : Option Addr) (n2 c2 : Nat) (w : World) (h0 : n0 ≤ maxLen) (h1 : n1 ≤ maxLen) (h2 : n2 ≤ maxLen) :
    Calls Try.prog 17 #[.slice a0 n0 c0, .slice a1 n1 c1, .slice a2 n2 c2] w fun e w' => e = .returned (.bool (decide (n0 + n1 + n2 ≤ 1048576))) ∧ w' = w := by
  unfold maxLen at h0 h1 h2
  by_cases k0 : n0 ≤ 1048576
  · by_cases k1 : n1 ≤ 1048576
    · by_cases k2 : n0 + n1 ≤ 1048576
      · by_cases k3 : n2 ≤ 1048576
        · by_cases k4 : n0 + n1 + n2 ≤ 1048576
          all_goals
            go_enter Try.func17, Try.ntmps17
            go_wp2
            go_ret
            exact ⟨ret_bool (by simp; omega), rfl⟩
        · go_enter Try.func17, Try.ntmps17
          go_wp2
          go_ret
          exact ⟨ret_bool (by simp; omega), rfl⟩
      · go_enter Try.func17, Try.ntmps17
        go_wp2
        go_ret
        exact ⟨ret_bool (by simp; omega), rfl⟩
    · go_enter Try.func17, Try.ntmps17
      go_wp2
      go_ret
      exact ⟨ret_bool (by simp; omega), rfl⟩
  · go_enter Try.func17, Try.ntmps17
    go_wp2
    go_ret
    exact ⟨ret_bool (by simp; omega), rfl⟩

set_option maxRecDepth 100000 in
theorem law7_early (a0 : Option Addr) (n0 c0 : Nat) (a1 : Option Addr) (n1 c1 : Nat) (a2 : Option Addr) (n2 c2 : Nat) (w : World) (h0 : n0 ≤ maxLen) (h1 : n1 ≤ maxLen) (h2 : n2 ≤ maxLen) (h : 131072 < n0 + n1 + n2) :
    Calls Try.prog 7 #[.slice a0 n0 c0, .slice a1 n1 c1, .slice a2 n2 c2] w fun e w' => e = .returned (.bool true) ∧ w' = w := by
  by_cases hb : n0 + n1 + n2 ≤ 1048576
  · have H8 := bytes17 a0 n0 c0 a1 n1 c1 a2 n2 c2 w h0 h1 h2
    rw [decide_eq_true hb] at H8
    clear h0 h1 h2
    by_cases hx : (131072 : Int) < n0
    · go_enter Try.func7, Try.ntmps7
      go_wp2_with (go_at_call 17; refine H8.mono ?_; rintro e w' ⟨rfl, rfl⟩)
      go_ret
      exact ⟨rfl, rfl⟩
    · by_cases hy : (131072 : Int) < n1
      · go_enter Try.func7, Try.ntmps7
        go_wp2_with (go_at_call 17; refine H8.mono ?_; rintro e w' ⟨rfl, rfl⟩)
        go_ret
        exact ⟨rfl, rfl⟩
      · by_cases hu : (131072 : Int) < n2
        · go_enter Try.func7, Try.ntmps7
          go_wp2_with (go_at_call 17; refine H8.mono ?_; rintro e w' ⟨rfl, rfl⟩)
          go_ret
          exact ⟨rfl, rfl⟩
        · have hz' : (1048576 : Int) < (↑n0 + ↑n1 + ↑n2) * 8 := by omega
          go_enter Try.func7, Try.ntmps7
          go_wp2_with (go_at_call 17; refine H8.mono ?_; rintro e w' ⟨rfl, rfl⟩)
          go_ret
          exact ⟨rfl, rfl⟩
  · have H8 := bytes17 a0 n0 c0 a1 n1 c1 a2 n2 c2 w h0 h1 h2
    rw [decide_eq_false hb] at H8
    go_enter Try.func7, Try.ntmps7
    go_wp2_with (go_at_call 17; refine H8.mono ?_; rintro e w' ⟨rfl, rfl⟩)
    go_ret
    exact ⟨rfl, rfl⟩

set_option maxRecDepth 100000 in
set_option maxHeartbeats 1000000 in
theorem law7_main (a0 : Option Addr) (n0 c0 : Nat) (z0 : List Int) (a1 : Option Addr) (n1 c1 : Nat) (z1 : List Int) (a2 : Option Addr) (n2 c2 : Nat) (z2 : List Int) (w : World) (h : n0 + n1 + n2 ≤ 131072) (h0 : Ints w a0 n0 z0) (h1 : Ints w a1 n1 z1) (h2 : Ints w a2 n2 z2) :
    Calls Try.prog 7 #[.slice a0 n0 c0, .slice a1 n1 c1, .slice a2 n2 c2] w fun e w' => e = .returned (.bool true) ∧ Below w.heap.size w w' := by
  have H8 := bytes17 a0 n0 c0 a1 n1 c1 a2 n2 c2 w (by unfold maxLen; omega) (by unfold maxLen; omega) (by unfold maxLen; omega)
  rw [decide_eq_true (by omega)] at H8
  have hz' : ¬ (1048576 : Int) < (↑n0 + ↑n1 + ↑n2) * 8 := by omega
  have hx : ¬ (131072 : Int) < n0 := by omega
  have hy : ¬ (131072 : Int) < n1 := by omega
  have hu : ¬ (131072 : Int) < n2 := by omega
  have H0 := hide h0
  have H1 := hide h1
  have H2 := hide h2
  clear h0 h1 h2
  go_enter Try.func7, Try.ntmps7
  go_wp2_with (go_at_call 17; refine H8.mono ?_; rintro e w' ⟨rfl, hw⟩; subst w')
  clear H8
  refine (nonneg13 a0 n0 c0 z0 w (by omega) H0.out).mono ?_
  rintro e w' ⟨r0, rfl, hw, _⟩
  subst w'
  cases r0
  · go_wp2_with fail
    go_ret
    exact ⟨rfl, Below.refl _ _⟩
  · go_wp2_with fail
    refine (nonneg13 a1 n1 c1 z1 w (by omega) H1.out).mono ?_
    rintro e w' ⟨r1, rfl, hw, _⟩
    subst w'
    cases r1
    · go_wp2_with fail
      go_ret
      exact ⟨rfl, Below.refl _ _⟩
    · go_wp2_with fail
      refine (nonneg13 a2 n2 c2 z2 w (by omega) H2.out).mono ?_
      rintro e w' ⟨r2, rfl, hw, _⟩
      subst w'
      cases r2
      · go_wp2_with fail
        go_ret
        exact ⟨rfl, Below.refl _ _⟩
      · go_wp2_with fail
        refine (copy14_any a0 n0 c0 z0 w (by omega) H0.out).mono ?_
        rintro e w1 ⟨b0, d0, rfl, hB1, hI0⟩
        have HI0 := hide hI0
        have HI1 := hide (H1.out.below hB1)
        have HI2 := hide (H2.out.below hB1)
        clear hI0
        go_wp2_with fail
        refine (copy14_any a1 n1 c1 z1 w1 (by omega) HI1.out).mono ?_
        rintro e w2 ⟨b1, d1, rfl, hB2, hI1⟩
        have HJ0 := hide (HI0.out.below hB2)
        have HJ1 := hide hI1
        have HJ2 := hide (HI2.out.below hB2)
        clear hI1
        go_wp2_with fail
        refine (copy14_any a2 n2 c2 z2 w2 (by omega) HJ2.out).mono ?_
        rintro e w3 ⟨b2, d2, rfl, hB3, hI2⟩
        have HK0 := hide (HJ0.out.below hB3)
        have HK1 := hide (HJ1.out.below hB3)
        have HK2 := hide hI2
        clear hI2
        have HB3 := hide (hB1.trans ((hB2.mono hB1.size).trans (hB3.mono (Nat.le_trans hB1.size hB2.size))))
        clear hB1 hB2 hB3
        go_wp2_with fail
        refine (fail18 b0 n0 d0 z0 b1 n1 d1 z1 b2 n2 d2 z2 w3 (by omega) (by omega) (by omega) HK0.out HK1.out HK2.out).mono ?_
        rintro e w4 ⟨x, y, l, rfl, hX, hY, hL, hB4⟩
        have HL0 := hide (HK0.out.below hB4)
        have HL1 := hide (HK1.out.below hB4)
        have HL2 := hide (HK2.out.below hB4)
        have HX := hide hX
        have HY := hide hY
        have HL := hide hL
        have HB4 := hide (HB3.out.trans (hB4.mono HB3.out.size))
        clear hX hY hL hB4
        go_wp2_with fail
        refine (ended16 x n0 d0 b0 z0 true w4 (by omega) HX.out HL0.out).mono ?_
        rintro e w5 ⟨rfl, hB5⟩
        have HY5 := hide (HY.out.below hB5 HY.out.lt)
        have HZ5 := hide (HL.out.below hB5 HL.out.lt)
        have HM1 := hide (HL1.out.below hB5)
        have HM2 := hide (HL2.out.below hB5)
        have HB5 := hide (HB4.out.trans (hB5.mono HB4.out.size))
        clear hB5
        go_wp2_with fail
        refine (ended16 y n1 d1 b1 z1 true w5 (by omega) HY5.out HM1.out).mono ?_
        rintro e w6 ⟨rfl, hB6⟩
        have HZ6 := hide (HZ5.out.below hB6 HZ5.out.lt)
        have HN2 := hide (HM2.out.below hB6)
        have HB6 := hide (HB5.out.trans (hB6.mono HB5.out.size))
        clear hB6
        go_wp2_with fail
        refine (ended16 l n2 d2 b2 z2 false w6 (by omega) HZ6.out HN2.out).mono ?_
        rintro e w7 ⟨rfl, hB7⟩
        have HB7 := hide (HB6.out.trans (hB7.mono HB6.out.size))
        clear hB7
        go_wp2_with fail
        go_ret
        exact ⟨rfl, HB7.out⟩
end Go.Proofs.Qxb6604428a.Fail
