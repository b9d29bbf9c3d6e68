import Derived.Test.Qxb6604428aIdxLaw
import Derived.Test.Qxb6604428aCopy
import Derived.Deep.QuietTactic
import Derived.BigQuiet
import Derived.RegionTactic
import Derived.Deep.RegionWith
namespace Go.Proofs.Qxb6604428a.Idx
open Go.ChangeShapes Go.WideShapes Go.ChangeAt Go.RowKit Go.Proofs.Qxb6604428a.Copy
set_option linter.unusedVariables false

set_option maxRecDepth 100000 in
theorem law3_early (a0 : Option Addr) (n0 c0 : Nat) (a1 : Option Addr) (n1 c1 : Nat) (q : Int) (w : World) (h0 : n0 ≤ maxLen) (h1 : n1 ≤ maxLen) (h : 131072 < n0 + n1 ∨ n0 ≠ n1) :
    Calls Try.prog 3 #[.slice a0 n0 c0, .slice a1 n1 c1, .int .i64 q] w fun e w' => e = .returned (.bool true) ∧ w' = w := by
  by_cases hb : n0 + n1 ≤ 1048576
  · have H8 := bytes8 a0 n0 c0 a1 n1 c1 q w h0 h1
    rw [decide_eq_true hb] at H8
    clear h0 h1
    by_cases hx : (131072 : Int) < n0
    · go_enter Try.func3, Try.ntmps3
      go_wp2_with (go_at_call 8; refine H8.mono ?_; rintro e w' ⟨rfl, rfl⟩)
      go_ret
      exact ⟨rfl, rfl⟩
    · by_cases hy : (131072 : Int) < n1
      · go_enter Try.func3, Try.ntmps3
        go_wp2_with (go_at_call 8; refine H8.mono ?_; rintro e w' ⟨rfl, rfl⟩)
        go_ret
        exact ⟨rfl, rfl⟩
      · by_cases hz : (131072 : Int) < n0 + n1
        · have hz' : (1048576 : Int) < (↑n0 + ↑n1) * 8 := by omega
          go_enter Try.func3, Try.ntmps3
          go_wp2_with (go_at_call 8; refine H8.mono ?_; rintro e w' ⟨rfl, rfl⟩)
          go_ret
          exact ⟨rfl, rfl⟩
        · have hz' : ¬ (1048576 : Int) < (↑n0 + ↑n1) * 8 := by omega
          have hne : ((n0 : Int) == (n1 : Int)) = false := by rw [beq_eq_false_iff_ne]; omega
          clear h
          go_enter Try.func3, Try.ntmps3
          go_wp2_with (go_at_call 8; refine H8.mono ?_; rintro e w' ⟨rfl, rfl⟩)
          go_ret
          exact ⟨rfl, rfl⟩
  · have H8 := bytes8 a0 n0 c0 a1 n1 c1 q w h0 h1
    rw [decide_eq_false hb] at H8
    go_enter Try.func3, Try.ntmps3
    go_wp2_with (go_at_call 8; refine H8.mono ?_; rintro e w' ⟨rfl, rfl⟩)
    go_ret
    exact ⟨rfl, rfl⟩

set_option maxRecDepth 100000 in
theorem law3_zero (a0 : Option Addr) (c0 : Nat) (a1 : Option Addr) (c1 : Nat) (q : Int) (w : World) :
    Calls Try.prog 3 #[.slice a0 0 c0, .slice a1 0 c1, .int .i64 q] w fun e w' => e = .returned (.bool true) ∧ Below w.heap.size w w' := by
  have H8 := bytes8 a0 0 c0 a1 0 c1 q w (Nat.zero_le _) (Nat.zero_le _)
  rw [decide_eq_true (by omega)] at H8
  go_enter Try.func3, Try.ntmps3
  go_wp2_with (go_at_call 8; refine H8.mono ?_; rintro e w' ⟨rfl, rfl⟩)
  refine wp_loop_rounds 1 ?_; rw [rounds_succ]
  go_wp2_with fail
  refine (copy9_zero _ _ _).mono ?_
  rintro e w1 ⟨⟨a2, rfl⟩, hB1⟩
  go_wp2_with fail
  refine (copy9_zero _ _ _).mono ?_
  rintro e w2 ⟨⟨a3, rfl⟩, hB2⟩
  go_wp2_with fail
  refine wp_loop_rounds 1 ?_; rw [rounds_succ]
  go_wp2_with fail
  refine wp_loop_rounds 1 ?_; rw [rounds_succ]
  go_wp2_with fail
  go_ret
  exact ⟨rfl, hB1.trans (hB2.mono hB1.size)⟩
end Go.Proofs.Qxb6604428a.Idx
