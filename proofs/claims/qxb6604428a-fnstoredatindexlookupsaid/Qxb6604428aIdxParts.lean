import Derived.Test.Qxb6604428aRows
import Derived.WalkKit
import Derived.ProofKit
import Derived.OpenShut
namespace Go.Proofs.Qxb6604428a.Idx
open Go.ChangeShapes Go.WideShapes Go.ChangeAt Go.RowKit
set_option linter.unusedVariables false

theorem ret_int {k : IntKind} {a b : Int} (h : a = b) : Ending.returned (.int k a) = .returned (.int k b) := by rw [h]
theorem ret_bool {a b : Bool} (h : a = b) : Ending.returned (.bool a) = .returned (.bool b) := by rw [h]

theorem stored19_eq (o s q : Int) (h : o = q) (w : World) :
    Calls Try.prog 19 #[.agg #[.int .i64 o, .int .i64 s], .int .i64 q] w fun e w' => e = .returned (.int .i64 s) ∧ w' = w.alloc (.cells #[.int .i64 o, .int .i64 s] 42) := by
  subst h
  go_enter Try.func19, Try.ntmps19
  go_wp2
  go_ret
  exact ⟨rfl, rfl⟩
theorem stored19_ne (o s q : Int) (h : o ≠ q) (w : World) :
    Calls Try.prog 19 #[.agg #[.int .i64 o, .int .i64 s], .int .i64 q] w fun e w' => e = .returned (.int .i64 0) ∧ w' = w.alloc (.cells #[.int .i64 o, .int .i64 s] 42) := by
  have hb : (o == q) = false := beq_eq_false_iff_ne.2 h
  go_enter Try.func19, Try.ntmps19
  go_wp2
  go_ret
  exact ⟨rfl, rfl⟩
def answer (o s q : Int) : Int := if o = q then s else 0
theorem stored19 (o s q : Int) (w : World) :
    Calls Try.prog 19 #[.agg #[.int .i64 o, .int .i64 s], .int .i64 q] w fun e w' => e = .returned (.int .i64 (answer o s q)) ∧ w' = w.alloc (.cells #[.int .i64 o, .int .i64 s] 42) := by
  by_cases h : o = q
  · have e : answer o s q = s := if_pos h
    rw [e]; exact stored19_eq o s q h w
  · have e : answer o s q = 0 := if_neg h
    rw [e]; exact stored19_ne o s q h w
theorem stored10 (o s q : Int) (w : World) :
    Calls Try.prog 10 #[.int .i64 o, .int .i64 s, .int .i64 q] w fun e w' => e = .returned (.int .i64 (answer o s q)) ∧ w' = w.alloc (.cells #[.int .i64 o, .int .i64 s] 42) := by
  go_enter Try.func10, Try.ntmps10
  go_wp2_with (go_at_call 19; refine (stored19 _ _ _ _).mono ?_; rintro e w' ⟨rfl, rfl⟩)
  go_ret
  exact ⟨rfl, rfl⟩

theorem bytes8 (a0 : Option Addr) (n0 c0 : Nat) (a1 : Option Addr) (n1 c1 : Nat) (q : Int) (w : World) (h0 : n0 ≤ maxLen) (h1 : n1 ≤ maxLen) :
    Calls Try.prog 8 #[.slice a0 n0 c0, .slice a1 n1 c1, .int .i64 q] w fun e w' => e = .returned (.bool (decide (n0 + n1 ≤ 1048576))) ∧ w' = w := by
  unfold maxLen at h0 h1
  by_cases h2 : n0 ≤ 1048576
  · by_cases h3 : n1 ≤ 1048576
    · by_cases h4 : n0 + n1 ≤ 1048576
      · go_enter Try.func8, Try.ntmps8
        go_wp2
        go_ret
        exact ⟨ret_bool (by simp; omega), rfl⟩
      · go_enter Try.func8, Try.ntmps8
        go_wp2
        go_ret
        exact ⟨ret_bool (by simp; omega), rfl⟩
    · go_enter Try.func8, Try.ntmps8
      go_wp2
      go_ret
      exact ⟨ret_bool (by simp; omega), rfl⟩
  · go_enter Try.func8, Try.ntmps8
    go_wp2
    go_ret
    exact ⟨ret_bool (by simp; omega), rfl⟩
end Go.Proofs.Qxb6604428a.Idx
