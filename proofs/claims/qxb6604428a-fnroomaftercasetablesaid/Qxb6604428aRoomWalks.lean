import Derived.Test.Qxb6604428aRows
import Derived.WalkKit
import Derived.ProofKit
import Derived.OpenShut
namespace Go.Proofs.Qxb6604428a.fnRoomAfterCaseTable
open Go.ChangeShapes Go.WideShapes Go.ChangeAt Go.RowKit
set_option linter.unusedVariables false
/-! ### THE PLAIN LAW -/
def room (a : Int) : Int := if a < 16384 then 4096 else if 262148 ≤ a then 65536 else a / 4

theorem quo_le (a : Int) (h : a < 16384) (l : -9223372036854775808 ≤ a) : wrap64 (a.tdiv 4) < 4096 := by
  unfold wrap64
  by_cases h0 : 0 ≤ a
  · rw [Int.tdiv_eq_ediv_of_nonneg h0]; omega
  · obtain ⟨b, rfl⟩ : ∃ b, a = -b := ⟨-a, by omega⟩
    rw [Int.neg_tdiv, Int.tdiv_eq_ediv_of_nonneg (by omega)]; omega
theorem quo_ge (a : Int) (h : 16384 ≤ a) (l : a ≤ 9223372036854775807) : wrap64 (a.tdiv 4) = a / 4 := by
  unfold wrap64
  rw [Int.tdiv_eq_ediv_of_nonneg (by omega)]; omega
theorem ret_int {k : IntKind} {a b : Int} (h : a = b) : Ending.returned (.int k a) = .returned (.int k b) := by rw [h]
theorem ret_bool {a : Bool} (h : a = true) : Ending.returned (.bool a) = .returned (.bool true) := by rw [h]

/-! ### STEP 1: THE WALKS -/
theorem room20 (a : Int) (w0 : (Lit.int .i64 a).wf = true) (w : World) :
    Calls Try.prog 20 #[.int .i64 a] w fun e w' => e = .returned (.int .i64 (room a)) ∧ w' = w := by
  have hb := bounds_i64 w0
  by_cases h : a < 16384
  · have hq := quo_le a h hb.1
    have hw : (if wrap64 (a.tdiv 4) < 4096 then (4096 : Int) else wrap64 (a.tdiv 4)) ≤ 65536 := by rw [if_pos hq]; omega
    clear hb
    go_enter Try.func20, Try.ntmps20
    go_wp2
    go_ret
    exact ⟨ret_int (by unfold room; rw [if_pos h]), rfl⟩
  · have hq := quo_ge a (by omega) hb.2
    have hn : ¬ wrap64 (a.tdiv 4) < 4096 := by rw [hq]; omega
    by_cases h2 : 262148 ≤ a
    · have hw : ¬ (if wrap64 (a.tdiv 4) < 4096 then (4096 : Int) else wrap64 (a.tdiv 4)) ≤ 65536 := by
        rw [if_neg hn, hq]; omega
      clear hq hb
      go_enter Try.func20, Try.ntmps20
      go_wp2
      go_ret
      exact ⟨ret_int (by unfold room; rw [if_neg (by omega), if_pos h2]), rfl⟩
    · have hw : (if wrap64 (a.tdiv 4) < 4096 then (4096 : Int) else wrap64 (a.tdiv 4)) ≤ 65536 := by
        rw [if_neg hn, hq]; omega
      have HQ : Hid (wrap64 (a.tdiv 4) = a / 4) := hq
      clear hq hb
      go_enter Try.func20, Try.ntmps20
      go_wp2
      go_ret
      exact ⟨ret_int (by unfold room; rw [if_neg (by omega), if_neg (by omega)]), rfl⟩
theorem room11 (a : Int) (w0 : (Lit.int .i64 a).wf = true) (w : World) :
    Calls Try.prog 11 #[.int .i64 a] w fun e w' => e = .returned (.int .i64 (room a)) ∧ w' = w := by
  go_enter Try.func11, Try.ntmps11
  go_wp2_with (go_at_call 20; refine (room20 _ w0 _).mono ?_; rintro e w' ⟨rfl, rfl⟩)
  go_ret
  exact ⟨rfl, rfl⟩
theorem walk (a0 : Int) (w0 : (Lit.int .i64 a0).wf = true) (w : World) :
    Calls Try.prog 4 #[.int .i64 a0] w fun e w' => e = .returned (.bool true) ∧ Grown w w' := by
  by_cases h : a0 < 16384
  · have H : Hid (room a0 = 4096) := show room a0 = 4096 by unfold room; rw [if_pos h]
    go_enter Try.func4, Try.ntmps4
    go_wp2_with (go_at_call 11; refine (room11 _ w0 _).mono ?_; rintro e w' ⟨rfl, rfl⟩)
    go_ret
    exact ⟨ret_bool (by rw [H.out]; rfl), Grown.refl _⟩
  · by_cases h2 : 262144 ≤ a0
    · have H : Hid (room a0 = 65536) := show room a0 = 65536 by unfold room; rw [if_neg h]; split <;> omega
      go_enter Try.func4, Try.ntmps4
      go_wp2_with (go_at_call 11; refine (room11 _ w0 _).mono ?_; rintro e w' ⟨rfl, rfl⟩)
      go_ret
      exact ⟨ret_bool (by rw [H.out]; simp), Grown.refl _⟩
    · have hr : room a0 = a0 / 4 := by unfold room; rw [if_neg h, if_neg (by omega)]
      have r1 : 4096 ≤ room a0 := by omega
      have r2 : room a0 ≤ 65536 := by omega
      have r3 : 4 * room a0 ≤ a0 := by omega
      have r4 : a0 < 4 * room a0 + 4 := by omega
      clear hr
      go_enter Try.func4, Try.ntmps4
      go_wp2_with (go_at_call 11; refine (room11 _ w0 _).mono ?_; rintro e w' ⟨rfl, rfl⟩)
      go_ret
      exact ⟨ret_bool (by simp), Grown.refl _⟩
end Go.Proofs.Qxb6604428a.fnRoomAfterCaseTable
