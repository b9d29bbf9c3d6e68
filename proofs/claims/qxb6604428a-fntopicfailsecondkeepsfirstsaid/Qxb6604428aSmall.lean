import Derived.Test.Qxb6604428aOut24
namespace Go.Proofs.Qxb6604428a.Fail
open Go.ChangeShapes Go.WideShapes Go.ChangeAt Go.RowKit Go.Conc
set_option linter.unusedVariables false

theorem ret_bool {a b : Bool} (h : a = b) : Ending.returned (.bool a) = .returned (.bool b) := by rw [h]

/-- What an ended Pending's row reads as: x: what was left of it before. -/
def endRow (we : Bool) (x : Int) : List Value := [.int .i64 0, .bool (we && (x != 0)), .bool (we && (x != 0)), .bool true, .bool (x != 0)]

set_option maxRecDepth 100000 in
set_option maxHeartbeats 1000000 in
theorem ended16 (ob n c : Nat) (a : Option Addr) (zs : List Int) (we : Bool) (w : World) (hn : n ≤ 131072) (hO : Strip w ob 75 5 n (fun i => endRow we (zs.getD i 0))) (hI : Ints w a n zs) :
    Calls Try.prog 16 #[.slice (some ⟨ob, 0, none⟩) n n, .slice a n c, .bool we] w fun e w' => e = .returned (.bool true) ∧ Below w.heap.size w w' := by
  have hnn : ((n : Int) == (n : Int)) = true := beq_iff_eq.2 rfl
  have HO := hide hO
  have HI := hide hI
  clear hO hI
  go_enter Try.func16, Try.ntmps16
  go_wp2
  go_loopw [7] (fun i wr => ∃ k : Nat, k ≤ n ∧ i = .int .i64 k ∧ Below w.heap.size w wr) (fun i _ => n - (intOf i).toNat)
  case atStart => exact ⟨0, Nat.zero_le _, rfl, Below.refl _ _⟩
  case round =>
    obtain ⟨k, hk, rfl, hB⟩ := hrel
    by_cases hlt : k < n
    · obtain ⟨b, off, rfl, hb, hz, hc⟩ := HI.out (by omega)
      have c1 : wr.cell? ⟨b, off + k, none⟩ = some (.int .i64 (zs.getD k 0)) := (hB.cell (by exact hb)).trans (hc k hlt)
      have hO := HO.out.below hB HO.out.lt
      have g0 := hO.cell (j := 0) hlt (by omega)
      have g1 := hO.cell (j := 1) hlt (by omega)
      have g2 := hO.cell (j := 2) hlt (by omega)
      have g3 := hO.cell (j := 3) hlt (by omega)
      have g4 := hO.cell (j := 4) hlt (by omega)
      simp only [Nat.add_zero, endRow, List.getElem?_cons_zero, List.getElem?_cons_succ] at g0 g1 g2 g3 g4
      clear hO hc
      generalize zs.getD k 0 = x at *
      have hend : ∀ o, Below w.heap.size w (wr.alloc o) := fun o => hB.alloc hB.size o
      have HE := hide hend
      clear hend
      by_cases hx : x = 0
      · subst hx
        have e0 : ((0 : Int) != 0) = false := rfl
        rw [e0] at g1 g2 g4
        cases we
        all_goals
          go_wp2
          go_roundw
          case rel => exact ⟨k + 1, by omega, by go_num, HE.out _⟩
          case measure => simp [intOf]; omega
      · have e0 : (x != 0) = true := by rw [bne_iff_ne]; exact hx
        have e1 : (x == 0) = false := beq_eq_false_iff_ne.2 hx
        rw [e0] at g1 g2 g4
        cases we
        all_goals
          go_wp2
          go_roundw
          case rel => exact ⟨k + 1, by omega, by go_num, HE.out _⟩
          case measure => simp [intOf]; omega
    · go_wp2
      go_ret
      exact ⟨rfl, hB⟩

theorem new22 (s : ByteArray) (w : World) :
    Calls Try.prog 22 #[.string s] w fun e w' => e = .returned (.iface 93 (.pointer (some ⟨w.heap.size, 0, none⟩))) ∧ w' = w.alloc (.cells #[.string s] 95) := by
  go_enter Try.func22, Try.ntmps22
  go_wp2
  go_ret
  exact ⟨rfl, rfl⟩
def allNN (zs : List Int) (n : Nat) : Prop := ∀ j, j < n → 0 ≤ zs.getD j 0
def NNpost (zs : List Int) (n : Nat) (w : World) (e : Ending) (w' : World) : Prop := ∃ r, e = .returned (.bool r) ∧ w' = w ∧ (r = true → allNN zs n)
theorem nonneg13 (a : Option Addr) (n c : Nat) (zs : List Int) (w : World) (hn : n ≤ 1048576) (hI : Ints w a n zs) :
    Calls Try.prog 13 #[.slice a n c] w (NNpost zs n w) := by
  have HI := hide hI
  clear hI
  go_enter Try.func13, Try.ntmps13
  go_wp2
  go_loop [3] (fun i => ∃ k : Nat, k ≤ n ∧ i = .int .i64 k ∧ allNN zs k) (fun i => n - (intOf i).toNat)
  case atStart => exact ⟨0, Nat.zero_le _, rfl, fun j hj => by omega⟩
  case round =>
    obtain ⟨k, hk, rfl, hA⟩ := hrel
    by_cases hlt : k < n
    · obtain ⟨b, off, rfl, hb, hz, hc⟩ := HI.out (by omega)
      have c1 := hc k hlt
      clear hc
      by_cases hx : zs.getD k 0 < 0
      · generalize zs.getD k 0 = x at *
        go_wp2
        go_ret
        exact ⟨_, rfl, rfl, fun h => by simp at h⟩
      · have HA := hide (show allNN zs (k + 1) from fun j hj => by
          by_cases e : j = k
          · subst e; omega
          · exact hA j (by omega))
        clear hA
        generalize zs.getD k 0 = x at *
        go_wp2
        go_round
        case rel => exact ⟨k + 1, by omega, by go_num, HA.out⟩
        case measure => simp [intOf]; omega
    · obtain rfl : k = n := by omega
      go_wp2
      go_ret
      exact ⟨_, rfl, rfl, fun _ => hA⟩
theorem bytes12 (a0 : Option Addr) (n0 c0 : Nat) (a1 : Option Addr) (n1 c1 : Nat) (q : Bool) (w : World) (h0 : n0 ≤ maxLen) (h1 : n1 ≤ maxLen) :
    Calls Try.prog 12 #[.slice a0 n0 c0, .slice a1 n1 c1, .bool q] w fun e w' => e = .returned (.bool (decide (n0 + n1 ≤ 1048576))) ∧ w' = w := by
  unfold maxLen at h0 h1
  by_cases h2 : n0 ≤ 1048576
  · by_cases h3 : n1 ≤ 1048576
    · by_cases h4 : n0 + n1 ≤ 1048576
      · go_enter Try.func12, Try.ntmps12
        go_wp2
        go_ret
        exact ⟨ret_bool (by simp; omega), rfl⟩
      · go_enter Try.func12, Try.ntmps12
        go_wp2
        go_ret
        exact ⟨ret_bool (by simp; omega), rfl⟩
    · go_enter Try.func12, Try.ntmps12
      go_wp2
      go_ret
      exact ⟨ret_bool (by simp; omega), rfl⟩
  · go_enter Try.func12, Try.ntmps12
    go_wp2
    go_ret
    exact ⟨ret_bool (by simp; omega), rfl⟩
end Go.Proofs.Qxb6604428a.Fail
