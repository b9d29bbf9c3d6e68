import Derived.Test.Qxb6604428aRows
import Derived.Test.Qxb6604428aBlk
import Derived.WalkKit
import Derived.ProofKit
import Derived.OpenShut
import Derived.Below
import Derived.WalkLawsBesides
import Derived.WalkSpells
namespace Go.Proofs.Qxb6604428a.Copy
open Go.ChangeShapes Go.WideShapes Go.ChangeAt Go.RowKit
set_option linter.unusedVariables false

/-- What the new row holds behind k rounds. -/
def mix (zs : List Int) (n k : Nat) : List Value := (zs.take k).map (Value.int .i64) ++ List.replicate (n - k) (Value.int .i64 0)
theorem mix_zero (zs : List Int) (n : Nat) : mix zs n 0 = List.replicate n (Value.int .i64 0) := by simp [mix]
theorem mix_full (zs : List Int) (n : Nat) : mix zs n n = (zs.take n).map (Value.int .i64) := by simp [mix]
theorem mix_len (zs : List Int) (n k : Nat) (hk : k ≤ n) (hz : n ≤ zs.length) : (mix zs n k).length = n := by simp [mix]; omega
theorem mix_step (zs : List Int) (n k : Nat) (hk : k < n) (hz : n ≤ zs.length) : (mix zs n k).set k (Value.int .i64 (zs.getD k 0)) = mix zs n (k + 1) := by
  have hl : ((zs.take k).map (Value.int .i64)).length = k := by simp; omega
  unfold mix
  rw [List.set_append_right _ _ (by omega), hl, Nat.sub_self, show n - k = (n - (k + 1)) + 1 from by omega, List.replicate_succ, List.set_cons_zero,
    List.take_succ_eq_append_getElem (by omega), List.map_append, List.append_assoc]
  have e : zs.getD k 0 = zs[k] := by rw [List.getD_eq_getElem?_getD, List.getElem?_eq_getElem (show k < zs.length by omega)]; rfl
  rw [e]
  rfl
theorem mix_at (zs : List Int) (n k : Nat) (hk : k < n) (hz : n ≤ zs.length) : (mix zs n k)[k]? = some (Value.int .i64 0) := by
  have hl : ((zs.take k).map (Value.int .i64)).length = k := by simp; omega
  unfold mix
  rw [List.getElem?_append_right (by omega), hl, Nat.sub_self, show n - k = (n - (k + 1)) + 1 from by omega, List.replicate_succ]
  rfl

theorem info2 : (Try.prog.info? 2).map (fun i => (i.zero, i.size, i.bytes)) = some (some (.int .i64 0), 1, 8) := by kernel_rfl
theorem info3 : (Try.prog.info? 3).map (fun i => (i.zero, i.size, i.bytes)) = some (some (.int .i64 0), 1, 8) := by kernel_rfl

set_option maxRecDepth 100000 in
theorem copy9_zero (a : Option Addr) (c : Nat) (w : World) : Calls Try.prog 9 #[.slice a 0 c] w fun e w' => (∃ a', e = .returned (.slice a' 0 0)) ∧ Below w.heap.size w w' := by
  cases a with
  | none =>
    have he := fun wx => Lib.run_eql_slice_nil (P := Try.prog) wx 22 2 none 0 c 0 0 Try.underlying22
    go_enter Try.func9, Try.ntmps9
    go_wp2
    go_ret
    exact ⟨⟨_, rfl⟩, Below.refl _ _⟩
  | some x =>
    obtain ⟨i0, hi, hz0, hz1, hz2⟩ := info_parts info2
    have hmk := run_make_blk (P := Try.prog) Try.underlying22 hi hz0 rfl hz1 0 (by rw [hz2]; omega) (by unfold maxLen; omega) w
    simp only [Int.natCast_zero] at hmk
    have he := fun wx => Lib.run_eql_slice_nil (P := Try.prog) wx 22 2 (some x) 0 c 0 0 Try.underlying22
    go_enter Try.func9, Try.ntmps9
    go_wp2
    refine wp_loop_rounds 1 ?_; rw [rounds_succ]
    go_wp2
    go_ret
    exact ⟨⟨_, rfl⟩, (Below.refl _ _).alloc (Nat.le_refl _) _⟩

set_option maxRecDepth 100000 in
set_option maxHeartbeats 400000 in
theorem copy9_some (b off n c : Nat) (zs : List Int) (w : World) (hb : b < w.heap.size) (hn : n ≤ 1048576) (hz : n ≤ zs.length)
    (hc : ∀ j, j < n → w.cell? ⟨b, off + j, none⟩ = some (.int .i64 (zs.getD j 0))) :
    Calls Try.prog 9 #[.slice (some ⟨b, off, none⟩) n c] w fun e w' => e = .returned (.slice (some ⟨w.heap.size, 0, none⟩) n n) ∧
      Below w.heap.size w w' ∧ w'.heap.size = w.heap.size + 1 ∧ RowBlk w' w.heap.size 2 ((zs.take n).map (Value.int .i64)) := by
  obtain ⟨i0, hi, hz0, hz1, hz2⟩ := info_parts info2
  have hmk := run_make_blk (P := Try.prog) Try.underlying22 hi hz0 rfl hz1 n (by rw [hz2]; omega) (by unfold maxLen; omega) w
  have he := fun wx => Lib.run_eql_slice_nil (P := Try.prog) wx 22 2 (some ⟨b, off, none⟩) n c 0 0 Try.underlying22
  go_enter Try.func9, Try.ntmps9
  go_wp2
  go_loopw [4] (fun i wr => ∃ k : Nat, k ≤ n ∧ i = .int .i64 k ∧ Below w.heap.size w wr ∧ wr.heap.size = w.heap.size + 1 ∧ RowBlk wr w.heap.size 2 (mix zs n k)) (fun i _ => n - (intOf i).toNat)
  case atStart => exact ⟨0, Nat.zero_le _, rfl, (Below.refl _ _).alloc (Nat.le_refl _) _, by simp, by rw [mix_zero]; exact RowBlk.made _ _ _⟩
  case round =>
    obtain ⟨k, hk, rfl, hB, hS, hK⟩ := hrel
    clear hmk he
    by_cases hlt : k < n
    · have c1 : wr.cell? ⟨b, off + k, none⟩ = some (.int .i64 (zs.getD k 0)) := (hB.cell (by exact hb)).trans (hc k hlt)
      have c2 : wr.cell? ⟨w.heap.size, k, none⟩ = some (.int .i64 0) := (hK.cell k).trans (mix_at zs n k hlt hz)
      have f2 : wr.frozen? ⟨w.heap.size, k, none⟩ = false := hK.frozen k
      have R := hK.set k (.int .i64 (zs.getD k 0))
      rw [mix_step zs n k hlt hz] at R
      have HR : Hid _ := R
      clear R
      go_wp2
      go_roundw
      case rel => exact ⟨k + 1, by omega, by go_num, hB.setCell (by exact Nat.le_refl _) _, by rw [heap_setCell_size]; exact hS, HR.out⟩
      case measure => simp [intOf]; omega
    · have : k = n := by omega
      subst this
      go_wp2
      go_ret
      exact ⟨rfl, hB, hS, by rw [← mix_full]; exact hK⟩
set_option maxRecDepth 100000 in
theorem copy14_zero (a : Option Addr) (c : Nat) (w : World) : Calls Try.prog 14 #[.slice a 0 c] w fun e w' => (∃ a', e = .returned (.slice a' 0 0)) ∧ Below w.heap.size w w' := by
  cases a with
  | none =>
    have he := fun wx => Lib.run_eql_slice_nil (P := Try.prog) wx 30 3 none 0 c 0 0 Try.underlying30
    go_enter Try.func14, Try.ntmps14
    go_wp2
    go_ret
    exact ⟨⟨_, rfl⟩, Below.refl _ _⟩
  | some x =>
    obtain ⟨i0, hi, hz0, hz1, hz2⟩ := info_parts info3
    have hmk := run_make_blk (P := Try.prog) Try.underlying30 hi hz0 rfl hz1 0 (by rw [hz2]; omega) (by unfold maxLen; omega) w
    simp only [Int.natCast_zero] at hmk
    have he := fun wx => Lib.run_eql_slice_nil (P := Try.prog) wx 30 3 (some x) 0 c 0 0 Try.underlying30
    go_enter Try.func14, Try.ntmps14
    go_wp2
    refine wp_loop_rounds 1 ?_; rw [rounds_succ]
    go_wp2
    go_ret
    exact ⟨⟨_, rfl⟩, (Below.refl _ _).alloc (Nat.le_refl _) _⟩

set_option maxRecDepth 100000 in
set_option maxHeartbeats 400000 in
theorem copy14_some (b off n c : Nat) (zs : List Int) (w : World) (hb : b < w.heap.size) (hn : n ≤ 1048576) (hz : n ≤ zs.length)
    (hc : ∀ j, j < n → w.cell? ⟨b, off + j, none⟩ = some (.int .i64 (zs.getD j 0))) :
    Calls Try.prog 14 #[.slice (some ⟨b, off, none⟩) n c] w fun e w' => e = .returned (.slice (some ⟨w.heap.size, 0, none⟩) n n) ∧
      Below w.heap.size w w' ∧ w'.heap.size = w.heap.size + 1 ∧ RowBlk w' w.heap.size 3 ((zs.take n).map (Value.int .i64)) := by
  obtain ⟨i0, hi, hz0, hz1, hz2⟩ := info_parts info3
  have hmk := run_make_blk (P := Try.prog) Try.underlying30 hi hz0 rfl hz1 n (by rw [hz2]; omega) (by unfold maxLen; omega) w
  have he := fun wx => Lib.run_eql_slice_nil (P := Try.prog) wx 30 3 (some ⟨b, off, none⟩) n c 0 0 Try.underlying30
  go_enter Try.func14, Try.ntmps14
  go_wp2
  go_loopw [4] (fun i wr => ∃ k : Nat, k ≤ n ∧ i = .int .i64 k ∧ Below w.heap.size w wr ∧ wr.heap.size = w.heap.size + 1 ∧ RowBlk wr w.heap.size 3 (mix zs n k)) (fun i _ => n - (intOf i).toNat)
  case atStart => exact ⟨0, Nat.zero_le _, rfl, (Below.refl _ _).alloc (Nat.le_refl _) _, by simp, by rw [mix_zero]; exact RowBlk.made _ _ _⟩
  case round =>
    obtain ⟨k, hk, rfl, hB, hS, hK⟩ := hrel
    clear hmk he
    by_cases hlt : k < n
    · have c1 : wr.cell? ⟨b, off + k, none⟩ = some (.int .i64 (zs.getD k 0)) := (hB.cell (by exact hb)).trans (hc k hlt)
      have c2 : wr.cell? ⟨w.heap.size, k, none⟩ = some (.int .i64 0) := (hK.cell k).trans (mix_at zs n k hlt hz)
      have f2 : wr.frozen? ⟨w.heap.size, k, none⟩ = false := hK.frozen k
      have R := hK.set k (.int .i64 (zs.getD k 0))
      rw [mix_step zs n k hlt hz] at R
      have HR : Hid _ := R
      clear R
      go_wp2
      go_roundw
      case rel => exact ⟨k + 1, by omega, by go_num, hB.setCell (by exact Nat.le_refl _) _, by rw [heap_setCell_size]; exact hS, HR.out⟩
      case measure => simp [intOf]; omega
    · have : k = n := by omega
      subst this
      go_wp2
      go_ret
      exact ⟨rfl, hB, hS, by rw [← mix_full]; exact hK⟩
end Go.Proofs.Qxb6604428a.Copy
