import Derived.Test.Qxb6604569aFmtCheck
namespace Go.Proofs.Qxb6604569aFmt.Par
open Go.ChangeShapes Go.WideShapes Go.ChangeAt Go.RowKit
set_option linter.unusedVariables false

/-- What the new row holds behind k rounds. -/
def mix (zs : List Int) (n k : Nat) : List Value := (zs.take k).map (Value.int .u8) ++ List.replicate (n - k) (Value.int .u8 0)
theorem mix_zero (zs : List Int) (n : Nat) : mix zs n 0 = List.replicate n (Value.int .u8 0) := by simp [mix]
theorem mix_full (zs : List Int) (n : Nat) : mix zs n n = (zs.take n).map (Value.int .u8) := by simp [mix]
theorem mix_step (zs : List Int) (n k : Nat) (hk : k < n) (hz : n ≤ zs.length) : (mix zs n k).set k (Value.int .u8 (zs.getD k 0)) = mix zs n (k + 1) := by
  have hl : ((zs.take k).map (Value.int .u8)).length = k := by simp; omega
  unfold mix
  rw [List.set_append_right _ _ (by omega), hl, Nat.sub_self, show n - k = (n - (k + 1)) + 1 from by omega, List.replicate_succ, List.set_cons_zero,
    List.take_succ_eq_append_getElem (by omega), List.map_append, List.append_assoc]
  have e : zs.getD k 0 = zs[k] := by rw [List.getD_eq_getElem?_getD, List.getElem?_eq_getElem (show k < zs.length by omega)]; rfl
  rw [e]
  rfl
theorem mix_at (zs : List Int) (n k : Nat) (hk : k < n) (hz : n ≤ zs.length) : (mix zs n k)[k]? = some (Value.int .u8 0) := by
  have hl : ((zs.take k).map (Value.int .u8)).length = k := by simp; omega
  unfold mix
  rw [List.getElem?_append_right (by omega), hl, Nat.sub_self, show n - k = (n - (k + 1)) + 1 from by omega, List.replicate_succ]
  rfl
theorem getD_at (zs : List Int) (j : Nat) (h : j < zs.length) : zs[j] = zs.getD j 0 := by
  rw [List.getD_eq_getElem?_getD, List.getElem?_eq_getElem h]; rfl
theorem row_cell {w : World} {b e n : Nat} {zs : List Int} (h : RowBlk w b e ((zs.take n).map (Value.int .u8))) (j : Nat) (hj : j < n) (hz : n ≤ zs.length) : w.cell? ⟨b, j, none⟩ = some (.int .u8 (zs.getD j 0)) := by
  rw [h.cell, List.getElem?_map, List.getElem?_take, if_pos hj, List.getElem?_eq_getElem (by omega), getD_at _ _ (by omega)]; rfl

/-- What the copy is. -/
def CPost (w : World) (n : Nat) (zs : List Int) (e : Ending) (w' : World) : Prop :=
  ∃ sa S c', e = .returned (.slice sa n c') ∧ n ≤ c' ∧ (0 < n → sa = some ⟨S, 0, none⟩) ∧ S < w'.heap.size ∧ (∀ j, j < n → w'.cell? ⟨S, j, none⟩ = some (.int .u8 (zs.getD j 0))) ∧ Below w.heap.size w w'

set_option maxRecDepth 100000 in
theorem clone_nil (zs : List Int) (w : World) (h0 : 0 < w.heap.size) : Calls Tryf.prog 11 #[.slice none 0 0] w (CPost w 0 zs) := by
  have he := fun wx => Lib.run_eql_slice_nil (P := Tryf.prog) wx 29 5 none 0 0 0 0 Tryf.underlying29
  have HX := hide (p := CPost w 0 zs (.returned (.slice none 0 0)) w) ⟨none, 0, 0, rfl, Nat.le_refl _, fun h => by omega, h0, fun j hj => by omega, Below.refl _ _⟩
  go_enter Tryf.func11, Tryf.ntmps11
  go_wp2
  go_ret
  exact HX.out

set_option maxRecDepth 100000 in
theorem clone_zero (x : Addr) (c : Nat) (zs : List Int) (w : World) (h0 : 0 < w.heap.size) : Calls Tryf.prog 11 #[.slice (some x) 0 c] w (CPost w 0 zs) := by
  obtain ⟨i0, hi, hz0, hz1, hz2⟩ := info_parts info5
  have hmk := run_make_blk (P := Tryf.prog) Tryf.underlying29 hi hz0 rfl hz1 0 (by rw [hz2]; omega) (by unfold maxLen; omega) w
  simp only [Int.natCast_zero] at hmk
  have he := fun wx => Lib.run_eql_slice_nil (P := Tryf.prog) wx 29 5 (some x) 0 c 0 0 Tryf.underlying29
  have HX := hide (p := CPost w 0 zs (.returned (.slice (some ⟨w.heap.size, 0, none⟩) 0 0)) (w.alloc (.cells (List.replicate 0 (Value.int .u8 0)).toArray 5))) ⟨_, 0, 0, rfl, Nat.le_refl _, fun h => by omega, by simp, fun j hj => by omega, (Below.refl _ _).alloc (Nat.le_refl _) _⟩
  go_enter Tryf.func11, Tryf.ntmps11
  go_wp2
  refine wp_loop_rounds 1 ?_; rw [rounds_succ]
  go_wp2
  go_ret
  exact HX.out

set_option maxRecDepth 100000 in
set_option maxHeartbeats 400000 in
theorem clone_some (b off n c : Nat) (zs : List Int) (w : World) (hb : b < w.heap.size) (hn : n ≤ 1048576) (hz : n ≤ zs.length)
    (hc : ∀ j, j < n → w.cell? ⟨b, off + j, none⟩ = some (.int .u8 (zs.getD j 0))) :
    Calls Tryf.prog 11 #[.slice (some ⟨b, off, none⟩) n c] w (CPost w n zs) := by
  obtain ⟨i0, hi, hz0, hz1, hz2⟩ := info_parts info5
  have hmk := run_make_blk (P := Tryf.prog) Tryf.underlying29 hi hz0 rfl hz1 n (by rw [hz2]; omega) (by unfold maxLen; omega) w
  have he := fun wx => Lib.run_eql_slice_nil (P := Tryf.prog) wx 29 5 (some ⟨b, off, none⟩) n c 0 0 Tryf.underlying29
  have HC := hide hc
  have HZ := hide hz
  clear hc hz
  go_enter Tryf.func11, Tryf.ntmps11
  go_wp2
  go_loopw [4] (fun i wr => ∃ k : Nat, k ≤ n ∧ i = .int .i64 k ∧ Below w.heap.size w wr ∧ RowBlk wr w.heap.size 5 (mix zs n k)) (fun i _ => n - (intOf i).toNat)
  case atStart => exact ⟨0, Nat.zero_le _, rfl, (Below.refl _ _).alloc (Nat.le_refl _) _, by rw [mix_zero]; exact RowBlk.made _ _ _⟩
  case round =>
    obtain ⟨k, hk, rfl, hB, hK⟩ := hrel
    clear hmk he
    by_cases hlt : k < n
    · have c1 : wr.cell? ⟨b, off + k, none⟩ = some (.int .u8 (zs.getD k 0)) := (hB.cell (by exact hb)).trans (HC.out k hlt)
      have c2 : wr.cell? ⟨w.heap.size, k, none⟩ = some (.int .u8 0) := (hK.cell k).trans (mix_at zs n k hlt HZ.out)
      have f2 : wr.frozen? ⟨w.heap.size, k, none⟩ = false := hK.frozen k
      have R := hK.set k (.int .u8 (zs.getD k 0))
      rw [mix_step zs n k hlt HZ.out] at R
      have HR := hide R
      have HB := hide hB
      clear R hB hK
      go_wp2
      go_roundw
      case rel => exact ⟨k + 1, by omega, by go_num, HB.out.setCell (by exact Nat.le_refl _) _, HR.out⟩
      case measure => simp [intOf]; omega
    · have : k = n := by omega
      subst this
      have HX := hide (p := CPost w k zs (.returned (.slice (some ⟨w.heap.size, 0, none⟩) k k)) wr) ⟨_, _, k, rfl, Nat.le_refl _, fun _ => rfl, hK.lt, fun j hj => row_cell (by rw [← mix_full]; exact hK) j hj HZ.out, hB⟩
      clear hB hK
      go_wp2
      go_ret
      exact HX.out
end Go.Proofs.Qxb6604569aFmt.Par
