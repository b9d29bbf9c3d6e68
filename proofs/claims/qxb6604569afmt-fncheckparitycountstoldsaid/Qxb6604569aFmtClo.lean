import Derived.Test.Qxb6604569aFmtSmall
namespace Go.Proofs.Qxb6604569aFmt.Par
open Go.ChangeShapes Go.WideShapes Go.ChangeAt Go.RowKit
set_option linter.unusedVariables false

/-- How many of the first k bytes are bad. -/
def cnt (p : Int) (zs : List Int) : Nat → Int
  | 0 => 0
  | k + 1 => cnt p zs k + badOf p (zs.getD k 0)
theorem cnt_bd (p : Int) (zs : List Int) (k : Nat) : 0 ≤ cnt p zs k ∧ cnt p zs k ≤ k := by
  induction k with
  | zero => simp [cnt]
  | succ k ih => have := badOf_two p (zs.getD k 0); simp only [cnt]; omega
theorem cnt_add (p : Int) (zs bs : List Int) (i k : Nat) (h : ∀ j, j < k → bs.getD j 0 = zs.getD (i + j) 0) : cnt p zs (i + k) = cnt p zs i + cnt p bs k := by
  induction k with
  | zero => simp [cnt]
  | succ k ih =>
    have e := ih (fun j hj => h j (by omega))
    rw [← Nat.add_assoc]
    simp only [cnt]
    rw [e, h k (by omega)]
    omega
theorem kept_cell {w w' : World} {X : Nat → Prop} (h : Kept w w' X) {b o : Nat} {v : Value} (hX : ¬ X b) (hc : w.cell? ⟨b, o, none⟩ = some v) : w'.cell? ⟨b, o, none⟩ = some v := by
  have hlt : b < w.heap.size := by
    apply Classical.byContradiction
    intro hb
    have e : w.heap[b]? = none := Array.getElem?_eq_none (by omega)
    unfold World.cell? at hc
    simp [e] at hc
  unfold World.cell? at *
  rw [h.block b hlt hX]
  exact hc
theorem RowBlk_kept {w w' : World} {X : Nat → Prop} {b : Nat} {e : TypeId} {cs : List Value} (hr : RowBlk w b e cs) (h : Kept w w' X) (hX : ¬ X b) : RowBlk w' b e cs := by
  have := hr.lt
  unfold RowBlk at *
  rw [h.block b this hX]; exact hr

set_option maxRecDepth 100000 in
theorem clo20 (off p c0 : Int) (B P D R k c : Nat) (bs : List Int) (w : World) (hk : k ≤ 65536) (hc : 0 ≤ c0 ∧ c0 ≤ 1048576)
    (hp : w.cell? ⟨P, 0, none⟩ = some (.int .i64 p)) (hr : w.cell? ⟨R, 0, none⟩ = some .nilFunc) (hd : RowBlk w D 2 [.int .i64 c0]) (hPD : P ≠ D) (hRD : R ≠ D) (hBD : B ≠ D)
    (hb : ∀ j, j < k → w.cell? ⟨B, j, none⟩ = some (.int .u8 (bs.getD j 0))) (hz : ∀ j, j < k → 0 ≤ bs.getD j 0 ∧ bs.getD j 0 ≤ 255) :
    Calls Tryf.prog 20 #[.int .i64 off, .slice (some ⟨B, 0, none⟩) k c, .pointer (some ⟨P, 0, none⟩), .pointer (some ⟨D, 0, none⟩), .pointer (some ⟨R, 0, none⟩)] w
      fun e w' => e = .returned .nilIface ∧ RowBlk w' D 2 [.int .i64 (c0 + cnt p bs k)] ∧ Kept w w' (· = D) ∧ w'.heap.size = w.heap.size := by
  have HP := hide hp
  have HR := hide hr
  have HB := hide hb
  have HZ := hide hz
  have HD := hide hd
  clear hp hr hb hz hd
  go_enter Tryf.func20, Tryf.ntmps20
  go_wp2
  go_loopw [13] (fun i wr => ∃ m : Nat, m ≤ k ∧ i = .int .i64 m ∧ RowBlk wr D 2 [.int .i64 (c0 + cnt p bs m)] ∧ Kept w wr (· = D) ∧ wr.heap.size = w.heap.size) (fun i _ => k - (intOf i).toNat)
  case atStart => exact ⟨0, Nat.zero_le _, rfl, by simpa [cnt] using HD.out, Kept.refl _ _, rfl⟩
  case round =>
    obtain ⟨m, hm, rfl, hD, hK, hS⟩ := hrel
    have HS := hide hS
    have HDD := hide hD
    have HK := hide hK
    have hcb := cnt_bd p bs m
    clear hS hD hK
    by_cases hlt : m < k
    · have c1 := kept_cell HK.out hBD (HB.out m hlt)
      have c2 := kept_cell HK.out hPD HP.out
      have c3 := kept_cell HK.out hRD HR.out
      have c4 : wr.cell? ⟨D, 0, none⟩ = some (.int .i64 (c0 + cnt p bs m)) := HDD.out.cell 0
      have f4 : wr.frozen? ⟨D, 0, none⟩ = false := HDD.out.frozen 0
      have hz := HZ.out m hlt
      rcases badOf_two p (bs.getD m 0) with hbad | hbad
      · have HC : Hid (cnt p bs (m + 1) = cnt p bs m) := by show _ + _ = _; rw [hbad]; omega
        have H21 := fun wx => holds21_good p (bs.getD m 0) wx hz.1 hz.2 hbad
        generalize bs.getD m 0 = z at *
        clear hbad
        go_wp2_with (go_at_call 21; refine (H21 wr).mono ?_; rintro e w' ⟨rfl, hw⟩; subst w')
        go_roundw
        case rel => exact ⟨m + 1, by omega, by go_num, by rw [HC.out]; exact HDD.out, HK.out, HS.out⟩
        case measure => simp [intOf]; omega
      · have HC : Hid (cnt p bs (m + 1) = cnt p bs m + 1) := by show _ + _ = _; rw [hbad]
        have H21 := fun wx => holds21_bad p (bs.getD m 0) wx hz.1 hz.2 hbad
        have R1 := hide (HDD.out.set 0 (.int .i64 (c0 + cnt p bs m + 1)))
        generalize bs.getD m 0 = z at *
        clear hbad
        have hq : ∀ wx, (binOp .eql 47 .nilFunc .nilFunc).run Tryf.prog wx = .ok (.bool true) wx := fun _ => rfl
        go_wp2_with (go_at_call 21; refine (H21 wr).mono ?_; rintro e w' ⟨rfl, hw⟩; subst w')
        go_roundw
        case rel => exact ⟨m + 1, by omega, by go_num, by rw [HC.out, ← Int.add_assoc]; exact R1.out, HK.out.setCell _ rfl _, by rw [heap_setCell_size]; exact HS.out⟩
        case measure => simp [intOf]; omega
    · have : m = k := by omega
      subst this
      go_wp2
      go_ret
      exact ⟨rfl, HDD.out, HK.out, HS.out⟩
end Go.Proofs.Qxb6604569aFmt.Par
