import Derived.Test.Qxb6604428aIdxWalk
namespace Go.Proofs.Qxb6604428a.Idx
open Go.ChangeShapes Go.WideShapes Go.ChangeAt Go.RowKit Go.Proofs.Qxb6604428a.Copy
set_option linter.unusedVariables false

theorem below_drewN {B : Nat} {w wr : World} (h : Below B w wr) (nq : Nat) : Below B w (wr.drewN nq) := ⟨h.os, h.tape, h.output, h.size, h.block⟩
theorem getD_at (zs : List Int) (j : Nat) (h : j < zs.length) : zs[j] = zs.getD j 0 := by
  rw [List.getD_eq_getElem?_getD, List.getElem?_eq_getElem h]; rfl
theorem row_cell {w : World} {b e n : Nat} {zs : List Int} (h : RowBlk w b e ((zs.take n).map (Value.int .i64))) (j : Nat) (hj : j < n) (hz : n ≤ zs.length) : w.cell? ⟨b, j, none⟩ = some (.int .i64 (zs.getD j 0)) := by
  rw [h.cell, List.getElem?_map, List.getElem?_take, if_pos hj, List.getElem?_eq_getElem (by omega), getD_at _ _ (by omega)]; rfl

set_option maxRecDepth 100000 in
set_option maxHeartbeats 1000000 in
theorem law3_pos (b0 o0 c0 b1 o1 c1 n : Nat) (zs ss : List Int) (q : Int) (w : World) (hn : 2 * n ≤ 131072) (hp : 0 < n) (hz : n ≤ zs.length) (hs : n ≤ ss.length)
    (k0 : b0 < w.heap.size) (k1 : b1 < w.heap.size)
    (hc0 : ∀ j, j < n → w.cell? ⟨b0, o0 + j, none⟩ = some (.int .i64 (zs.getD j 0))) (hc1 : ∀ j, j < n → w.cell? ⟨b1, o1 + j, none⟩ = some (.int .i64 (ss.getD j 0))) :
    Calls Try.prog 3 #[.slice (some ⟨b0, o0, none⟩) n c0, .slice (some ⟨b1, o1, none⟩) n c1, .int .i64 q] w fun e w' => e = .returned (.bool true) ∧ Below w.heap.size w w' := by
  have H8 := bytes8 (some ⟨b0, o0, none⟩) n c0 (some ⟨b1, o1, none⟩) n c1 q w (by unfold maxLen; omega) (by unfold maxLen; omega)
  rw [decide_eq_true (by omega)] at H8
  have hz' : ¬ (1048576 : Int) < ((n : Int) + n) * 8 := by omega
  have hy' : ¬ (131072 : Int) < n := by omega
  have HC0 : Hid _ := hc0
  have HC1 : Hid _ := hc1
  clear hc0 hc1
  go_enter Try.func3, Try.ntmps3
  go_wp2_with (go_at_call 8; refine H8.mono ?_; rintro e w' ⟨rfl, hw⟩; subst w')
  clear H8
  go_loopw [7] (fun i wr => ∃ k : Nat, 1 ≤ k ∧ k ≤ n ∧ i = .int .i64 k ∧ Asc zs k ∧ Below w.heap.size w wr ∧ wr.heap.size = w.heap.size) (fun i _ => n - (intOf i).toNat)
  case atStart => exact ⟨1, by omega, by omega, rfl, asc_one _, Below.refl _ _, rfl⟩
  case round =>
    obtain ⟨k, hk1, hk2, rfl, HA, hB, hS⟩ := hrel
    by_cases hlt : k < n
    · have c1 : wr.cell? ⟨b0, o0 + (k - 1), none⟩ = some (.int .i64 (zs.getD (k - 1) 0)) := (hB.cell (by exact k0)).trans (HC0.out (k - 1) (by omega))
      have c2 : wr.cell? ⟨b0, o0 + k, none⟩ = some (.int .i64 (zs.getD k 0)) := (hB.cell (by exact k0)).trans (HC0.out k hlt)
      by_cases hle : zs.getD k 0 ≤ zs.getD (k - 1) 0
      · generalize zs.getD k 0 = x at *
        generalize zs.getD (k - 1) 0 = y at *
        go_wp2
        go_quiet (fail)
        go_wp2
        go_ret
        exact ⟨rfl, below_drewN hB _⟩
      · have HS : Hid (Asc zs (k + 1)) := asc_step HA hk1 (by omega)
        generalize zs.getD k 0 = x at *
        generalize zs.getD (k - 1) 0 = y at *
        go_wp2
        go_quiet (fail)
        go_wp2
        go_roundw
        case rel => exact ⟨k + 1, by omega, by omega, by go_num, HS.out, below_drewN hB _, hS⟩
        case measure => simp [intOf]; omega
    · obtain rfl : k = n := by omega
      have HC0' : Hid (∀ j, j < k → wr.cell? ⟨b0, o0 + j, none⟩ = some (.int .i64 (zs.getD j 0))) := fun j hj => (hB.cell (by exact k0)).trans (HC0.out j hj)
      go_wp2_with fail
      refine (copy9_some b0 o0 k c0 zs wr (by omega) (by omega) hz HC0'.out).mono ?_
      rintro e w1 ⟨rfl, hB1, hS1, hR1⟩
      have HC1' : Hid (∀ j, j < k → w1.cell? ⟨b1, o1 + j, none⟩ = some (.int .i64 (ss.getD j 0))) := fun j hj => (hB1.cell (by show b1 < _; omega)).trans ((hB.cell (by exact k1)).trans (HC1.out j hj))
      have HS1 : Hid _ := hS1
      have HS0 : Hid _ := hS
      clear hS1 hS
      go_wp2_with fail
      refine (copy9_some b1 o1 k c1 ss w1 (by have := HS1.out; have := HS0.out; omega) (by omega) hs HC1'.out).mono ?_
      rintro e w2 ⟨rfl, hB2, hS2, hR2⟩
      have hR1' := hR1.below hB2 (by have := HS1.out; omega)
      have HB : Hid (Below w.heap.size w w2) := hB.trans ((hB1.mono (by have := HS0.out; omega)).trans (hB2.mono (by have := HS0.out; have := HS1.out; omega)))
      have hlt1 : w.heap.size ≤ w2.heap.size := HB.out.size
      have C0 : Hid (∀ j, j < k → w2.cell? ⟨wr.heap.size, j, none⟩ = some (.int .i64 (zs.getD j 0))) := fun j hj => row_cell hR1' j hj hz
      have C1 : Hid (∀ j, j < k → w2.cell? ⟨w1.heap.size, j, none⟩ = some (.int .i64 (ss.getD j 0))) := fun j hj => row_cell hR2 j hj hs
      have L0 : wr.heap.size < w2.heap.size := by have := HS0.out; have := HS1.out; omega
      have L1 : w1.heap.size < w2.heap.size := by have := HS0.out; have := HS1.out; omega
      clear hR1 hR2 hR1' hB1 hB2 hS2 HC0' HC1' HS1 HS0 HC0 HC1 hB
      generalize wr.heap.size = B1 at *
      generalize w1.heap.size = B2 at *
      have HA' : Hid _ := HA
      clear HA
      go_wp2_with fail
      go_loop [8, 9] (fun lo hi => ∃ l h : Nat, l ≤ h ∧ h ≤ k ∧ lo = .int .i64 l ∧ hi = .int .i64 h ∧ Lo zs q l ∧ Hi zs q k h) (fun lo hi => (intOf hi - intOf lo).toNat)
      case atStart => exact ⟨0, k, by omega, by omega, rfl, rfl, lo_zero _ _, hi_n _ _ _⟩
      case round =>
        obtain ⟨l, h, hlh, hhk, rfl, rfl, hLo, hHi⟩ := hrel
        by_cases hlt2 : l < h
        · have cm := C0.out (l + (h - l) / 2) (by omega)
          by_cases hx : zs.getD (l + (h - l) / 2) 0 < q
          · have HL : Hid (Lo zs q (l + (h - l) / 2 + 1)) := lo_step HA'.out (by omega) hx
            generalize zs.getD (l + (h - l) / 2) 0 = x at *
            go_wp2
            go_round
            case rel => exact ⟨l + (h - l) / 2 + 1, h, by omega, by omega, by go_num, rfl, HL.out, hHi⟩
            case measure => simp [intOf]; omega
          · have HL : Hid (Hi zs q k (l + (h - l) / 2)) := hi_step HA'.out (by omega) hx
            generalize zs.getD (l + (h - l) / 2) 0 = x at *
            go_wp2
            go_round
            case rel => exact ⟨l, l + (h - l) / 2, by omega, by omega, rfl, by go_num, hLo, HL.out⟩
            case measure => simp [intOf]; omega
        · obtain rfl : h = l := by omega
          have HF : Hid (gotK zs ss q k = want zs ss q k h ∧ nzK zs ss q k ≤ 1) := law HA'.out hhk hLo hHi
          clear hLo hHi hlt2
          by_cases hl : h < k
          · have cm := C0.out h hl
            have cs := C1.out h hl
            by_cases hx : zs.getD h 0 = q
            · have HW : Hid (want zs ss q k h = ss.getD h 0) := if_pos ⟨hl, hx⟩
              have hx' : (zs.getD h 0 == q) = true := beq_iff_eq.2 hx
              generalize zs.getD h 0 = x at *
              generalize ss.getD h 0 = y at *
              clear hx
              go_wp2
              go_loopw [12, 13, 14] (fun g z i wr => ∃ m : Nat, m ≤ k ∧ i = .int .i64 m ∧ g = .int .i64 (gotK zs ss q m) ∧ z = .int .i64 (nzK zs ss q m) ∧ Below w2.heap.size w2 wr) (fun _ _ i _ => k - (intOf i).toNat)
              case atStart => exact ⟨0, by omega, rfl, rfl, rfl, Below.refl _ _⟩
              case round =>
                obtain ⟨m, hm, rfl, rfl, rfl, hB3⟩ := hrel
                have nb := nz_bd zs ss q m
                by_cases hmk : m < k
                · have cm := (hB3.cell (p := ⟨B1, m, none⟩) (by exact L0)).trans (C0.out m hmk)
                  have cs := (hB3.cell (p := ⟨B2, m, none⟩) (by exact L1)).trans (C1.out m hmk)
                  have hm1 : (m : Int) < k := by omega
                  by_cases hv : val zs ss q m = 0
                  · have HG : Hid _ := got_succ_zero hv
                    have H10 : Hid (∀ wx, Calls Try.prog 10 #[.int .i64 (zs.getD m 0), .int .i64 (ss.getD m 0), .int .i64 q] wx fun e w' => e = .returned (.int .i64 0) ∧ w' = wx.alloc (.cells #[.int .i64 (zs.getD m 0), .int .i64 (ss.getD m 0)] 42)) := by
                      intro wx; have := stored10 (zs.getD m 0) (ss.getD m 0) q wx; rw [show answer (zs.getD m 0) (ss.getD m 0) q = 0 from hv] at this; exact this
                    clear hv
                    generalize zs.getD m 0 = x1 at *
                    generalize ss.getD m 0 = y1 at *
                    go_wp2
                    go_region_with (go_at_call 10; refine (H10.out _).mono ?_; rintro e w' ⟨rfl, rfl⟩)
                    all_goals go_wp2
                    all_goals go_roundw
                    all_goals first
                      | exact ⟨m + 1, by omega, by go_num, by rw [HG.out.1], by rw [HG.out.2], (hB3.alloc hB3.size _).drew⟩
                      | (simp [intOf]; omega)
                  · have HG : Hid _ := got_succ_hit hv
                    have H10 : Hid (∀ wx, Calls Try.prog 10 #[.int .i64 (zs.getD m 0), .int .i64 (ss.getD m 0), .int .i64 q] wx fun e w' => e = .returned (.int .i64 (val zs ss q m)) ∧ w' = wx.alloc (.cells #[.int .i64 (zs.getD m 0), .int .i64 (ss.getD m 0)] 42)) := 
                      fun wx => stored10 (zs.getD m 0) (ss.getD m 0) q wx
                    have hv' : (val zs ss q m == 0) = false := beq_eq_false_iff_ne.2 hv
                    clear hv
                    generalize zs.getD m 0 = x1 at *
                    generalize ss.getD m 0 = y1 at *
                    go_wp2
                    go_region_with (go_at_call 10; refine (H10.out _).mono ?_; rintro e w' ⟨rfl, rfl⟩)
                    all_goals go_wp2
                    all_goals go_roundw
                    all_goals first
                      | exact ⟨m + 1, by omega, by go_num, by rw [HG.out.1], by rw [HG.out.2], (hB3.alloc hB3.size _).drew⟩
                      | (simp [intOf]; omega)
                · obtain rfl : m = k := by omega
                  have HF1 := HF.out
                  have hg : (gotK zs ss q m == y) = true := by rw [beq_iff_eq, HF1.1]; exact HW.out
                  have hnz : nzK zs ss q m ≤ 1 := HF1.2
                  clear HF1
                  go_wp2
                  go_ret
                  exact ⟨rfl, HB.out.trans (hB3.mono hlt1)⟩
            · have HW : Hid (want zs ss q k h = 0) := if_neg (fun hh => hx hh.2)
              have hx' : (zs.getD h 0 == q) = false := beq_eq_false_iff_ne.2 hx
              generalize zs.getD h 0 = x at *
              generalize ss.getD h 0 = y at *
              clear hx
              go_wp2
              go_loopw [12, 13, 14] (fun g z i wr => ∃ m : Nat, m ≤ k ∧ i = .int .i64 m ∧ g = .int .i64 (gotK zs ss q m) ∧ z = .int .i64 (nzK zs ss q m) ∧ Below w2.heap.size w2 wr) (fun _ _ i _ => k - (intOf i).toNat)
              case atStart => exact ⟨0, by omega, rfl, rfl, rfl, Below.refl _ _⟩
              case round =>
                obtain ⟨m, hm, rfl, rfl, rfl, hB3⟩ := hrel
                have nb := nz_bd zs ss q m
                by_cases hmk : m < k
                · have cm := (hB3.cell (p := ⟨B1, m, none⟩) (by exact L0)).trans (C0.out m hmk)
                  have cs := (hB3.cell (p := ⟨B2, m, none⟩) (by exact L1)).trans (C1.out m hmk)
                  have hm1 : (m : Int) < k := by omega
                  by_cases hv : val zs ss q m = 0
                  · have HG : Hid _ := got_succ_zero hv
                    have H10 : Hid (∀ wx, Calls Try.prog 10 #[.int .i64 (zs.getD m 0), .int .i64 (ss.getD m 0), .int .i64 q] wx fun e w' => e = .returned (.int .i64 0) ∧ w' = wx.alloc (.cells #[.int .i64 (zs.getD m 0), .int .i64 (ss.getD m 0)] 42)) := by
                      intro wx; have := stored10 (zs.getD m 0) (ss.getD m 0) q wx; rw [show answer (zs.getD m 0) (ss.getD m 0) q = 0 from hv] at this; exact this
                    clear hv
                    generalize zs.getD m 0 = x1 at *
                    generalize ss.getD m 0 = y1 at *
                    go_wp2
                    go_region_with (go_at_call 10; refine (H10.out _).mono ?_; rintro e w' ⟨rfl, rfl⟩)
                    all_goals go_wp2
                    all_goals go_roundw
                    all_goals first
                      | exact ⟨m + 1, by omega, by go_num, by rw [HG.out.1], by rw [HG.out.2], (hB3.alloc hB3.size _).drew⟩
                      | (simp [intOf]; omega)
                  · have HG : Hid _ := got_succ_hit hv
                    have H10 : Hid (∀ wx, Calls Try.prog 10 #[.int .i64 (zs.getD m 0), .int .i64 (ss.getD m 0), .int .i64 q] wx fun e w' => e = .returned (.int .i64 (val zs ss q m)) ∧ w' = wx.alloc (.cells #[.int .i64 (zs.getD m 0), .int .i64 (ss.getD m 0)] 42)) := 
                      fun wx => stored10 (zs.getD m 0) (ss.getD m 0) q wx
                    have hv' : (val zs ss q m == 0) = false := beq_eq_false_iff_ne.2 hv
                    clear hv
                    generalize zs.getD m 0 = x1 at *
                    generalize ss.getD m 0 = y1 at *
                    go_wp2
                    go_region_with (go_at_call 10; refine (H10.out _).mono ?_; rintro e w' ⟨rfl, rfl⟩)
                    all_goals go_wp2
                    all_goals go_roundw
                    all_goals first
                      | exact ⟨m + 1, by omega, by go_num, by rw [HG.out.1], by rw [HG.out.2], (hB3.alloc hB3.size _).drew⟩
                      | (simp [intOf]; omega)
                · obtain rfl : m = k := by omega
                  have HF1 := HF.out
                  have hg : (gotK zs ss q m == 0) = true := by rw [beq_iff_eq, HF1.1]; exact HW.out
                  have hnz : nzK zs ss q m ≤ 1 := HF1.2
                  clear HF1
                  go_wp2
                  go_ret
                  exact ⟨rfl, HB.out.trans (hB3.mono hlt1)⟩
          · have HW : Hid (want zs ss q k h = 0) := if_neg (fun hh => hl hh.1)
            go_wp2
            go_loopw [12, 13, 14] (fun g z i wr => ∃ m : Nat, m ≤ k ∧ i = .int .i64 m ∧ g = .int .i64 (gotK zs ss q m) ∧ z = .int .i64 (nzK zs ss q m) ∧ Below w2.heap.size w2 wr) (fun _ _ i _ => k - (intOf i).toNat)
            case atStart => exact ⟨0, by omega, rfl, rfl, rfl, Below.refl _ _⟩
            case round =>
              obtain ⟨m, hm, rfl, rfl, rfl, hB3⟩ := hrel
              have nb := nz_bd zs ss q m
              by_cases hmk : m < k
              · have cm := (hB3.cell (p := ⟨B1, m, none⟩) (by exact L0)).trans (C0.out m hmk)
                have cs := (hB3.cell (p := ⟨B2, m, none⟩) (by exact L1)).trans (C1.out m hmk)
                have hm1 : (m : Int) < k := by omega
                by_cases hv : val zs ss q m = 0
                · have HG : Hid _ := got_succ_zero hv
                  have H10 : Hid (∀ wx, Calls Try.prog 10 #[.int .i64 (zs.getD m 0), .int .i64 (ss.getD m 0), .int .i64 q] wx fun e w' => e = .returned (.int .i64 0) ∧ w' = wx.alloc (.cells #[.int .i64 (zs.getD m 0), .int .i64 (ss.getD m 0)] 42)) := by
                    intro wx; have := stored10 (zs.getD m 0) (ss.getD m 0) q wx; rw [show answer (zs.getD m 0) (ss.getD m 0) q = 0 from hv] at this; exact this
                  clear hv
                  generalize zs.getD m 0 = x1 at *
                  generalize ss.getD m 0 = y1 at *
                  go_wp2
                  go_region_with (go_at_call 10; refine (H10.out _).mono ?_; rintro e w' ⟨rfl, rfl⟩)
                  all_goals go_wp2
                  all_goals go_roundw
                  all_goals first
                    | exact ⟨m + 1, by omega, by go_num, by rw [HG.out.1], by rw [HG.out.2], (hB3.alloc hB3.size _).drew⟩
                    | (simp [intOf]; omega)
                · have HG : Hid _ := got_succ_hit hv
                  have H10 : Hid (∀ wx, Calls Try.prog 10 #[.int .i64 (zs.getD m 0), .int .i64 (ss.getD m 0), .int .i64 q] wx fun e w' => e = .returned (.int .i64 (val zs ss q m)) ∧ w' = wx.alloc (.cells #[.int .i64 (zs.getD m 0), .int .i64 (ss.getD m 0)] 42)) := 
                    fun wx => stored10 (zs.getD m 0) (ss.getD m 0) q wx
                  have hv' : (val zs ss q m == 0) = false := beq_eq_false_iff_ne.2 hv
                  clear hv
                  generalize zs.getD m 0 = x1 at *
                  generalize ss.getD m 0 = y1 at *
                  go_wp2
                  go_region_with (go_at_call 10; refine (H10.out _).mono ?_; rintro e w' ⟨rfl, rfl⟩)
                  all_goals go_wp2
                  all_goals go_roundw
                  all_goals first
                    | exact ⟨m + 1, by omega, by go_num, by rw [HG.out.1], by rw [HG.out.2], (hB3.alloc hB3.size _).drew⟩
                    | (simp [intOf]; omega)
              · obtain rfl : m = k := by omega
                have HF1 := HF.out
                have hg : (gotK zs ss q m == 0) = true := by rw [beq_iff_eq, HF1.1]; exact HW.out
                have hnz : nzK zs ss q m ≤ 1 := HF1.2
                clear HF1
                go_wp2
                go_ret
                exact ⟨rfl, HB.out.trans (hB3.mono hlt1)⟩
end Go.Proofs.Qxb6604428a.Idx
