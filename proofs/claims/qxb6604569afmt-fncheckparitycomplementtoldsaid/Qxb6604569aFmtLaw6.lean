import Derived.Test.Qxb6604569aFmtClone
namespace Go.Proofs.Qxb6604569aFmt.Par
open Go.ChangeShapes Go.WideShapes Go.ChangeAt Go.RowKit
set_option linter.unusedVariables false

/-! ### The plain law -/
theorem pop_flip : ∀ n : Fin 256, (Lib.onesCount (n.val ^^^ 128) : Int) % 2 = ((Lib.onesCount n.val : Int) + 1) % 2 := by decide +kernel
def flip (z : Int) : Int := bits .xor .u8 z 128
theorem flip_eq (z : Int) (h0 : 0 ≤ z) (h1 : z ≤ 255) : flip z = ((z.toNat ^^^ 128 : Nat) : Int) := u8_xor z 128 h0 (by omega) (by decide) (by decide)
theorem flip_bd (z : Int) (h0 : 0 ≤ z) (h1 : z ≤ 255) : 0 ≤ flip z ∧ flip z ≤ 255 := by
  rw [flip_eq z h0 h1]
  have : z.toNat ^^^ 128 < 2 ^ 8 := Nat.xor_lt_two_pow (by omega) (by omega)
  omega
theorem badOf_flip (p z : Int) (h0 : 0 ≤ z) (h1 : z ≤ 255) : badOf p (flip z) = 1 - badOf p z := by
  have := pop_flip ⟨z.toNat, by omega⟩
  simp only at this
  unfold badOf ones
  rw [flip_eq z h0 h1, Int.toNat_natCast]
  omega
theorem badOf_other (p z : Int) : badOf (bits .xor .i64 p 1) z = 1 - badOf p z := by
  have := (i64_xor1 p).1
  unfold badOf
  omega
theorem cnt_other (p : Int) (zs : List Int) (n : Nat) : cnt (bits .xor .i64 p 1) zs n = n - cnt p zs n := by
  induction n with
  | zero => simp [cnt]
  | succ n ih => simp only [cnt]; rw [ih, badOf_other]; omega
theorem flip_getD (zs : List Int) (j : Nat) (h : j < zs.length) : (zs.map flip).getD j 0 = flip (zs.getD j 0) := by
  rw [List.getD_eq_getElem?_getD, List.getElem?_map, List.getElem?_eq_getElem h, ← getD_at zs j h]; rfl
theorem cnt_flip (p : Int) (zs : List Int) (n : Nat) (hz : n ≤ zs.length) (hb : ∀ j, j < n → 0 ≤ zs.getD j 0 ∧ zs.getD j 0 ≤ 255) : cnt p (zs.map flip) n = n - cnt p zs n := by
  induction n with
  | zero => simp [cnt]
  | succ n ih =>
    have b := hb n (by omega)
    simp only [cnt]
    rw [ih (by omega) (fun j hj => hb j (by omega)), flip_getD zs n (by omega), badOf_flip p _ b.1 b.2]
    omega

def LPost (w : World) (e : Ending) (w' : World) : Prop := e = .returned (.bool true) ∧ Below w.heap.size w w'

set_option maxRecDepth 100000 in
theorem law6_early (a0 : Option Addr) (n c0 : Nat) (p : Int) (w : World) (hl : n ≤ maxLen) (hn : 1048576 < n) :
    Calls Tryf.prog 6 #[.slice a0 n c0, .int .i64 p] w (LPost w) := by
  have H := bytes14 a0 n c0 p w hl
  rw [decide_eq_false (by omega)] at H
  have HX := hide (p := LPost w (.returned (.bool true)) w) ⟨rfl, Below.refl _ _⟩
  go_enter Tryf.func6, Tryf.ntmps6
  go_wp2_with fail
  refine H.mono ?_
  rintro e w1 ⟨rfl, rfl⟩
  go_wp2
  go_ret
  exact HX.out

set_option maxRecDepth 100000 in
set_option maxHeartbeats 1000000 in
theorem law6_main (a0 : Option Addr) (n c0 : Nat) (p : Int) (zs : List Int) (x : Addr) (w : World) (hn : n ≤ 1048576) (hz : n ≤ zs.length) (hb : ∀ j, j < n → 0 ≤ zs.getD j 0 ∧ zs.getD j 0 ≤ 255)
    (hg : w.cell? ⟨0, 0, none⟩ = some (.iface 61 (.pointer (some x)))) (hcl : Calls Tryf.prog 11 #[.slice a0 n c0] w (CPost w n zs)) :
    Calls Tryf.prog 6 #[.slice a0 n c0, .int .i64 p] w (LPost w) := by
  have h0l := cell_lt hg
  have H := bytes14 a0 n c0 p w (by unfold maxLen; omega)
  rw [decide_eq_true hn] at H
  have HH := hide H
  have HCL := hide hcl
  have HB := hide hb
  have HZ := hide hz
  have HG := hide hg
  clear H hcl hb hz hg
  go_enter Tryf.func6, Tryf.ntmps6
  go_wp2_with fail
  refine HH.out.mono ?_
  rintro e w' ⟨rfl, hw⟩
  subst w'
  go_wp2_with fail
  refine HCL.out.mono ?_
  rintro e w1 ⟨sa, S, c', rfl, hc', hsa, hSl, hS, hB1⟩
  clear HH HCL
  obtain ⟨i0, hi, hz0, hz1, hz2⟩ := info_parts info5
  have hmk := run_make_blk (P := Tryf.prog) Tryf.underlying29 hi hz0 rfl hz1 n (by rw [hz2]; omega) (by unfold maxLen; omega) w1
  have HSA := hide hsa
  have HSL := hide hSl
  have HS := hide hS
  have HB1 := hide hB1
  clear hi hz0 hz1 hz2 hsa hSl hS hB1
  go_wp2
  clear hmk
  go_loopw [6] (fun i wr => ∃ k : Nat, k ≤ n ∧ i = .int .i64 k ∧ Below w1.heap.size w1 wr ∧ RowBlk wr w1.heap.size 5 (mix (zs.map flip) n k)) (fun i _ => n - (intOf i).toNat)
  case atStart => exact ⟨0, Nat.zero_le _, rfl, (Below.refl _ _).alloc (Nat.le_refl _) _, by rw [mix_zero]; exact RowBlk.made _ _ _⟩
  case round =>
    obtain ⟨k, hk, rfl, hB, hK⟩ := hrel
    have hzl : Hid (n ≤ (zs.map flip).length) := by rw [List.length_map]; exact HZ.out
    by_cases hlt : k < n
    · obtain rfl : sa = some ⟨S, 0, none⟩ := HSA.out (by omega)
      have c1 : wr.cell? ⟨S, k, none⟩ = some (.int .u8 (zs.getD k 0)) := (hB.cell (by exact HSL.out)).trans (HS.out k hlt)
      have c2 : wr.cell? ⟨w1.heap.size, k, none⟩ = some (.int .u8 0) := (hK.cell k).trans (mix_at _ n k hlt hzl.out)
      have f2 : wr.frozen? ⟨w1.heap.size, k, none⟩ = false := hK.frozen k
      have R := hK.set k (.int .u8 ((zs.map flip).getD k 0))
      rw [mix_step _ n k hlt hzl.out, flip_getD _ _ (Nat.lt_of_lt_of_le hlt HZ.out)] at R
      have HR := hide R
      have HB := hide hB
      clear R hB hK
      go_wp2
      go_roundw
      case rel => exact ⟨k + 1, by omega, by go_num, HB.out.setCell (by exact Nat.le_refl _) _, HR.out⟩
      case measure => simp [intOf]; omega
    · have : k = n := by omega
      subst this
      have hBw := hB.size
      have hSr : S < wr.heap.size := Nat.lt_of_lt_of_le HSL.out hB.size
      have hSc : ∀ j, j < k → wr.cell? ⟨S, j, none⟩ = some (.int .u8 (zs.getD j 0)) := fun j hj => (hB.cell (by exact HSL.out)).trans (HS.out j hj)
      have hFc : ∀ j, j < k → wr.cell? ⟨w1.heap.size, j, none⟩ = some (.int .u8 ((zs.map flip).getD j 0)) := fun j hj => row_cell (by rw [← mix_full]; exact hK) j hj hzl.out
      have h0w1 : 0 < w1.heap.size := Nat.lt_of_lt_of_le h0l HB1.out.size
      have hgr : wr.cell? ⟨0, 0, none⟩ = some (.iface 61 (.pointer (some x))) := (hB.cell (by exact h0w1)).trans ((HB1.out.cell (by exact h0l)).trans HG.out)
      have h0r : 0 < wr.heap.size := Nat.lt_of_lt_of_le h0w1 hB.size
      have hbf : ∀ j, j < k → 0 ≤ (zs.map flip).getD j 0 ∧ (zs.map flip).getD j 0 ≤ 255 := fun j hj => by
        rw [flip_getD _ _ (Nat.lt_of_lt_of_le hj HZ.out)]
        exact flip_bd _ (HB.out j hj).1 (HB.out j hj).2
      have Z1 := hide (p := ∀ wx, Below wr.heap.size wr wx → Calls Tryf.prog 12 #[.slice sa k c', .int .i64 p] wx fun e w' => e = .returned (.tuple #[.int .i64 k, .int .i64 (cnt p zs k), .bool false]) ∧ Below wr.heap.size wr w')
        (fun wx hx => (zz12 p k c' S zs x sa wx hn hc' HZ.out HSA.out (Nat.lt_of_lt_of_le hSr hx.size) (fun j hj => (hx.cell (by exact hSr)).trans (hSc j hj)) HB.out ((hx.cell (by exact h0r)).trans hgr)).mono (fun e w' h => ⟨h.1, hx.trans (h.2.mono hx.size)⟩))
      have Z2 := hide (p := ∀ wx, Below wr.heap.size wr wx → Calls Tryf.prog 12 #[.slice sa k c', .int .i64 (bits .xor .i64 p 1)] wx fun e w' => e = .returned (.tuple #[.int .i64 k, .int .i64 (k - cnt p zs k), .bool false]) ∧ Below wr.heap.size wr w')
        (fun wx hx => by
          have h := zz12 (bits .xor .i64 p 1) k c' S zs x sa wx hn hc' HZ.out HSA.out (Nat.lt_of_lt_of_le hSr hx.size) (fun j hj => (hx.cell (by exact hSr)).trans (hSc j hj)) HB.out ((hx.cell (by exact h0r)).trans hgr)
          rw [cnt_other] at h
          exact h.mono (fun e w' h => ⟨h.1, hx.trans (h.2.mono hx.size)⟩))
      have Z3 := hide (p := ∀ wx, Below wr.heap.size wr wx → Calls Tryf.prog 12 #[.slice (some ⟨w1.heap.size, 0, none⟩) k k, .int .i64 p] wx fun e w' => e = .returned (.tuple #[.int .i64 k, .int .i64 (k - cnt p zs k), .bool false]) ∧ Below wr.heap.size wr w')
        (fun wx hx => by
          have h := zz12 p k k w1.heap.size (zs.map flip) x (some ⟨w1.heap.size, 0, none⟩) wx hn (Nat.le_refl _) hzl.out (fun _ => rfl) (Nat.lt_of_lt_of_le hK.lt hx.size) (fun j hj => (hx.cell (by exact hK.lt)).trans (hFc j hj)) hbf ((hx.cell (by exact h0r)).trans hgr)
          rw [cnt_flip p zs k HZ.out HB.out] at h
          exact h.mono (fun e w' h => ⟨h.1, hx.trans (h.2.mono hx.size)⟩))
      have hcb := cnt_bd p zs k
      have HBB := hide (p := ∀ wx, Below wr.heap.size wr wx → Below w.heap.size w wx) (fun wx hx => HB1.out.trans ((hB.mono HB1.out.size).trans (hx.mono (Nat.le_trans HB1.out.size hB.size))))
      clear hB hK hSc hFc hgr hbf hSr hBw h0w1 h0r hzl HS HSA HSL HB HZ HB1 HG
      generalize cnt p zs k = C at *
      generalize w1.heap.size = F at *
      go_wp2_with fail
      refine (Z1.out wr (Below.refl _ _)).mono ?_
      rintro e w2 ⟨rfl, b2⟩
      have B2 := hide b2
      clear b2
      go_wp2_with fail
      refine (Z2.out w2 B2.out).mono ?_
      rintro e w3 ⟨rfl, b3⟩
      have B3 := hide b3
      clear b3
      go_wp2_with fail
      refine (Z3.out w3 B3.out).mono ?_
      rintro e w4 ⟨rfl, b4⟩
      have B4 := hide (HBB.out w4 b4)
      clear b4 B3 B2 HBB Z1 Z2 Z3
      have hsum : C + ((k : Int) - C) = k := by omega
      go_wp2
      go_ret
      exact ⟨rfl, B4.out⟩
end Go.Proofs.Qxb6604569aFmt.Par
