import Derived.Test.Qxb6604569aFmtBad13
namespace Go.Proofs.Qxb6604569aFmt.Par
open Go.ChangeShapes Go.WideShapes Go.ChangeAt Go.RowKit
set_option linter.unusedVariables false

def LPost5 (w : World) (e : Ending) (w' : World) : Prop := e = .returned (.bool true) ∧ Below w.heap.size w w'

set_option maxRecDepth 100000 in
theorem law5_early (a0 : Option Addr) (n c0 : Nat) (p : Int) (w : World) (hl : n ≤ maxLen) (hn : 1048576 < n) :
    Calls Tryf.prog 5 #[.slice a0 n c0, .int .i64 p] w (LPost5 w) := by
  have H := bytes10 a0 n c0 p w hl
  rw [decide_eq_false (by omega)] at H
  have HX := hide (p := LPost5 w (.returned (.bool true)) w) ⟨rfl, Below.refl _ _⟩
  go_enter Tryf.func5, Tryf.ntmps5
  go_wp2_with fail
  refine H.mono ?_
  rintro e w1 ⟨rfl, rfl⟩
  go_wp2
  go_ret
  exact HX.out

set_option maxRecDepth 100000 in
set_option maxHeartbeats 1000000 in
theorem law5_main (a0 : Option Addr) (n c0 : Nat) (p : Int) (zs : List Int) (x : Addr) (w : World) (hn : n ≤ 1048576) (hz : n ≤ zs.length) (hb : ∀ j, j < n → 0 ≤ zs.getD j 0 ∧ zs.getD j 0 ≤ 255)
    (hg : w.cell? ⟨0, 0, none⟩ = some (.iface 61 (.pointer (some x)))) (hcl : Calls Tryf.prog 11 #[.slice a0 n c0] w (CPost w n zs)) :
    Calls Tryf.prog 5 #[.slice a0 n c0, .int .i64 p] w (LPost5 w) := by
  have h0l := cell_lt hg
  have H := bytes10 a0 n c0 p w (by unfold maxLen; omega)
  rw [decide_eq_true hn] at H
  have HH := hide H
  have HCL := hide hcl
  have HB := hide hb
  have HZ := hide hz
  have HG := hide hg
  clear H hcl hb hz hg
  go_enter Tryf.func5, Tryf.ntmps5
  go_wp2_with fail
  refine HH.out.mono ?_
  rintro e w' ⟨rfl, hw⟩
  subst w'
  go_wp2_with fail
  refine HCL.out.mono ?_
  rintro e w1 ⟨sa, S, c', rfl, hc', hsa, hSl, hS, hB1⟩
  clear HH HCL
  have Z1 := hide (zz12 p n c' S zs x sa w1 hn hc' HZ.out hsa hSl hS HB.out ((hB1.cell (by exact h0l)).trans HG.out))
  have Z2 := hide (p := ∀ wx, Below w1.heap.size w1 wx → Calls Tryf.prog 13 #[.slice sa n c', .int .i64 p] wx fun e w' => e = .returned (.int .i64 (cnt p zs n)) ∧ w' = wx)
    (fun wx hx => bad13 p n c' S zs sa wx hn hsa (fun j hj => (hx.cell (by exact hSl)).trans (hS j hj)) HB.out)
  have HB1 := hide hB1
  clear hsa hSl hS hB1 HB HZ HG
  generalize cnt p zs n = C at *
  go_wp2_with fail
  refine Z1.out.mono ?_
  rintro e w2 ⟨rfl, b2⟩
  have B2 := hide b2
  clear b2 Z1
  go_wp2_with fail
  refine (Z2.out w2 B2.out).mono ?_
  rintro e w3 ⟨rfl, hw3⟩
  subst w3
  clear Z2
  go_wp2
  go_ret
  exact ⟨rfl, HB1.out.trans (B2.out.mono HB1.out.size)⟩
end Go.Proofs.Qxb6604569aFmt.Par
