import Derived.Test.Qxb6604569aFmtEach
namespace Go.Proofs.Qxb6604569aFmt.Par
open Go.ChangeShapes Go.WideShapes Go.ChangeAt Go.RowKit
set_option linter.unusedVariables false

theorem cell_lt {w : World} {b o : Nat} {v : Value} (hc : w.cell? ⟨b, o, none⟩ = some v) : b < w.heap.size := by
  apply Classical.byContradiction
  intro hb
  have e : w.heap[b]? = none := Array.getElem?_eq_none (by omega)
  unfold World.cell? at hc
  simp [e] at hc
theorem cell_alloc {w : World} {b o : Nat} {v : Value} (O : Obj) (hc : w.cell? ⟨b, o, none⟩ = some v) : (w.alloc O).cell? ⟨b, o, none⟩ = some v := by
  rw [World.cell?_alloc_past _ _ _ (by exact cell_lt hc)]; exact hc

set_option maxRecDepth 100000 in
set_option maxHeartbeats 1000000 in
theorem check16 (p : Int) (n sc R S : Nat) (zs : List Int) (x : Addr) (sa : Option Addr) (w : World) (hn : n ≤ 1048576) (hsc : n ≤ sc) (hz : n ≤ zs.length)
    (hsa : 0 < n → sa = some ⟨S, 0, none⟩) (hSR : S ≠ R) (h0R : 0 ≠ R) (hSl : S < w.heap.size)
    (hR : RowBlk w R 53 [.slice sa n sc, .int .i64 0, .int .i64 (-1)])
    (hS : ∀ j, j < n → w.cell? ⟨S, j, none⟩ = some (.int .u8 (zs.getD j 0))) (hb : ∀ j, j < n → 0 ≤ zs.getD j 0 ∧ zs.getD j 0 ≤ 255)
    (hg : w.cell? ⟨0, 0, none⟩ = some (.iface 61 (.pointer (some x)))) :
    Calls Tryf.prog 16 #[.iface 42 (.pointer (some ⟨R, 0, none⟩)), .int .i64 p, .nilFunc] w
      fun e w' => e = .returned (.tuple #[.int .i64 n, .int .i64 (cnt p zs n), .nilIface]) ∧ Kept w w' (· = R) := by
  have hRl := hR.lt
  have h0l := cell_lt hg
  have A1 : ((w.alloc (.cells #[.int .i64 p] 34)).alloc (.cells #[.nilFunc] 47)).heap.size = w.heap.size + 1 + 1 := by simp
  have A2 : (w.alloc (.cells #[.int .i64 p] 34)).heap.size = w.heap.size + 1 := by simp
  have H19 := hide (each19 p n sc R w.heap.size (w.heap.size + 1 + 1) (w.heap.size + 1) S zs x sa (((w.alloc (.cells #[.int .i64 p] 34)).alloc (.cells #[.nilFunc] 47)).alloc (.cells #[.int .i64 0] 2)) hn hsc hz hsa hSR (by omega) (by omega) (by omega) (by omega) (by omega) (by omega) h0R (by omega)
    (((hR.alloc _).alloc _).alloc _)
    (cell_alloc _ (cell_alloc _ ((RowBlk.made w [.int .i64 p] 34).cell 0)))
    (cell_alloc _ (by rw [← A2]; exact (RowBlk.made (w.alloc (.cells #[.int .i64 p] 34)) [.nilFunc] 47).cell 0))
    (by rw [← A1]; exact RowBlk.made _ [.int .i64 0] 2)
    (fun j hj => cell_alloc _ (cell_alloc _ (cell_alloc _ (hS j hj)))) hb
    (cell_alloc _ (cell_alloc _ (cell_alloc _ hg))) (by simp <;> omega) (by simp <;> omega) (fun _ => by simp <;> omega))
  have HK := hide (p := Kept w (((w.alloc (.cells #[.int .i64 p] 34)).alloc (.cells #[.nilFunc] 47)).alloc (.cells #[.int .i64 0] 2)) (· = R)) (Kept.of_below ((((Below.refl _ _).alloc (Nat.le_refl _) _).alloc (by simp) _).alloc (by simp <;> omega) _) _)
  clear A1 A2 hR hS hb hg hz hsa hSR hSl h0R
  go_enter Tryf.func16, Tryf.ntmps16
  go_wp2_with fail
  refine H19.out.mono ?_
  rintro e w3 ⟨rfl, t1, t2⟩
  have K3 := hide (p := Kept w w3 (· = R)) (kept_chain HK.out t2 (fun j hj hy => hy.elim (fun e => e) (fun e => by omega)))
  have hX : ¬ (w.heap.size + 1 + 1 = R) := by omega
  have T1 := hide t1
  have c1 : w3.cell? ⟨w.heap.size + 1 + 1, 0, none⟩ = some (.int .i64 (cnt p zs n)) := t1.cell 0
  have f1 : w3.frozen? ⟨w.heap.size + 1 + 1, 0, none⟩ = false := t1.frozen 0
  clear t1 t2 H19 HK
  go_wp2
  go_region
  go_wp2
  have c2 : (w3.setCell ⟨w.heap.size + 1 + 1, 0, none⟩ (.int .i64 (cnt p zs n))).drew.cell? ⟨w.heap.size + 1 + 1, 0, none⟩ = some (.int .i64 (cnt p zs n)) := (T1.out.set 0 (.int .i64 (cnt p zs n))).cell 0
  exact bodyPost_ret (v := .tuple #[.int .i64 n, .int .i64 (cnt p zs n), .nilIface]) (by simp [results, Tryf.results16, go_sem, c2]) rfl ⟨rfl, (kept_chain K3.out ((Kept.refl w3 (· = w.heap.size + 1 + 1)).setCell ⟨w.heap.size + 1 + 1, 0, none⟩ rfl _) (fun j hj hy => by omega)).drew⟩

set_option maxRecDepth 100000 in
theorem zz12 (p : Int) (n sc S : Nat) (zs : List Int) (x : Addr) (sa : Option Addr) (w : World) (hn : n ≤ 1048576) (hsc : n ≤ sc) (hz : n ≤ zs.length)
    (hsa : 0 < n → sa = some ⟨S, 0, none⟩) (hSl : S < w.heap.size)
    (hS : ∀ j, j < n → w.cell? ⟨S, j, none⟩ = some (.int .u8 (zs.getD j 0))) (hb : ∀ j, j < n → 0 ≤ zs.getD j 0 ∧ zs.getD j 0 ≤ 255)
    (hg : w.cell? ⟨0, 0, none⟩ = some (.iface 61 (.pointer (some x)))) :
    Calls Tryf.prog 12 #[.slice sa n sc, .int .i64 p] w
      fun e w' => e = .returned (.tuple #[.int .i64 n, .int .i64 (cnt p zs n), .bool false]) ∧ Below w.heap.size w w' := by
  have h0l := cell_lt hg
  have H17 := hide (newReader17 (.slice sa n sc) w ⟨_, _, _, rfl⟩)
  have H16 := hide (check16 p n sc w.heap.size S zs x sa (w.alloc (.cells #[.slice sa n sc, .int .i64 0, .int .i64 (-1)] 53)) hn hsc hz hsa (by omega) (by omega) (by simp <;> omega)
    (RowBlk.made w [.slice sa n sc, .int .i64 0, .int .i64 (-1)] 53) (fun j hj => cell_alloc _ (hS j hj)) hb (cell_alloc _ hg))
  clear hS hb hg hsa hz
  go_enter Tryf.func12, Tryf.ntmps12
  go_wp2_with fail
  refine H17.out.mono ?_
  rintro e w1 ⟨rfl, rfl⟩
  go_wp2_with fail
  refine H16.out.mono ?_
  rintro e w2 ⟨rfl, t1⟩
  have B2 := hide (p := Below w.heap.size w w2) (((Below.refl _ _).alloc (Nat.le_refl _) _).trans (t1.below (by simp) (fun j hj => by omega)))
  have hq := neq_nil
  clear t1 H17 H16
  go_wp2
  go_quiet (fail)
  go_wp2
  go_ret3
  exact ⟨rfl, ⟨B2.out.os, B2.out.tape, B2.out.output, B2.out.size, B2.out.block⟩⟩
end Go.Proofs.Qxb6604569aFmt.Par
