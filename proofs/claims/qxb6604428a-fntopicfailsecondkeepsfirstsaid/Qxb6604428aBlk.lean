/-
  A BLOCK OF THE CALL's OWN, WRITTEN OUT: 'RowBlk w b e cs': block b of the world holds just the cells cs (elements of type e, nothing frozen).
-/
import Derived.WalkKit
namespace Go
open Go.RowKit

def RowBlk (w : World) (b : Nat) (e : TypeId) (cs : List Value) : Prop := w.heap[b]? = some (.cells cs.toArray e)

theorem RowBlk.cell {w : World} {b : Nat} {e : TypeId} {cs : List Value} (h : RowBlk w b e cs) (j : Nat) : w.cell? ⟨b, j, none⟩ = cs[j]? := by
  unfold RowBlk at h
  unfold World.cell?
  simp only [h]
  simp
theorem RowBlk.frozen {w : World} {b : Nat} {e : TypeId} {cs : List Value} (h : RowBlk w b e cs) (j : Nat) : w.frozen? ⟨b, j, none⟩ = false := by
  unfold RowBlk at h
  unfold World.frozen?
  simp only [h]
  simp
theorem RowBlk.set {w : World} {b : Nat} {e : TypeId} {cs : List Value} (h : RowBlk w b e cs) (j : Nat) (u : Value) : RowBlk (w.setCell ⟨b, j, none⟩ u) b e (cs.set j u) := by
  unfold RowBlk at *
  have := heap_setCell_same w b j cs.toArray e u h
  rw [this]
  simp
theorem RowBlk.other {w : World} {b : Nat} {e : TypeId} {cs : List Value} (h : RowBlk w b e cs) (p : Addr) (u : Value) (hp : b ≠ p.block) : RowBlk (w.setCell p u) b e cs := by
  unfold RowBlk at *
  rw [Below.heap_setCell _ _ _ _ hp]; exact h
theorem RowBlk.lt {w : World} {b : Nat} {e : TypeId} {cs : List Value} (h : RowBlk w b e cs) : b < w.heap.size := by
  unfold RowBlk at h
  exact (Array.getElem?_eq_some_iff.1 h).1
theorem RowBlk.alloc {w : World} {b : Nat} {e : TypeId} {cs : List Value} (h : RowBlk w b e cs) (o : Obj) : RowBlk (w.alloc o) b e cs := by
  have := h.lt
  unfold RowBlk at *
  rw [Below.heap_alloc _ _ _ this]; exact h
theorem RowBlk.made (w : World) (cs : List Value) (e : TypeId) : RowBlk (w.alloc (.cells cs.toArray e)) w.heap.size e cs := by
  unfold RowBlk
  show (w.heap.push _)[w.heap.size]? = _
  simp
theorem RowBlk.below {w w' : World} {b B : Nat} {e : TypeId} {cs : List Value} (h : RowBlk w b e cs) (hb : Below B w w') (hB : b < B) : RowBlk w' b e cs := by
  unfold RowBlk at *
  rw [hb.block b hB]; exact h
theorem RowBlk.drew {w : World} {b : Nat} {e : TypeId} {cs : List Value} (h : RowBlk w b e cs) : RowBlk w.drew b e cs := h
theorem heap_setCell_size (w : World) (p : Addr) (u : Value) : (w.setCell p u).heap.size = w.heap.size := by simp [World.setCell]

/-- 'make([]T, n)', T of one cell: the world behind it, written out. -/
theorem run_make_blk {P : Program} {t e : TypeId} {i : TypeInfo} {z : Value} (ht : P.underlying t = some (.slice e)) (hi : P.info? e = some i) (hz : i.zero = some z) (hc : z.cells = #[z]) (hs : i.size = 1)
    (n : Nat) (hbytes : i.bytes * n ≤ 281474976710656) (h63 : n ≤ maxLen) (w : World) :
    (Instr.makeSlice t (.int .i64 (n : Int)) (.int .i64 (n : Int))).run P w = .ok (.slice (some ⟨w.heap.size, 0, none⟩) n n) (w.alloc (.cells (List.replicate n z).toArray e)) := by
  have h63' : (n : Int) ≤ 9223372036854775807 := by
    have h := h63
    simp [maxLen] at h
    omega
  have hb' : (i.bytes : Int) * (n : Int) ≤ 281474976710656 := by
    have h : ((i.bytes * n : Nat) : Int) ≤ 281474976710656 := by omega
    rwa [Int.natCast_mul] at h
  have hr := run_make (P := P) w t e i z ht hi hz .i64 .i64 n n (by omega) (Int.le_refl _) hb' h63'
  simp only [Int.toNat_natCast] at hr
  rw [hr, hc, hs, Nat.mul_one]
  have : madeCells #[z] n = (List.replicate n z).toArray := by
    rw [← toList_madeCells_one]
  rw [this]
end Go
