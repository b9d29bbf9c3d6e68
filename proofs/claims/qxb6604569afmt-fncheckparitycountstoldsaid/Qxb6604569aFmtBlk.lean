/-
  A BLOCK OF THE CALL's OWN, WRITTEN OUT: 'RowBlk w b e cs': block b of the world holds just the cells cs (elements of type e, nothing frozen).
-/
import Derived.WalkKit
namespace Go
open Go.RowKit

def RowBlk (w : World) (b : Nat) (e : TypeId) (cs : List Value) : Prop := w.heap[b]? = some (.cells cs.toArray e)

theorem RowBlk.cell {w : World} {b : Nat} {e : TypeId} {cs : List Value} (h : RowBlk w b e cs) (j : Nat) : w.cell? ⟨b, j, none⟩ = cs[j]? := by
  unfold RowBlk at h
  unfold World.cell?
  simp only [h]
  simp
theorem RowBlk.frozen {w : World} {b : Nat} {e : TypeId} {cs : List Value} (h : RowBlk w b e cs) (j : Nat) : w.frozen? ⟨b, j, none⟩ = false := by
  unfold RowBlk at h
  unfold World.frozen?
  simp only [h]
  simp
theorem RowBlk.set {w : World} {b : Nat} {e : TypeId} {cs : List Value} (h : RowBlk w b e cs) (j : Nat) (u : Value) : RowBlk (w.setCell ⟨b, j, none⟩ u) b e (cs.set j u) := by
  unfold RowBlk at *
  have := heap_setCell_same w b j cs.toArray e u h
  rw [this]
  simp
theorem RowBlk.other {w : World} {b : Nat} {e : TypeId} {cs : List Value} (h : RowBlk w b e cs) (p : Addr) (u : Value) (hp : b ≠ p.block) : RowBlk (w.setCell p u) b e cs := by
  unfold RowBlk at *
  rw [Below.heap_setCell _ _ _ _ hp]; exact h
theorem RowBlk.lt {w : World} {b : Nat} {e : TypeId} {cs : List Value} (h : RowBlk w b e cs) : b < w.heap.size := by
  unfold RowBlk at h
  exact (Array.getElem?_eq_some_iff.1 h).1
theorem RowBlk.alloc {w : World} {b : Nat} {e : TypeId} {cs : List Value} (h : RowBlk w b e cs) (o : Obj) : RowBlk (w.alloc o) b e cs := by
  have := h.lt
  unfold RowBlk at *
  rw [Below.heap_alloc _ _ _ this]; exact h
theorem RowBlk.made (w : World) (cs : List Value) (e : TypeId) : RowBlk (w.alloc (.cells cs.toArray e)) w.heap.size e cs := by
  unfold RowBlk
  show (w.heap.push _)[w.heap.size]? = _
  simp
theorem RowBlk.below {w w' : World} {b B : Nat} {e : TypeId} {cs : List Value} (h : RowBlk w b e cs) (hb : Below B w w') (hB : b < B) : RowBlk w' b e cs := by
  unfold RowBlk at *
  rw [hb.block b hB]; exact h
theorem RowBlk.drew {w : World} {b : Nat} {e : TypeId} {cs : List Value} (h : RowBlk w b e cs) : RowBlk w.drew b e cs := h
theorem heap_setCell_size (w : World) (p : Addr) (u : Value) : (w.setCell p u).heap.size = w.heap.size := by simp [World.setCell]

/-- A block is turned whole (a map, say): what lies elsewhere is as it was. -/
theorem heap_obj_other (w : World) (c k : Nat) (o : Obj) (h : k ≠ c) : ({ w with heap := w.heap.setIfInBounds c o } : World).heap[k]? = w.heap[k]? := by
  show (w.heap.setIfInBounds c o)[k]? = _
  rw [Array.getElem?_setIfInBounds_ne (fun e => h e.symm)]
theorem heap_obj_same (w : World) (c : Nat) (o : Obj) (h : c < w.heap.size) : ({ w with heap := w.heap.setIfInBounds c o } : World).heap[c]? = some o := by
  show (w.heap.setIfInBounds c o)[c]? = _
  rw [Array.getElem?_setIfInBounds_self, if_pos h]
theorem below_obj {B : Nat} {a w : World} (h : Below B a w) {c : Nat} (hc : B ≤ c) (o : Obj) : Below B a { w with heap := w.heap.setIfInBounds c o } :=
  h.trans ⟨rfl, rfl, rfl, by simp, fun k hk => heap_obj_other w c k o (by omega)⟩

/-- From w to w' only the blocks X have turned (and new ones were laid). -/
structure Kept (w w' : World) (X : Nat → Prop) : Prop where
  os : w'.os = w.os
  tape : w'.tape = w.tape
  output : w'.output = w.output
  size : w.heap.size ≤ w'.heap.size
  block : ∀ j, j < w.heap.size → ¬ X j → w'.heap[j]? = w.heap[j]?
theorem Kept.refl (w : World) (X : Nat → Prop) : Kept w w X := ⟨rfl, rfl, rfl, Nat.le_refl _, fun _ _ _ => rfl⟩
theorem Kept.trans {a b c : World} {X : Nat → Prop} (h : Kept a b X) (k : Kept b c X) : Kept a c X :=
  ⟨k.os.trans h.os, k.tape.trans h.tape, k.output.trans h.output, Nat.le_trans h.size k.size, fun j hj hX => (k.block j (Nat.lt_of_lt_of_le hj h.size) hX).trans (h.block j hj hX)⟩
theorem Kept.mono {w w' : World} {X Y : Nat → Prop} (h : Kept w w' X) (hXY : ∀ j, X j → Y j) : Kept w w' Y := ⟨h.os, h.tape, h.output, h.size, fun j hj hY => h.block j hj (fun hX => hY (hXY j hX))⟩
theorem Kept.of_below {w w' : World} (h : Below w.heap.size w w') (X : Nat → Prop) : Kept w w' X := ⟨h.os, h.tape, h.output, h.size, fun j hj _ => h.block j hj⟩
theorem Kept.below {w w' : World} {X : Nat → Prop} (h : Kept w w' X) {B : Nat} (hB : B ≤ w.heap.size) (hX : ∀ j, X j → B ≤ j) : Below B w w' :=
  ⟨h.os, h.tape, h.output, h.size, fun j hj => h.block j (by omega) (fun hx => by have := hX j hx; omega)⟩
theorem Kept.setCell {a w : World} {X : Nat → Prop} (h : Kept a w X) (p : Addr) (hp : X p.block) (u : Value) : Kept a (w.setCell p u) X :=
  h.trans ⟨rfl, rfl, rfl, by simp [World.setCell], fun j hj hX => Below.heap_setCell _ _ _ _ (fun e => hX (by rw [e]; exact hp))⟩
theorem Kept.drew {a w : World} {X : Nat → Prop} (h : Kept a w X) : Kept a w.drew X := ⟨h.os, h.tape, h.output, h.size, h.block⟩
theorem Kept.obj {a w : World} {X : Nat → Prop} (h : Kept a w X) (c : Nat) (hc : X c) (o : Obj) : Kept a { w with heap := w.heap.setIfInBounds c o } X :=
  h.trans ⟨rfl, rfl, rfl, by simp, fun j hj hX => heap_obj_other w c j o (fun e => hX (by rw [e]; exact hc))⟩

theorem hide {p : Prop} (h : p) : Hid p := h
theorem cell_of {w : World} {b o : Nat} {cur : Array Value} {e : TypeId} (h : w.heap[b]? = some (.cells cur e)) : w.cell? ⟨b, o, none⟩ = cur[o]? := by
  unfold World.cell?
  simp only [h]
  simp
theorem heap_new (w : World) (o : Obj) : (w.alloc o).heap[w.heap.size]? = some o := Array.getElem?_push_size
end Go
