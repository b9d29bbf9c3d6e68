/-
  WHAT THE PENDINGS OF THE SHIM ARE IN MEMORY: plain facts on worlds; no walk.
-/
import Derived.Test.Qxb6604428aBlk
import Derived.Conc.LoneSelectN
namespace Go
open Go.RowKit

/-- Block b is a row of n elements of sz cells each: element i holds the cells f i. Nothing of it is frozen. -/
def Strip (w : World) (b : Nat) (e : TypeId) (sz n : Nat) (f : Nat → List Value) : Prop :=
  ∃ cur : Array Value, w.heap[b]? = some (.cells cur e) ∧ cur.size = n * sz ∧ ∀ i, i < n → ∀ j, j < sz → cur[i * sz + j]? = (f i)[j]?

section
variable {w w' : World} {b B : Nat} {e : TypeId} {sz n : Nat} {f g : Nat → List Value}
theorem Strip.cell (h : Strip w b e sz n f) {i j : Nat} (hi : i < n) (hj : j < sz) : w.cell? ⟨b, i * sz + j, none⟩ = (f i)[j]? := by
  obtain ⟨cur, h1, h2, h3⟩ := h
  rw [← h3 i hi j hj]
  unfold World.cell?
  simp only [h1]
  simp
theorem Strip.frozen (h : Strip w b e sz n f) (o : Nat) : w.frozen? ⟨b, o, none⟩ = false := by
  obtain ⟨cur, h1, _⟩ := h
  unfold World.frozen?
  simp only [h1]
  simp
theorem Strip.lt (h : Strip w b e sz n f) : b < w.heap.size := by
  obtain ⟨cur, h1, _⟩ := h
  exact (Array.getElem?_eq_some_iff.1 h1).1
theorem Strip.same (h : Strip w b e sz n f) (hb : w'.heap[b]? = w.heap[b]?) : Strip w' b e sz n f := by
  obtain ⟨cur, h1, h2⟩ := h
  exact ⟨cur, hb.trans h1, h2⟩
theorem Strip.below (h : Strip w b e sz n f) (hb : Below B w w') (hB : b < B) : Strip w' b e sz n f := h.same (hb.block b hB)
theorem Strip.congr (h : Strip w b e sz n f) (hg : ∀ i, i < n → f i = g i) : Strip w b e sz n g := by
  obtain ⟨cur, h1, h2, h3⟩ := h
  exact ⟨cur, h1, h2, fun i hi j hj => by rw [← hg i hi]; exact h3 i hi j hj⟩
theorem row_lt {sz i n j : Nat} (hi : i < n) (hj : j < sz) : i * sz + j < n * sz := by
  have : (i + 1) * sz ≤ n * sz := Nat.mul_le_mul_right _ hi
  rw [Nat.succ_mul] at this; omega
theorem row_ne {sz i k j l : Nat} (hi : i ≠ k) (hj : j < sz) (hl : l < sz) : i * sz + j ≠ k * sz + l := by
  intro h
  rcases Nat.lt_or_gt_of_ne hi with h1 | h1
  · have := row_lt (sz := sz) h1 hj; omega
  · have := row_lt (sz := sz) h1 hl; omega

/-- One cell of element k is written. -/
theorem Strip.set (h : Strip w b e sz n f) {k l : Nat} (hk : k < n) (hl : l < sz) (u : Value) (hf : ∀ i, i < n → (f i).length = sz) :
    Strip (w.setCell ⟨b, k * sz + l, none⟩ u) b e sz n (fun i => if i = k then (f i).set l u else f i) := by
  obtain ⟨cur, h1, h2, h3⟩ := h
  refine ⟨cur.setIfInBounds (k * sz + l) u, heap_setCell_same w b _ cur e u h1, by simpa using h2, fun i hi j hj => ?_⟩
  by_cases hik : i = k
  · subst hik
    simp only [if_true]
    rw [Array.getElem?_setIfInBounds, List.getElem?_set]
    by_cases hjl : j = l
    · subst hjl
      rw [if_pos rfl, if_pos rfl, if_pos (by rw [h2]; exact row_lt hk hl), if_pos (by rw [hf i hi]; exact hl)]
    · rw [if_neg (by omega), if_neg (by omega)]
      exact h3 i hi j hj
  · simp only [if_neg hik]
    rw [Array.getElem?_setIfInBounds_ne (fun h => row_ne hik hj hl h.symm)]
    exact h3 i hi j hj
end

/-- The state of a Pending: how much is left, its error, has its stream failed, is its channel closed. -/
structure PS where
  left : Int
  err : Value
  failed : Bool
  closed : Bool

def pendCells (s c : Nat) (x : PS) : List Value :=
  [.pointer (some ⟨s, 0, none⟩), .string ⟨#[]⟩, .string ⟨#[]⟩, .int .i64 0, .int .i64 0, .chan (some c), .int .i64 0, .int .i64 0, .int .i64 x.left, .int .i64 0, x.err]
def flag (b : Bool) : Int := if b then 1 else 0
def strCells (b : Bool) : List Value := [.pointer none, .int .u32 (flag b), .pointer none]

def Pend (w : World) (p s c : Nat) (x : PS) : Prop :=
  RowBlk w p 85 (pendCells s c x) ∧ RowBlk w s 83 (strCells x.failed) ∧ w.heap[c]? = some (.chan 0 #[] x.closed 0 0 false)

theorem Pend.same {w w' : World} {p s c : Nat} {x : PS} (h : Pend w p s c x) (hp : w'.heap[p]? = w.heap[p]?) (hs : w'.heap[s]? = w.heap[s]?) (hc : w'.heap[c]? = w.heap[c]?) : Pend w' p s c x :=
  ⟨hp.trans h.1, hs.trans h.2.1, hc.trans h.2.2⟩

def qRow (p : Option Nat) : List Value :=
  [.pointer (p.map fun b => ⟨b, 0, none⟩), .string ⟨#[]⟩, .slice none 0 0, .int .i64 0, .bool false, .bool false, .int .i64 0, .slice none 0 0, .int .i64 0, .int .i64 0, .int .i64 0, .int .i64 0]
theorem qRow_len (p : Option Nat) : (qRow p).length = 12 := rfl

/-- Where round i of 'zzPendings' lays its blocks, the queue's own row being block 'base'. -/
def pA (base i : Nat) : Nat := base + 3 + 3 * i
def sA (base : Nat) (o : Nat → Bool) (i : Nat) : Nat := if o i then base + 2 + 3 * i else base + 1 + 3 * i
def cA (base : Nat) (o : Nat → Bool) (i : Nat) : Nat := if o i then base + 1 + 3 * i else base + 2 + 3 * i

def Pends (w : World) (base n : Nat) (o : Nat → Bool) (st : Nat → PS) : Prop := ∀ i, i < n → Pend w (pA base i) (sA base o i) (cA base o i) (st i)
def fresh (left : Int) : PS := { left := left, err := .nilIface, failed := false, closed := false }
/-- As 'zzPendings' leaves it. -/
def born (left : Int) : PS := { left := left, err := .nilIface, failed := false, closed := left == 0 }

/-- A channel's block is turned: what lies elsewhere is as it was. -/
theorem heap_obj_other (w : World) (c k : Nat) (o : Obj) (h : k ≠ c) : ({ w with heap := w.heap.setIfInBounds c o } : World).heap[k]? = w.heap[k]? := by
  show (w.heap.setIfInBounds c o)[k]? = _
  rw [Array.getElem?_setIfInBounds_ne (fun e => h e.symm)]
theorem heap_obj_same (w : World) (c : Nat) (o : Obj) (h : c < w.heap.size) : ({ w with heap := w.heap.setIfInBounds c o } : World).heap[c]? = some o := by
  show (w.heap.setIfInBounds c o)[c]? = _
  rw [Array.getElem?_setIfInBounds_self, if_pos h]
theorem below_obj {B : Nat} {a w : World} (h : Below B a w) {c : Nat} (hc : B ≤ c) (o : Obj) : Below B a { w with heap := w.heap.setIfInBounds c o } :=
  h.trans ⟨rfl, rfl, rfl, by simp, fun k hk => heap_obj_other w c k o (by omega)⟩

/-! ### several cells written, one behind the other -/
theorem setCells_other (b : Nat) : ∀ (vs : List Value) (o : Nat) (w : World) (k : Nat), k ≠ b → (w.setCells b o vs).heap[k]? = w.heap[k]?
  | [], _, _, _, _ => rfl
  | v :: r, o, w, k, h => by
    show ((w.setCell ⟨b, o, none⟩ v).setCells b (o + 1) r).heap[k]? = _
    rw [setCells_other b r (o + 1) _ k h, Below.heap_setCell _ _ _ _ (by exact h)]
theorem setCells_size (b : Nat) : ∀ (vs : List Value) (o : Nat) (w : World), (w.setCells b o vs).heap.size = w.heap.size
  | [], _, _ => rfl
  | v :: r, o, w => by
    show ((w.setCell ⟨b, o, none⟩ v).setCells b (o + 1) r).heap.size = _
    rw [setCells_size b r (o + 1) _, heap_setCell_size]
theorem setCells_below {B : Nat} {a : World} (b : Nat) (hb : B ≤ b) : ∀ (vs : List Value) (o : Nat) (w : World), Below B a w → Below B a (w.setCells b o vs)
  | [], _, _, h => h
  | v :: r, o, w, h => setCells_below b hb r (o + 1) _ (h.setCell (by exact hb) v)
theorem setCells_same (b : Nat) (e : TypeId) : ∀ (vs : List Value) (o : Nat) (w : World) (cur : Array Value), w.heap[b]? = some (.cells cur e) → o + vs.length ≤ cur.size →
    ∃ cur' : Array Value, (w.setCells b o vs).heap[b]? = some (.cells cur' e) ∧ cur'.size = cur.size ∧ (∀ j, j < o ∨ o + vs.length ≤ j → cur'[j]? = cur[j]?) ∧ ∀ j, j < vs.length → cur'[o + j]? = vs[j]?
  | [], _, w, cur, h, _ => ⟨cur, h, rfl, fun _ _ => rfl, fun j hj => by simp at hj⟩
  | v :: r, o, w, cur, h, hl => by
    simp only [List.length_cons] at hl
    have h1 := heap_setCell_same w b o cur e v h
    obtain ⟨cur', g1, g2, g3, g4⟩ := setCells_same b e r (o + 1) _ _ h1 (by simp; omega)
    refine ⟨cur', g1, by simpa using g2, fun j hj => ?_, fun j hj => ?_⟩
    · simp only [List.length_cons] at hj
      rw [g3 j (by omega), Array.getElem?_setIfInBounds_ne (by omega)]
    · cases j with
      | zero =>
        rw [Nat.add_zero, g3 o (by omega), Array.getElem?_setIfInBounds_self, if_pos (by omega)]; rfl
      | succ j =>
        simp only [List.length_cons] at hj
        have := g4 j (by omega)
        rw [show o + (j + 1) = o + 1 + j from by omega, this]; rfl
/-- Element k of a row is written, all of it. -/
theorem Strip.put {w : World} {b : Nat} {e : TypeId} {sz n : Nat} {f : Nat → List Value} (h : Strip w b e sz n f) {k : Nat} (hk : k < n) (vs : List Value) (hv : vs.length = sz) :
    Strip (w.setCells b (k * sz) vs) b e sz n (fun i => if i = k then vs else f i) := by
  obtain ⟨cur, h1, h2, h3⟩ := h
  have hle : k * sz + vs.length ≤ cur.size := by
    have : (k + 1) * sz ≤ n * sz := Nat.mul_le_mul_right _ hk
    rw [Nat.succ_mul] at this; omega
  obtain ⟨cur', g1, g2, g3, g4⟩ := setCells_same b e vs (k * sz) w cur h1 hle
  refine ⟨cur', g1, g2.trans h2, fun i hi j hj => ?_⟩
  by_cases hik : i = k
  · subst hik
    simp only [if_true]
    exact g4 j (by omega)
  · simp only [if_neg hik]
    rw [g3 _ ?_]
    · exact h3 i hi j hj
    · rcases Nat.lt_or_gt_of_ne hik with h | h
      · exact .inl (by have := row_lt (sz := sz) h hj; omega)
      · refine .inr ?_
        have : (k + 1) * sz ≤ i * sz := Nat.mul_le_mul_right _ h
        rw [Nat.succ_mul] at this; omega
end Go
