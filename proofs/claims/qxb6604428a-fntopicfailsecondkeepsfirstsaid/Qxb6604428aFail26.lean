import Derived.Test.Qxb6604428aPend
import Derived.Test.Qxb6604428aRows
import Derived.WalkKit
import Derived.ProofKit
import Derived.WalkLawsBesides
import Derived.WalkSpells
import Derived.RegionTactic
import Derived.BigRegion
import Derived.Deep.RegionWith
import Derived.RegionCalls
import Derived.Deep.QuietTactic
import Derived.BigQuiet
import Derived.Deep.DeepCutAuto
import Derived.Conc.LoneCalls
import Derived.Laws.LoneSync
namespace Go.Proofs.Qxb6604428a.Fail
open Go.ChangeShapes Go.WideShapes Go.ChangeAt Go.RowKit Go.Conc
set_option linter.unusedVariables false

theorem b32_33 (w : World) : Calls Try.prog 33 #[.bool true] w fun e w' => e = .returned (.int .u32 1) ∧ w' = w := by
  go_enter Try.func33, Try.ntmps33
  go_wp2
  go_ret
  exact ⟨rfl, rfl⟩

theorem store30 (b o : Nat) (u : Value) (w : World) (hc : w.cell? ⟨b, o, none⟩ = some u) (hf : w.frozen? ⟨b, o, none⟩ = false) :
    Calls Try.prog 30 #[.pointer (some ⟨b, o, none⟩), .bool true] w fun e w' => e = .returned (.tuple #[]) ∧ w' = (w.setCell ⟨b, o, none⟩ (.int .u32 1)).drew := by
  have hst := run_call_store (P := Try.prog) Try.func32 (by kernel_rfl) (by kernel_rfl) (by kernel_rfl) (by kernel_rfl) (k := .u32) (y := 1) (w := w.drew) (a := ⟨b, o, none⟩) (u := u) hc hf
  go_enter Try.func30, Try.ntmps30
  go_wp2_with fail
  go_region_with (go_at_call 33; refine (b32_33 _).mono ?_; rintro e w' ⟨rfl, rfl⟩)
  all_goals (go_end0; exact ⟨rfl, rfl⟩)

theorem load28 (b o : Nat) (f : Bool) (w : World) (hc : w.cell? ⟨b, o, none⟩ = some (.int .u32 (flag f))) :
    Calls Try.prog 28 #[.pointer (some ⟨b, o, none⟩)] w fun e w' => e = .returned (.bool f) ∧ w' = w := by
  have hl := run_call_load (P := Try.prog) Try.func31 (by kernel_rfl) (by kernel_rfl) (by kernel_rfl) .u32 (by kernel_rfl) hc
  have hn : (flag f != 0) = f := by cases f <;> rfl
  go_enter Try.func28, Try.ntmps28
  go_wp2
  go_ret
  exact ⟨rfl, rfl⟩

/-- What Pending.fail makes of a state. -/
def fin (err : Value) (x : PS) : PS := if x.left = 0 then x else { left := 0, err := err, failed := true, closed := true }

theorem fail26_none (p s c : Nat) (x : PS) (err : Value) (w : World) (hP : Pend w p s c x) (hx : x.left = 0) :
    Calls Try.prog 26 #[.pointer (some ⟨p, 0, none⟩), err] w fun e w' => e = .returned (.tuple #[]) ∧ w' = w := by
  have h8 : w.cell? ⟨p, 8, none⟩ = some (.int .i64 x.left) := hP.1.cell 8
  rw [hx] at h8
  go_enter Try.func26, Try.ntmps26
  go_wp2
  first | go_end0 | refine bodyPost_ret (results_none rfl _ _ _) rfl ?_
  exact ⟨rfl, rfl⟩

/-- From w to w' only the blocks X have turned (and new ones were laid). -/
structure Kept (w w' : World) (X : Nat → Prop) : Prop where
  os : w'.os = w.os
  tape : w'.tape = w.tape
  output : w'.output = w.output
  size : w.heap.size ≤ w'.heap.size
  block : ∀ j, j < w.heap.size → ¬ X j → w'.heap[j]? = w.heap[j]?
theorem Kept.refl (w : World) (X : Nat → Prop) : Kept w w X := ⟨rfl, rfl, rfl, Nat.le_refl _, fun _ _ _ => rfl⟩
theorem Kept.trans {a b c : World} {X : Nat → Prop} (h : Kept a b X) (k : Kept b c X) : Kept a c X :=
  ⟨k.os.trans h.os, k.tape.trans h.tape, k.output.trans h.output, Nat.le_trans h.size k.size, fun j hj hX => (k.block j (Nat.lt_of_lt_of_le hj h.size) hX).trans (h.block j hj hX)⟩
theorem Kept.mono {w w' : World} {X Y : Nat → Prop} (h : Kept w w' X) (hXY : ∀ j, X j → Y j) : Kept w w' Y := ⟨h.os, h.tape, h.output, h.size, fun j hj hY => h.block j hj (fun hX => hY (hXY j hX))⟩
theorem Kept.of_below {w w' : World} (h : Below w.heap.size w w') (X : Nat → Prop) : Kept w w' X := ⟨h.os, h.tape, h.output, h.size, fun j hj _ => h.block j hj⟩
theorem Kept.below {w w' : World} {X : Nat → Prop} (h : Kept w w' X) {B : Nat} (hB : B ≤ w.heap.size) (hX : ∀ j, X j → B ≤ j) : Below B w w' :=
  ⟨h.os, h.tape, h.output, h.size, fun j hj => h.block j (by omega) (fun hx => by have := hX j hx; omega)⟩
theorem Kept.setCell {a w : World} {X : Nat → Prop} (h : Kept a w X) (p : Addr) (hp : X p.block) (u : Value) : Kept a (w.setCell p u) X :=
  h.trans ⟨rfl, rfl, rfl, by simp [World.setCell], fun j hj hX => Below.heap_setCell _ _ _ _ (fun e => hX (by rw [e]; exact hp))⟩
theorem Kept.drew {a w : World} {X : Nat → Prop} (h : Kept a w X) : Kept a w.drew X := ⟨h.os, h.tape, h.output, h.size, h.block⟩
theorem Kept.obj {a w : World} {X : Nat → Prop} (h : Kept a w X) (c : Nat) (hc : X c) (o : Obj) : Kept a { w with heap := w.heap.setIfInBounds c o } X :=
  h.trans ⟨rfl, rfl, rfl, by simp, fun j hj hX => heap_obj_other w c j o (fun e => hX (by rw [e]; exact hc))⟩

def trio (p s c : Nat) (j : Nat) : Prop := j = p ∨ j = s ∨ j = c

/-- What the four values may be that stand for an error here. -/
def Errv (err : Value) : Prop := err = .nilIface ∨ ∃ m : Nat, err = .iface 93 (.pointer (some ⟨m, 0, none⟩))

theorem pend_written {w : World} {p s c : Nat} {x : PS} (err : Value) (hP : Pend w p s c x) (hcl : x.closed = false) (hps : p ≠ s) (hpc : p ≠ c) (hsc : s ≠ c) :
    Pend (((w.setCell ⟨s, 1, none⟩ (.int .u32 1)).setCell ⟨p, 8, none⟩ (.int .i64 0)).setCell ⟨p, 10, none⟩ err).drew p s c { left := 0, err := err, failed := true, closed := false } := by
  obtain ⟨h1, h2, h3⟩ := hP
  refine ⟨?_, ?_, ?_⟩
  · exact (((h1.other ⟨s, 1, none⟩ _ hps).set 8 _).set 10 _)
  · exact (((h2.set 1 (.int .u32 1)).other ⟨p, 8, none⟩ _ (fun e => hps e.symm)).other ⟨p, 10, none⟩ _ (fun e => hps e.symm))
  · show ((((w.setCell ⟨s, 1, none⟩ (.int .u32 1)).setCell ⟨p, 8, none⟩ (.int .i64 0)).setCell ⟨p, 10, none⟩ err)).heap[c]? = _
    rw [Below.heap_setCell _ _ _ _ (fun e => hpc e.symm), Below.heap_setCell _ _ _ _ (fun e => hpc e.symm), Below.heap_setCell _ _ _ _ (fun e => hsc e.symm), h3, hcl]
theorem pend_closed {wc : World} {p s c : Nat} {x : PS} (hP : Pend wc p s c x) (hpc : p ≠ c) (hsc : s ≠ c) : Pend { wc with heap := wc.heap.setIfInBounds c (.chan 0 #[] true 0 0 false) } p s c { x with closed := true } :=
  ⟨(heap_obj_other wc c p _ hpc).trans hP.1, (heap_obj_other wc c s _ hsc).trans hP.2.1, heap_obj_same wc c _ (Array.getElem?_eq_some_iff.1 hP.2.2).1⟩

set_option maxRecDepth 100000 in
set_option maxHeartbeats 400000 in
theorem fail26_live (p s c : Nat) (x : PS) (err : Value) (w : World) (herr : Errv err) (hP : Pend w p s c x) (hx : x.left ≠ 0) (hcl : x.closed = false) (hps : p ≠ s) (hpc : p ≠ c) (hsc : s ≠ c) :
    Calls Try.prog 26 #[.pointer (some ⟨p, 0, none⟩), err] w fun e w' => e = .returned (.tuple #[]) ∧ Pend w' p s c { left := 0, err := err, failed := true, closed := true } ∧ Kept w w' (trio p s c) ∧ w'.heap.size = w.heap.size := by
  have h8 : w.cell? ⟨p, 8, none⟩ = some (.int .i64 x.left) := hP.1.cell 8
  have h0 : w.cell? ⟨p, 0, none⟩ = some (.pointer (some ⟨s, 0, none⟩)) := hP.1.cell 0
  have h10 : w.cell? ⟨p, 10, none⟩ = some x.err := hP.1.cell 10
  have hf := hP.1.frozen
  have hs1 : w.cell? ⟨s, 1, none⟩ = some (.int .u32 (flag x.failed)) := hP.2.1.cell 1
  have hsf := hP.2.1.frozen 1
  have hx1 : (x.left == 0) = false := beq_eq_false_iff_ne.2 hx
  have HP : Hid _ := pend_written err hP hcl hps hpc hsc
  clear hP
  go_enter Try.func26, Try.ntmps26
  go_upto_region 2 with (go_at_call 30; refine (store30 s 1 _ _ hs1 hsf).mono ?_; rintro e w' ⟨rfl, hw⟩; subst w')
  go_cut [] (fun wc => Pend wc p s c { left := 0, err := err, failed := true, closed := false } ∧ Kept w wc (trio p s c) ∧ wc.heap.size = w.heap.size)
  case first =>
    rcases herr with rfl | ⟨m, rfl⟩
    all_goals
      go_wp2
      go_meet
      exact ⟨HP.out, ((((Kept.refl _ _).setCell _ (.inr (.inl rfl)) _).setCell _ (.inl rfl) _).setCell _ (.inl rfl) _).drew, by simp [World.setCell]⟩
  case rest =>
    obtain ⟨hP, hk, hsz⟩ := hcut
    clear h8 h0 h10 hf hs1 hsf HP
    have h5 : wc.cell? ⟨p, 5, none⟩ = some (.chan (some c)) := hP.1.cell 5
    have hcl := fun ats ty => run_close_open (P := Try.prog) (w := wc) ats ty hP.2.2
    have HS : Hid _ := hsz
    clear hsz
    go_wp2
    go_end0
    exact ⟨rfl, pend_closed hP hpc hsc, hk.obj c (.inr (.inr rfl)) _, by simpa using HS.out⟩

theorem fail26 (p s c : Nat) (x : PS) (err : Value) (w : World) (herr : Errv err) (hP : Pend w p s c x) (hcl : x.left ≠ 0 → x.closed = false) (hps : p ≠ s) (hpc : p ≠ c) (hsc : s ≠ c) :
    Calls Try.prog 26 #[.pointer (some ⟨p, 0, none⟩), err] w fun e w' => e = .returned (.tuple #[]) ∧ Pend w' p s c (fin err x) ∧ Kept w w' (trio p s c) ∧ w'.heap.size = w.heap.size := by
  by_cases hx : x.left = 0
  · refine (fail26_none p s c x err w hP hx).mono ?_
    rintro e w' ⟨rfl, rfl⟩
    unfold fin
    rw [if_pos hx]
    exact ⟨rfl, hP, Kept.refl _ _, rfl⟩
  · unfold fin
    rw [if_neg hx]
    exact fail26_live p s c x err w herr hP hx (hcl hx) hps hpc hsc

theorem clear_nil (ty : TypeId) (w : World) : (Builtin.clear_ #[48] ty #[.map none]).run Try.prog w = .ok (.tuple #[]) w := by kernel_rfl
set_option maxRecDepth 100000 in
theorem failed27 (j : Nat) (w : World) (h : w.cell? ⟨j, 2, none⟩ = some (.map none)) :
    Calls Try.prog 27 #[.pointer (some ⟨j, 0, none⟩)] w fun e w' => e = .returned (.tuple #[]) ∧ w' = w := by
  have hcl := clear_nil
  go_enter Try.func27, Try.ntmps27
  go_wp2
  go_end0
  exact ⟨rfl, rfl⟩
end Go.Proofs.Qxb6604428a.Fail
