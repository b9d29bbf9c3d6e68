import Derived.Test.Qxb6604484aFmtMaps
import Derived.Test.Qxb6604484aFmtCards
import Derived.WalkKit
import Derived.ProofKit
import Derived.WalkLawsBesides
import Derived.WalkSpells
import Derived.Deep.DeepCutAuto
import Derived.Deep.QuietTactic
import Derived.BigQuiet
import Derived.RegionTactic
import Derived.Below
namespace Go.Proofs.Qxb6604484aFmt.Sect
open Go.ChangeShapes Go.WideShapes Go.ChangeAt Go.RowKit Go.SMap
set_option linter.unusedVariables false

def secRow (key base : ByteArray) (v : Nat) (R : Option Nat) : List Value := [.string ⟨#[]⟩, .string key, .string base, .map (some v), .map R]
/-- A section at block s: its values are the map at block v (one entry: sk with V), its read keys the map R. -/
structure Sec (w : World) (s v : Nat) (key base sk : ByteArray) (V : Value) (R : Option Nat) : Prop where
  row : RowBlk w s 51 (secRow key base v R)
  vals : w.heap[v]? = some (.map #[{ key := .string sk, val := V, born := 0 }] 1)
  ne : s ≠ v
theorem Sec.keep {w w' : World} {s v : Nat} {key base sk : ByteArray} {V : Value} {R : Option Nat} (h : Sec w s v key base sk V R) (hs : w'.heap[s]? = w.heap[s]?) (hv : w'.heap[v]? = w.heap[v]?) : Sec w' s v key base sk V R :=
  ⟨hs.trans h.row, hv.trans h.vals, h.ne⟩
theorem Sec.lt {w : World} {s v : Nat} {key base sk : ByteArray} {V : Value} {R : Option Nat} (h : Sec w s v key base sk V R) : s < w.heap.size ∧ v < w.heap.size :=
  ⟨h.row.lt, (Array.getElem?_eq_some_iff.1 h.vals).1⟩
def pick (b : Bool) (V : Value) : Value := if b then V else .nilIface

theorem zero20 (w : World) : (zeroValue 20).run Tryf.prog w = .ok .nilIface w := by kernel_rfl

set_option maxRecDepth 100000 in
set_option maxHeartbeats 400000 in
theorem look35_rest (s v r : Nat) (key base sk : ByteArray) (V : Value) (k : ByteArray) (b : Bool) (ks : List ByteArray) (w : World) (hS : Sec w s v key base sk V (some r)) (hR : SetBlk w r ks) (hrs : r ≠ s) (hrv : r ≠ v) (hb : b = true ↔ k = sk) :
    Calls Tryf.prog 35 #[.pointer (some ⟨s, 0, none⟩), .string k] w fun e w' => e = .returned (.tuple #[pick b V, .bool b]) ∧ Sec w' s v key base sk V (some r) ∧ (∃ ks', SetBlk w' r ks' ∧ (k ∈ ks → ks' = ks) ∧ (k ∉ ks → ks' = ks ++ [k])) ∧ Kept w w' (fun x => x = s ∨ x = r) ∧ w'.heap.size = w.heap.size := by
  have c4 : w.cell? ⟨s, 4, none⟩ = some (.map (some r)) := hS.row.cell 4
  have c3 : w.cell? ⟨s, 3, none⟩ = some (.map (some v)) := hS.row.cell 3
  have he := fun wx => run_eql_map_nil (P := Tryf.prog) wx 49 9 4 (some r) Tryf.underlying49
  obtain ⟨w1, hup, ks', hR', hks, hK, hsz⟩ : ∃ w1, (Instr.mapUpdate 49 (.map (some r)) (.string k) (.bool true)).run Tryf.prog w = .ok () w1 ∧ ∃ ks', SetBlk w1 r ks' ∧ ((k ∈ ks → ks' = ks) ∧ (k ∉ ks → ks' = ks ++ [k])) ∧ Kept w w1 (fun x => x = r) ∧ w1.heap.size = w.heap.size := by
    by_cases hm : k ∈ ks
    · obtain ⟨w1, h1, h2, h3, h4⟩ := update_old (P := Tryf.prog) (T := 49) Tryf.underlying49 Tryf.underlying9 hR k hm
      exact ⟨w1, h1, ks, h2, ⟨fun _ => rfl, fun h => absurd hm h⟩, h3, h4⟩
    · obtain ⟨w1, h1, h2, h3, h4⟩ := update_new (P := Tryf.prog) (T := 49) Tryf.underlying49 Tryf.underlying9 hR k hm
      exact ⟨w1, h1, ks ++ [k], h2, ⟨fun h => absurd h hm, fun _ => rfl⟩, h3, h4⟩
  have hS' := hS.keep (hK.block s hS.lt.1 (fun e => hrs e.symm)) (hK.block v hS.lt.2 (fun e => hrv e.symm))
  have c3' : w1.cell? ⟨s, 3, none⟩ = some (.map (some v)) := hS'.row.cell 3
  have hlk : (Instr.lookup 48 (.map (some v)) (.string k) true).run Tryf.prog w1 = .ok (.tuple #[pick b V, .bool b]) w1 := by
    cases b with
    | true => exact one_hit Tryf.underlying48 Tryf.underlying9 hS'.vals (hb.1 rfl)
    | false => exact one_miss Tryf.underlying48 Tryf.underlying9 (zero20 w1) hS'.vals (fun h => by simpa using hb.2 h)
  have HS' := hide hS'
  have HR' := hide hR'
  have HK := hide (hK.mono (Y := fun x => x = s ∨ x = r) (fun x h => .inr h))
  have HSZ := hide hsz
  have HKS := hide hks
  clear hS hS' hR hR' hK hsz hks
  generalize pick b V = pv at *
  go_enter Tryf.func35, Tryf.ntmps35
  go_wp2
  go_ret2
  exact ⟨rfl, HS'.out, ⟨ks', HR'.out, HKS.out.1, HKS.out.2⟩, HK.out, HSZ.out⟩

set_option maxRecDepth 100000 in
set_option maxHeartbeats 400000 in
theorem look35_first (s v : Nat) (key base sk : ByteArray) (V : Value) (k : ByteArray) (b : Bool) (w : World) (hS : Sec w s v key base sk V none) (hb : b = true ↔ k = sk) :
    Calls Tryf.prog 35 #[.pointer (some ⟨s, 0, none⟩), .string k] w fun e w' => e = .returned (.tuple #[pick b V, .bool b]) ∧ Sec w' s v key base sk V (some w.heap.size) ∧ SetBlk w' w.heap.size [k] ∧ Kept w w' (fun x => x = s) ∧ w'.heap.size = w.heap.size + 1 := by
  have c4 : w.cell? ⟨s, 4, none⟩ = some (.map none) := hS.row.cell 4
  have f4 := hS.row.frozen 4
  have hslt := hS.lt
  have he := fun wx => run_eql_map_nil (P := Tryf.prog) wx 49 9 4 none Tryf.underlying49
  have hmm := @run_makeMap Tryf.prog
  have hS1 : Sec ((w.setCell ⟨s, 4, none⟩ (.map (some w.heap.size))).alloc (.map #[] 0)) s v key base sk V (some w.heap.size) :=
    ⟨(hS.row.set 4 (.map (some w.heap.size))).alloc _, by rw [Below.heap_alloc _ _ _ (by rw [heap_setCell_size]; exact hslt.2), Below.heap_setCell _ _ _ _ (fun e => hS.ne e.symm)]; exact hS.vals, hS.ne⟩
  have hR1 : SetBlk ((w.setCell ⟨s, 4, none⟩ (.map (some w.heap.size))).alloc (.map #[] 0)) w.heap.size [] := by
    refine ⟨#[], 0, ?_, rfl, fun e h => by simp at h⟩
    have := heap_new (w.setCell ⟨s, 4, none⟩ (.map (some w.heap.size))) (.map #[] 0)
    rw [heap_setCell_size] at this
    exact this
  have hK1 : Kept w ((w.setCell ⟨s, 4, none⟩ (.map (some w.heap.size))).alloc (.map #[] 0)) (fun x => x = s) :=
    (Kept.setCell (X := fun x => x = s) (Kept.refl _ _) ⟨s, 4, none⟩ rfl _).trans (Kept.of_below ((Below.refl _ _).alloc (Nat.le_refl _) _) _)
  obtain ⟨w1, hup, hR', hK, hsz⟩ := update_new (P := Tryf.prog) (T := 49) Tryf.underlying49 Tryf.underlying9 hR1 k (by simp)
  have hS' := hS1.keep (hK.block s hS1.lt.1 (by omega)) (hK.block v hS1.lt.2 (by omega))
  have c4' : ((w.setCell ⟨s, 4, none⟩ (.map (some w.heap.size))).alloc (.map #[] 0)).cell? ⟨s, 4, none⟩ = some (.map (some w.heap.size)) := hS1.row.cell 4
  have c3' : w1.cell? ⟨s, 3, none⟩ = some (.map (some v)) := hS'.row.cell 3
  have hlk : (Instr.lookup 48 (.map (some v)) (.string k) true).run Tryf.prog w1 = .ok (.tuple #[pick b V, .bool b]) w1 := by
    cases b with
    | true => exact one_hit Tryf.underlying48 Tryf.underlying9 hS'.vals (hb.1 rfl)
    | false => exact one_miss Tryf.underlying48 Tryf.underlying9 (zero20 w1) hS'.vals (fun h => by simpa using hb.2 h)
  have HS' := hide hS'
  have HR' := hide (show SetBlk w1 w.heap.size [k] by simpa using hR')
  have HK := hide (show Kept w w1 (fun x => x = s) from ⟨hK.os.trans hK1.os, hK.tape.trans hK1.tape, hK.output.trans hK1.output, Nat.le_trans hK1.size hK.size, fun j hj hx => (hK.block j (Nat.lt_of_lt_of_le hj hK1.size) (by omega)).trans (hK1.block j hj hx)⟩)
  have HSZ := hide (show w1.heap.size = w.heap.size + 1 by rw [hsz]; simp [World.setCell])
  have h1 := hslt.1
  clear hS hS' hR1 hR' hK hK1 hsz hS1
  generalize pick b V = pv at *
  go_enter Tryf.func35, Tryf.ntmps35
  go_wp2
  go_ret2
  exact ⟨rfl, HS'.out, HR'.out, HK.out, HSZ.out⟩
end Go.Proofs.Qxb6604484aFmt.Sect
