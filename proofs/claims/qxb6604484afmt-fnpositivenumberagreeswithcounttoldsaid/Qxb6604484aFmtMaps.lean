/-
  A MAP KEYED BY STRINGS AS A SET OF KEYS, WRITTEN OUT: what a store and a look-up do to its block. Plain facts on worlds; no walk.
-/
import Derived.Test.Qxb6604484aFmtBlk
import Derived.MapKept
namespace Go.SMap
open Go.RowKit

/-- Block r is a map whose keys are the strings ks, in the order in which they came; every element is 'true'. -/
def SetBlk (w : World) (r : Nat) (ks : List ByteArray) : Prop :=
  ∃ es clock, w.heap[r]? = some (.map es clock) ∧ es.toList.map (·.key) = ks.map Value.string ∧ ∀ e ∈ es.toList, e.val = .bool true
theorem SetBlk.same {w w' : World} {r : Nat} {ks : List ByteArray} (h : SetBlk w r ks) (hb : w'.heap[r]? = w.heap[r]?) : SetBlk w' r ks := by
  obtain ⟨es, clock, h1, h2⟩ := h
  exact ⟨es, clock, hb.trans h1, h2⟩
theorem SetBlk.lt {w : World} {r : Nat} {ks : List ByteArray} (h : SetBlk w r ks) : r < w.heap.size := by
  obtain ⟨es, clock, h1, h2⟩ := h
  exact (Array.getElem?_eq_some_iff.1 h1).1

theorem keys_ok {es : Array MapEntry} {ks : List ByteArray} (h : es.toList.map (·.key) = ks.map Value.string) : ∀ x ∈ es.toList, MapKept.IsKey .string x.key := by
  intro x hx
  have : x.key ∈ es.toList.map (·.key) := List.mem_map_of_mem hx
  rw [h] at this
  obtain ⟨s, _, hs⟩ := List.mem_map.1 this
  rw [← hs]
  simp [MapKept.IsKey]

section
variable {P : Program} {w : World} {T kt et : TypeId} {r : Nat} {ks : List ByteArray}
theorem update_new (hm : P.underlying T = some (.map kt et)) (hk : P.underlying kt = some .string) (h : SetBlk w r ks) (k : ByteArray) (hnm : k ∉ ks) :
    ∃ w', (Instr.mapUpdate T (.map (some r)) (.string k) (.bool true)).run P w = .ok () w' ∧ SetBlk w' r (ks ++ [k]) ∧ Kept w w' (fun x => x = r) ∧ w'.heap.size = w.heap.size := by
  obtain ⟨es, clock, h1, h2, h3⟩ := h
  have hlt : r < w.heap.size := (Array.getElem?_eq_some_iff.1 h1).1
  have hc : (Instr.checkKey false 10000 kt (.string k)).run P w = .ok () w := MapKept.run_checkKey (k := .string k) hk (by simp [MapKept.IsKey]) false 9999
  rcases MapKept.findNow_spec (d := .string) (k := .string k) (by simp [MapKept.IsKey]) es.toList 0 (keys_ok h2) with ⟨hf, hne⟩ | ⟨j, e, hf, hj, hek⟩
  · refine ⟨{ w with heap := w.heap.setIfInBounds r (.map (es.push { key := .string k, val := .bool true, born := clock }) (clock + 1)) }, ?_, ⟨_, _, heap_obj_same w r _ hlt, ?_, ?_⟩, Kept.obj (X := fun x => x = r) (Kept.refl _ _) r rfl _, by simp⟩
    · simp [Instr.mapUpdate, run_underlying hm, MapKept.run_getObj_map h1, hc, MapKept.run_findKey hk hf, MapKept.run_setObj_map _ h1, Result.andThen]
    · simp [h2]
    · intro x hx
      simp at hx
      rcases hx with hx | rfl
      · exact h3 x (by simpa using hx)
      · rfl
  · have hmem : k ∈ ks := by
      have : e.key ∈ es.toList.map (·.key) := List.mem_map_of_mem (List.mem_of_getElem? hj)
      rw [h2, hek] at this
      obtain ⟨s, hs, hs2⟩ := List.mem_map.1 this
      rw [← Value.string.inj hs2]; exact hs
    exact absurd hmem hnm
theorem update_old (hm : P.underlying T = some (.map kt et)) (hk : P.underlying kt = some .string) (h : SetBlk w r ks) (k : ByteArray) (hmem : k ∈ ks) :
    ∃ w', (Instr.mapUpdate T (.map (some r)) (.string k) (.bool true)).run P w = .ok () w' ∧ SetBlk w' r ks ∧ Kept w w' (fun x => x = r) ∧ w'.heap.size = w.heap.size := by
  obtain ⟨es, clock, h1, h2, h3⟩ := h
  have hlt : r < w.heap.size := (Array.getElem?_eq_some_iff.1 h1).1
  have hc : (Instr.checkKey false 10000 kt (.string k)).run P w = .ok () w := MapKept.run_checkKey (k := .string k) hk (by simp [MapKept.IsKey]) false 9999
  rcases MapKept.findNow_spec (d := .string) (k := .string k) (by simp [MapKept.IsKey]) es.toList 0 (keys_ok h2) with ⟨hf, hne⟩ | ⟨j, e, hf, hj, hek⟩
  · have : Value.string k ∈ ks.map Value.string := List.mem_map_of_mem hmem
    rw [← h2] at this
    obtain ⟨x, hx, hx2⟩ := List.mem_map.1 this
    exact absurd hx2 (hne x hx)
  · have hji : es[j]? = some e := by simpa using hj
    have hbeq : (k == k) = true := (MapKept.bytes_beq k k).2 rfl
    rw [Nat.zero_add] at hf
    have hat : ∀ (i : Nat) (x : MapEntry), (es.modify j fun e => { e with key := .string k, val := .bool true })[i]? = some x → ∃ y : MapEntry, es[i]? = some y ∧ x.key = y.key ∧ x.val = .bool true := by
      intro i x hx
      rw [Array.getElem?_modify] at hx
      by_cases hij : j = i
      · subst hij
        rw [if_pos rfl, hji] at hx
        simp at hx
        exact ⟨e, hji, by rw [← hx, hek], by rw [← hx]⟩
      · rw [if_neg hij] at hx
        exact ⟨x, hx, rfl, h3 x (List.mem_of_getElem? (by simpa using hx))⟩
    refine ⟨{ w with heap := w.heap.setIfInBounds r (.map (es.modify j fun e => { e with key := .string k, val := .bool true }) clock) }, ?_, ⟨_, _, heap_obj_same w r _ hlt, ?_, ?_⟩, Kept.obj (X := fun x => x = r) (Kept.refl _ _) r rfl _, by simp⟩
    · simp [Instr.mapUpdate, run_underlying hm, MapKept.run_getObj_map h1, hc, MapKept.run_findKey hk hf, MapKept.run_setObj_map _ h1, Result.andThen, hji, hek, Instr.keyThatStays, Instr.sameBits, hbeq]
    · rw [← h2]
      apply List.ext_getElem?
      intro i
      rw [List.getElem?_map, List.getElem?_map]
      have e1 : (es.modify j fun e => { e with key := .string k, val := .bool true }).toList[i]? = (es.modify j fun e => { e with key := .string k, val := .bool true })[i]? := Array.getElem?_toList
      have e2 : es.toList[i]? = es[i]? := Array.getElem?_toList
      rw [e1, e2]
      cases hx : (es.modify j fun e => { e with key := .string k, val := .bool true })[i]? with
      | some x =>
        obtain ⟨y, hy, hk1, _⟩ := hat i x hx
        rw [hy]; simp [hk1]
      | none =>
        have : ¬ i < es.size := by
          intro hi
          rw [Array.getElem?_eq_none_iff] at hx
          simp at hx
          omega
        rw [Array.getElem?_eq_none (by omega)]
    · intro x hx
      obtain ⟨i, hi⟩ := List.mem_iff_getElem?.1 hx
      obtain ⟨y, _, _, hv⟩ := hat i x (by rw [← Array.getElem?_toList]; exact hi)
      exact hv
theorem look_in (hm : P.underlying T = some (.map kt et)) (hk : P.underlying kt = some .string) (h : SetBlk w r ks) (k : ByteArray) (hmem : k ∈ ks) :
    (Instr.lookup T (.map (some r)) (.string k) false).run P w = .ok (.bool true) w := by
  obtain ⟨es, clock, h1, h2, h3⟩ := h
  have hc : (Instr.checkKey es.isEmpty 10000 kt (.string k)).run P w = .ok () w := MapKept.run_checkKey (k := .string k) hk (by simp [MapKept.IsKey]) _ 9999
  rcases MapKept.findNow_spec (d := .string) (k := .string k) (by simp [MapKept.IsKey]) es.toList 0 (keys_ok h2) with ⟨hf, hne⟩ | ⟨j, e, hf, hj, hek⟩
  · have : Value.string k ∈ ks.map Value.string := List.mem_map_of_mem hmem
    rw [← h2] at this
    obtain ⟨x, hx, hx2⟩ := List.mem_map.1 this
    exact absurd hx2 (hne x hx)
  · have hv := h3 e (List.mem_of_getElem? hj)
    simp [Instr.lookup, run_underlying hm, MapKept.run_getObj_map h1, hc, MapKept.run_findKey hk hf, Result.andThen, hv]

/-- A map of ONE entry. -/
theorem one_hit {sk k : ByteArray} {V : Value} {clock : Nat} (hm : P.underlying T = some (.map kt et)) (hk : P.underlying kt = some .string) (h : w.heap[r]? = some (.map #[{ key := .string sk, val := V, born := 0 }] clock)) (hkk : k = sk) :
    (Instr.lookup T (.map (some r)) (.string k) true).run P w = .ok (.tuple #[V, .bool true]) w := by
  subst hkk
  have hbeq : (k == k) = true := (MapKept.bytes_beq k k).2 rfl
  have hc : (Instr.checkKey false 10000 kt (.string k)).run P w = .ok () w := MapKept.run_checkKey (k := .string k) hk (by simp [MapKept.IsKey]) _ 9999
  have hf : Instr.findNow .string (.string k) [{ key := .string k, val := V, born := 0 }] 0 = some (some (0, V)) := by
    simp [Instr.findNow, Instr.sameNow, hbeq]
  simp [Instr.lookup, run_underlying hm, MapKept.run_getObj_map h, hc, MapKept.run_findKey hk hf, Result.andThen]
theorem one_miss {sk k : ByteArray} {V z : Value} {clock : Nat} (hm : P.underlying T = some (.map kt et)) (hk : P.underlying kt = some .string) (hz : (zeroValue et).run P w = .ok z w) (h : w.heap[r]? = some (.map #[{ key := .string sk, val := V, born := 0 }] clock)) (hkk : k ≠ sk) :
    (Instr.lookup T (.map (some r)) (.string k) true).run P w = .ok (.tuple #[z, .bool false]) w := by
  have hbeq : (k == sk) = false := by
    cases hh : (k == sk) with
    | false => rfl
    | true => exact absurd ((MapKept.bytes_beq k sk).1 hh) hkk
  have hc : (Instr.checkKey false 10000 kt (.string k)).run P w = .ok () w := MapKept.run_checkKey (k := .string k) hk (by simp [MapKept.IsKey]) _ 9999
  have hf : Instr.findNow .string (.string k) [{ key := .string sk, val := V, born := 0 }] 0 = some none := by
    simp [Instr.findNow, Instr.sameNow, hbeq]
  simp [Instr.lookup, run_underlying hm, MapKept.run_getObj_map h, hc, MapKept.run_findKey hk hf, Result.andThen, hz]
end
end Go.SMap
