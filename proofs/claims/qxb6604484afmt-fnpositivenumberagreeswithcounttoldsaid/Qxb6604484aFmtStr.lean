import Derived.Test.Qxb6604484aFmtLook
import Derived.WideMake
namespace Go.Proofs.Qxb6604484aFmt.Sect
open Go.ChangeShapes Go.WideShapes Go.ChangeAt Go.RowKit Go.SMap
set_option linter.unusedVariables false

/-- A section of the call's own (its blocks from B on), the keys ks marked as read. -/
def State (w : World) (B s v : Nat) (key base sk : ByteArray) (V : Value) (ks : List ByteArray) : Prop :=
  ∃ R, Sec w s v key base sk V R ∧ B ≤ s ∧ B ≤ w.heap.size ∧ ((R = none ∧ ks = []) ∨ ∃ r, R = some r ∧ SetBlk w r ks ∧ r ≠ s ∧ r ≠ v ∧ B ≤ r)
def Marked (ks : List ByteArray) (k : ByteArray) (ks' : List ByteArray) : Prop := (k ∈ ks → ks' = ks) ∧ (k ∉ ks → ks' = ks ++ [k])

theorem look35 (B s v : Nat) (key base sk : ByteArray) (V : Value) (k : ByteArray) (b : Bool) (ks : List ByteArray) (w : World) (hS : State w B s v key base sk V ks) (hb : b = true ↔ k = sk) :
    Calls Tryf.prog 35 #[.pointer (some ⟨s, 0, none⟩), .string k] w fun e w' => e = .returned (.tuple #[pick b V, .bool b]) ∧ (∃ ks', State w' B s v key base sk V ks' ∧ Marked ks k ks') ∧ Below B w w' := by
  obtain ⟨R, hsec, hBs, hBw, ⟨rfl, rfl⟩ | ⟨r, rfl, hset, hrs, hrv, hBr⟩⟩ := hS
  · refine (look35_first s v key base sk V k b w hsec hb).mono ?_
    rintro e w' ⟨rfl, h1, h2, h3, h4⟩
    refine ⟨rfl, ⟨[k], ⟨_, h1, hBs, by omega, .inr ⟨_, rfl, h2, by have := hsec.lt; omega, by have := hsec.lt; omega, hBw⟩⟩, ⟨fun h => by simp at h, fun _ => rfl⟩⟩, h3.below hBw (fun x hx => by omega)⟩
  · refine (look35_rest s v r key base sk V k b ks w hsec hset hrs hrv hb).mono ?_
    rintro e w' ⟨rfl, h1, ⟨ks', h2, h5, h6⟩, h3, h4⟩
    exact ⟨rfl, ⟨ks', ⟨_, h1, hBs, by omega, .inr ⟨r, rfl, h2, hrs, hrv, hBr⟩⟩, ⟨h5, h6⟩⟩, h3.below hBw (fun x hx => by omega)⟩

def str (b : Bool) (sv : ByteArray) : ByteArray := if b then sv else ⟨#[]⟩

theorem assert_str (sv : ByteArray) (w : World) : (Instr.typeAssert (.iface 9 (.string sv)) 20 9 true).run Tryf.prog w = .ok (.tuple #[.string sv, .bool true]) w := by kernel_rfl
theorem assert_nil (w : World) : (Instr.typeAssert .nilIface 55 52 true).run Tryf.prog w = .ok (.tuple #[.pointer none, .bool false]) w := by kernel_rfl
theorem eql55_nil (w : World) : (binOp .eql 55 .nilIface .nilIface).run Tryf.prog w = .ok (.bool true) w := by kernel_rfl

set_option maxRecDepth 100000 in
theorem str30 (B s v : Nat) (key base sk sv : ByteArray) (k : ByteArray) (b : Bool) (ks : List ByteArray) (w : World) (hS : State w B s v key base sk (.iface 9 (.string sv)) ks) (hb : b = true ↔ k = sk) :
    Calls Tryf.prog 30 #[.pointer (some ⟨s, 0, none⟩), .string k] w fun e w' => e = .returned (.tuple #[.string (str b sv), .bool b, .nilIface]) ∧ (∃ ks', State w' B s v key base sk (.iface 9 (.string sv)) ks' ∧ Marked ks k ks') ∧ Below B w w' := by
  have HL := hide (look35 B s v key base sk (.iface 9 (.string sv)) k b ks w hS hb)
  clear hS hb
  have ha := assert_str sv
  cases b with
  | true =>
    go_enter Tryf.func30, Tryf.ntmps30
    go_wp2_with (go_at_call 35; refine HL.out.mono ?_; rintro e w' ⟨rfl, hx, hB⟩; have HX := hide hx; clear hx; simp only [pick, if_true])
    go_ret3
    exact ⟨rfl, HX.out, hB⟩
  | false =>
    go_enter Tryf.func30, Tryf.ntmps30
    go_wp2_with (go_at_call 35; refine HL.out.mono ?_; rintro e w' ⟨rfl, hx, hB⟩; have HX := hide hx; clear hx; simp only [pick])
    go_ret3
    exact ⟨rfl, HX.out, hB⟩

theorem State.drewN {w : World} {B s v : Nat} {key base sk : ByteArray} {V : Value} {ks : List ByteArray} (h : State w B s v key base sk V ks) (n : Nat) : State (w.drewN n) B s v key base sk V ks := by
  obtain ⟨R, h1, h2, h3, h4⟩ := h
  exact ⟨R, ⟨h1.row, h1.vals, h1.ne⟩, h2, h3, h4⟩

set_option maxRecDepth 100000 in
theorem zzstr14 (B s v : Nat) (key base sk sv : ByteArray) (k : ByteArray) (b : Bool) (ks : List ByteArray) (w : World) (hS : State w B s v key base sk (.iface 9 (.string sv)) ks) (hb : b = true ↔ k = sk) :
    Calls Tryf.prog 14 #[.pointer (some ⟨s, 0, none⟩), .string k] w fun e w' => e = .returned (.tuple #[.string (str b sv), .bool b, .bool true, .bool false, .string ⟨#[]⟩]) ∧ (∃ ks', State w' B s v key base sk (.iface 9 (.string sv)) ks' ∧ Marked ks k ks') ∧ Below B w w' := by
  have HL := hide (str30 B s v key base sk sv k b ks w hS hb)
  clear hS hb
  generalize str b sv = sb at *
  have ha := assert_nil
  have he := eql55_nil
  go_enter Tryf.func14, Tryf.ntmps14
  go_wp2_with (go_at_call 30; refine HL.out.mono ?_; rintro e w' ⟨rfl, hx, hB⟩; have HX := hide hx; clear hx)
  go_quiet (fail)
  go_wp2
  exact bodyPost_ret (v := .tuple #[.string sb, .bool b, .bool true, .bool false, .string ⟨#[]⟩]) (by simp [results, Tryf.results14, go_sem]) rfl ⟨rfl, (let ⟨ks', h1, h2⟩ := HX.out; ⟨ks', h1.drewN _, h2⟩), ⟨hB.os, hB.tape, hB.output, hB.size, hB.block⟩⟩

theorem str_eq {a b : ByteArray} (h : (a.toList == b.toList) = true) : a = b := by
  have h1 : a.toList = b.toList := by simpa using h
  rw [ByteArray.toList_eq, ByteArray.toList_eq] at h1
  exact bytes_inj h1
theorem str_ne {a b : ByteArray} (h : a ≠ b) : (a.toList == b.toList) = false := by
  cases hh : (a.toList == b.toList) with
  | false => rfl
  | true => exact absurd (str_eq hh) h

/-- The world behind 'vals := map[string]any{}; vals[sk] = v; &Section{..}'. -/
theorem sec_made (key base sk : ByteArray) (V : Value) (w : World) :
    State (World.alloc { w.alloc (.map #[] 0) with heap := (w.alloc (.map #[] 0)).heap.setIfInBounds w.heap.size (.map #[{ key := .string sk, val := V, born := 0 }] 1) } (.cells #[.string ⟨#[]⟩, .string key, .string base, .map (some w.heap.size), .map none] 51)) w.heap.size (w.heap.size + 1) w.heap.size key base sk V [] ∧
    Below w.heap.size w (World.alloc { w.alloc (.map #[] 0) with heap := (w.alloc (.map #[] 0)).heap.setIfInBounds w.heap.size (.map #[{ key := .string sk, val := V, born := 0 }] 1) } (.cells #[.string ⟨#[]⟩, .string key, .string base, .map (some w.heap.size), .map none] 51)) := by
  have hsz : (({ w.alloc (.map #[] 0) with heap := (w.alloc (.map #[] 0)).heap.setIfInBounds w.heap.size (.map #[{ key := .string sk, val := V, born := 0 }] 1) } : World)).heap.size = w.heap.size + 1 := by simp
  refine ⟨⟨none, ⟨?_, ?_, by omega⟩, by omega, ?_, .inl ⟨rfl, rfl⟩⟩, ?_⟩
  · have := heap_new ({ w.alloc (.map #[] 0) with heap := (w.alloc (.map #[] 0)).heap.setIfInBounds w.heap.size (.map #[{ key := .string sk, val := V, born := 0 }] 1) } : World) (.cells #[.string ⟨#[]⟩, .string key, .string base, .map (some w.heap.size), .map none] 51)
    rw [hsz] at this
    exact this
  · rw [Below.heap_alloc _ _ _ (by rw [hsz]; omega)]
    exact heap_obj_same (w.alloc (.map #[] 0)) w.heap.size _ (by simp)
  · simp
    omega
  · exact (below_obj ((Below.refl _ _).alloc (Nat.le_refl _) _) (Nat.le_refl _) _).alloc (by rw [hsz]; omega) _

set_option maxRecDepth 100000 in
theorem new13 (key base sk sv : ByteArray) (w : World) :
    Calls Tryf.prog 13 #[.string key, .string base, .string sk, .string sv] w fun e w' => e = .returned (.pointer (some ⟨w.heap.size + 1, 0, none⟩)) ∧ State w' w.heap.size (w.heap.size + 1) w.heap.size key base sk (.iface 9 (.string sv)) [] ∧ Below w.heap.size w w' := by
  have hmm := @run_makeMap Tryf.prog
  have hup := run_mapUpdate_first (P := Tryf.prog) (w.alloc (.map #[] 0)) 48 9 20 w.heap.size 0 sk (.iface 9 (.string sv)) Tryf.underlying48 Tryf.underlying9 (heap_new w _)
  have HM := hide (sec_made key base sk (.iface 9 (.string sv)) w)
  go_enter Tryf.func13, Tryf.ntmps13
  go_wp2
  go_ret
  exact ⟨rfl, HM.out.1, HM.out.2⟩
set_option maxRecDepth 100000 in
theorem answer15 (sk sv k : ByteArray) (b : Bool) (w : World) (hb : b = true ↔ k = sk) :
    Calls Tryf.prog 15 #[.string (str b sv), .bool b, .bool true, .bool false, .string sk, .string sv, .string k] w fun e w' => e = .returned (.bool true) ∧ w' = w := by
  cases b with
  | true =>
    obtain rfl := hb.1 rfl
    simp only [str, if_true]
    go_enter Tryf.func15, Tryf.ntmps15
    go_wp2
    go_ret
    exact ⟨rfl, rfl⟩
  | false =>
    have hne : k ≠ sk := fun h => by simpa using hb.2 h
    have hne' := str_ne hne
    clear hb hne
    have e0 : str false sv = ⟨#[]⟩ := rfl
    rw [e0]
    go_enter Tryf.func15, Tryf.ntmps15
    go_wp2
    go_ret
    exact ⟨rfl, rfl⟩

theorem count16 (B s v : Nat) (key base sk : ByteArray) (V : Value) (ks : List ByteArray) (w : World) (hS : State w B s v key base sk V ks) (hne : ks ≠ []) :
    Calls Tryf.prog 16 #[.pointer (some ⟨s, 0, none⟩)] w fun e w' => e = .returned (.int .i64 ks.length) ∧ w' = w := by
  obtain ⟨R, hsec, hBs, hBw, ⟨_, h⟩ | ⟨r, rfl, hset, hrs, hrv, hBr⟩⟩ := hS
  · exact absurd h hne
  · have c4 : w.cell? ⟨s, 4, none⟩ = some (.map (some r)) := hsec.row.cell 4
    obtain ⟨es, clock, h1, h2, h3⟩ := hset
    have hl : es.size = ks.length := by
      have := congrArg List.length h2
      simpa using this
    have hlen : ∀ ty, (Builtin.len_ #[49] ty #[.map (some r)]).run Tryf.prog w = .ok (.int .i64 ks.length) w := fun ty => by
      simp [Builtin.len_, run_underlying Tryf.underlying49, MapKept.run_getObj_map h1, goInt, hl]
    clear h1 h2 h3 hl
    go_enter Tryf.func16, Tryf.ntmps16
    go_wp2
    go_ret
    exact ⟨rfl, rfl⟩
theorem was17 (B s v : Nat) (key base sk : ByteArray) (V : Value) (ks : List ByteArray) (k : ByteArray) (w : World) (hS : State w B s v key base sk V ks) (hk : k ∈ ks) :
    Calls Tryf.prog 17 #[.pointer (some ⟨s, 0, none⟩), .string k] w fun e w' => e = .returned (.bool true) ∧ w' = w := by
  obtain ⟨R, hsec, hBs, hBw, ⟨_, rfl⟩ | ⟨r, rfl, hset, hrs, hrv, hBr⟩⟩ := hS
  · simp at hk
  · have c4 : w.cell? ⟨s, 4, none⟩ = some (.map (some r)) := hsec.row.cell 4
    have hl := look_in (P := Tryf.prog) (T := 49) Tryf.underlying49 Tryf.underlying9 hset k hk
    clear hset hsec
    go_enter Tryf.func17, Tryf.ntmps17
    go_wp2
    go_ret
    exact ⟨rfl, rfl⟩
end Go.Proofs.Qxb6604484aFmt.Sect
