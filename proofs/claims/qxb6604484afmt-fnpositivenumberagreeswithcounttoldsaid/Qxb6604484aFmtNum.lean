import Derived.Test.Qxb6604484aFmtStr
import Derived.Test.Qxb6604484aFmtFloat
namespace Go.Proofs.Qxb6604484aFmt.Sect
open Go.ChangeShapes Go.WideShapes Go.ChangeAt Go.RowKit Go.SMap
set_option linter.unusedVariables false

theorem Sec.key {w : World} {s v : Nat} {key base sk : ByteArray} {V : Value} {R : Option Nat} (h : Sec w s v key base sk V R) : w.cell? ⟨s, 1, none⟩ = some (.string key) := h.row.cell 1
theorem kept_alloc {a w : World} {X : Nat → Prop} (h : Kept a w X) (o : Obj) : Kept a (w.alloc o) X := h.trans (Kept.of_below ((Below.refl _ _).alloc (Nat.le_refl _) _) _)
theorem kept_drewN {a w : World} {X : Nat → Prop} (h : Kept a w X) (nq : Nat) : Kept a (w.drewN nq) X := ⟨h.os, h.tape, h.output, h.size, h.block⟩
/-- The full dotted key. -/
def full (key k : ByteArray) : ByteArray := if key.toList.isEmpty then k else key ++ ⟨#[46]⟩ ++ k

theorem full22 (key k : ByteArray) (w : World) (h0 : key.size ≤ 65536) (h1 : k.size ≤ 65536) :
    Calls Tryf.prog 22 #[.string key, .string k] w fun e w' => e = .returned (.string (full key k)) ∧ w' = w := by
  unfold full
  cases he : key.toList.isEmpty with
  | true =>
    go_enter Tryf.func22, Tryf.ntmps22
    go_wp2
    go_ret
    exact ⟨rfl, rfl⟩
  | false =>
    go_enter Tryf.func22, Tryf.ntmps22
    go_wp2
    go_ret
    exact ⟨rfl, rfl⟩

theorem ret_bool {a b : Bool} (h : a = b) : Ending.returned (.bool a) = .returned (.bool b) := by rw [h]
theorem isInf37 (x : Nat) (w : World) (h : (FloatKind.f64.format.order x 9218868437227405311 == some .gt) = false) :
    Calls Tryf.prog 37 #[.float .f64 x, .int .i64 1] w fun e w' => e = .returned (.bool false) ∧ w' = w := by
  have H := hide h
  clear h
  go_enter Tryf.func37, Tryf.ntmps37
  go_wp2
  go_ret
  exact ⟨ret_bool H.out, rfl⟩

theorem path33 (s : Nat) (key k : ByteArray) (w : World) (hc : w.cell? ⟨s, 1, none⟩ = some (.string key)) (h0 : key.size ≤ 65536) (h1 : k.size ≤ 65536) :
    Calls Tryf.prog 33 #[.pointer (some ⟨s, 0, none⟩), .string k] w fun e w' => e = .returned (.string (full key k)) ∧ w' = w := by
  unfold full
  cases he : key.toList.isEmpty with
  | true =>
    go_enter Tryf.func33, Tryf.ntmps33
    go_wp2
    go_ret
    exact ⟨rfl, rfl⟩
  | false =>
    go_enter Tryf.func33, Tryf.ntmps33
    go_wp2
    go_ret
    exact ⟨rfl, rfl⟩

theorem assert_int (n : Int) (w : World) : (Instr.typeAssert (.iface 2 (.int .i64 n)) 20 2 true).run Tryf.prog w = .ok (.tuple #[.int .i64 n, .bool true]) w := by kernel_rfl
theorem assert_ke (m : Nat) (w : World) : (Instr.typeAssert (.iface 52 (.pointer (some ⟨m, 0, none⟩))) 55 52 true).run Tryf.prog w = .ok (.tuple #[.pointer (some ⟨m, 0, none⟩), .bool true]) w := by kernel_rfl

set_option maxRecDepth 100000 in
theorem int38 (s v : Nat) (key base sk : ByteArray) (iv : Int) (k : ByteArray) (b : Bool) (w : World) (hS : Sec w s v key base sk (.iface 2 (.int .i64 iv)) none) (hb : b = true ↔ k = sk) :
    Calls Tryf.prog 38 #[.pointer (some ⟨s, 0, none⟩), .string k] w fun e w' => e = .returned (.tuple #[.int .i64 (if b then iv else 0), .bool b, .nilIface]) ∧ (∃ R, Sec w' s v key base sk (.iface 2 (.int .i64 iv)) R) ∧ Kept w w' (fun x => x = s) := by
  have HL := hide (look35_first s v key base sk (.iface 2 (.int .i64 iv)) k b w hS hb)
  clear hS hb
  have ha := assert_int iv
  cases b with
  | true =>
    go_enter Tryf.func38, Tryf.ntmps38
    go_wp2_with (go_at_call 35; refine HL.out.mono ?_; rintro e w' ⟨rfl, hx, hset, hB, hsz⟩; clear hset hsz; have HX := hide hx; clear hx; simp only [pick, if_true])
    go_ret3
    exact ⟨rfl, ⟨_, HX.out⟩, hB⟩
  | false =>
    go_enter Tryf.func38, Tryf.ntmps38
    go_wp2_with (go_at_call 35; refine HL.out.mono ?_; rintro e w' ⟨rfl, hx, hset, hB, hsz⟩; clear hset hsz; have HX := hide hx; clear hx; simp only [pick])
    go_ret3
    exact ⟨rfl, ⟨_, HX.out⟩, hB⟩

/-- An error of the call's own at block m that names the key f. -/
def KeyErr (w : World) (m : Nat) (f : ByteArray) : Prop := ∃ msg : ByteArray, w.heap[m]? = some (.cells #[.string f, .string msg] 58)

set_option maxRecDepth 100000 in
theorem count32_ok (s v : Nat) (key base sk : ByteArray) (iv : Int) (k : ByteArray) (b : Bool) (w : World) (hS : Sec w s v key base sk (.iface 2 (.int .i64 iv)) none) (hb : b = true ↔ k = sk) (hi : b = true → 1 ≤ iv) :
    Calls Tryf.prog 32 #[.pointer (some ⟨s, 0, none⟩), .string k] w fun e w' => e = .returned (.tuple #[.int .i64 (if b then iv else 0), .bool b, .nilIface]) ∧ Kept w w' (fun x => x = s) := by
  have HL := hide (int38 s v key base sk iv k b w hS hb)
  clear hS hb
  cases b with
  | true =>
    have h1 : ¬ iv < 1 := by have := hi rfl; omega
    clear hi
    go_enter Tryf.func32, Tryf.ntmps32
    go_wp2_with (go_at_call 38; refine HL.out.mono ?_; rintro e w' ⟨rfl, ⟨ks', hx⟩, hB⟩; have HX := hide hx; clear hx; simp only [if_true])
    go_ret3
    exact ⟨rfl, hB⟩
  | false =>
    clear hi
    go_enter Tryf.func32, Tryf.ntmps32
    go_wp2_with (go_at_call 38; refine HL.out.mono ?_; rintro e w' ⟨rfl, ⟨ks', hx⟩, hB⟩; have HX := hide hx; clear hx)
    go_ret3
    exact ⟨rfl, hB⟩

set_option maxRecDepth 100000 in
theorem count32_bad (s v : Nat) (key base sk : ByteArray) (iv : Int) (k : ByteArray) (w : World) (hS : Sec w s v key base sk (.iface 2 (.int .i64 iv)) none) (hk : k = sk) (hi : iv < 1) (h0 : key.size ≤ 65536) (h1 : k.size ≤ 65536) :
    Calls Tryf.prog 32 #[.pointer (some ⟨s, 0, none⟩), .string k] w fun e w' => ∃ m, e = .returned (.tuple #[.int .i64 0, .bool false, .iface 52 (.pointer (some ⟨m, 0, none⟩))]) ∧ KeyErr w' m (full key k) ∧ Kept w w' (fun x => x = s) := by
  have HL := hide (int38 s v key base sk iv k true w hS ⟨fun _ => hk, fun _ => rfl⟩)
  clear hS hk
  go_enter Tryf.func32, Tryf.ntmps32
  go_wp2_with fail
  refine HL.out.mono ?_
  rintro e w1 ⟨rfl, ⟨ks', hx⟩, hB⟩
  have c1 := hx.key
  clear hx
  simp only [if_true]
  go_wp2_with fail
  refine (path33 s key k w1 c1 h0 h1).mono ?_
  rintro e w' ⟨rfl, hw⟩
  subst w'
  go_wp2_with fail
  go_ret3
  exact ⟨_, rfl, ⟨_, heap_new _ _⟩, kept_alloc hB _⟩

theorem KeyErr.cells {w : World} {m : Nat} {f : ByteArray} (h : KeyErr w m f) : w.cell? ⟨m, 0, none⟩ = some (.string f) ∧ ∃ msg, w.cell? ⟨m, 1, none⟩ = some (.string msg) := by
  obtain ⟨msg, h1⟩ := h
  exact ⟨cell_of h1, msg, cell_of h1⟩
theorem ke_ne (m : Nat) (w : World) : (binOp .neq 52 (.pointer (some ⟨m, 0, none⟩)) (.pointer none)).run Tryf.prog w = .ok (.bool true) w := by kernel_rfl

set_option maxRecDepth 100000 in
theorem zzcount21_ok (s v : Nat) (key base sk : ByteArray) (iv : Int) (k : ByteArray) (b : Bool) (w : World) (hS : Sec w s v key base sk (.iface 2 (.int .i64 iv)) none) (hb : b = true ↔ k = sk) (hi : b = true → 1 ≤ iv) :
    Calls Tryf.prog 21 #[.pointer (some ⟨s, 0, none⟩), .string k] w fun e w' => e = .returned (.tuple #[.int .i64 (if b then iv else 0), .bool b, .bool true, .bool false, .string ⟨#[]⟩]) ∧ Kept w w' (fun x => x = s) := by
  have HL := hide (count32_ok s v key base sk iv k b w hS hb hi)
  clear hS hb hi
  generalize (if b = true then iv else 0) = n at *
  have ha := assert_nil
  have he := eql55_nil
  go_enter Tryf.func21, Tryf.ntmps21
  go_wp2_with (go_at_call 32; refine HL.out.mono ?_; rintro e w' ⟨rfl, hB⟩)
  go_quiet (fail)
  go_wp2
  exact bodyPost_ret (v := .tuple #[.int .i64 n, .bool b, .bool true, .bool false, .string ⟨#[]⟩]) (by simp [results, Tryf.results21, go_sem]) rfl ⟨rfl, kept_drewN hB _⟩

set_option maxRecDepth 100000 in
theorem zzcount21_bad (s v : Nat) (key base sk : ByteArray) (iv : Int) (k : ByteArray) (w : World) (hS : Sec w s v key base sk (.iface 2 (.int .i64 iv)) none) (hk : k = sk) (hi : iv < 1) (h0 : key.size ≤ 65536) (h1 : k.size ≤ 65536) :
    Calls Tryf.prog 21 #[.pointer (some ⟨s, 0, none⟩), .string k] w fun e w' => e = .returned (.tuple #[.int .i64 0, .bool false, .bool false, .bool true, .string (full key k)]) ∧ Kept w w' (fun x => x = s) := by
  have HL := hide (count32_bad s v key base sk iv k w hS hk hi h0 h1)
  clear hS hk hi
  go_enter Tryf.func21, Tryf.ntmps21
  go_wp2_with fail
  refine HL.out.mono ?_
  rintro e w1 ⟨m, rfl, hE, hB⟩
  have c0 := hE.cells.1
  have ha := assert_ke m
  have hn := ke_ne m
  clear hE HL
  go_wp2
  go_quiet (fail)
  go_wp2
  exact bodyPost_ret (v := .tuple #[.int .i64 0, .bool false, .bool false, .bool true, .string (full key k)]) (by simp [results, Tryf.results21, go_sem]) rfl ⟨rfl, kept_drewN hB _⟩

theorem conv_int (n : Int) (w : World) : (convert 2 38 (.int .i64 n)).run Tryf.prog w = .ok (.float .f64 (Flo.f64 n)) w := by kernel_rfl

set_option maxRecDepth 100000 in
theorem pos31_none (s v : Nat) (key base sk : ByteArray) (iv : Int) (k : ByteArray) (w : World) (hS : Sec w s v key base sk (.iface 2 (.int .i64 iv)) none) (hk : k ≠ sk) :
    Calls Tryf.prog 31 #[.pointer (some ⟨s, 0, none⟩), .string k] w fun e w' => e = .returned (.tuple #[.float .f64 0, .bool false, .nilIface]) ∧ Kept w w' (fun x => x = s) := by
  have HL := hide (look35_first s v key base sk (.iface 2 (.int .i64 iv)) k false w hS ⟨fun h => by simp at h, fun h => absurd h hk⟩)
  clear hS hk
  go_enter Tryf.func31, Tryf.ntmps31
  go_wp2_with (go_at_call 35; refine HL.out.mono ?_; rintro e w' ⟨rfl, hx, hset, hB, hsz⟩; clear hset hsz; have HX := hide hx; clear hx; simp only [pick])
  go_ret3
  exact ⟨rfl, hB⟩

set_option maxRecDepth 100000 in
theorem pos31_ok (s v : Nat) (key base sk : ByteArray) (iv : Int) (k : ByteArray) (w : World) (hS : Sec w s v key base sk (.iface 2 (.int .i64 iv)) none) (hk : k = sk) (hi : 1 ≤ iv) (hi2 : iv ≤ 9223372036854775807) :
    Calls Tryf.prog 31 #[.pointer (some ⟨s, 0, none⟩), .string k] w fun e w' => e = .returned (.tuple #[.float .f64 (Flo.f64 iv), .bool true, .nilIface]) ∧ Kept w w' (fun x => x = s) := by
  have HL := hide (look35_first s v key base sk (.iface 2 (.int .i64 iv)) k true w hS ⟨fun _ => hk, fun _ => rfl⟩)
  have hf := Flo.f64_pos iv hi hi2
  have hgt : (FloatKind.f64.format.order (Flo.f64 iv) 0 == some Ordering.gt) = true := by
    have : FloatKind.f64.format.order (Flo.f64 iv) 0 = some .gt := hf.1
    rw [this]; rfl
  have HI := hide (fun wx => isInf37 (Flo.f64 iv) wx hf.2.1)
  have ha := assert_int iv
  have hc := conv_int iv
  clear hS hk hf hi hi2
  generalize Flo.f64 iv = x at *
  go_enter Tryf.func31, Tryf.ntmps31
  go_wp2_with fail
  refine HL.out.mono ?_
  rintro e w1 ⟨rfl, hx, hset, hB, hsz⟩
  clear hsz hset
  clear hx HL
  simp only [pick, if_true]
  go_wp2_with (go_at_call 37; refine (HI.out _).mono ?_; rintro e w' ⟨rfl, hw⟩; subst w')
  go_ret3
  exact ⟨rfl, hB⟩

set_option maxRecDepth 100000 in
theorem pos31_bad (s v : Nat) (key base sk : ByteArray) (iv : Int) (k : ByteArray) (w : World) (hS : Sec w s v key base sk (.iface 2 (.int .i64 iv)) none) (hk : k = sk) (hi : iv < 1) (h0 : key.size ≤ 65536) (h1 : k.size ≤ 65536) :
    Calls Tryf.prog 31 #[.pointer (some ⟨s, 0, none⟩), .string k] w fun e w' => ∃ m, e = .returned (.tuple #[.float .f64 0, .bool false, .iface 52 (.pointer (some ⟨m, 0, none⟩))]) ∧ KeyErr w' m (full key k) ∧ Kept w w' (fun x => x = s) := by
  have HL := hide (look35_first s v key base sk (.iface 2 (.int .i64 iv)) k true w hS ⟨fun _ => hk, fun _ => rfl⟩)
  have hgt : (FloatKind.f64.format.order (Flo.f64 iv) 0 == some Ordering.gt) = false := Flo.f64_not iv (by omega)
  have ha := assert_int iv
  have hc := conv_int iv
  clear hS hk hi
  generalize Flo.f64 iv = x at *
  go_enter Tryf.func31, Tryf.ntmps31
  go_wp2_with fail
  refine HL.out.mono ?_
  rintro e w1 ⟨rfl, hx, hset, hB, hsz⟩
  clear hsz hset
  have c1 := hx.key
  clear hx HL
  simp only [pick, if_true]
  go_wp2_with (go_at_call 33; refine (path33 s key k w1 c1 h0 h1).mono ?_; rintro e w' ⟨rfl, hw⟩; subst w')
  go_ret3
  exact ⟨_, rfl, ⟨_, heap_new _ _⟩, kept_alloc hB _⟩

set_option maxRecDepth 100000 in
theorem zzpos20_none (s v : Nat) (key base sk : ByteArray) (iv : Int) (k : ByteArray) (w : World) (hS : Sec w s v key base sk (.iface 2 (.int .i64 iv)) none) (hk : k ≠ sk) :
    Calls Tryf.prog 20 #[.pointer (some ⟨s, 0, none⟩), .string k] w fun e w' => e = .returned (.tuple #[.float .f64 0, .bool false, .bool true, .bool false, .string ⟨#[]⟩, .string ⟨#[]⟩]) ∧ Kept w w' (fun x => x = s) := by
  have HL := hide (pos31_none s v key base sk iv k w hS hk)
  clear hS hk
  have ha := assert_nil
  have he := eql55_nil
  go_enter Tryf.func20, Tryf.ntmps20
  go_wp2_with (go_at_call 31; refine HL.out.mono ?_; rintro e w' ⟨rfl, hB⟩)
  go_quiet (fail)
  go_wp2
  exact bodyPost_ret (v := .tuple #[.float .f64 0, .bool false, .bool true, .bool false, .string ⟨#[]⟩, .string ⟨#[]⟩]) (by simp [results, Tryf.results20, go_sem]) rfl ⟨rfl, kept_drewN hB _⟩
set_option maxRecDepth 100000 in
theorem zzpos20_ok (s v : Nat) (key base sk : ByteArray) (iv : Int) (k : ByteArray) (w : World) (hS : Sec w s v key base sk (.iface 2 (.int .i64 iv)) none) (hk : k = sk) (hi : 1 ≤ iv) (hi2 : iv ≤ 9223372036854775807) :
    Calls Tryf.prog 20 #[.pointer (some ⟨s, 0, none⟩), .string k] w fun e w' => e = .returned (.tuple #[.float .f64 (Flo.f64 iv), .bool true, .bool true, .bool false, .string ⟨#[]⟩, .string ⟨#[]⟩]) ∧ Kept w w' (fun x => x = s) := by
  have HL := hide (pos31_ok s v key base sk iv k w hS hk hi hi2)
  clear hS hk hi hi2
  have ha := assert_nil
  have he := eql55_nil
  go_enter Tryf.func20, Tryf.ntmps20
  go_wp2_with (go_at_call 31; refine HL.out.mono ?_; rintro e w' ⟨rfl, hB⟩)
  go_quiet (fail)
  go_wp2
  exact bodyPost_ret (v := .tuple #[.float .f64 (Flo.f64 iv), .bool true, .bool true, .bool false, .string ⟨#[]⟩, .string ⟨#[]⟩]) (by simp [results, Tryf.results20, go_sem]) rfl ⟨rfl, kept_drewN hB _⟩
set_option maxRecDepth 100000 in
theorem zzpos20_bad (s v : Nat) (key base sk : ByteArray) (iv : Int) (k : ByteArray) (w : World) (hS : Sec w s v key base sk (.iface 2 (.int .i64 iv)) none) (hk : k = sk) (hi : iv < 1) (h0 : key.size ≤ 65536) (h1 : k.size ≤ 65536) :
    Calls Tryf.prog 20 #[.pointer (some ⟨s, 0, none⟩), .string k] w fun e w' => ∃ msg : ByteArray, e = .returned (.tuple #[.float .f64 0, .bool false, .bool false, .bool true, .string (full key k), .string msg]) ∧ Kept w w' (fun x => x = s) := by
  have HL := hide (pos31_bad s v key base sk iv k w hS hk hi h0 h1)
  clear hS hk hi
  go_enter Tryf.func20, Tryf.ntmps20
  go_wp2_with fail
  refine HL.out.mono ?_
  rintro e w1 ⟨m, rfl, hE, hB⟩
  obtain ⟨c0, msg, c1⟩ := hE.cells
  have ha := assert_ke m
  have hn := ke_ne m
  clear hE HL
  go_wp2
  go_quiet (fail)
  go_wp2
  exact bodyPost_ret (v := .tuple #[.float .f64 0, .bool false, .bool false, .bool true, .string (full key k), .string msg]) (by simp [results, Tryf.results20, go_sem]) rfl ⟨msg, rfl, kept_drewN hB _⟩

theorem sec_made_sec (key base sk : ByteArray) (V : Value) (w : World) : Sec (World.alloc { w.alloc (.map #[] 0) with heap := (w.alloc (.map #[] 0)).heap.setIfInBounds w.heap.size (.map #[{ key := .string sk, val := V, born := 0 }] 1) } (.cells #[.string ⟨#[]⟩, .string key, .string base, .map (some w.heap.size), .map none] 51)) (w.heap.size + 1) w.heap.size key base sk V none := by
  have hsz : (({ w.alloc (.map #[] 0) with heap := (w.alloc (.map #[] 0)).heap.setIfInBounds w.heap.size (.map #[{ key := .string sk, val := V, born := 0 }] 1) } : World)).heap.size = w.heap.size + 1 := by simp
  refine ⟨?_, ?_, by omega⟩
  · have := heap_new ({ w.alloc (.map #[] 0) with heap := (w.alloc (.map #[] 0)).heap.setIfInBounds w.heap.size (.map #[{ key := .string sk, val := V, born := 0 }] 1) } : World) (.cells #[.string ⟨#[]⟩, .string key, .string base, .map (some w.heap.size), .map none] 51)
    rw [hsz] at this
    exact this
  · rw [Below.heap_alloc _ _ _ (by rw [hsz]; omega)]
    exact heap_obj_same (w.alloc (.map #[] 0)) w.heap.size _ (by simp)
set_option maxRecDepth 100000 in
theorem new19 (key base sk : ByteArray) (iv : Int) (w : World) :
    Calls Tryf.prog 19 #[.string key, .string base, .string sk, .int .i64 iv] w fun e w' => e = .returned (.pointer (some ⟨w.heap.size + 1, 0, none⟩)) ∧ Sec w' (w.heap.size + 1) w.heap.size key base sk (.iface 2 (.int .i64 iv)) none ∧ Below w.heap.size w w' ∧ w'.heap.size = w.heap.size + 2 := by
  have hmm := @run_makeMap Tryf.prog
  have hup := run_mapUpdate_first (P := Tryf.prog) (w.alloc (.map #[] 0)) 48 9 20 w.heap.size 0 sk (.iface 2 (.int .i64 iv)) Tryf.underlying48 Tryf.underlying9 (heap_new w _)
  have HM := hide (sec_made key base sk (.iface 2 (.int .i64 iv)) w)
  have HN := hide (sec_made_sec key base sk (.iface 2 (.int .i64 iv)) w)
  go_enter Tryf.func19, Tryf.ntmps19
  go_wp2
  go_ret
  exact ⟨rfl, HN.out, HM.out.2, by simp⟩
end Go.Proofs.Qxb6604484aFmt.Sect
