import Derived.Test.Qxb6604569aFmtRead
import Derived.LaidEql
namespace Go.Proofs.Qxb6604569aFmt.Par
open Go.ChangeShapes Go.WideShapes Go.ChangeAt Go.RowKit
set_option linter.unusedVariables false

theorem info5 : (Tryf.prog.info? 5).map (fun i => (i.zero, i.size, i.bytes)) = some (some (.int .u8 0), 1, 1) := by kernel_rfl
/-- 'make([]T, n)', T of one cell: the world behind it, written out. -/
theorem run_make_blk {P : Program} {t e : TypeId} {i : TypeInfo} {z : Value} (ht : P.underlying t = some (.slice e)) (hi : P.info? e = some i) (hz : i.zero = some z) (hc : z.cells = #[z]) (hs : i.size = 1)
    (n : Nat) (hbytes : i.bytes * n ≤ 281474976710656) (h63 : n ≤ maxLen) (w : World) :
    (Instr.makeSlice t (.int .i64 (n : Int)) (.int .i64 (n : Int))).run P w = .ok (.slice (some ⟨w.heap.size, 0, none⟩) n n) (w.alloc (.cells (List.replicate n z).toArray e)) := by
  have h63' : (n : Int) ≤ 9223372036854775807 := by
    have h := h63
    simp [maxLen] at h
    omega
  have hb' : (i.bytes : Int) * (n : Int) ≤ 281474976710656 := by
    have h : ((i.bytes * n : Nat) : Int) ≤ 281474976710656 := by omega
    rwa [Int.natCast_mul] at h
  have hr := run_make (P := P) w t e i z ht hi hz .i64 .i64 n n (by omega) (Int.le_refl _) hb' h63'
  simp only [Int.toNat_natCast] at hr
  rw [hr, hc, hs, Nat.mul_one]
  have : madeCells #[z] n = (List.replicate n z).toArray := by
    rw [← toList_madeCells_one]
  rw [this]
theorem comp61 : (Tryf.prog.info? 61).map (fun i => i.comparable) = some true := by kernel_rfl
theorem some63 : (Tryf.prog.info? 63).isSome = true := by kernel_rfl

theorem neq_nil (wx : World) : (binOp .neq 39 .nilIface .nilIface).run Tryf.prog wx = .ok (.bool false) wx := rfl
theorem eql_nil_eof (x : Addr) (wx : World) : (binOp .eql 39 .nilIface (.iface 61 (.pointer (some x)))).run Tryf.prog wx = .ok (.bool false) wx := rfl
theorem eql_eof (x : Addr) (wx : World) : (binOp .eql 39 (.iface 61 (.pointer (some x))) (.iface 61 (.pointer (some x)))).run Tryf.prog wx = .ok (.bool true) wx := by
  obtain ⟨i, hi, hc⟩ : ∃ i, Tryf.prog.info? 61 = some i ∧ i.comparable = true := by
    have := comp61
    cases h : Tryf.prog.info? 61 with
    | none => rw [h] at this; cases this
    | some i => rw [h] at this; exact ⟨i, rfl, by simpa using this⟩
  obtain ⟨j, hj⟩ := Option.isSome_iff_exists.1 some63
  exact run_eql_iface_ptr_same (P := Tryf.prog) wx x Tryf.underlying39 Tryf.underlying61 hi hc hj

theorem kept_chain {a b c : World} {X Y : Nat → Prop} (h : Kept a b X) (k : Kept b c Y) (hXY : ∀ j, j < a.heap.size → Y j → X j) : Kept a c X :=
  ⟨k.os.trans h.os, k.tape.trans h.tape, k.output.trans h.output, Nat.le_trans h.size k.size, fun j hj hX => (k.block j (Nat.lt_of_lt_of_le hj h.size) (fun hy => hX (hXY j hj hy))).trans (h.block j hj hX)⟩

/-- What the reader, the buffer and the three captured cells hold behind i bytes. -/
structure At (w wr : World) (p : Int) (zs : List Int) (sa : Option Addr) (n sc R B P D Q i : Nat) : Prop where
  row : ∃ v2, RowBlk wr R 53 [.slice sa n sc, .int .i64 i, v2]
  buf : ∃ bs : List Int, RowBlk wr B 5 (bs.map (Value.int .u8)) ∧ bs.length = 65536
  par : wr.cell? ⟨P, 0, none⟩ = some (.int .i64 p)
  rep : wr.cell? ⟨Q, 0, none⟩ = some .nilFunc
  bad : RowBlk wr D 2 [.int .i64 (cnt p zs i)]
  kept : Kept w wr (fun b => b = R ∨ b = D)

set_option maxRecDepth 100000 in
set_option maxHeartbeats 1000000 in
theorem each19 (p : Int) (n sc R P D Q S : Nat) (zs : List Int) (x : Addr) (sa : Option Addr) (w : World) (hn : n ≤ 1048576) (hsc : n ≤ sc) (hz : n ≤ zs.length)
    (hsa : 0 < n → sa = some ⟨S, 0, none⟩) (hSR : S ≠ R) (hSD : S ≠ D) (hPR : P ≠ R) (hPD : P ≠ D) (hQR : Q ≠ R) (hQD : Q ≠ D) (hRD : R ≠ D) (h0R : 0 ≠ R) (h0D : 0 ≠ D)
    (hR : RowBlk w R 53 [.slice sa n sc, .int .i64 0, .int .i64 (-1)]) (hP : w.cell? ⟨P, 0, none⟩ = some (.int .i64 p)) (hQ : w.cell? ⟨Q, 0, none⟩ = some .nilFunc) (hD : RowBlk w D 2 [.int .i64 0])
    (hS : ∀ j, j < n → w.cell? ⟨S, j, none⟩ = some (.int .u8 (zs.getD j 0))) (hb : ∀ j, j < n → 0 ≤ zs.getD j 0 ∧ zs.getD j 0 ≤ 255)
    (hg : w.cell? ⟨0, 0, none⟩ = some (.iface 61 (.pointer (some x)))) (hlP : P < w.heap.size) (hlQ : Q < w.heap.size) (hlS : 0 < n → S < w.heap.size) :
    Calls Tryf.prog 19 #[.iface 42 (.pointer (some ⟨R, 0, none⟩)), .func (.func 20) #[] #[.pointer (some ⟨P, 0, none⟩), .pointer (some ⟨D, 0, none⟩), .pointer (some ⟨Q, 0, none⟩)]] w
      fun e w' => e = .returned (.tuple #[.int .i64 n, .nilIface]) ∧ RowBlk w' D 2 [.int .i64 (cnt p zs n)] ∧ Kept w w' (fun b => b = R ∨ b = D) := by
  obtain ⟨i0, hi, hz0, hz1, hz2⟩ := info_parts info5
  obtain ⟨L, hL⟩ : ∃ L : List Int, L = List.replicate 65536 0 := ⟨_, rfl⟩
  have hLL : L.length = 65536 := by rw [hL]; exact List.length_replicate
  have hLm : L.map (Value.int .u8) = List.replicate 65536 (.int .u8 0) := by rw [hL, List.map_replicate]
  obtain ⟨L1, hL1⟩ : ∃ L1 : List Value, L1 = L.map (Value.int .u8) := ⟨_, rfl⟩
  have hmk : (Instr.makeSlice 29 (.int .i64 65536) (.int .i64 65536)).run Tryf.prog w = .ok (.slice (some ⟨w.heap.size, 0, none⟩) 65536 65536) (w.alloc (.cells L1.toArray 5)) := by
    rw [hL1, hLm]
    exact run_make_blk (P := Tryf.prog) Tryf.underlying29 hi hz0 rfl hz1 65536 (by rw [hz2]; decide) (by decide) w
  have hlR := hR.lt
  have hlD := hD.lt
  have HA := hide (p := At w (w.alloc (.cells L1.toArray 5)) p zs sa n sc R w.heap.size P D Q 0)
    ⟨⟨_, hR.alloc _⟩, ⟨L, by rw [← hL1]; exact RowBlk.made _ _ _, hLL⟩, by rw [World.cell?_alloc_past _ _ _ (by exact hlP)]; exact hP, by rw [World.cell?_alloc_past _ _ _ (by exact hlQ)]; exact hQ, hD.alloc _, Kept.of_below ((Below.refl _ _).alloc (Nat.le_refl _) _) _⟩
  have hm1 : ∀ (w : World), (method 46 42 (.pointer (some ⟨R, 0, none⟩)) "Read").run Tryf.prog w = .ok (43, .pointer (some ⟨R, 0, none⟩)) w := fun _ => by kernel_rfl
  clear hL hLL hLm hL1
  have HR := hide hR
  have HP := hide hP
  have HQ := hide hQ
  have HD := hide hD
  have HS := hide hS
  have HB := hide hb
  have HG := hide hg
  have HZ := hide hz
  have HSA := hide hsa
  clear hR hP hQ hD hS hb hg hz hsa hi hz0 hz1 hz2
  go_enter Tryf.func19, Tryf.ntmps19
  go_wp2
  clear hmk
  have hlB : Hid (w.heap.size ≠ R ∧ w.heap.size ≠ D ∧ w.heap.size ≠ P ∧ w.heap.size ≠ Q ∧ (0 < n → w.heap.size ≠ S)) := ⟨by omega, by omega, by omega, by omega, fun h => by have := hlS h; omega⟩
  generalize hBe : w.heap.size = B at *
  have HBe := hide hBe
  clear hBe
  go_loopw [7] (fun iv wr => ∃ m : Nat, m ≤ n ∧ iv = .int .i64 m ∧ At w wr p zs sa n sc R B P D Q m) (fun iv _ => n - (intOf iv).toNat)
  case atStart => exact ⟨0, Nat.zero_le _, rfl, HA.out⟩
  case round =>
    obtain ⟨m, hm, rfl, hAt⟩ := hrel
    clear HA
    obtain ⟨⟨v2, r1⟩, ⟨bs, r2, r3⟩, r4, r5, r6, r7⟩ := hAt
    have n0 : ¬ ((0 : Nat) = R ∨ (0 : Nat) = D) := fun h => h.elim h0R h0D
    by_cases hlt : m < n
    · obtain rfl : sa = some ⟨S, 0, none⟩ := HSA.out (by omega)
      have hBS := hlB.out.2.2.2.2 (by omega)
      have H43 := hide (read43_some R B S m n sc zs bs v2 wr hn hlt hsc (fun e => hlB.out.1 e.symm) (fun e => hBS e.symm) hSR r1 r2 r3 HZ.out (fun j hj => kept_cell r7 (fun h => h.elim hSR hSD) (HS.out j hj)))
      have F4 := hide r4
      have F5 := hide r5
      have F6 := hide r6
      have F7 := hide r7
      clear r1 r2 r3 r4 r5 r6 r7
      go_wp2_with fail
      refine H43.out.mono ?_
      rintro e w2 ⟨k, bs', hk, rfl, s1, s2, s3, s4, s5, s6⟩
      have hk0 : 0 < k := by rw [hk]; exact Nat.lt_min.2 ⟨by omega, by omega⟩
      have hk1 : k ≤ n - m := by rw [hk]; exact Nat.min_le_left _ _
      have hk2 : k ≤ 65536 := by rw [hk]; exact Nat.min_le_right _ _
      have hcb := cnt_bd p zs m
      have E1 := hide s1
      have E2 := hide s2
      have E3 := hide s3
      have E4 := hide s4
      have E5 := hide s5
      have H20 := hide (clo20 m p (cnt p zs m) B P D Q k 65536 bs' w2 hk2 (by omega)
        (kept_cell s5 (fun h => h.elim hPR (fun e => hlB.out.2.2.1 e.symm)) F4.out) (kept_cell s5 (fun h => h.elim hQR (fun e => hlB.out.2.2.2.1 e.symm)) F5.out)
        (RowBlk_kept F6.out s5 (fun h => h.elim (fun e => hRD e.symm) (fun e => hlB.out.2.1 e.symm))) hPD hQD hlB.out.2.1
        (fun j hj => by
          rw [s2.cell, List.getElem?_map, List.getElem?_eq_getElem (by omega)]
          rw [List.getD_eq_getElem?_getD, List.getElem?_eq_getElem (by omega)]; rfl)
        (fun j hj => by rw [s4 j hj]; exact HB.out (m + j) (by omega)))
      clear hk s1 s2 s3 s4 s5 s6 hcb H43
      go_wp2_with fail
      refine H20.out.mono ?_
      rintro e w3 ⟨rfl, t1, t2, t3⟩
      have K2 : Kept w w2 (fun b => b = R ∨ b = D) := kept_chain F7.out E5.out (fun j hj hy => hy.elim .inl (fun e => by have := HBe.out; omega))
      have K3 : Kept w w3 (fun b => b = R ∨ b = D) := kept_chain K2 t2 (fun j hj hy => .inr hy)
      have hAt := hide (p := At w w3 p zs (some ⟨S, 0, none⟩) n sc R B P D Q (m + k))
        ⟨⟨_, RowBlk_kept E1.out t2 hRD⟩, ⟨bs', RowBlk_kept E2.out t2 hlB.out.2.1, E3.out⟩,
          kept_cell t2 hPD (kept_cell E5.out (fun h => h.elim hPR (fun e => hlB.out.2.2.1 e.symm)) F4.out),
          kept_cell t2 hQD (kept_cell E5.out (fun h => h.elim hQR (fun e => hlB.out.2.2.2.1 e.symm)) F5.out),
          by rw [cnt_add p zs bs' m k E4.out]; exact t1, K3⟩
      have hg := kept_cell K3 n0 HG.out
      have hq1 := neq_nil
      have hq2 := eql_nil_eof x
      clear t1 t2 t3 K2 K3 H20
      go_wp2
      go_roundw
      case rel => exact ⟨m + k, by omega, by go_num, hAt.out⟩
      case measure => simp [intOf]; omega
    · obtain rfl : m = n := by omega
      have H43 := hide (read43_eof R B m sc sa v2 x wr hn r1 (kept_cell r7 n0 HG.out))
      have F6 := hide r6
      have F7 := hide r7
      clear r1 r2 r3 r4 r5 r6 r7
      go_wp2_with fail
      refine H43.out.mono ?_
      rintro e w2 ⟨rfl, s1, s2⟩
      have K2 : Kept w w2 (fun b => b = R ∨ b = D) := kept_chain F7.out s1 (fun j hj hy => hy.elim)
      have D2 := hide (RowBlk_kept F6.out s1 (fun h => h))
      have hg := kept_cell K2 n0 HG.out
      have K2' := hide K2
      have hq1 := eql_eof x
      clear s1 s2 K2 H43
      go_wp2
      go_ret2
      exact ⟨rfl, D2.out, K2'.out⟩
end Go.Proofs.Qxb6604569aFmt.Par
