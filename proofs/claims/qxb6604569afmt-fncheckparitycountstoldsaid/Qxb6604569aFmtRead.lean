import Derived.Test.Qxb6604569aFmtClo
import Derived.Laws.CopyOwn
import Derived.Deep.RegionHeld3
namespace Go.Proofs.Qxb6604569aFmt.Par
open Go.ChangeShapes Go.WideShapes Go.ChangeAt Go.RowKit
set_option linter.unusedVariables false

theorem kept_drewN {X : Nat → Prop} {w wr : World} (h : Kept w wr X) (n : Nat) : Kept w (wr.drewN n) X := ⟨h.os, h.tape, h.output, h.size, h.block⟩

theorem step_copy_mine {P : Program} {ops : Array Oper} {o : Oper} {a : Act} {w : World} {K : Act → World → Prop} {Q : Exit → Act → World → Prop} {E : Prop} (hgd : o.guard = none) (d s : Operand) (dT sT : TypeId)
    (ho : o.op = .call { callee := .builtin .copy, args := #[d, s], argTypes := #[dT, sT] }) (elem : TypeId) (hu : P.underlying dT = some (.slice elem)) (hsz : (P.info? elem).map (·.size) = some 1)
    (g off dLen dCap : Nat) (ad : Addr) (sLen sCap : Nat) (hd : a.eval d = .slice (some ⟨g, off, none⟩) dLen dCap) (hs : a.eval s = .slice (some ad) sLen sCap)
    (cur : List Value) (t : TypeId) (hg : RowBlk w g t cur) (cs : List Value) (hn : cs.length = Nat.min sLen dLen)
    (hsrc : ∀ j v, cs[j]? = some v → w.cell? (ad.add j) = some v) (hfit : off + cs.length ≤ cur.length) (h1 : ∀ v ∈ cs, v.oneCell' = true)
    (h : ∀ w', Hid (RowBlk w' g t (splice cur off cs)) → Hid (Kept w w' (· = g) ∧ w'.heap.size = w.heap.size) → K (a.put o.dst (goInt cs.length)) w') :
    if Region.wanted o (yielded ops a.tmps) = true then Oper.wp P o a w K Q else E := by
  have hw : Region.wanted o (yielded ops a.tmps) = true := by simp [Region.wanted, hgd]
  rw [if_pos hw]
  have hrun := run_copy_row (P := P) w dT sT o.type elem g off dLen dCap ad sLen sCap cur.toArray t cs hu hsz hg hn hsrc (by simpa using hfit) h1
  unfold Oper.wp
  simp [execOp, ho, resolve, invoke, builtin, hd, hs, hrun, Result.andThen]
  refine h _ (show _ = _ by simpa [splice] using setRow_heap w g _ _ t _ hg) ⟨⟨rfl, rfl, rfl, by simp [World.setRow], fun j hj hX => setRow_other w g j _ hX⟩, by simp [World.setRow]⟩

set_option maxRecDepth 100000 in
theorem read43_eof (R B n sc : Nat) (sa : Option Addr) (v2 : Value) (x : Addr) (w : World) (hn : n ≤ 1048576)
    (hR : RowBlk w R 53 [.slice sa n sc, .int .i64 n, v2]) (hg : w.cell? ⟨0, 0, none⟩ = some (.iface 61 (.pointer (some x)))) :
    Calls Tryf.prog 43 #[.pointer (some ⟨R, 0, none⟩), .slice (some ⟨B, 0, none⟩) 65536 65536] w
      fun e w' => e = .returned (.tuple #[.int .i64 0, .iface 61 (.pointer (some x))]) ∧ Kept w w' (fun _ => False) ∧ w'.heap.size = w.heap.size := by
  have c0 : w.cell? ⟨R, 0, none⟩ = some (.slice sa n sc) := hR.cell 0
  have c1 : w.cell? ⟨R, 1, none⟩ = some (.int .i64 n) := hR.cell 1
  clear hR
  go_enter Tryf.func43, Tryf.ntmps43
  go_wp2
  go_quiet (fail)
  go_wp2
  go_quiet (fail)
  go_wp2
  go_ret2
  exact ⟨rfl, kept_drewN (kept_drewN (Kept.refl _ _) _) _, rfl⟩

set_option maxRecDepth 100000 in
theorem read43_some (R B S i n sc : Nat) (zs bs : List Int) (v2 : Value) (w : World) (hn : n ≤ 1048576) (hi : i < n) (hsc : n ≤ sc) (hRB : R ≠ B) (hSB : S ≠ B) (hSR : S ≠ R)
    (hR : RowBlk w R 53 [.slice (some ⟨S, 0, none⟩) n sc, .int .i64 i, v2]) (hB : RowBlk w B 5 (bs.map (Value.int .u8))) (hbs : bs.length = 65536) (hz : n ≤ zs.length)
    (hS : ∀ j, j < n → w.cell? ⟨S, j, none⟩ = some (.int .u8 (zs.getD j 0))) :
    Calls Tryf.prog 43 #[.pointer (some ⟨R, 0, none⟩), .slice (some ⟨B, 0, none⟩) 65536 65536] w
      fun e w' => ∃ k : Nat, ∃ bs' : List Int, k = Nat.min (n - i) 65536 ∧ e = .returned (.tuple #[.int .i64 k, .nilIface]) ∧ RowBlk w' R 53 [.slice (some ⟨S, 0, none⟩) n sc, .int .i64 (i + k : Nat), .int .i64 (-1)] ∧
        RowBlk w' B 5 (bs'.map (Value.int .u8)) ∧ bs'.length = 65536 ∧ (∀ j, j < k → bs'.getD j 0 = zs.getD (i + j) 0) ∧ Kept w w' (fun b => b = R ∨ b = B) ∧ w'.heap.size = w.heap.size := by
  have c0 : w.cell? ⟨R, 0, none⟩ = some (.slice (some ⟨S, 0, none⟩) n sc) := hR.cell 0
  have c1 : w.cell? ⟨R, 1, none⟩ = some (.int .i64 i) := hR.cell 1
  have c2 : w.cell? ⟨R, 2, none⟩ = some v2 := hR.cell 2
  have f2 : w.frozen? ⟨R, 2, none⟩ = false := hR.frozen 2
  have f1 : w.frozen? ⟨R, 1, none⟩ = false := hR.frozen 1
  have HR := hide hR
  have HB := hide hB
  have HS := hide hS
  have HL := hide hbs
  have HZ := hide hz
  clear hR hB hS hbs hz
  obtain ⟨k, hk⟩ : ∃ k : Nat, k = Nat.min (n - i) 65536 := ⟨_, rfl⟩
  have hk1 : k ≤ n - i := by rw [hk]; exact Nat.min_le_left _ _
  have hk2 : k ≤ 65536 := by rw [hk]; exact Nat.min_le_right _ _
  have HK := hide hk
  clear hk
  obtain ⟨cz, hcz⟩ : ∃ cz : List Int, cz = (List.range k).map (fun j => zs.getD (i + j) 0) := ⟨_, rfl⟩
  have hczl : cz.length = k := by rw [hcz]; simp
  have HC := hide hcz
  have HCL := hide hczl
  clear hcz hczl
  obtain ⟨cs, hcs⟩ : ∃ cs : List Value, cs = cz.map (Value.int .u8) := ⟨_, rfl⟩
  have HCS := hide hcs
  clear hcs
  have HF := hide (p := ∀ nq, RowBlk ((w.drewN nq).setCell ⟨R, 2, none⟩ (.int .i64 (-1))) R 53 [.slice (some ⟨S, 0, none⟩) n sc, .int .i64 i, .int .i64 (-1)] ∧ RowBlk ((w.drewN nq).setCell ⟨R, 2, none⟩ (.int .i64 (-1))) B 5 (bs.map (Value.int .u8)) ∧ Kept w ((w.drewN nq).setCell ⟨R, 2, none⟩ (.int .i64 (-1))) (· = R) ∧ ((w.drewN nq).setCell ⟨R, 2, none⟩ (.int .i64 (-1))).heap.size = w.heap.size)
    (fun nq => ⟨RowBlk.set (w := w.drewN nq) HR.out 2 _, RowBlk.other (w := w.drewN nq) HB.out _ _ (fun e => hRB e.symm), (kept_drewN (Kept.refl w (· = R)) nq).setCell ⟨R, 2, none⟩ rfl _, by simp [World.setCell]⟩)
  go_enter Tryf.func43, Tryf.ntmps43
  go_wp2
  go_quiet (fail)
  go_wp2
  obtain ⟨G1, G2, G3, G4⟩ := HF.out nq
  generalize (w.drewN nq).setCell ⟨R, 2, none⟩ (.int .i64 (-1)) = w1 at G1 G2 G3 G4 ⊢
  have G2' := hide G2
  have G1' := hide G1
  have G3' := hide G3
  have G4' := hide G4
  clear c0 c1 c2 f2 f1 HF
  have c0 : w1.cell? ⟨R, 0, none⟩ = some (.slice (some ⟨S, 0, none⟩) n sc) := G1.cell 0
  have c1 : w1.cell? ⟨R, 1, none⟩ = some (.int .i64 i) := G1.cell 1
  clear G1 G2 G3 G4
  have hmin : Hid (cs.length = Nat.min (n - i) 65536) := by rw [HCS.out, List.length_map, HCL.out]; exact HK.out
  have hsrc : Hid (∀ j v, cs[j]? = some v → w1.cell? ((⟨S, i, none⟩ : Addr).add j) = some v) := by
    intro j v hv
    rw [HCS.out, HC.out] at hv
    simp only [List.getElem?_map, Option.map_eq_some_iff] at hv
    obtain ⟨z, ⟨y, hy, rfl⟩, rfl⟩ := hv
    have hjk : j < k := by
      have := (List.getElem?_eq_some_iff.1 hy).1
      simpa using this
    have : y = j := by
      rw [List.getElem?_range hjk] at hy
      exact (Option.some.inj hy).symm
    subst this
    rw [add_plain]
    exact kept_cell G3'.out hSR (HS.out (i + y) (by omega))
  have hfit : Hid (0 + cs.length ≤ (bs.map (Value.int .u8)).length) := by
    show _ ≤ _
    rw [HCS.out, List.length_map, List.length_map, HCL.out, HL.out]; omega
  have hone : Hid (∀ v ∈ cs, v.oneCell' = true) := by
    intro v hv
    rw [HCS.out] at hv
    simp only [List.mem_map] at hv
    obtain ⟨z, _, rfl⟩ := hv
    rfl
  have hne : ¬ sc = i := by omega
  have hin : i ≤ n := by omega
  go_region_held3 (fun w' => w'.cell? ⟨R, 0, none⟩ = some (.slice (some ⟨S, 0, none⟩) n sc) ∧ w'.cell? ⟨R, 1, none⟩ = some (.int .i64 i)) (go_keep) (first | (refine step_copy_mine rfl (.tmp 20) (.tmp 29) 29 29 rfl 5 Tryf.underlying29 (by kernel_rfl) B 0 65536 65536 ⟨S, i, none⟩ (n - i) (sc - i) (by simp [Act.eval]) (by simp [Act.eval]) (bs.map (Value.int .u8)) 5 G2'.out cs hmin.out hsrc.out hfit.out hone.out ?_; intro w2 HG2 HK2; have d0 := kept_cell HK2.out.1 hRB c0; have d1 := kept_cell HK2.out.1 hRB c1))
  clear c0 c1 d0 d1
  have RB2 : RowBlk w2 R 53 _ := RowBlk_kept (w := w1.drew) G1'.out HK2.out.1 hRB
  have e1 : w2.cell? ⟨R, 1, none⟩ = some (.int .i64 i) := RB2.cell 1
  have g1 : w2.frozen? ⟨R, 1, none⟩ = false := RB2.frozen 1
  have RB3 := hide (RB2.set 1 (.int .i64 (i + k : Nat)))
  have hcl : cs.length = k := by rw [HCS.out, List.length_map]; exact HCL.out
  rw [hcl]
  clear hcl RB2
  go_wp2
  go_ret2
  have KK : Kept w w2 (fun b => b = R ∨ b = B) := ((G3'.out.mono (fun _ h => .inl h)).drew).trans (HK2.out.1.mono (fun _ h => .inr h))
  have SS : w2.heap.size = w.heap.size := HK2.out.2.trans G4'.out
  have EQ : splice (bs.map (Value.int .u8)) 0 cs = (cz ++ bs.drop k).map (Value.int .u8) := by
    unfold splice
    rw [HCS.out]
    simp [HCL.out]
  refine ⟨k, cz ++ bs.drop k, HK.out, rfl, ?_, ?_, ?_, ?_, KK.setCell _ (.inl rfl) _, by rw [heap_setCell_size]; exact SS⟩
  · rw [← Int.natCast_add]; exact RB3.out
  · refine RowBlk.other ?_ _ _ (fun e => hRB e.symm)
    rw [← EQ]; exact HG2.out
  · rw [List.length_append, HCL.out, List.length_drop, HL.out]; omega
  · intro j hj
    rw [List.getD_eq_getElem?_getD, List.getElem?_append_left (by rw [HCL.out]; exact hj), HC.out, List.getElem?_map, List.getElem?_range hj]
    rfl
end Go.Proofs.Qxb6604569aFmt.Par
