import Derived.Test.Qxb6604428aFail23
import Derived.Test.Qxb6604428aWpAt
import Derived.Deep.RegionHeld3
import Derived.LaidEql
namespace Go.Proofs.Qxb6604428a.Fail
open Go.ChangeShapes Go.WideShapes Go.ChangeAt Go.RowKit Go.Conc
set_option linter.unusedVariables false

theorem info75 : (Try.prog.info? 75).map (fun i => (i.zero, i.size, i.bytes)) = some (some (.agg #[.int .i64 0, .bool false, .bool false, .bool false, .bool false]), 5, 16) := by kernel_rfl

set_option maxRecDepth 100000 in
theorem sel8 {b : Frame} {Q : Exit → Act → World → Prop} {a : Act} {w : World} {c cap s r : Nat} {tm : Bool} {p0 p1 p2 : String} {x0 x1 x2 : _} (hb : b.kind = .normal) (hs : a.tmps.size = 58) (he : a.eval (.tmp 26) = .chan (some c))
    (hc : w.heap[c]? = some (.chan cap #[] true s r tm)) (h : Q .normal (((a.put (some 27) (.tuple #[.int .i64 0, .bool false, .agg #[]])).put (some 28) (.int .i64 0)).put (some 29) (.bool true)) w) :
    wpAt Try.prog b (Code.region 8
      #[{ dst := some 27, op := Op.select #[{ chan := Operand.tmp 26, send := none, elem := 55 }] false, type := 0, pos := p0, after := x0, guard := none },
        { dst := some 28, op := Op.extract (Operand.tmp 27) 0, type := 3, pos := p1, after := x1, guard := none },
        { dst := some 29, op := Op.binOp BinOp.eql 3 (Operand.tmp 28) (Operand.const (Value.int IntKind.i64 0)) 3, type := 4, pos := p2, after := x2, guard := none }]
      false) Q a w := by
  have he' : a.tmps[26]?.getD undef = .chan (some c) := by simpa [Act.eval] using he
  refine wpAt_region_select (z := .agg #[]) (c := c) hb rfl rfl rfl (by simp [go_sem, execOp, rcase, he']) hc ?_
  obtain ⟨tmps, defers⟩ := a
  simp only at hs
  simp only [Act.put] at h
  simp [wpOps, Oper.wp, Oper.upon, execOp, go_sem, Act.put, Act.eval, Region.wanted, hs]
  exact .inl (.inl h)

/-- An error that is set is the shim's own. -/
def isSet : Value → Bool
  | .nilIface => false
  | _ => true
/-- What 'zzOut' tells of a state. -/
def oRow (x : PS) : List Value := [.int .i64 x.left, .bool (isSet x.err), .bool (isSet x.err), .bool true, .bool x.failed]
def oZero : List Value := [.int .i64 0, .bool false, .bool false, .bool false, .bool false]
def oF (st : Nat → PS) (k i : Nat) : List Value := if i < k then oRow (st i) else oZero
theorem oF_step (st : Nat → PS) (k i : Nat) : (if i = k then oRow (st k) else oF st k i) = oF st (k + 1) i := by
  unfold oF
  by_cases h : i = k
  · subst h; rw [if_pos rfl, if_pos (by omega)]
  · rw [if_neg h]
    by_cases h2 : i < k
    · rw [if_pos h2, if_pos (by omega)]
    · rw [if_neg h2, if_neg (by omega)]
theorem made_out (w : World) (n : Nat) (st : Nat → PS) : Strip (w.alloc (.cells (madeCells oZero.toArray (n * 5)) 75)) w.heap.size 75 5 n (oF st 0) := by
  refine ⟨madeCells oZero.toArray (n * 5), ?_, size_madeCells _ _, fun i hi j hj => ?_⟩
  · show (w.heap.push _)[w.heap.size]? = _
    simp
  · have hl := row_lt (sz := 5) hi hj
    have e : oF st 0 i = oZero := by unfold oF; rw [if_neg (by omega)]
    rw [e]
    unfold madeCells
    rw [Array.getElem?_map, Array.getElem?_range, if_pos hl]
    have hm : (i * 5 + j) % oZero.toArray.size = j := by
      show (i * 5 + j) % 5 = j
      omega
    simp only [Option.map_some, hm]
    rw [List.getElem!_toArray, List.getElem!_eq_getElem?_getD]
    have : j < oZero.length := hj
    rw [List.getElem?_eq_getElem this]; rfl

/-- The loop's relation. -/
def Inv24 (qb n : Nat) (mine : Value) (st : Nat → PS) (w : World) (a : Act) (wr : World) : Prop :=
  ∃ (k : Nat) (u7 u8 u12 u13 u14 u15 u16 u17 u18 u19 u20 u21 u22 u23 u24 u25 u26 u27 u28 u29 u30 u31 u32 u33 u34 u35 u36 u37 u38 u39 u40 u41 u42 u43 u44 u45 u46 u47 u48 u49 u50 u51 u52 u53 u54 u55 u56 : Value), a = { tmps := #[.slice (some ⟨qb, 0, none⟩) n n, mine, undef, undef, .slice none 0 0, .slice (some ⟨w.heap.size, 0, none⟩) n n, .int .i64 k, u7, u8, .slice (some ⟨qb, 0, none⟩) n n, .int .i64 n, .slice (some ⟨w.heap.size, 0, none⟩) n n, u12, u13, u14, u15, u16, u17, u18, u19, u20, u21, u22, u23, u24, u25, u26, u27, u28, u29, u30, u31, u32, u33, u34, u35, u36, u37, u38, u39, u40, u41, u42, u43, u44, u45, u46, u47, u48, u49, u50, u51, u52, u53, u54, u55, u56, undef], defers := [] } ∧ k ≤ n ∧ Below w.heap.size w wr ∧ wr.heap.size = w.heap.size + 1 ∧ Strip wr w.heap.size 75 5 n (oF st k)
def mu24 (n : Nat) (a : Act) : Nat := n - (intOf (a.tmps.getD 6 undef)).toNat

theorem round_out {w wr : World} {n k : Nat} {st : Nat → PS} (hlt : k < n) (hB : Below w.heap.size w wr) (hSz : wr.heap.size = w.heap.size + 1) (hO : Strip wr w.heap.size 75 5 n (oF st k)) (row : List Value)
    (hrow : row = oRow (st k)) (hl : row.length = 5) : Below w.heap.size w (wr.setCells w.heap.size (k * 5) row).drew ∧ (wr.setCells w.heap.size (k * 5) row).drew.heap.size = w.heap.size + 1 ∧ Strip (wr.setCells w.heap.size (k * 5) row).drew w.heap.size 75 5 n (oF st (k + 1)) := by
  refine ⟨(setCells_below _ (Nat.le_refl _) _ _ _ hB).drew, (setCells_size _ _ _ _).trans hSz, ?_⟩
  have := (hO.put hlt row hl).congr (g := oF st (k + 1)) fun i _ => by rw [hrow]; exact oF_step st k i
  exact this

theorem neq_held (m : Nat) (w : World) : (binOp .neq 67 (.iface 93 (.pointer (some ⟨m, 0, none⟩))) .nilIface).run Try.prog w = .ok (.bool true) w := by kernel_rfl
theorem neq_nil (w : World) : (binOp .neq 67 .nilIface .nilIface).run Try.prog w = .ok (.bool false) w := by kernel_rfl
theorem eql_nil (m : Nat) (w : World) : (binOp .eql 67 .nilIface (.iface 93 (.pointer (some ⟨m, 0, none⟩)))).run Try.prog w = .ok (.bool false) w := by kernel_rfl
theorem info93 : (Try.prog.info? 93).map (fun i => i.comparable) = some true := by kernel_rfl
theorem info95 : (Try.prog.info? 95).isSome = true := by kernel_rfl
theorem eql_same (m : Nat) (w : World) : (binOp .eql 67 (.iface 93 (.pointer (some ⟨m, 0, none⟩))) (.iface 93 (.pointer (some ⟨m, 0, none⟩)))).run Try.prog w = .ok (.bool true) w := by
  obtain ⟨i, hi, hc⟩ : ∃ i, Try.prog.info? 93 = some i ∧ i.comparable = true := by
    have h := info93
    cases h2 : Try.prog.info? 93 with
    | none => rw [h2] at h; simp at h
    | some i => rw [h2] at h; exact ⟨i, rfl, by simpa using h⟩
  obtain ⟨j, hj⟩ : ∃ j, Try.prog.info? 95 = some j := by
    have h := info95
    cases h2 : Try.prog.info? 95 with
    | none => rw [h2] at h; simp at h
    | some j => exact ⟨j, rfl⟩
  exact run_eql_iface_ptr_same w ⟨m, 0, none⟩ Try.underlying67 Try.underlying93 hi hc hj


set_option maxRecDepth 100000 in
set_option maxHeartbeats 2000000 in
theorem out24 (qb n m : Nat) (P S C : Nat → Nat) (st : Nat → PS) (w : World) (hn : n ≤ 131072)
    (S1 : Strip w qb 92 12 n (fun i => qRow (some (P i)))) (hP : AllP w n P S C st) (hcl : ∀ i, i < n → (st i).closed = true)
    (herr : ∀ i, i < n → (st i).err = .nilIface ∨ (st i).err = .iface 93 (.pointer (some ⟨m, 0, none⟩))) :
    Calls Try.prog 24 #[.slice (some ⟨qb, 0, none⟩) n n, .iface 93 (.pointer (some ⟨m, 0, none⟩))] w fun e w' => e = .returned (.slice (some ⟨w.heap.size, 0, none⟩) n n) ∧
      Below w.heap.size w w' ∧ w'.heap.size = w.heap.size + 1 ∧ Strip w' w.heap.size 75 5 n (fun i => oRow (st i)) := by
  obtain ⟨i0, hi, hz0, hz1, hz2⟩ := info_parts info75
  have hmk := run_make (P := Try.prog) w 34 75 i0 _ Try.underlying34 hi hz0 .i64 .i64 n n (by omega) (Int.le_refl _) (by rw [hz2]; omega) (by omega)
  simp only [Int.toNat_natCast, hz1] at hmk
  clear hi hz0 hz1 hz2
  have HP := hide hP
  have HS1 := hide S1
  have HCL := hide hcl
  have HERR := hide herr
  clear hP S1 hcl herr
  refine calls_of_wpAt Try.func24 rfl fun b hb => ?_
  simp only [Try.ntmps24, List.size_toArray, List.length_cons, List.length_nil, Nat.reduceAdd, Nat.reduceSub, Array.replicate_succ, Array.replicate_zero, List.push_toArray, List.append_toArray, List.nil_append, List.cons_append]
  refine wpAt_seq_k fun K1 h1 => wpAt_of_wp ?_
  go_wp2
  refine wpAt_seq_k fun K1 h1 => wpAt_of_wp ?_
  go_wp2
  refine wpAt_seq_k fun K1 h1 => ?_
  refine wpAt_seq_k fun K2 h2 => wpAt_of_wp ?_
  go_wp2
  clear hmk
  refine wpAt_block ?_
  refine wpAt_loop (Inv24 qb n (.iface 93 (.pointer (some ⟨m, 0, none⟩))) st w) (fun a _ => mu24 n a) ?_ ?_
  · exact ⟨0, undef, undef, undef, undef, undef, undef, undef, undef, undef, undef, undef, undef, undef, undef, undef, undef, undef, undef, undef, undef, undef, undef, undef, undef, undef, undef, undef, undef, undef, undef, undef, undef, undef, undef, undef, undef, undef, undef, undef, undef, undef, undef, undef, undef, undef, undef, undef, rfl, Nat.zero_le _, (Below.refl _ _).alloc (Nat.le_refl _) _, by simp, made_out w n st⟩
  · rintro a wr ⟨k, u7, u8, u12, u13, u14, u15, u16, u17, u18, u19, u20, u21, u22, u23, u24, u25, u26, u27, u28, u29, u30, u31, u32, u33, u34, u35, u36, u37, u38, u39, u40, u41, u42, u43, u44, u45, u46, u47, u48, u49, u50, u51, u52, u53, u54, u55, u56, rfl, hk, hB, hSz, hO⟩
    have HSz := hide hSz
    clear hSz
    by_cases hlt : k < n
    · have hPk := HP.out k hlt
      have hl := pend_lt hPk
      have hPr : Pend wr (P k) (S k) (C k) (st k) := hPk.same (hB.block _ (hl _ (.inl rfl))) (hB.block _ (hl _ (.inr (.inl rfl)))) (hB.block _ (hl _ (.inr (.inr rfl))))
      have c0 : wr.cell? ⟨qb, k * 12, none⟩ = some (.pointer (some ⟨P k, 0, none⟩)) := (hB.cell (by exact HS1.out.lt)).trans (HS1.out.cell (j := 0) hlt (by omega))
      have c5 : wr.cell? ⟨P k, 5, none⟩ = some (.chan (some (C k))) := hPr.1.cell 5
      have hch := hPr.2.2
      rw [HCL.out k hlt] at hch
      refine wpAt_seq_k fun K2 h2 => wpAt_of_wp ?_
      go_wp2
      refine wpAt_seq_k fun K2 h2 => ?_
      refine wpAt_block ?_
      refine wpAt_seq_k fun K3 h3 => wpAt_of_wp ?_
      go_wp2
      refine wpAt_seq_k fun K3 h3 => wpAt_of_wp ?_
      go_wp2
      refine wpAt_seq_k fun K3 h3 => ?_
      refine wpAt_seq_k fun K4 h4 => wpAt_of_wp ?_
      go_wp2
      refine wpAt_seq_k fun K4 h4 => ?_
      refine sel8 (c := C k) hb rfl rfl hch ?_
      simp only [Act.put, List.setIfInBounds_toArray, List.set_cons_succ, List.set_cons_zero]
      refine h4 _ _ ?_
      clear h4 K4 c0 c5 hch
      refine wpAt_of_wp ?_
      go_wp2
      have p8 : wr.cell? ⟨P k, 8, none⟩ = some (.int .i64 (st k).left) := hPr.1.cell 8
      have p10 : wr.cell? ⟨P k, 10, none⟩ = some (st k).err := hPr.1.cell 10
      have p0 : wr.cell? ⟨P k, 0, none⟩ = some (.pointer (some ⟨S k, 0, none⟩)) := hPr.1.cell 0
      have s1 : wr.cell? ⟨S k, 1, none⟩ = some (.int .u32 (flag (st k).failed)) := hPr.2.1.cell 1
      have f0 := hO.frozen
      have e0 : oF st k k = oZero := by unfold oF; rw [if_neg (by omega)]
      have g : ∀ j, j < 5 → wr.cell? ⟨w.heap.size, k * 5 + j, none⟩ = oZero[j]? := fun j hj => by rw [← e0]; exact hO.cell hlt hj
      have g0 := g 0 (by omega)
      have g1 := g 1 (by omega)
      have g2 := g 2 (by omega)
      have g3 := g 3 (by omega)
      have g4 := g 4 (by omega)
      clear g e0
      simp only [Nat.add_zero, oZero, List.getElem?_cons_zero, List.getElem?_cons_succ] at g0 g1 g2 g3 g4
      have he := HERR.out k hlt
      have n1 := neq_held m
      have n2 := neq_nil
      have n3 := eql_nil m
      have n4 := eql_same m
      have ne1 : ¬ P k = w.heap.size := by have := hl _ (.inl rfl); omega
      have ne2 : ¬ w.heap.size = P k := by omega
      have i1 : (0 : Int) ≤ (k : Int) := by omega
      have i2 : (k : Int) < (n : Int) := by omega
      generalize hE : (st k).err = E at *
      generalize hL : (st k).left = L at *
      generalize hF : (st k).failed = F at *
      have HE := hide hE
      have HL := hide hL
      have HF := hide hF
      clear hE hL hF
      refine wpAt_of_wp ?_
      rcases he with rfl | rfl
      · have R := hide (round_out hlt hB HSz.out hO [.int .i64 L, .bool false, .bool false, .bool true, .bool F] (show [.int .i64 L, .bool false, .bool false, .bool true, .bool F] = oRow (st k) by unfold oRow; rw [HE.out, HL.out, HF.out]; rfl) rfl)
        go_region_held3 (fun w' => w'.cell? ⟨P k, 8, none⟩ = some (.int .i64 L) ∧ w'.cell? ⟨P k, 10, none⟩ = some .nilIface ∧ w'.cell? ⟨P k, 0, none⟩ = some (.pointer (some ⟨S k, 0, none⟩))) (go_keep) (first | (go_at_call 28; refine (load28 (S k) 1 F _ (by exact s1)).mono ?_; rintro e w' ⟨rfl, rfl⟩))
        clear p8 p10 p0 s1 f0 g0 g1 g2 g3 g4 n1 n2 n3 n4 hB hO
        go_wp2
        refine wpAt_of_wp ?_
        go_wp2
        exact ⟨⟨k + 1, _, _, _, _, _, _, _, _, _, _, _, _, _, _, _, _, _, _, _, _, _, _, _, _, _, _, _, _, _, _, _, _, _, _, _, _, _, _, _, _, _, _, _, _, _, _, _, rfl, by omega, R.out⟩, by simp [mu24, intOf]; omega⟩
      · have R := hide (round_out hlt hB HSz.out hO [.int .i64 L, .bool true, .bool true, .bool true, .bool F] (show [.int .i64 L, .bool true, .bool true, .bool true, .bool F] = oRow (st k) by unfold oRow; rw [HE.out, HL.out, HF.out]; rfl) rfl)
        go_region_held3 (fun w' => w'.cell? ⟨P k, 8, none⟩ = some (.int .i64 L) ∧ w'.cell? ⟨P k, 10, none⟩ = some (.iface 93 (.pointer (some ⟨m, 0, none⟩))) ∧ w'.cell? ⟨P k, 0, none⟩ = some (.pointer (some ⟨S k, 0, none⟩))) (go_keep) (first | (go_at_call 28; refine (load28 (S k) 1 F _ (by exact s1)).mono ?_; rintro e w' ⟨rfl, rfl⟩))
        clear p8 p10 p0 s1 f0 g0 g1 g2 g3 g4 n1 n2 n3 n4 hB hO
        go_wp2
        refine wpAt_of_wp ?_
        go_wp2
        exact ⟨⟨k + 1, _, _, _, _, _, _, _, _, _, _, _, _, _, _, _, _, _, _, _, _, _, _, _, _, _, _, _, _, _, _, _, _, _, _, _, _, _, _, _, _, _, _, _, _, _, _, _, rfl, by omega, R.out⟩, by simp [mu24, intOf]; omega⟩
    · refine wpAt_of_wp ?_
      go_wp2
      refine wpAt_of_wp ?_
      go_wp2
      go_ret
      obtain rfl : k = n := by omega
      exact ⟨rfl, hB, HSz.out, hO.congr fun i hi => by unfold oF; rw [if_pos hi]⟩
end Go.Proofs.Qxb6604428a.Fail
