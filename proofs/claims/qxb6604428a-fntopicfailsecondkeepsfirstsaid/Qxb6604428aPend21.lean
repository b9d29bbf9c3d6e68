import Derived.Test.Qxb6604428aCopy
import Derived.Test.Qxb6604428aPend
import Derived.RegionTactic
import Derived.BigRegion
import Derived.Deep.RegionWith
import Derived.RegionCalls
import Derived.Deep.QuietTactic
import Derived.BigQuiet
import Derived.Deep.DeepCutAuto
import Derived.Conc.LoneCalls
namespace Go.Proofs.Qxb6604428a.Fail
open Go.ChangeShapes Go.WideShapes Go.ChangeAt Go.RowKit Go.Conc
set_option linter.unusedVariables false

theorem info92 : (Try.prog.info? 92).map (fun i => (i.zero, i.size, i.bytes)) = some (some (.agg #[.pointer none, .string ByteArray.empty, .slice none 0 0, .int .i64 0, .bool false, .bool false, .int .i64 0, .slice none 0 0, .int .i64 0, .int .i64 0, .int .i64 0, .int .i64 0]), 12, 128) := by kernel_rfl

theorem mkchan (w : World) : (Instr.makeChan 62 (.int .i64 0)).run Try.prog w = .ok (.chan (some w.heap.size)) (w.alloc (.chan 0 #[] false 0 0 false)) := by kernel_rfl

theorem three_new (w : World) (A B C : Obj) : (((w.alloc A).alloc B).alloc C).drew.heap[w.heap.size]? = some A ∧ (((w.alloc A).alloc B).alloc C).drew.heap[w.heap.size + 1]? = some B ∧
    (((w.alloc A).alloc B).alloc C).drew.heap[w.heap.size + 2]? = some C ∧ (((w.alloc A).alloc B).alloc C).drew.heap.size = w.heap.size + 3 ∧ Below w.heap.size w (((w.alloc A).alloc B).alloc C).drew := by
  have e : (((w.alloc A).alloc B).alloc C).drew.heap = ((w.heap.push A).push B).push C := rfl
  refine ⟨?_, ?_, ?_, ?_, ((((Below.refl _ _).alloc (Nat.le_refl _) _).alloc (by simp) _).alloc (by simp; omega) _).drew⟩
  · rw [e, Array.getElem?_push, if_neg (by simp; omega), Array.getElem?_push, if_neg (by simp), Array.getElem?_push, if_pos rfl]
  · rw [e, Array.getElem?_push, if_neg (by simp), Array.getElem?_push, if_pos (by simp)]
  · rw [e, Array.getElem?_push, if_pos (by simp)]
  · rw [e]; simp

/-- What the queue's row holds behind k rounds. -/
def qF (base k : Nat) (i : Nat) : List Value := if i < k then qRow (some (pA base i)) else qRow none
theorem qF_len (base k i : Nat) : (qF base k i).length = 12 := by unfold qF; split <;> rfl
theorem qF_step (base k i : Nat) : (if i = k then qRow (some (pA base k)) else qF base k i) = qF base (k + 1) i := by
  unfold qF
  by_cases h : i = k
  · subst h; rw [if_pos rfl, if_pos (by omega)]
  · rw [if_neg h]
    by_cases h2 : i < k
    · rw [if_pos h2, if_pos (by omega)]
    · rw [if_neg h2, if_neg (by omega)]

theorem made_strip (w : World) (n : Nat) : Strip (w.alloc (.cells (madeCells (qRow none).toArray (n * 12)) 92)) w.heap.size 92 12 n (qF w.heap.size 0) := by
  refine ⟨madeCells (qRow none).toArray (n * 12), ?_, size_madeCells _ _, fun i hi j hj => ?_⟩
  · show (w.heap.push _)[w.heap.size]? = _
    simp
  · have hl := row_lt (sz := 12) hi hj
    have e : qF w.heap.size 0 i = qRow none := by unfold qF; rw [if_neg (by omega)]
    rw [e]
    unfold madeCells
    rw [Array.getElem?_map, Array.getElem?_range, if_pos hl]
    have hm : (i * 12 + j) % (qRow none).toArray.size = j := by
      show (i * 12 + j) % 12 = j
      omega
    simp only [Option.map_some, hm]
    rw [List.getElem!_toArray, List.getElem!_eq_getElem?_getD]
    have : j < (qRow none).length := hj
    rw [List.getElem?_eq_getElem this]; rfl

theorem pends_step {wr wx : World} {B k : Nat} {o : Nat → Bool} {st : Nat → PS} (hP : Pends wr B k o st) (b : Bool) (x : PS)
    (hold : ∀ j, B < j → j < B + 1 + 3 * k → wx.heap[j]? = wr.heap[j]?)
    (hnew : Pend wx (B + 3 + 3 * k) (if b then B + 2 + 3 * k else B + 1 + 3 * k) (if b then B + 1 + 3 * k else B + 2 + 3 * k) x) (hx : x = st k) :
    Pends wx B (k + 1) (fun i => if i = k then b else o i) st := by
  intro i hi
  by_cases hik : i = k
  · subst hik
    unfold pA sA cA
    simp only [if_true]
    rw [← hx]; exact hnew
  · have hlt : i < k := by omega
    have h := hP i hlt
    have e1 : sA B (fun i => if i = k then b else o i) i = sA B o i := by unfold sA; simp only [if_neg hik]
    have e2 : cA B (fun i => if i = k then b else o i) i = cA B o i := by unfold cA; simp only [if_neg hik]
    rw [e1, e2]
    refine h.same (hold _ ?_ ?_) (hold _ ?_ ?_) (hold _ ?_ ?_)
    all_goals (first | unfold pA | unfold sA | unfold cA)
    all_goals (try split)
    all_goals omega

theorem close_pend {wc : World} {p s c : Nat} (hP : Pend wc p s c (fresh 0)) (hpc : p ≠ c) (hsc : s ≠ c) : Pend { wc with heap := wc.heap.setIfInBounds c (.chan 0 #[] true 0 0 false) } p s c (born 0) :=
  ⟨(heap_obj_other wc c p _ hpc).trans hP.1, (heap_obj_other wc c s _ hsc).trans hP.2.1, heap_obj_same wc c _ (Array.getElem?_eq_some_iff.1 hP.2.2).1⟩
theorem born_fresh {x : Int} (h : x ≠ 0) : born x = fresh x := by
  unfold born fresh
  rw [beq_eq_false_iff_ne.2 h]

theorem round_end {w wr wc : World} {B n k s c : Nat} {o : Nat → Bool} {zs : List Int} {x : Int} (hlt : k < n) (hB : Below B w wr) (hSz : wr.heap.size = B + 1 + 3 * k) (hQ2 : Strip wc B 92 12 n (qF B k))
    (hPs : Pends wr B k o (fun i => born (zs.getD i 0))) (hP2 : Pend wc (wr.heap.size + 2) s c (born x)) (hB2 : Below wr.heap.size wr wc) (hS2 : wc.heap.size = wr.heap.size + 3)
    (hsc : (s = wr.heap.size ∧ c = wr.heap.size + 1) ∨ (s = wr.heap.size + 1 ∧ c = wr.heap.size)) (hx : zs.getD k 0 = x) :
    Below B w (wc.setCells B (k * 12) (qRow (some (wr.heap.size + 2)))) ∧ (wc.setCells B (k * 12) (qRow (some (wr.heap.size + 2)))).heap.size = B + 1 + 3 * (k + 1) ∧
      Strip (wc.setCells B (k * 12) (qRow (some (wr.heap.size + 2)))) B 92 12 n (qF B (k + 1)) ∧ ∃ o, Pends (wc.setCells B (k * 12) (qRow (some (wr.heap.size + 2)))) B (k + 1) o (fun i => born (zs.getD i 0)) := by
  have hp : wr.heap.size + 2 = pA B k := by unfold pA; omega
  refine ⟨setCells_below B (Nat.le_refl _) _ _ _ (hB.trans (hB2.mono (by omega))), by rw [setCells_size]; omega, ?_, ?_⟩
  · rw [hp]
    exact (hQ2.put hlt (qRow (some (pA B k))) rfl).congr fun i _ => qF_step B k i
  · have hn : ∀ j, j ≠ B → (wc.setCells B (k * 12) (qRow (some (wr.heap.size + 2)))).heap[j]? = wc.heap[j]? := fun j hj => setCells_other B _ _ wc j hj
    rcases hsc with ⟨h1, h2⟩ | ⟨h1, h2⟩
    · refine ⟨_, pends_step hPs false (born x) (fun j h3 h4 => ?_) ?_ (by rw [← hx])⟩
      · rw [hn j (by omega)]; exact hB2.block j (by omega)
      · have := hP2.same (hn _ (by omega)) (hn _ (by omega)) (hn _ (by omega))
        rw [hp] at this ⊢
        rw [h1, h2, hSz] at this
        rw [if_neg (by decide), if_neg (by decide)]
        rw [show B + 1 + 3 * k + 1 = B + 2 + 3 * k from by omega] at this
        exact this
    · refine ⟨_, pends_step hPs true (born x) (fun j h3 h4 => ?_) ?_ (by rw [← hx])⟩
      · rw [hn j (by omega)]; exact hB2.block j (by omega)
      · have := hP2.same (hn _ (by omega)) (hn _ (by omega)) (hn _ (by omega))
        rw [hp] at this ⊢
        rw [h1, h2, hSz] at this
        rw [if_pos rfl, if_pos rfl]
        rw [show B + 1 + 3 * k + 1 = B + 2 + 3 * k from by omega] at this
        exact this

set_option maxRecDepth 100000 in
set_option maxHeartbeats 1000000 in
theorem pend21 (b off n c : Nat) (zs : List Int) (w : World) (hb : b < w.heap.size) (hn : n ≤ 131072) (hz : n ≤ zs.length)
    (hc : ∀ j, j < n → w.cell? ⟨b, off + j, none⟩ = some (.int .i64 (zs.getD j 0))) :
    Calls Try.prog 21 #[.slice (some ⟨b, off, none⟩) n c] w fun e w' => e = .returned (.slice (some ⟨w.heap.size, 0, none⟩) n n) ∧
      Below w.heap.size w w' ∧ w'.heap.size = w.heap.size + 1 + 3 * n ∧ Strip w' w.heap.size 92 12 n (fun i => qRow (some (pA w.heap.size i))) ∧ ∃ o, Pends w' w.heap.size n o (fun i => born (zs.getD i 0)) := by
  obtain ⟨i0, hi, hz0, hz1, hz2⟩ := info_parts info92
  have hmk := run_make (P := Try.prog) w 44 92 i0 _ Try.underlying44 hi hz0 .i64 .i64 n n (by omega) (Int.le_refl _) (by rw [hz2]; omega) (by omega)
  simp only [Int.toNat_natCast, hz1] at hmk
  clear hi hz0 hz1 hz2
  have HC : Hid _ := hc
  clear hc
  go_enter Try.func21, Try.ntmps21
  go_wp2
  go_loopw [4] (fun i wr => ∃ k : Nat, k ≤ n ∧ i = .int .i64 k ∧ Below w.heap.size w wr ∧ wr.heap.size = w.heap.size + 1 + 3 * k ∧ Strip wr w.heap.size 92 12 n (qF w.heap.size k) ∧ ∃ o, Pends wr w.heap.size k o (fun i => born (zs.getD i 0))) (fun i _ => n - (intOf i).toNat)
  case atStart => exact ⟨0, Nat.zero_le _, rfl, (Below.refl _ _).alloc (Nat.le_refl _) _, by simp, made_strip w n, fun _ => false, fun i hi => by omega⟩
  case round =>
    obtain ⟨k, hk, rfl, hB, hSz, hQ, o, hPs⟩ := hrel
    clear hmk
    have hmc := mkchan
    have HSz : Hid _ := hSz
    clear hSz
    by_cases hlt : k < n
    · have c1 : wr.cell? ⟨b, off + k, none⟩ = some (.int .i64 (zs.getD k 0)) := (hB.cell (by exact hb)).trans (HC.out k hlt)
      have hbr : b < wr.heap.size := Nat.lt_of_lt_of_le hb hB.size
      have c2 : ∀ o, (wr.alloc o).cell? ⟨b, off + k, none⟩ = some (.int .i64 (zs.getD k 0)) := fun o => (World.cell?_alloc_past _ _ _ hbr).trans c1
      have c3 : ∀ o o', ((wr.alloc o).alloc o').cell? ⟨b, off + k, none⟩ = some (.int .i64 (zs.getD k 0)) := fun o o' => (World.cell?_alloc_past _ _ _ (by simp; omega)).trans (c2 o)
      generalize hx : zs.getD k 0 = x at *
      have HX : Hid _ := hx
      clear hx
      go_upto_region 5 with fail
      go_cut [5] (fun v wc => ∃ s c : Nat, v = .pointer (some ⟨wr.heap.size + 2, 0, none⟩) ∧ ((s = wr.heap.size ∧ c = wr.heap.size + 1) ∨ (s = wr.heap.size + 1 ∧ c = wr.heap.size)) ∧ Pend wc (wr.heap.size + 2) s c (fresh x) ∧ Below wr.heap.size wr wc ∧ wc.heap.size = wr.heap.size + 3)
      case first =>
        go_region
        all_goals (go_wp2_with fail; go_meet)
        · have h3 := three_new wr (.cells (strCells false).toArray 83) (.chan 0 #[] false 0 0 false) (.cells (pendCells wr.heap.size (wr.heap.size + 1) (fresh x)).toArray 85)
          exact ⟨_, _, rfl, .inl ⟨rfl, rfl⟩, ⟨h3.2.2.1, h3.1, h3.2.1⟩, h3.2.2.2.2, h3.2.2.2.1⟩
        · have h3 := three_new wr (.chan 0 #[] false 0 0 false) (.cells (strCells false).toArray 83) (.cells (pendCells (wr.heap.size + 1) wr.heap.size (fresh x)).toArray 85)
          exact ⟨_, _, rfl, .inr ⟨rfl, rfl⟩, ⟨h3.2.2.1, h3.2.1, h3.1⟩, h3.2.2.2.2, h3.2.2.2.1⟩
      case rest =>
        obtain ⟨s, c, rfl, hsc, hP, hBc, hS⟩ := hcut
        have c4 : wc.cell? ⟨b, off + k, none⟩ = some (.int .i64 x) := (hBc.cell (by exact hbr)).trans c1
        have hch : wc.cell? ⟨wr.heap.size + 2, 5, none⟩ = some (.chan (some c)) := hP.1.cell 5
        clear c1 c2 c3
        have HS : Hid _ := hS
        have HSC : Hid _ := hsc
        clear hS hsc hmc
        go_upto_if 28 with fail
        go_cut [] (fun wd => Pend wd (wr.heap.size + 2) s c (born x) ∧ Below wr.heap.size wr wd ∧ wd.heap.size = wr.heap.size + 3)
        case first =>
          by_cases hx0 : x = 0
          · subst hx0
            have hcl := fun ats ty => run_close_open (P := Try.prog) (w := wc) ats ty hP.2.2
            go_wp2
            go_meet
            have hne : wr.heap.size + 2 ≠ c ∧ s ≠ c ∧ wr.heap.size ≤ c := by rcases HSC.out with ⟨h1, h2⟩ | ⟨h1, h2⟩ <;> omega
            exact ⟨close_pend hP hne.1 hne.2.1, below_obj hBc hne.2.2 _, by simpa using HS.out⟩
          · have hx1 : (x == 0) = false := beq_eq_false_iff_ne.2 hx0
            have HP : Hid (Pend wc (wr.heap.size + 2) s c (born x)) := show Pend wc (wr.heap.size + 2) s c (born x) by rw [born_fresh hx0]; exact hP
            go_wp2
            go_meet
            exact ⟨HP.out, hBc, HS.out⟩
        case rest =>
          rename_i wc0 _ _ _ _ _ _
          obtain ⟨hP2, hB2, hS2⟩ := hcut
          have hq : w.heap.size < wr.heap.size := hQ.lt
          have hQ2 := hQ.below hB2 hq
          have HS2 : Hid _ := hS2
          clear hS2 HS hP hBc c4 hch
          have f0 := hQ2.frozen
          have e0 : qF w.heap.size k k = qRow none := by unfold qF; rw [if_neg (by omega)]
          have g : ∀ j, j < 12 → wc.cell? ⟨w.heap.size, k * 12 + j, none⟩ = (qRow none)[j]? := fun j hj => by rw [← e0]; exact hQ2.cell hlt hj
          have g0 := g 0 (by omega)
          have g1 := g 1 (by omega)
          have g2 := g 2 (by omega)
          have g3 := g 3 (by omega)
          have g4 := g 4 (by omega)
          have g5 := g 5 (by omega)
          have g6 := g 6 (by omega)
          have g7 := g 7 (by omega)
          have g8 := g 8 (by omega)
          have g9 := g 9 (by omega)
          have g10 := g 10 (by omega)
          have g11 := g 11 (by omega)
          clear g e0
          simp only [Nat.add_zero, qRow, List.getElem?_cons_zero, List.getElem?_cons_succ, Option.map_none] at g0 g1 g2 g3 g4 g5 g6 g7 g8 g9 g10 g11
          have HE : Hid _ := round_end hlt hB HSz.out hQ2 hPs hP2 hB2 HS2.out HSC.out HX.out
          clear hPs hQ2 hP2 hB2
          go_wp2
          exact ⟨⟨k + 1, by omega, by go_num, HE.out⟩, by simp [intOf]; omega⟩
    · obtain rfl : k = n := by omega
      have HE : Hid (Strip wr w.heap.size 92 12 k (fun i => qRow (some (pA w.heap.size i)))) := hQ.congr fun i hi => by unfold qF; rw [if_pos hi]
      go_wp2
      go_ret
      exact ⟨rfl, hB, HSz.out, HE.out, o, hPs⟩

set_option maxRecDepth 100000 in
set_option maxHeartbeats 1000000 in
theorem pend21_zero (a : Option Addr) (c : Nat) (zs : List Int) (w : World) :
    Calls Try.prog 21 #[.slice a 0 c] w fun e w' => e = .returned (.slice (some ⟨w.heap.size, 0, none⟩) 0 0) ∧
      Below w.heap.size w w' ∧ w'.heap.size = w.heap.size + 1 + 3 * 0 ∧ Strip w' w.heap.size 92 12 0 (fun i => qRow (some (pA w.heap.size i))) ∧ ∃ o, Pends w' w.heap.size 0 o (fun i => born (zs.getD i 0)) := by
  obtain ⟨i0, hi, hz0, hz1, hz2⟩ := info_parts info92
  have hmk := run_make (P := Try.prog) w 44 92 i0 _ Try.underlying44 hi hz0 .i64 .i64 0 0 (by omega) (Int.le_refl _) (by rw [hz2]; omega) (by omega)
  simp only [Int.toNat_zero, hz1] at hmk
  clear hi hz0 hz1 hz2
  go_enter Try.func21, Try.ntmps21
  go_wp2
  refine wp_loop_rounds 1 ?_; rw [rounds_succ]
  go_wp2
  go_ret
  exact ⟨rfl, (Below.refl _ _).alloc (Nat.le_refl _) _, by simp, (made_strip w 0).congr fun i hi => by omega, fun _ => false, fun i hi => by omega⟩

/-- A slice of n numbers that can be read: zs. -/
def Ints (w : World) (a : Option Addr) (n : Nat) (zs : List Int) : Prop :=
  0 < n → ∃ b off, a = some ⟨b, off, none⟩ ∧ b < w.heap.size ∧ n ≤ zs.length ∧ ∀ j, j < n → w.cell? ⟨b, off + j, none⟩ = some (.int .i64 (zs.getD j 0))
theorem Ints.below {w w' : World} {a : Option Addr} {n : Nat} {zs : List Int} (h : Ints w a n zs) (hB : Below w.heap.size w w') : Ints w' a n zs := by
  intro hp
  obtain ⟨b, off, rfl, h1, h2, h3⟩ := h hp
  exact ⟨b, off, rfl, Nat.lt_of_lt_of_le h1 hB.size, h2, fun j hj => (hB.cell (by exact h1)).trans (h3 j hj)⟩
theorem pend21_any (a : Option Addr) (n c : Nat) (zs : List Int) (w : World) (hn : n ≤ 131072) (h : Ints w a n zs) :
    Calls Try.prog 21 #[.slice a n c] w fun e w' => e = .returned (.slice (some ⟨w.heap.size, 0, none⟩) n n) ∧
      Below w.heap.size w w' ∧ w'.heap.size = w.heap.size + 1 + 3 * n ∧ Strip w' w.heap.size 92 12 n (fun i => qRow (some (pA w.heap.size i))) ∧ ∃ o, Pends w' w.heap.size n o (fun i => born (zs.getD i 0)) := by
  by_cases hp : 0 < n
  · obtain ⟨b, off, rfl, h1, h2, h3⟩ := h hp
    exact pend21 b off n c zs w h1 hn h2 h3
  · obtain rfl : n = 0 := by omega
    exact pend21_zero a c zs w
end Go.Proofs.Qxb6604428a.Fail
