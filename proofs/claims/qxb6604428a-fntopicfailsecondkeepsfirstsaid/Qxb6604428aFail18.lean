import Derived.Test.Qxb6604428aLaw6
namespace Go.Proofs.Qxb6604428a.Fail
open Go.ChangeShapes Go.WideShapes Go.ChangeAt Go.RowKit Go.Conc
set_option linter.unusedVariables false

section
variable {n0 n1 Hb H : Nat} {ob oq : Nat → Bool}
theorem c_apart' (hH : Hb + 1 + 3 * n0 ≤ H) : Apart (n0 + n1) (cP n0 Hb H) (cS n0 Hb H ob oq) (cC n0 Hb H ob oq) := by
  refine ⟨fun i hi => ?_, fun i k hi hk hik x h1 h2 => ?_⟩
  · by_cases hl : i < n0
    · obtain ⟨e1, e2, e3⟩ := c_left (Hb := Hb) (H := H) (ob := ob) (oq := oq) hl
      rw [e1, e2, e3]; exact trio_own Hb i ob
    · obtain ⟨e1, e2, e3⟩ := c_right (Hb := Hb) (H := H) (ob := ob) (oq := oq) hl
      rw [e1, e2, e3]; exact trio_own H (i - n0) oq
  · have a := c_range hi h1
    have b := c_range hk h2
    omega
end
theorem fin_left (err : Value) (z : Int) : (fin err (born z)).left = 0 := by
  unfold fin born
  by_cases h : z = 0
  · rw [if_pos h]; exact h
  · rw [if_neg h]
theorem fin_fin (err err' : Value) (z : Int) : fin err' (fin err (born z)) = fin err (born z) := by
  have h := fin_left err z
  generalize fin err (born z) = x at *
  unfold fin
  rw [if_pos h]
theorem Pends.kept' {w w' : World} {H n : Nat} {o : Nat → Bool} {st : Nat → PS} {X : Nat → Prop} (h : Pends w H n o st) (hK : Kept w w' X) (hX : ∀ x, H < x → x < H + 1 + 3 * n → ¬ X x) : Pends w' H n o st :=
  AllP.kept (pends_allP h) hK (fun x ⟨i, hi, hx⟩ => by
    have := trio_range hx
    exact hX x (by omega) (by omega))
theorem Strip.kept' {w w' : World} {b : Nat} {e : TypeId} {sz n : Nat} {f : Nat → List Value} {X : Nat → Prop} (h : Strip w b e sz n f) (hK : Kept w w' X) (hX : ¬ X b) : Strip w' b e sz n f := h.same (hK.block b h.lt hX)

/-- The state in which the second 'fail' finds what it ends. -/
def st2 (n0 m : Nat) (z0 z2 : List Int) : Nat → PS := cSt n0 (fun i => fin (errv true m) (born (z0.getD i 0))) (fun i => born (z2.getD i 0))
theorem st2_open (n0 m : Nat) (z0 z2 : List Int) (i : Nat) : (st2 n0 m z0 z2 i).left ≠ 0 → (st2 n0 m z0 z2 i).closed = false := by
  unfold st2 cSt
  split
  · intro h; exact absurd (fin_left _ _) h
  · exact born_open _

/-- All that stands behind the second 'fail'. -/
structure Ended2 (w : World) (m t j Hb H Hl n0 n1 n2 : Nat) (ob oq ol : Nat → Bool) (z0 z1 z2 : List Int) : Prop where
  topic : Topic w t j (.slice none 0 0)
  rowB : Strip w Hb 92 12 n0 (fun i => qRow (some (pA Hb i)))
  rowQ : Strip w H 92 12 n1 (fun i => qRow (some (pA H i)))
  rowL : Strip w Hl 92 12 n2 (fun i => qRow (some (pA Hl i)))
  pendB : Pends w Hb n0 ob (fun i => fin (errv true m) (born (z0.getD i 0)))
  pendQ : Pends w H n1 oq (fun i => fin (errv true m) (born (z1.getD i 0)))
  pendL : Pends w Hl n2 ol (fun i => fin (errv false m) (born (z2.getD i 0)))

/-- What the second 'fail' asks, of the world behind 't.queue = l'. -/
structure Ready (w : World) (m t j Hb H Hl n0 n1 n2 : Nat) (ob oq ol : Nat → Bool) (z0 z1 z2 : List Int) : Prop where
  topic : Topic w t j (.slice (some ⟨Hl, 0, none⟩) n2 n2)
  rowB : Strip w Hb 92 12 n0 (fun i => qRow (some (pA Hb i)))
  rowQ : Strip w H 92 12 n1 (fun i => qRow (some (pA H i)))
  rowL : Strip w Hl 92 12 n2 (fun i => qRow (some (pA Hl i)))
  pendB : Pends w Hb n0 ob (fun i => fin (errv true m) (born (z0.getD i 0)))
  pendQ : Pends w H n1 oq (fun i => fin (errv true m) (born (z1.getD i 0)))
  pendL : Pends w Hl n2 ol (fun i => born (z2.getD i 0))

/-- The blocks, in the order in which they were laid. -/
structure Order (t j Hb H Hl n0 n1 : Nat) : Prop where
  a : H + 1 + 3 * n1 ≤ j
  b : j < t
  c : t < Hb
  d : Hb + 1 + 3 * n0 ≤ Hl

theorem ready_of {w5 : World} {m t j Hb H Hl n0 n1 n2 : Nat} {ob oq ol : Nat → Bool} {z0 z1 z2 : List Int} (hO : Order t j Hb H Hl n0 n1) (hE : Ended w5 true m t j Hb H n0 n1 ob oq z0 z1)
    (hR : Strip w5 Hl 92 12 n2 (fun i => qRow (some (pA Hl i)))) (hP : Pends w5 Hl n2 ol (fun i => born (z2.getD i 0))) :
    Ready (w5.setCell ⟨t, 29, none⟩ (.slice (some ⟨Hl, 0, none⟩) n2 n2)) m t j Hb H Hl n0 n1 n2 ob oq ol z0 z1 z2 := by
  obtain ⟨o1, o2, o3, o4⟩ := hO
  have hK : Kept w5 (w5.setCell ⟨t, 29, none⟩ (.slice (some ⟨Hl, 0, none⟩) n2 n2)) (fun x => x = t) := Kept.setCell (X := fun x => x = t) (Kept.refl _ _) ⟨t, 29, none⟩ rfl _
  exact ⟨hE.topic.put (by omega) _, Strip.kept' hE.rowB hK (by omega), Strip.kept' hE.rowQ hK (by omega), Strip.kept' hR hK (by omega),
    Pends.kept' hE.pendB hK (fun x _ _ => by omega), Pends.kept' hE.pendQ hK (fun x _ _ => by omega), Pends.kept' hP hK (fun x _ _ => by omega)⟩

theorem fail23_second {w : World} {m t j Hb H Hl n0 n1 n2 : Nat} {ob oq ol : Nat → Bool} {z0 z1 z2 : List Int} (hO : Order t j Hb H Hl n0 n1) (hn0 : n0 ≤ 131072) (hn2 : n2 ≤ 131072) (hR : Ready w m t j Hb H Hl n0 n1 n2 ob oq ol z0 z1 z2) :
    Calls Try.prog 23 #[.pointer (some ⟨t, 0, none⟩), .slice (some ⟨Hb, 0, none⟩) n0 n0, .nilIface] w fun e w' => e = .returned (.tuple #[]) ∧ Ended2 w' m t j Hb H Hl n0 n1 n2 ob oq ol z0 z1 z2 ∧
      Kept w w' (fun x => H < x) := by
  obtain ⟨o1, o2, o3, o4⟩ := hO
  refine (fail23 t j Hb n0 Hl n2 (cP n0 Hb Hl) (cS n0 Hb Hl ob ol) (cC n0 Hb Hl ob ol) (st2 n0 m z0 z2) .nilIface w (.inl rfl) hn0 hn2 (by omega) hR.topic
    (hR.rowB.congr fun i hi => by rw [(c_left (Hb := Hb) (H := Hl) (ob := ob) (oq := ol) hi).1]) (hR.rowL.congr fun i hi => by rw [(c_right (n0 := n0) (Hb := Hb) (H := Hl) (ob := ob) (oq := ol) (i := n0 + i) (by omega)).1, Nat.add_sub_cancel_left])
    (c_apart' (by omega)) (c_all hR.pendB hR.pendL) (fun i _ => st2_open n0 m z0 z2 i) (fun h => by have := c_of h; omega) (fun h => by have := c_of h; omega)).mono ?_
  rintro e w' ⟨rfl, hA, hT, hK⟩
  have hX : ∀ x, (x = t ∨ Of (n0 + n2) (cP n0 Hb Hl) (cS n0 Hb Hl ob ol) (cC n0 Hb Hl ob ol) x) → x = t ∨ (Hb < x ∧ x < Hb + 1 + 3 * n0) ∨ (Hl < x ∧ x < Hl + 1 + 3 * n2) := fun x hx => by
    rcases hx with h | h
    · exact .inl h
    · exact .inr (c_of h)
  refine ⟨rfl, ⟨hT, Strip.kept' hR.rowB hK (fun h => by have := hX _ h; omega), Strip.kept' hR.rowQ hK (fun h => by have := hX _ h; omega), Strip.kept' hR.rowL hK (fun h => by have := hX _ h; omega),
    pends_congr (c_pends_left hA) fun i hi => ?_, Pends.kept' hR.pendQ hK (fun x h1 h2 h => by have := hX _ h; omega), pends_congr (c_pends_right hA) fun i hi => ?_⟩, hK.mono fun x hx => by have := hX x hx; omega⟩
  · simp only [st2, cSt, if_pos hi]; exact fin_fin _ _ _
  · simp only [st2, cSt, if_neg (show ¬ n0 + i < n0 by omega), Nat.add_sub_cancel_left]; rfl

set_option maxRecDepth 100000 in
set_option maxHeartbeats 2000000 in
theorem fail18 (a0 : Option Addr) (n0 c0 : Nat) (z0 : List Int) (a1 : Option Addr) (n1 c1 : Nat) (z1 : List Int) (a2 : Option Addr) (n2 c2 : Nat) (z2 : List Int) (w : World) (hn0 : n0 ≤ 131072) (hn1 : n1 ≤ 131072) (hn2 : n2 ≤ 131072) (h0 : Ints w a0 n0 z0) (h1 : Ints w a1 n1 z1) (h2 : Ints w a2 n2 z2) :
    Calls Try.prog 18 #[.slice a0 n0 c0, .slice a1 n1 c1, .slice a2 n2 c2] w fun e w' => ∃ x y l, e = .returned (.tuple #[.slice (some ⟨x, 0, none⟩) n0 n0, .slice (some ⟨y, 0, none⟩) n1 n1, .slice (some ⟨l, 0, none⟩) n2 n2, .bool true]) ∧
      Strip w' x 75 5 n0 (fun i => endRow true (z0.getD i 0)) ∧ Strip w' y 75 5 n1 (fun i => endRow true (z1.getD i 0)) ∧ Strip w' l 75 5 n2 (fun i => endRow false (z2.getD i 0)) ∧ Below w.heap.size w w' := by
  have H0 := hide h0
  have H1 := hide h1
  have H2 := hide h2
  clear h0 h1 h2
  go_enter Try.func18, Try.ntmps18
  go_wp2_with fail
  refine (pend21_any a1 n1 c1 z1 w hn1 H1.out).mono ?_
  rintro e w1 ⟨rfl, hB1, hS1, hQ1, oq, hP1⟩
  have HS1 := hide hS1
  clear hS1
  have HI0 := hide (H0.out.below hB1)
  go_wp2_with fail
  refine (pend21_at (w1.heap.size + 2) a0 n0 c0 z0 _ (by simp) hn0 (HI0.out.below (two_new w1 _ _))).mono ?_
  rintro e w2 ⟨rfl, hB2, hS2, hQ2, ob, hP2⟩
  have HT2 := hide ((topic_made w1 _ _ (.slice (some ⟨w.heap.size, 0, none⟩) n1 n1) rfl rfl rfl).same (hB2.block _ (by omega)) (hB2.block _ (by omega)))
  have hB12 : Below w1.heap.size w1 w2 := (two_new w1 _ _).trans (hB2.mono (by omega))
  have HS2 := hide hS2
  clear hS2 hB2
  go_wp2_with fail
  refine (new22_at w2.heap.size _ _ rfl).mono ?_
  rintro e w3 ⟨rfl, hB3, hS3⟩
  have hB13 : Below w1.heap.size w1 w3 := hB12.trans (hB3.mono hB12.size)
  have hT3 := Topic.below' HT2.out hB3
  have hQ2' := hQ2.below hB3 hQ2.lt
  have hQ1' := hQ1.below hB13 hQ1.lt
  have hP2' := Pends.below' hP2 hB3
  have hP1' := Pends.below' hP1 hB13
  have HB03 := hide (hB1.trans (hB13.mono hB1.size))
  have hAll := c_all hP2' hP1'
  have HAp := hide (c_apart (n0 := n0) (n1 := n1) (Hb := w1.heap.size + 2) (H := w.heap.size) (ob := ob) (oq := oq) (by have := HS1.out; omega))
  have HQ2 := hide hQ2'
  have HQ1 := hide hQ1'
  have HT3 := hide hT3
  have HAll := hide hAll
  have HL3 := hide (show w1.heap.size + 2 + 1 + 3 * n0 ≤ w3.heap.size by have := HS2.out; have := hB3.size; omega)
  clear hS3 hB3 hB12 hB1 hB13 hT3 hQ2 hQ1 hQ2' hQ1' hP2 hP1 hP2' hP1' HT2 H0 H1 HI0 hAll
  generalize hm : w2.heap.size = m at *
  clear hm HS2
  have HS1' := HS1.out
  have HF := hide (fail23 (w1.heap.size + 1) w1.heap.size (w1.heap.size + 2) n0 w.heap.size n1 (cP n0 (w1.heap.size + 2) w.heap.size) (cS n0 (w1.heap.size + 2) w.heap.size ob oq) (cC n0 (w1.heap.size + 2) w.heap.size ob oq) _ (errv true m) w3 (errv_errv true m) hn0 hn1 (by omega)
    HT3.out (HQ2.out.congr fun i hi => by rw [(c_left (Hb := w1.heap.size + 2) (H := w.heap.size) (ob := ob) (oq := oq) hi).1]) (HQ1.out.congr fun i hi => by rw [(c_right (n0 := n0) (Hb := w1.heap.size + 2) (H := w.heap.size) (ob := ob) (oq := oq) (i := n0 + i) (by omega)).1, Nat.add_sub_cancel_left])
    HAp.out HAll.out (fun i _ => cSt_open i) (fun h => by have := c_of h; omega) (fun h => by have := c_of h; omega))
  have HX := hide HS1'
  clear HS1'
  go_wp2_with fail
  refine HF.out.mono ?_
  rintro e w4 ⟨rfl, hA4, hT4, hK4⟩
  have hE := ended_of (by have := HX.out; omega) (by omega) (by omega) hA4 hT4 hK4 HQ2.out HQ1.out
  have HOr := hide (show Order (w1.heap.size + 1) w1.heap.size (w1.heap.size + 2) w.heap.size w4.heap.size n0 n1 from ⟨by have := HX.out; omega, by omega, by omega, by have := HL3.out; have := hK4.size; omega⟩)
  have HB4 := hide (HB03.out.trans (hK4.below (B := w.heap.size) HB03.out.size (fun x hx => by
    have := HX.out
    rcases hx with rfl | hx
    · omega
    · have := c_of hx; omega)))
  have HE := hide hE
  have HI2 := hide (H2.out.below HB4.out)
  clear HF hA4 hT4 hK4 HQ2 HQ1 HT3 HAll HAp HB03 HX HS1 HL3 hE H2
  generalize w1.heap.size + 2 = Hb at *
  generalize w1.heap.size + 1 = t at *
  generalize w1.heap.size = j at *
  go_wp2_with fail
  refine (pend21_at w4.heap.size a2 n2 c2 z2 _ rfl hn2 HI2.out).mono ?_
  rintro e w5 ⟨rfl, hB5, hS5, hQ5, ol, hP5⟩
  have hE5 := HE.out.below hB5
  have hq5 := hE5.topic.queue
  have hf5 := hE5.topic.frozen
  have HR := hide (ready_of HOr.out hE5 hQ5 hP5)
  have HB5 := hide (HB4.out.trans (hB5.mono HB4.out.size))
  clear HE hS5 hQ5 hP5 hE5 hB5 HI2 HB4
  generalize w4.heap.size = Hl at *
  go_wp2_with fail
  refine (fail23_second HOr.out hn0 hn2 HR.out).mono ?_
  rintro e w6 ⟨rfl, hE6, hK6⟩
  have HB6 := hide (((HB5.out.setCell (p := ⟨t, 29, none⟩) (by have := HOr.out.a; have := HOr.out.b; show _ ≤ t; omega) (.slice (some ⟨Hl, 0, none⟩) n2 n2))).trans (hK6.below (B := w.heap.size) (by rw [heap_setCell_size]; exact HB5.out.size) (fun x hx => by omega)))
  clear hK6 HR hq5 hf5 HB5
  have hq4 := hE6.topic.queue
  have htl := hE6.topic.lt.1
  have HOB := hide (out24_ended Hb n0 m ob true z0 hn0 hE6.rowB hE6.pendB)
  have HOQ := hide (out24_ended w.heap.size n1 m oq true z1 hn1 hE6.rowQ hE6.pendQ)
  have HOL := hide (out24_ended Hl n2 m ol false z2 hn2 hE6.rowL hE6.pendL)
  have he := fun wx => Lib.run_eql_slice_nil (P := Try.prog) wx 44 92 none 0 0 0 0 Try.underlying44
  clear hE6
  go_wp2_with fail
  go_region_held3 (fun w' => w'.cell? ⟨t, 29, none⟩ = some (.slice none 0 0)) (first | assumption | go_keep) (first | (go_at_call_of 24 (Value.slice (some { block := Hb, off := 0 }) n0 n0); refine (HOB.out _ ?_).mono ?_; exact (Below.refl _ _).drew; rintro e w7 ⟨rfl, hB7, hB7', hR7⟩; have hq7 := (hB7.cell (p := ⟨t, 29, none⟩) (by exact htl)).trans hq4) | (go_at_call_of 24 (Value.slice (some { block := w.heap.size, off := 0 }) n1 n1); refine (HOQ.out _ ?_).mono ?_; exact (by assumption); rintro e w8 ⟨rfl, hB8, hB8', hR8⟩; have hq8 := (hB8.cell (p := ⟨t, 29, none⟩) (by exact htl)).trans hq4) | (go_at_call_of 24 (Value.slice (some { block := Hl, off := 0 }) n2 n2); refine (HOL.out _ ?_).mono ?_; exact (by assumption); rintro e w9 ⟨rfl, hB9, hB9', hR9⟩; have hq9 := (hB9.cell (p := ⟨t, 29, none⟩) (by exact htl)).trans hq4))
  go_wp2
  exact bodyPost_ret (v := .tuple #[.slice (some ⟨w6.heap.size, 0, none⟩) n0 n0, .slice (some ⟨w7.heap.size, 0, none⟩) n1 n1, .slice (some ⟨w8.heap.size, 0, none⟩) n2 n2, .bool true]) (by simp [results, Try.results18, go_sem]) rfl
    ⟨_, _, _, rfl, (hR7.below hB8' hR7.lt).below hB9' (Nat.lt_of_lt_of_le hR7.lt hB8'.size), hR8.below hB9' hR8.lt, hR9, HB6.out.trans (hB9.mono HB6.out.size)⟩
end Go.Proofs.Qxb6604428a.Fail
