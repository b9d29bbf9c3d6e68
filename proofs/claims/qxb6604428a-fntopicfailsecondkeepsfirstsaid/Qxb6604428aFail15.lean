import Derived.Test.Qxb6604428aSmall
namespace Go.Proofs.Qxb6604428a.Fail
open Go.ChangeShapes Go.WideShapes Go.ChangeAt Go.RowKit Go.Conc
set_option linter.unusedVariables false

/-! ### two rows of Pendings as one -/
theorem trio_range {base i x : Nat} {o : Nat → Bool} (h : trio (pA base i) (sA base o i) (cA base o i) x) : base + 1 + 3 * i ≤ x ∧ x ≤ base + 3 + 3 * i := by
  unfold trio pA sA cA at h
  split at h <;> omega
theorem trio_own (base i : Nat) (o : Nat → Bool) : pA base i ≠ sA base o i ∧ pA base i ≠ cA base o i ∧ sA base o i ≠ cA base o i := by
  unfold pA sA cA
  split <;> omega
def cP (n0 Hb H i : Nat) : Nat := if i < n0 then pA Hb i else pA H (i - n0)
def cS (n0 Hb H : Nat) (ob oq : Nat → Bool) (i : Nat) : Nat := if i < n0 then sA Hb ob i else sA H oq (i - n0)
def cC (n0 Hb H : Nat) (ob oq : Nat → Bool) (i : Nat) : Nat := if i < n0 then cA Hb ob i else cA H oq (i - n0)
section
variable {n0 n1 Hb H : Nat} {ob oq : Nat → Bool}
theorem c_left {i : Nat} (h : i < n0) : cP n0 Hb H i = pA Hb i ∧ cS n0 Hb H ob oq i = sA Hb ob i ∧ cC n0 Hb H ob oq i = cA Hb ob i := by
  unfold cP cS cC; simp only [if_pos h, and_self]
theorem c_right {i : Nat} (h : ¬ i < n0) : cP n0 Hb H i = pA H (i - n0) ∧ cS n0 Hb H ob oq i = sA H oq (i - n0) ∧ cC n0 Hb H ob oq i = cA H oq (i - n0) := by
  unfold cP cS cC; simp only [if_neg h, and_self]
theorem c_range {i x : Nat} (hi : i < n0 + n1) (h : trio (cP n0 Hb H i) (cS n0 Hb H ob oq i) (cC n0 Hb H ob oq i) x) :
    (i < n0 ∧ Hb + 1 + 3 * i ≤ x ∧ x ≤ Hb + 3 + 3 * i) ∨ (¬ i < n0 ∧ H + 1 + 3 * (i - n0) ≤ x ∧ x ≤ H + 3 + 3 * (i - n0)) := by
  by_cases hl : i < n0
  · obtain ⟨e1, e2, e3⟩ := c_left (Hb := Hb) (H := H) (ob := ob) (oq := oq) hl
    rw [e1, e2, e3] at h
    exact .inl ⟨hl, trio_range h⟩
  · obtain ⟨e1, e2, e3⟩ := c_right (Hb := Hb) (H := H) (ob := ob) (oq := oq) hl
    rw [e1, e2, e3] at h
    exact .inr ⟨hl, trio_range h⟩
theorem c_apart (hH : H + 1 + 3 * n1 ≤ Hb) : Apart (n0 + n1) (cP n0 Hb H) (cS n0 Hb H ob oq) (cC n0 Hb H ob oq) := by
  refine ⟨fun i hi => ?_, fun i k hi hk hik x h1 h2 => ?_⟩
  · by_cases hl : i < n0
    · obtain ⟨e1, e2, e3⟩ := c_left (Hb := Hb) (H := H) (ob := ob) (oq := oq) hl
      rw [e1, e2, e3]; exact trio_own Hb i ob
    · obtain ⟨e1, e2, e3⟩ := c_right (Hb := Hb) (H := H) (ob := ob) (oq := oq) hl
      rw [e1, e2, e3]; exact trio_own H (i - n0) oq
  · have a := c_range hi h1
    have b := c_range hk h2
    omega
/-- Every block of the two rows lies between the first and the last. -/
theorem c_of {x : Nat} (h : Of (n0 + n1) (cP n0 Hb H) (cS n0 Hb H ob oq) (cC n0 Hb H ob oq) x) : (Hb < x ∧ x < Hb + 1 + 3 * n0) ∨ (H < x ∧ x < H + 1 + 3 * n1) := by
  obtain ⟨i, hi, h⟩ := h
  have := c_range hi h
  omega
def cSt (n0 : Nat) (s0 s1 : Nat → PS) (i : Nat) : PS := if i < n0 then s0 i else s1 (i - n0)
theorem c_all {w : World} {s0 s1 : Nat → PS} (h0 : Pends w Hb n0 ob s0) (h1 : Pends w H n1 oq s1) : AllP w (n0 + n1) (cP n0 Hb H) (cS n0 Hb H ob oq) (cC n0 Hb H ob oq) (cSt n0 s0 s1) := by
  intro i hi
  unfold cSt
  by_cases hl : i < n0
  · obtain ⟨e1, e2, e3⟩ := c_left (Hb := Hb) (H := H) (ob := ob) (oq := oq) hl
    rw [e1, e2, e3, if_pos hl]; exact h0 i hl
  · obtain ⟨e1, e2, e3⟩ := c_right (Hb := Hb) (H := H) (ob := ob) (oq := oq) hl
    rw [e1, e2, e3, if_neg hl]; exact h1 (i - n0) (by omega)
theorem c_pends_left {w : World} {st : Nat → PS} (h : AllP w (n0 + n1) (cP n0 Hb H) (cS n0 Hb H ob oq) (cC n0 Hb H ob oq) st) : Pends w Hb n0 ob st := by
  intro i hi
  have := h i (by omega)
  obtain ⟨e1, e2, e3⟩ := c_left (Hb := Hb) (H := H) (ob := ob) (oq := oq) hi
  rw [e1, e2, e3] at this
  exact this
theorem c_pends_right {w : World} {st : Nat → PS} (h : AllP w (n0 + n1) (cP n0 Hb H) (cS n0 Hb H ob oq) (cC n0 Hb H ob oq) st) : Pends w H n1 oq (fun i => st (n0 + i)) := by
  intro i hi
  have := h (n0 + i) (by omega)
  obtain ⟨e1, e2, e3⟩ := c_right (n0 := n0) (Hb := Hb) (H := H) (ob := ob) (oq := oq) (i := n0 + i) (by omega)
  rw [e1, e2, e3, Nat.add_sub_cancel_left] at this
  exact this
end
theorem pends_allP {w : World} {H n : Nat} {o : Nat → Bool} {st : Nat → PS} (h : Pends w H n o st) : AllP w n (pA H) (sA H o) (cA H o) st := h
theorem Pends.below' {w w' : World} {H n : Nat} {o : Nat → Bool} {st : Nat → PS} (h : Pends w H n o st) (hB : Below w.heap.size w w') : Pends w' H n o st :=
  AllP.kept (pends_allP h) (Kept.of_below hB (fun _ => False)) (fun _ _ h => h)
theorem pends_congr {w : World} {H n : Nat} {o : Nat → Bool} {st st' : Nat → PS} (h : Pends w H n o st) (he : ∀ i, i < n → st i = st' i) : Pends w H n o st' := fun i hi => by rw [← he i hi]; exact h i hi


theorem pend21_at (H : Nat) (a : Option Addr) (n c : Nat) (zs : List Int) (w : World) (hH : w.heap.size = H) (hn : n ≤ 131072) (h : Ints w a n zs) :
    Calls Try.prog 21 #[.slice a n c] w fun e w' => e = .returned (.slice (some ⟨H, 0, none⟩) n n) ∧
      Below H w w' ∧ w'.heap.size = H + 1 + 3 * n ∧ Strip w' H 92 12 n (fun i => qRow (some (pA H i))) ∧ ∃ o, Pends w' H n o (fun i => born (zs.getD i 0)) := by
  subst hH
  exact pend21_any a n c zs w hn h
theorem new22_at (H : Nat) (s : ByteArray) (w : World) (hH : w.heap.size = H) :
    Calls Try.prog 22 #[.string s] w fun e w' => e = .returned (.iface 93 (.pointer (some ⟨H, 0, none⟩))) ∧ Below H w w' ∧ w'.heap.size = H + 1 := by
  subst hH
  refine (new22 s w).mono ?_
  rintro e w' ⟨rfl, rfl⟩
  exact ⟨rfl, (Below.refl _ _).alloc (Nat.le_refl _) _, by simp⟩
theorem topic_made (w : World) (cj cur : Array Value) (v : Value) (h1 : cur[29]? = some v) (h2 : cur[28]? = some (.pointer (some ⟨w.heap.size, 0, none⟩))) (h3 : cj[2]? = some (.map none)) :
    Topic ((w.alloc (.cells cj 50)).alloc (.cells cur 70)) (w.heap.size + 1) w.heap.size v := by
  refine ⟨cur, cj, ?_, h1, h2, ?_, h3⟩
  · have : (w.alloc (.cells cj 50)).heap.size = w.heap.size + 1 := by simp
    rw [← this]
    exact Array.getElem?_push_size
  · rw [Below.heap_alloc _ _ _ (by simp)]
    show (w.heap.push _)[w.heap.size]? = _
    simp
theorem Topic.below' {w w' : World} {t j : Nat} {v : Value} (h : Topic w t j v) (hB : Below w.heap.size w w') : Topic w' t j v := h.same (hB.block t h.lt.1) (hB.block j h.lt.2)
theorem two_new (w : World) (a b : Obj) : Below w.heap.size w ((w.alloc a).alloc b) := ((Below.refl _ _).alloc (Nat.le_refl _) _).alloc (by simp) _


def errv (we : Bool) (m : Nat) : Value := if we then .iface 93 (.pointer (some ⟨m, 0, none⟩)) else .nilIface
theorem errv_errv (we : Bool) (m : Nat) : Errv (errv we m) := by
  cases we
  · exact .inl rfl
  · exact .inr ⟨m, rfl⟩
theorem fin_closed (err : Value) (z : Int) : (fin err (born z)).closed = true := by
  unfold fin born
  by_cases h : z = 0
  · subst h; rfl
  · rw [if_neg h]
theorem fin_err (we : Bool) (m : Nat) (z : Int) : (fin (errv we m) (born z)).err = .nilIface ∨ (fin (errv we m) (born z)).err = .iface 93 (.pointer (some ⟨m, 0, none⟩)) := by
  unfold fin born
  by_cases h : z = 0
  · subst h; exact .inl rfl
  · rw [if_neg h]
    cases we
    · exact .inl rfl
    · exact .inr rfl
theorem fin_row (we : Bool) (m : Nat) (z : Int) : oRow (fin (errv we m) (born z)) = endRow we z := by
  unfold fin born oRow endRow
  by_cases h : z = 0
  · subst h; cases we <;> rfl
  · have e : (z != 0) = true := by rw [bne_iff_ne]; exact h
    rw [if_neg h, e]
    cases we <;> rfl
theorem born_open (z : Int) : (born z).left ≠ 0 → (born z).closed = false := fun h => beq_eq_false_iff_ne.2 h
theorem cSt_open {n0 : Nat} {z0 z1 : List Int} (i : Nat) : (cSt n0 (fun i => born (z0.getD i 0)) (fun i => born (z1.getD i 0)) i).left ≠ 0 → (cSt n0 (fun i => born (z0.getD i 0)) (fun i => born (z1.getD i 0)) i).closed = false := by
  unfold cSt
  split
  · exact born_open _
  · exact born_open _

/-- All that stands once the topic's 'fail' has run: the two queues' rows, their Pendings ended, the topic's queue nil. -/
structure Ended (w : World) (we : Bool) (m t j Hb H n0 n1 : Nat) (ob oq : Nat → Bool) (z0 z1 : List Int) : Prop where
  topic : Topic w t j (.slice none 0 0)
  rowB : Strip w Hb 92 12 n0 (fun i => qRow (some (pA Hb i)))
  rowQ : Strip w H 92 12 n1 (fun i => qRow (some (pA H i)))
  pendB : Pends w Hb n0 ob (fun i => fin (errv we m) (born (z0.getD i 0)))
  pendQ : Pends w H n1 oq (fun i => fin (errv we m) (born (z1.getD i 0)))
theorem Ended.below {w w' : World} {we : Bool} {m t j Hb H n0 n1 : Nat} {ob oq : Nat → Bool} {z0 z1 : List Int} (h : Ended w we m t j Hb H n0 n1 ob oq z0 z1) (hB : Below w.heap.size w w') : Ended w' we m t j Hb H n0 n1 ob oq z0 z1 :=
  ⟨Topic.below' h.topic hB, h.rowB.below hB h.rowB.lt, h.rowQ.below hB h.rowQ.lt, Pends.below' h.pendB hB, Pends.below' h.pendQ hB⟩
theorem ended_of {w3 w4 : World} {we : Bool} {m t j Hb H n0 n1 : Nat} {ob oq : Nat → Bool} {z0 z1 : List Int} (hH : H + 1 + 3 * n1 ≤ j) (hj : j < t) (ht : t < Hb)
    (hA : AllP w4 (n0 + n1) (cP n0 Hb H) (cS n0 Hb H ob oq) (cC n0 Hb H ob oq) (fun i => fin (errv we m) (cSt n0 (fun i => born (z0.getD i 0)) (fun i => born (z1.getD i 0)) i)))
    (hT : Topic w4 t j (.slice none 0 0)) (hK : Kept w3 w4 (fun x => x = t ∨ Of (n0 + n1) (cP n0 Hb H) (cS n0 Hb H ob oq) (cC n0 Hb H ob oq) x))
    (hB : Strip w3 Hb 92 12 n0 (fun i => qRow (some (pA Hb i)))) (hQ : Strip w3 H 92 12 n1 (fun i => qRow (some (pA H i)))) : Ended w4 we m t j Hb H n0 n1 ob oq z0 z1 := by
  refine ⟨hT, hB.same (hK.block Hb hB.lt ?_), hQ.same (hK.block H hQ.lt ?_), pends_congr (c_pends_left hA) fun i hi => ?_, pends_congr (c_pends_right hA) fun i hi => ?_⟩
  · rintro (h | h)
    · omega
    · have := c_of h; omega
  · rintro (h | h)
    · omega
    · have := c_of h; omega
  · simp only [cSt, if_pos hi]
  · simp only [cSt, if_neg (show ¬ n0 + i < n0 by omega), Nat.add_sub_cancel_left]

theorem out24_ended {w4 : World} (H n m : Nat) (o : Nat → Bool) (we : Bool) (zs : List Int) (hn : n ≤ 131072) (hR : Strip w4 H 92 12 n (fun i => qRow (some (pA H i)))) (hP : Pends w4 H n o (fun i => fin (errv we m) (born (zs.getD i 0))))
    (wx : World) (hB : Below w4.heap.size w4 wx) :
    Calls Try.prog 24 #[.slice (some ⟨H, 0, none⟩) n n, .iface 93 (.pointer (some ⟨m, 0, none⟩))] wx fun e w' => e = .returned (.slice (some ⟨wx.heap.size, 0, none⟩) n n) ∧
      Below w4.heap.size w4 w' ∧ Below wx.heap.size wx w' ∧ Strip w' wx.heap.size 75 5 n (fun i => endRow we (zs.getD i 0)) := by
  refine (out24 H n m (pA H) (sA H o) (cA H o) _ wx hn (hR.below hB hR.lt) (Pends.below' hP hB) (fun i _ => fin_closed _ _) (fun i _ => fin_err we m _)).mono ?_
  rintro e w' ⟨rfl, h1, h2, h3⟩
  exact ⟨rfl, hB.trans (h1.mono hB.size), h1, h3.congr fun i _ => fin_row we m _⟩

set_option maxRecDepth 100000 in
set_option maxHeartbeats 1000000 in
theorem fail15_true (a0 : Option Addr) (n0 c0 : Nat) (z0 : List Int) (a1 : Option Addr) (n1 c1 : Nat) (z1 : List Int) (w : World) (hn0 : n0 ≤ 131072) (hn1 : n1 ≤ 131072) (h0 : Ints w a0 n0 z0) (h1 : Ints w a1 n1 z1) :
    Calls Try.prog 15 #[.slice a0 n0 c0, .slice a1 n1 c1, .bool true] w fun e w' => ∃ x y, e = .returned (.tuple #[.slice (some ⟨x, 0, none⟩) n0 n0, .slice (some ⟨y, 0, none⟩) n1 n1, .bool true]) ∧ Strip w' x 75 5 n0 (fun i => endRow true (z0.getD i 0)) ∧ Strip w' y 75 5 n1 (fun i => endRow true (z1.getD i 0)) ∧ Below w.heap.size w w' := by
  have H0 := hide h0
  have H1 := hide h1
  clear h0 h1
  go_enter Try.func15, Try.ntmps15
  go_wp2_with fail
  refine (pend21_any a1 n1 c1 z1 w hn1 H1.out).mono ?_
  rintro e w1 ⟨rfl, hB1, hS1, hQ1, oq, hP1⟩
  have HS1 := hide hS1
  clear hS1
  have HI0 := hide (H0.out.below hB1)
  go_wp2_with fail
  refine (pend21_at (w1.heap.size + 2) a0 n0 c0 z0 _ (by simp) hn0 (HI0.out.below (two_new w1 _ _))).mono ?_
  rintro e w2 ⟨rfl, hB2, hS2, hQ2, ob, hP2⟩
  have HT2 := hide ((topic_made w1 _ _ (.slice (some ⟨w.heap.size, 0, none⟩) n1 n1) rfl rfl rfl).same (hB2.block _ (by omega)) (hB2.block _ (by omega)))
  have hB12 : Below w1.heap.size w1 w2 := (two_new w1 _ _).trans (hB2.mono (by omega))
  have HS2 := hide hS2
  clear hS2 hB2
  go_wp2_with fail
  refine (new22_at w2.heap.size _ _ rfl).mono ?_
  rintro e w3 ⟨rfl, hB3, hS3⟩
  have hB13 : Below w1.heap.size w1 w3 := hB12.trans (hB3.mono hB12.size)
  have hT3 := Topic.below' HT2.out hB3
  have hQ2' := hQ2.below hB3 hQ2.lt
  have hQ1' := hQ1.below hB13 hQ1.lt
  have hP2' := Pends.below' hP2 hB3
  have hP1' := Pends.below' hP1 hB13
  have HB03 := hide (hB1.trans (hB13.mono hB1.size))
  have hAll := c_all hP2' hP1'
  have HAp := hide (c_apart (n0 := n0) (n1 := n1) (Hb := w1.heap.size + 2) (H := w.heap.size) (ob := ob) (oq := oq) (by have := HS1.out; omega))
  have HQ2 := hide hQ2'
  have HQ1 := hide hQ1'
  have HT3 := hide hT3
  have HAll := hide hAll
  clear hS3 hB3 hB12 hB1 hB13 hT3 hQ2 hQ1 hQ2' hQ1' hP2 hP1 hP2' hP1' HT2 H0 H1 HI0 hAll
  generalize hm : w2.heap.size = m at *
  clear hm HS2
  have HS1' := HS1.out
  have HF := hide (fail23 (w1.heap.size + 1) w1.heap.size (w1.heap.size + 2) n0 w.heap.size n1 (cP n0 (w1.heap.size + 2) w.heap.size) (cS n0 (w1.heap.size + 2) w.heap.size ob oq) (cC n0 (w1.heap.size + 2) w.heap.size ob oq) _ (errv true m) w3 (errv_errv true m) hn0 hn1 (by omega)
    HT3.out (HQ2.out.congr fun i hi => by rw [(c_left (Hb := w1.heap.size + 2) (H := w.heap.size) (ob := ob) (oq := oq) hi).1]) (HQ1.out.congr fun i hi => by rw [(c_right (n0 := n0) (Hb := w1.heap.size + 2) (H := w.heap.size) (ob := ob) (oq := oq) (i := n0 + i) (by omega)).1, Nat.add_sub_cancel_left])
    HAp.out HAll.out (fun i _ => cSt_open i) (fun h => by have := c_of h; omega) (fun h => by have := c_of h; omega))
  have HX := hide HS1'
  clear HS1'
  go_wp2_with fail
  refine HF.out.mono ?_
  rintro e w4 ⟨rfl, hA4, hT4, hK4⟩
  have hE := ended_of (by have := HX.out; omega) (by omega) (by omega) hA4 hT4 hK4 HQ2.out HQ1.out
  have HB4 := hide (HB03.out.trans (hK4.below (B := w.heap.size) HB03.out.size (fun x hx => by
    have := HX.out
    rcases hx with rfl | hx
    · omega
    · have := c_of hx; omega)))
  clear HF hA4 hT4 hK4 HQ2 HQ1 HT3 HAll HAp HB03
  go_wp2_with fail
  have hq4 := hE.topic.queue
  have htl := hE.topic.lt.1
  have HOB := hide (out24_ended (w1.heap.size + 2) n0 m ob true z0 hn0 hE.rowB hE.pendB)
  have HOQ := hide (out24_ended w.heap.size n1 m oq true z1 hn1 hE.rowQ hE.pendQ)
  have he := fun wx => Lib.run_eql_slice_nil (P := Try.prog) wx 44 92 none 0 0 0 0 Try.underlying44
  clear hE HX HS1
  generalize w1.heap.size + 2 = Hb at *
  generalize w1.heap.size + 1 = t at *
  go_region_held3 (fun w' => w'.cell? ⟨t, 29, none⟩ = some (.slice none 0 0)) (first | assumption | go_keep) (first | (go_at_call_of 24 (Value.slice (some { block := Hb, off := 0 }) n0 n0); refine (HOB.out _ ?_).mono ?_; exact (Below.refl _ _).drew; rintro e w5 ⟨rfl, hB5, hB5', hR5⟩; have hq5 := (hB5.cell (p := ⟨t, 29, none⟩) (by exact htl)).trans hq4) | (go_at_call_of 24 (Value.slice (some { block := w.heap.size, off := 0 }) n1 n1); refine (HOQ.out _ ?_).mono ?_; exact (by assumption); rintro e w6 ⟨rfl, hB6, hB6', hR6⟩; have hq6 := (hB6.cell (p := ⟨t, 29, none⟩) (by exact htl)).trans hq4))
  go_wp2
  go_ret3
  exact ⟨_, _, rfl, hR5.below hB6' hR5.lt, hR6, HB4.out.trans (hB6.mono HB4.out.size)⟩

set_option maxRecDepth 100000 in
set_option maxHeartbeats 1000000 in
theorem fail15_false (a0 : Option Addr) (n0 c0 : Nat) (z0 : List Int) (a1 : Option Addr) (n1 c1 : Nat) (z1 : List Int) (w : World) (hn0 : n0 ≤ 131072) (hn1 : n1 ≤ 131072) (h0 : Ints w a0 n0 z0) (h1 : Ints w a1 n1 z1) :
    Calls Try.prog 15 #[.slice a0 n0 c0, .slice a1 n1 c1, .bool false] w fun e w' => ∃ x y, e = .returned (.tuple #[.slice (some ⟨x, 0, none⟩) n0 n0, .slice (some ⟨y, 0, none⟩) n1 n1, .bool true]) ∧ Strip w' x 75 5 n0 (fun i => endRow false (z0.getD i 0)) ∧ Strip w' y 75 5 n1 (fun i => endRow false (z1.getD i 0)) ∧ Below w.heap.size w w' := by
  have H0 := hide h0
  have H1 := hide h1
  clear h0 h1
  go_enter Try.func15, Try.ntmps15
  go_wp2_with fail
  refine (pend21_any a1 n1 c1 z1 w hn1 H1.out).mono ?_
  rintro e w1 ⟨rfl, hB1, hS1, hQ1, oq, hP1⟩
  have HS1 := hide hS1
  clear hS1
  have HI0 := hide (H0.out.below hB1)
  go_wp2_with fail
  refine (pend21_at (w1.heap.size + 2) a0 n0 c0 z0 _ (by simp) hn0 (HI0.out.below (two_new w1 _ _))).mono ?_
  rintro e w2 ⟨rfl, hB2, hS2, hQ2, ob, hP2⟩
  have HT2 := hide ((topic_made w1 _ _ (.slice (some ⟨w.heap.size, 0, none⟩) n1 n1) rfl rfl rfl).same (hB2.block _ (by omega)) (hB2.block _ (by omega)))
  have hB12 : Below w1.heap.size w1 w2 := (two_new w1 _ _).trans (hB2.mono (by omega))
  have HS2 := hide hS2
  clear hS2 hB2
  go_wp2_with fail
  refine (new22_at w2.heap.size _ _ rfl).mono ?_
  rintro e w3 ⟨rfl, hB3, hS3⟩
  have hB13 : Below w1.heap.size w1 w3 := hB12.trans (hB3.mono hB12.size)
  have hT3 := Topic.below' HT2.out hB3
  have hQ2' := hQ2.below hB3 hQ2.lt
  have hQ1' := hQ1.below hB13 hQ1.lt
  have hP2' := Pends.below' hP2 hB3
  have hP1' := Pends.below' hP1 hB13
  have HB03 := hide (hB1.trans (hB13.mono hB1.size))
  have hAll := c_all hP2' hP1'
  have HAp := hide (c_apart (n0 := n0) (n1 := n1) (Hb := w1.heap.size + 2) (H := w.heap.size) (ob := ob) (oq := oq) (by have := HS1.out; omega))
  have HQ2 := hide hQ2'
  have HQ1 := hide hQ1'
  have HT3 := hide hT3
  have HAll := hide hAll
  clear hS3 hB3 hB12 hB1 hB13 hT3 hQ2 hQ1 hQ2' hQ1' hP2 hP1 hP2' hP1' HT2 H0 H1 HI0 hAll
  generalize hm : w2.heap.size = m at *
  clear hm HS2
  have HS1' := HS1.out
  have HF := hide (fail23 (w1.heap.size + 1) w1.heap.size (w1.heap.size + 2) n0 w.heap.size n1 (cP n0 (w1.heap.size + 2) w.heap.size) (cS n0 (w1.heap.size + 2) w.heap.size ob oq) (cC n0 (w1.heap.size + 2) w.heap.size ob oq) _ (errv false m) w3 (errv_errv false m) hn0 hn1 (by omega)
    HT3.out (HQ2.out.congr fun i hi => by rw [(c_left (Hb := w1.heap.size + 2) (H := w.heap.size) (ob := ob) (oq := oq) hi).1]) (HQ1.out.congr fun i hi => by rw [(c_right (n0 := n0) (Hb := w1.heap.size + 2) (H := w.heap.size) (ob := ob) (oq := oq) (i := n0 + i) (by omega)).1, Nat.add_sub_cancel_left])
    HAp.out HAll.out (fun i _ => cSt_open i) (fun h => by have := c_of h; omega) (fun h => by have := c_of h; omega))
  have HX := hide HS1'
  clear HS1'
  go_wp2_with fail
  refine HF.out.mono ?_
  rintro e w4 ⟨rfl, hA4, hT4, hK4⟩
  have hE := ended_of (by have := HX.out; omega) (by omega) (by omega) hA4 hT4 hK4 HQ2.out HQ1.out
  have HB4 := hide (HB03.out.trans (hK4.below (B := w.heap.size) HB03.out.size (fun x hx => by
    have := HX.out
    rcases hx with rfl | hx
    · omega
    · have := c_of hx; omega)))
  clear HF hA4 hT4 hK4 HQ2 HQ1 HT3 HAll HAp HB03
  go_wp2_with fail
  have hq4 := hE.topic.queue
  have htl := hE.topic.lt.1
  have HOB := hide (out24_ended (w1.heap.size + 2) n0 m ob false z0 hn0 hE.rowB hE.pendB)
  have HOQ := hide (out24_ended w.heap.size n1 m oq false z1 hn1 hE.rowQ hE.pendQ)
  have he := fun wx => Lib.run_eql_slice_nil (P := Try.prog) wx 44 92 none 0 0 0 0 Try.underlying44
  clear hE HX HS1
  generalize w1.heap.size + 2 = Hb at *
  generalize w1.heap.size + 1 = t at *
  go_region_held3 (fun w' => w'.cell? ⟨t, 29, none⟩ = some (.slice none 0 0)) (first | assumption | go_keep) (first | (go_at_call_of 24 (Value.slice (some { block := Hb, off := 0 }) n0 n0); refine (HOB.out _ ?_).mono ?_; exact (Below.refl _ _).drew; rintro e w5 ⟨rfl, hB5, hB5', hR5⟩; have hq5 := (hB5.cell (p := ⟨t, 29, none⟩) (by exact htl)).trans hq4) | (go_at_call_of 24 (Value.slice (some { block := w.heap.size, off := 0 }) n1 n1); refine (HOQ.out _ ?_).mono ?_; exact (by assumption); rintro e w6 ⟨rfl, hB6, hB6', hR6⟩; have hq6 := (hB6.cell (p := ⟨t, 29, none⟩) (by exact htl)).trans hq4))
  go_wp2
  go_ret3
  exact ⟨_, _, rfl, hR5.below hB6' hR5.lt, hR6, HB4.out.trans (hB6.mono HB4.out.size)⟩
end Go.Proofs.Qxb6604428a.Fail
