import Derived.Test.Qxb6604428aConcat
namespace Go.Proofs.Qxb6604428a.Fail
open Go.ChangeShapes Go.WideShapes Go.ChangeAt Go.RowKit Go.Conc
set_option linter.unusedVariables false

/-- The topic at block t: its queue is v, its judge lies at block j. -/
def Topic (w : World) (t j : Nat) (v : Value) : Prop :=
  ∃ cur cj : Array Value, w.heap[t]? = some (.cells cur 70) ∧ cur[29]? = some v ∧ cur[28]? = some (.pointer (some ⟨j, 0, none⟩)) ∧ w.heap[j]? = some (.cells cj 50) ∧ cj[2]? = some (.map none)
theorem cell_of {w : World} {b o : Nat} {cur : Array Value} {e : TypeId} (h : w.heap[b]? = some (.cells cur e)) : w.cell? ⟨b, o, none⟩ = cur[o]? := by
  unfold World.cell?
  simp only [h]
  simp
theorem frozen_of {w : World} {b o : Nat} {cur : Array Value} {e : TypeId} (h : w.heap[b]? = some (.cells cur e)) : w.frozen? ⟨b, o, none⟩ = false := by
  unfold World.frozen?
  simp only [h]
  simp
section
variable {w w' : World} {t j : Nat} {v : Value}
theorem Topic.queue (h : Topic w t j v) : w.cell? ⟨t, 29, none⟩ = some v := by
  obtain ⟨cur, cj, h1, h2, _⟩ := h
  rw [cell_of h1, h2]
theorem Topic.judge (h : Topic w t j v) : w.cell? ⟨t, 28, none⟩ = some (.pointer (some ⟨j, 0, none⟩)) := by
  obtain ⟨cur, cj, h1, _, h2, _⟩ := h
  rw [cell_of h1, h2]
theorem Topic.frozen (h : Topic w t j v) : w.frozen? ⟨t, 29, none⟩ = false := by
  obtain ⟨cur, cj, h1, _⟩ := h
  exact frozen_of h1
theorem Topic.pending (h : Topic w t j v) : w.cell? ⟨j, 2, none⟩ = some (.map none) := by
  obtain ⟨cur, cj, _, _, _, h1, h2⟩ := h
  rw [cell_of h1, h2]
theorem Topic.same (h : Topic w t j v) (ht : w'.heap[t]? = w.heap[t]?) (hj : w'.heap[j]? = w.heap[j]?) : Topic w' t j v := by
  obtain ⟨cur, cj, h1, h2, h3, h4, h5⟩ := h
  exact ⟨cur, cj, ht.trans h1, h2, h3, hj.trans h4, h5⟩
theorem Topic.lt (h : Topic w t j v) : t < w.heap.size ∧ j < w.heap.size := by
  obtain ⟨cur, cj, h1, h2, h3, h4, h5⟩ := h
  exact ⟨(Array.getElem?_eq_some_iff.1 h1).1, (Array.getElem?_eq_some_iff.1 h4).1⟩
theorem Topic.put (h : Topic w t j v) (htj : t ≠ j) (u : Value) : Topic (w.setCell ⟨t, 29, none⟩ u) t j u := by
  obtain ⟨cur, cj, h1, h2, h3, h4, h5⟩ := h
  have hl : 29 < cur.size := (Array.getElem?_eq_some_iff.1 h2).1
  refine ⟨cur.setIfInBounds 29 u, cj, heap_setCell_same w t 29 cur 70 u h1, ?_, ?_, ?_, h5⟩
  · rw [Array.getElem?_setIfInBounds_self, if_pos hl]
  · rw [Array.getElem?_setIfInBounds_ne (by omega)]; exact h3
  · rw [Below.heap_setCell _ _ _ _ (fun e => htj e.symm)]; exact h4
end

/-- A row of queued elements: element i leads to the Pending at block P i. -/
def QRows (w : World) (a : Option Addr) (N : Nat) (P : Nat → Nat) (B : Nat) : Prop :=
  0 < N → ∃ g, a = some ⟨g, 0, none⟩ ∧ B ≤ g ∧ g < w.heap.size ∧ ∀ i, i < N → ∀ l, l < 12 → w.cell? ⟨g, i * 12 + l, none⟩ = (qRow (some (P i)))[l]?

theorem one_of_strip {n : Nat} {P : Nat → Nat} {cur : Array Value} (hs : cur.size = n * 12) (h : ∀ i, i < n → ∀ l, l < 12 → cur[i * 12 + l]? = (qRow (some (P i)))[l]?) : ∀ u ∈ cur.toList, u.oneCell' = true := by
  intro u hu
  obtain ⟨k, hk, rfl⟩ := List.mem_iff_getElem.1 hu
  have hk' : k < n * 12 := by rw [← hs]; simpa using hk
  have h1 := h (k / 12) (by omega) (k % 12) (by omega)
  rw [show k / 12 * 12 + k % 12 = k from by omega] at h1
  have h2 : cur[k]? = some (cur.toList[k]) := by
    rw [Array.getElem?_eq_getElem (by simpa using hk)]; rfl
  rw [h2] at h1
  have h3 : cur.toList[k] ∈ qRow (some (P (k / 12))) := List.mem_of_getElem? h1.symm
  generalize cur.toList[k] = u at h3
  simp only [qRow, List.mem_cons, List.not_mem_nil, or_false] at h3
  rcases h3 with rfl | rfl | rfl | rfl | rfl | rfl | rfl | rfl | rfl | rfl | rfl | rfl <;> rfl

theorem qrows_of_own {w : World} {B n1 n2 : Nat} {P : Nat → Nat} {cur1 cur2 : Array Value} {v : Value} (z1 : cur1.size = n1 * 12) (z2 : cur2.size = n2 * 12)
    (h1 : ∀ i, i < n1 → ∀ l, l < 12 → cur1[i * 12 + l]? = (qRow (some (P i)))[l]?) (h2 : ∀ i, i < n2 → ∀ l, l < 12 → cur2[i * 12 + l]? = (qRow (some (P (n1 + i))))[l]?)
    (h : w.ownsRow B 92 12 v (n1 + n2) (cur1.toList ++ cur2.toList)) : ∃ a cap, v = .slice a (n1 + n2) cap ∧ QRows w a (n1 + n2) P B := by
  rcases h.2 with ⟨rfl, h0⟩ | ⟨g, cap, cur, rfl, hg, hh, hnc, hcm, hcs, htake⟩
  · exact ⟨none, 0, by rw [h0], fun h => by omega⟩
  · refine ⟨_, _, rfl, fun _ => ⟨g, rfl, hg, (Array.getElem?_eq_some_iff.1 hh).1, fun i hi l hl => ?_⟩⟩
    rw [cell_of hh]
    have hlt : i * 12 + l < (n1 + n2) * 12 := row_lt hi hl
    have e : cur[i * 12 + l]? = (cur.toList.take ((n1 + n2) * 12))[i * 12 + l]? := by
      rw [List.getElem?_take, if_pos hlt]; simp
    rw [e, htake]
    by_cases hi1 : i < n1
    · rw [List.getElem?_append_left (by have := row_lt (sz := 12) hi1 hl; simp; omega)]
      rw [← h1 i hi1 l hl]; simp
    · have hge : n1 * 12 ≤ i * 12 + l := by have := Nat.mul_le_mul_right 12 (Nat.le_of_not_lt hi1); omega
      rw [List.getElem?_append_right (by simp; omega)]
      have := h2 (i - n1) (by omega) l hl
      rw [show n1 + (i - n1) = i from by omega] at this
      rw [← this]
      rw [show i * 12 + l - cur1.toList.length = (i - n1) * 12 + l from by simp; omega]
      simp

theorem QRows.kept {w w' : World} {a : Option Addr} {N B : Nat} {P : Nat → Nat} {X : Nat → Prop} (h : QRows w a N P B) (hk : Kept w w' X) (hX : ∀ x, X x → x < B) : QRows w' a N P B := by
  intro hp
  obtain ⟨g, rfl, h1, h2, h3⟩ := h hp
  have hb : w'.heap[g]? = w.heap[g]? := hk.block g h2 (fun hx => by have := hX g hx; omega)
  exact ⟨g, rfl, h1, Nat.lt_of_lt_of_le h2 hk.size, fun i hi l hl => (World.cell?_of_block (w := w) hb).trans (h3 i hi l hl)⟩

/-- The Pendings of a row: three blocks each, no block twice. -/
structure Apart (N : Nat) (P S C : Nat → Nat) : Prop where
  own : ∀ i, i < N → P i ≠ S i ∧ P i ≠ C i ∧ S i ≠ C i
  each : ∀ i k, i < N → k < N → i ≠ k → ∀ x, trio (P i) (S i) (C i) x → ¬ trio (P k) (S k) (C k) x
def Of (N : Nat) (P S C : Nat → Nat) (x : Nat) : Prop := ∃ i, i < N ∧ trio (P i) (S i) (C i) x
def AllP (w : World) (N : Nat) (P S C : Nat → Nat) (st : Nat → PS) : Prop := ∀ i, i < N → Pend w (P i) (S i) (C i) (st i)
theorem pend_lt {w : World} {p s c : Nat} {x : PS} (h : Pend w p s c x) : ∀ y, trio p s c y → y < w.heap.size := by
  rintro y (rfl | rfl | rfl)
  · exact h.1.lt
  · exact h.2.1.lt
  · exact (Array.getElem?_eq_some_iff.1 h.2.2).1
theorem AllP.lt {w : World} {N : Nat} {P S C : Nat → Nat} {st : Nat → PS} (h : AllP w N P S C st) : ∀ y, Of N P S C y → y < w.heap.size := by
  rintro y ⟨i, hi, hy⟩
  exact pend_lt (h i hi) y hy
theorem AllP.kept {w w' : World} {N : Nat} {P S C : Nat → Nat} {st : Nat → PS} {X : Nat → Prop} (h : AllP w N P S C st) (hk : Kept w w' X) (hX : ∀ y, Of N P S C y → ¬ X y) : AllP w' N P S C st := by
  intro i hi
  have hl := pend_lt (h i hi)
  exact (h i hi).same (hk.block _ (hl _ (.inl rfl)) (hX _ ⟨i, hi, .inl rfl⟩)) (hk.block _ (hl _ (.inr (.inl rfl))) (hX _ ⟨i, hi, .inr (.inl rfl)⟩)) (hk.block _ (hl _ (.inr (.inr rfl))) (hX _ ⟨i, hi, .inr (.inr rfl)⟩))

/-- How far 'fail' has come. -/
def upto (err : Value) (st : Nat → PS) (k i : Nat) : PS := if i < k then fin err (st i) else st i
theorem allP_step {w w' : World} {N : Nat} {P S C : Nat → Nat} {st : Nat → PS} {err : Value} {k : Nat} (hA : Apart N P S C) (hk : k < N) (h : AllP w N P S C (upto err st k))
    (h1 : Pend w' (P k) (S k) (C k) (fin err (upto err st k k))) (h2 : Kept w w' (trio (P k) (S k) (C k))) : AllP w' N P S C (upto err st (k + 1)) := by
  intro i hi
  by_cases e : i = k
  · subst e
    have e1 : upto err st (i + 1) i = fin err (upto err st i i) := by
      unfold upto; rw [if_pos (by omega), if_neg (by omega)]
    rw [e1]; exact h1
  · have e1 : upto err st (k + 1) i = upto err st k i := by
      unfold upto
      by_cases h : i < k
      · rw [if_pos h, if_pos (by omega)]
      · rw [if_neg h, if_neg (by omega)]
    rw [e1]
    have hl := pend_lt (h i hi)
    exact (h i hi).same (h2.block _ (hl _ (.inl rfl)) (hA.each i k hi hk e _ (.inl rfl))) (h2.block _ (hl _ (.inr (.inl rfl))) (hA.each i k hi hk e _ (.inr (.inl rfl)))) (h2.block _ (hl _ (.inr (.inr rfl))) (hA.each i k hi hk e _ (.inr (.inr rfl))))

theorem alloc_cell (w : World) (cur : Array Value) (e : TypeId) (o : Nat) : (w.alloc (.cells cur e)).cell? ⟨w.heap.size, o, none⟩ = cur[o]? :=
  cell_of (cur := cur) (e := e) (by show (w.heap.push _)[w.heap.size]? = _; simp)

set_option maxRecDepth 100000 in
set_option maxHeartbeats 1000000 in
theorem fail23 (t j b1 n1 b2 n2 : Nat) (P S C : Nat → Nat) (st : Nat → PS) (err : Value) (w : World) (herr : Errv err) (hn1 : n1 ≤ 131072) (hn2 : n2 ≤ 131072) (htj : t ≠ j)
    (hT : Topic w t j (.slice (some ⟨b2, 0, none⟩) n2 n2)) (S1 : Strip w b1 92 12 n1 (fun i => qRow (some (P i)))) (S2 : Strip w b2 92 12 n2 (fun i => qRow (some (P (n1 + i)))))
    (hA : Apart (n1 + n2) P S C) (hP : AllP w (n1 + n2) P S C st) (hcl : ∀ i, i < n1 + n2 → (st i).left ≠ 0 → (st i).closed = false)
    (ht : ¬ Of (n1 + n2) P S C t) (hj : ¬ Of (n1 + n2) P S C j) :
    Calls Try.prog 23 #[.pointer (some ⟨t, 0, none⟩), .slice (some ⟨b1, 0, none⟩) n1 n1, err] w fun e w' => e = .returned (.tuple #[]) ∧
      AllP w' (n1 + n2) P S C (fun i => fin err (st i)) ∧ Topic w' t j (.slice none 0 0) ∧ Kept w w' (fun x => x = t ∨ Of (n1 + n2) P S C x) := by
  obtain ⟨cur1, h1, z1, e1⟩ := S1
  obtain ⟨cur2, h2, z2, e2⟩ := S2
  have hq := hT.queue
  have HT := hide hT
  have H1 := hide h1
  have H2 := hide h2
  have HP := hide hP
  have Z1 := hide z1
  have Z2 := hide z2
  have E1 := hide e1
  have E2 := hide e2
  have HCL := hide hcl
  clear hT h1 h2 hP z1 z2 e1 e2 hcl
  go_enter Try.func23, Try.ntmps23
  go_wp2_with fail
  refine (concat25 w.heap.size b1 n1 b2 n2 cur1 cur2 _ hn1 hn2 (by simp) (alloc_cell w _ 44 0) (alloc_cell w _ 44 1)
    ((Below.heap_alloc _ _ _ (Array.getElem?_eq_some_iff.1 H1.out).1).trans H1.out) Z1.out (one_of_strip Z1.out E1.out) ((Below.heap_alloc _ _ _ (Array.getElem?_eq_some_iff.1 H2.out).1).trans H2.out) Z2.out (one_of_strip Z2.out E2.out)).mono ?_
  rintro e w1 ⟨v, rfl, hown, hB⟩
  obtain ⟨a, cap, rfl, hQ0⟩ := qrows_of_own Z1.out Z2.out E1.out E2.out hown
  have hB1 : Below w.heap.size w w1 := ((Below.refl _ _).alloc (Nat.le_refl _) _).trans (hB.mono (by simp))
  have hQ : QRows w1 a (n1 + n2) P w.heap.size := fun hp => by
    obtain ⟨g, rfl, q1, q2, q3⟩ := hQ0 hp
    exact ⟨g, rfl, by simp at q1; omega, q2, q3⟩
  have K1 := Kept.of_below hB1 (Of (n1 + n2) P S C)
  have HP1 := hide (HP.out.kept (Kept.of_below hB1 (fun _ => False)) (fun _ _ h => h))
  clear hown hQ0 hB H1 H2 E1 E2 Z1 Z2 hq
  have hlim : n1 + n2 ≤ 262144 := by omega
  have HOf := hide HP.out.lt
  generalize hN : n1 + n2 = N at *
  have HN := hide hN
  clear hN
  go_wp2_with fail
  go_loopw [16] (fun i wr => ∃ k : Nat, k ≤ N ∧ i = .int .i64 k ∧ AllP wr N P S C (upto err st k) ∧ Kept w wr (Of N P S C) ∧ QRows wr a N P w.heap.size) (fun i _ => N - (intOf i).toNat)
  case atStart => exact ⟨0, Nat.zero_le _, rfl, HP1.out, K1, hQ⟩
  case round =>
    obtain ⟨k, hk, rfl, hAll, hK, hQr⟩ := hrel
    clear HP1 K1 hQ
    by_cases hlt : k < N
    · obtain ⟨g, rfl, q1, q2, q3⟩ := hQr (by omega)
      have g0 := q3 k hlt 0 (by omega)
      have g1 := q3 k hlt 1 (by omega)
      have g2 := q3 k hlt 2 (by omega)
      have g3 := q3 k hlt 3 (by omega)
      have g4 := q3 k hlt 4 (by omega)
      have g5 := q3 k hlt 5 (by omega)
      have g6 := q3 k hlt 6 (by omega)
      have g7 := q3 k hlt 7 (by omega)
      have g8 := q3 k hlt 8 (by omega)
      have g9 := q3 k hlt 9 (by omega)
      have g10 := q3 k hlt 10 (by omega)
      have g11 := q3 k hlt 11 (by omega)
      have Q3 := hide q3
      clear q3
      simp only [Nat.add_zero, qRow, List.getElem?_cons_zero, List.getElem?_cons_succ, Option.map_some] at g0 g1 g2 g3 g4 g5 g6 g7 g8 g9 g10 g11
      have HPa := hide (fun o => hAll.kept (Kept.of_below (((Below.refl _ _).alloc (Nat.le_refl _) o) : Below wr.heap.size wr (wr.alloc o)) (fun _ => False)) (fun _ _ h => h))
      have HKa := hide (fun o => Kept.of_below (((Below.refl _ _).alloc (Nat.le_refl _) o) : Below wr.heap.size wr (wr.alloc o)) (Of N P S C))
      have HCk : Hid ((upto err st k k).left ≠ 0 → (upto err st k k).closed = false) := show (upto err st k k).left ≠ 0 → (upto err st k k).closed = false by unfold upto; rw [if_neg (by omega)]; exact HCL.out k hlt
      go_wp2_with fail
      refine (fail26 (P k) (S k) (C k) (upto err st k k) err _ herr (HPa.out _ k hlt) HCk.out (hA.own k hlt).1 (hA.own k hlt).2.1 (hA.own k hlt).2.2).mono ?_
      rintro e w2 ⟨rfl, hp2, hk2, hs2⟩
      have R1 := hide (allP_step hA hlt (HPa.out _) hp2 hk2)
      have R2 := hide ((HKa.out _).trans (hk2.mono (fun x hx => ⟨k, hlt, hx⟩)))
      have R3 := hide (hK.trans R2.out)
      have R4 := hide (hQr.kept R2.out HOf.out)
      clear HPa HKa hp2 hk2 hs2 R2 hAll hK hQr g0 g1 g2 g3 g4 g5 g6 g7 g8 g9 g10 g11
      go_wp2_with fail
      exact ⟨⟨k + 1, by omega, by go_num, R1.out, R3.out, R4.out⟩, by simp [intOf]; omega⟩
    · obtain rfl : k = N := by omega
      have hT := HT.out.same (hK.block t HT.out.lt.1 ht) (hK.block j HT.out.lt.2 hj)
      have hq := hT.queue
      have hf := hT.frozen
      have hT2 := hT.put htj (.slice none 0 0)
      have hj2 := hT2.judge
      have hm2 := hT2.pending
      have HT2 := hide hT2
      have HAll := hide (show AllP (wr.setCell ⟨t, 29, none⟩ (.slice none 0 0)) k P S C (fun i => fin err (st i)) from fun i hi => by
        have h0 := hAll i hi
        have e : upto err st k i = fin err (st i) := by unfold upto; rw [if_pos hi]
        rw [e] at h0
        have hne : ∀ x, trio (P i) (S i) (C i) x → x ≠ t := fun x hx hxt => ht ⟨i, hi, hxt ▸ hx⟩
        exact h0.same (Below.heap_setCell _ _ _ _ (hne _ (.inl rfl))) (Below.heap_setCell _ _ _ _ (hne _ (.inr (.inl rfl)))) (Below.heap_setCell _ _ _ _ (hne _ (.inr (.inr rfl)))))
      have HK := hide ((hK.mono (Y := fun x => x = t ∨ Of k P S C x) (fun x hx => .inr hx)).setCell ⟨t, 29, none⟩ (.inl rfl) (.slice none 0 0))
      clear hT hT2 hAll hK hQr
      go_wp2_with (go_at_call 27; refine (failed27 j _ hm2).mono ?_; rintro e w' ⟨rfl, hw⟩; subst w')
      go_end0
      rw [HN.out]
      exact ⟨rfl, HAll.out, HT2.out, HK.out⟩
end Go.Proofs.Qxb6604428a.Fail
