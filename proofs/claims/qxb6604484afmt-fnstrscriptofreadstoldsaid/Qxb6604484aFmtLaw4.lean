import Derived.Test.Qxb6604484aFmtStr
namespace Go.Proofs.Qxb6604484aFmt.Sect
open Go.ChangeShapes Go.WideShapes Go.ChangeAt Go.RowKit Go.SMap
set_option linter.unusedVariables false

theorem str_ne_of {a b : ByteArray} (h : (a.toList == b.toList) = false) : a ≠ b := fun e => by
  subst e
  simp at h
def BPost (w : World) (e : Ending) (w' : World) : Prop := ∃ r, e = .returned (.bool r) ∧ w' = w
set_option maxRecDepth 100000 in
set_option maxHeartbeats 1000000 in
theorem bytes12 (s0 s1 s2 s3 s4 s5 : ByteArray) (w : World) (h0 : s0.size ≤ maxLen) (h1 : s1.size ≤ maxLen) (h2 : s2.size ≤ maxLen) (h3 : s3.size ≤ maxLen) (h4 : s4.size ≤ maxLen) (h5 : s5.size ≤ maxLen) :
    Calls Tryf.prog 12 #[.string s0, .string s1, .string s2, .string s3, .string s4, .string s5] w (BPost w) := by
  unfold maxLen at h0 h1 h2 h3 h4 h5
  go_enter Tryf.func12, Tryf.ntmps12
  go_wp2
  all_goals (go_ret; exact ⟨_, rfl, rfl⟩)

theorem marked_mem {ks ks' : List ByteArray} {k : ByteArray} (h : Marked ks k ks') : k ∈ ks' ∧ ∀ x, x ∈ ks → x ∈ ks' := by
  by_cases hk : k ∈ ks
  · rw [h.1 hk]; exact ⟨hk, fun x hx => hx⟩
  · rw [h.2 hk]; exact ⟨by simp, fun x hx => by simp [hx]⟩
/-- Str(k1), Str(k2), Str(k1): the keys that are marked. -/
theorem three {k1 k2 : ByteArray} {a b c : List ByteArray} (h1 : Marked [] k1 a) (h2 : Marked a k2 b) (h3 : Marked b k1 c) :
    c ≠ [] ∧ k1 ∈ c ∧ k2 ∈ c ∧ (k1 = k2 → c.length = 1) ∧ (k1 ≠ k2 → c.length = 2) := by
  have ea : a = [k1] := h1.2 (by simp)
  subst ea
  have hm := marked_mem h2
  have hc : c = b := h3.1 (hm.2 k1 (by simp))
  subst hc
  by_cases e : k1 = k2
  · subst e
    have hb : c = [k1] := h2.1 (by simp)
    subst hb
    exact ⟨by simp, by simp, by simp, fun _ => rfl, fun h => absurd rfl h⟩
  · have hb : c = [k1] ++ [k2] := h2.2 (by simp; exact fun h => e h.symm)
    subst hb
    exact ⟨by simp, by simp, by simp, fun h => absurd h e, fun _ => rfl⟩

set_option maxRecDepth 100000 in
set_option maxHeartbeats 1000000 in
theorem law4 (s0 s1 s2 s3 s4 s5 : ByteArray) (b1 b2 : Bool) (w : World) (h0 : s0.size ≤ maxLen) (h1 : s1.size ≤ maxLen) (h2 : s2.size ≤ maxLen) (h3 : s3.size ≤ maxLen) (h4 : s4.size ≤ maxLen) (h5 : s5.size ≤ maxLen) (hb1 : b1 = true ↔ s4 = s2) (hb2 : b2 = true ↔ s5 = s2) :
    Calls Tryf.prog 4 #[.string s0, .string s1, .string s2, .string s3, .string s4, .string s5] w fun e w' => e = .returned (.bool true) ∧ Below w.heap.size w w' := by
  have HB := hide (bytes12 s0 s1 s2 s3 s4 s5 w h0 h1 h2 h3 h4 h5)
  have HB1 := hide hb1
  have HB2 := hide hb2
  clear hb1 hb2 h0 h1 h2 h3 h4 h5
  go_enter Tryf.func4, Tryf.ntmps4
  go_wp2_with fail
  refine HB.out.mono ?_
  rintro e w' ⟨r, rfl, hw⟩
  subst w'
  cases r
  · go_wp2_with fail
    go_ret
    exact ⟨rfl, Below.refl _ _⟩
  · go_wp2_with fail
    all_goals (try (go_ret; exact ⟨rfl, Below.refl _ _⟩))
    refine (new13 s0 s1 s2 s3 w).mono ?_
    rintro e w1 ⟨rfl, hS1, hB1⟩
    have HS1 := hide hS1
    clear hS1
    go_wp2_with fail
    refine (zzstr14 _ _ _ s0 s1 s2 s3 s4 b1 _ w1 HS1.out HB1.out).mono ?_
    rintro e w2 ⟨rfl, ⟨ks2, hS2, hM2⟩, hB2⟩
    have HS2 := hide hS2
    clear hS2
    have HM2 := hide hM2
    clear hM2
    go_wp2_with fail
    refine (zzstr14 _ _ _ s0 s1 s2 s3 s5 b2 _ w2 HS2.out HB2.out).mono ?_
    rintro e w3 ⟨rfl, ⟨ks3, hS3, hM3⟩, hB3⟩
    have HS3 := hide hS3
    clear hS3
    have HM3 := hide hM3
    clear hM3
    go_wp2_with fail
    refine (zzstr14 _ _ _ s0 s1 s2 s3 s4 b1 _ w3 HS3.out HB1.out).mono ?_
    rintro e w4 ⟨rfl, ⟨ks4, hS4, hM4⟩, hB4⟩
    have HS4 := hide hS4
    clear hS4
    have H3 := hide (three HM2.out HM3.out hM4)
    clear hM4
    have HBB := hide (hB1.trans (hB2.trans (hB3.trans hB4)))
    clear hB1 hB2 hB3 hB4 HM2 HM3 HS1 HS2 HS3
    go_wp2_with fail
    refine (answer15 s2 s3 s4 b1 w4 HB1.out).mono ?_
    rintro e w' ⟨rfl, hw⟩
    subst w'
    go_wp2_with fail
    refine (answer15 s2 s3 s5 b2 w4 HB2.out).mono ?_
    rintro e w' ⟨rfl, hw⟩
    subst w'
    go_wp2_with fail
    · have hl : ks4.length = 1 := H3.out.2.2.2.1 (str_eq (show (s4.toList == s5.toList) = true by assumption))
      have HC := hide (count16 _ _ _ _ _ _ _ ks4 w4 HS4.out H3.out.1)
      rw [hl] at HC
      have HW1 := hide (was17 _ _ _ _ _ _ _ ks4 s4 w4 HS4.out H3.out.2.1)
      have HW2 := hide (was17 _ _ _ _ _ _ _ ks4 s5 w4 HS4.out H3.out.2.2.1)
      clear hl
      refine HC.out.mono ?_
      rintro e w' ⟨rfl, hw⟩
      subst w'
      go_wp2_with fail
      refine HW1.out.mono ?_
      rintro e w' ⟨rfl, hw⟩
      subst w'
      go_wp2_with fail
      refine HW2.out.mono ?_
      rintro e w' ⟨rfl, hw⟩
      subst w'
      go_wp2_with fail
      go_ret
      exact ⟨rfl, HBB.out⟩
    · have hl : ks4.length = 2 := H3.out.2.2.2.2 (str_ne_of (show (s4.toList == s5.toList) = false by assumption))
      have HC := hide (count16 _ _ _ _ _ _ _ ks4 w4 HS4.out H3.out.1)
      rw [hl] at HC
      have HW1 := hide (was17 _ _ _ _ _ _ _ ks4 s4 w4 HS4.out H3.out.2.1)
      have HW2 := hide (was17 _ _ _ _ _ _ _ ks4 s5 w4 HS4.out H3.out.2.2.1)
      clear hl
      refine HC.out.mono ?_
      rintro e w' ⟨rfl, hw⟩
      subst w'
      go_wp2_with fail
      refine HW1.out.mono ?_
      rintro e w' ⟨rfl, hw⟩
      subst w'
      go_wp2_with fail
      refine HW2.out.mono ?_
      rintro e w' ⟨rfl, hw⟩
      subst w'
      go_wp2_with fail
      go_ret
      exact ⟨rfl, HBB.out⟩

theorem law4_all (s0 s1 s2 s3 s4 s5 : ByteArray) (w : World) (h0 : s0.size ≤ maxLen) (h1 : s1.size ≤ maxLen) (h2 : s2.size ≤ maxLen) (h3 : s3.size ≤ maxLen) (h4 : s4.size ≤ maxLen) (h5 : s5.size ≤ maxLen) :
    Calls Tryf.prog 4 #[.string s0, .string s1, .string s2, .string s3, .string s4, .string s5] w fun e w' => e = .returned (.bool true) ∧ Below w.heap.size w w' := by
  have key : ∀ a b : ByteArray, ∃ t : Bool, t = true ↔ a = b := fun a b => by
    by_cases h : a = b
    · exact ⟨true, by simp [h]⟩
    · exact ⟨false, by simp [h]⟩
  obtain ⟨b1, hb1⟩ := key s4 s2
  obtain ⟨b2, hb2⟩ := key s5 s2
  exact law4 s0 s1 s2 s3 s4 s5 b1 b2 w h0 h1 h2 h3 h4 h5 hb1 hb2
end Go.Proofs.Qxb6604484aFmt.Sect
