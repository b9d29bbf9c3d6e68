import Derived.Test.Qxb6604484aFmtNum
namespace Go.Proofs.Qxb6604484aFmt.Sect
open Go.ChangeShapes Go.WideShapes Go.ChangeAt Go.RowKit Go.SMap
set_option linter.unusedVariables false

def BPost (w : World) (e : Ending) (w' : World) : Prop := ∃ r, e = .returned (.bool r) ∧ w' = w
set_option maxRecDepth 100000 in
set_option maxHeartbeats 1000000 in
theorem bytes18 (s0 s1 s2 : ByteArray) (iv : Int) (s4 : ByteArray) (w : World) (h0 : s0.size ≤ maxLen) (h1 : s1.size ≤ maxLen) (h2 : s2.size ≤ maxLen) (h4 : s4.size ≤ maxLen) :
    Calls Tryf.prog 18 #[.string s0, .string s1, .string s2, .int .i64 iv, .string s4] w (BPost w) := by
  unfold maxLen at h0 h1 h2 h4
  go_enter Tryf.func18, Tryf.ntmps18
  go_wp2
  all_goals (go_ret; exact ⟨_, rfl, rfl⟩)

set_option maxRecDepth 100000 in
set_option maxHeartbeats 1000000 in
theorem law5_early (s0 s1 s2 : ByteArray) (iv : Int) (s4 : ByteArray) (w : World) (h0 : s0.size ≤ maxLen) (h1 : s1.size ≤ maxLen) (h2 : s2.size ≤ maxLen) (h4 : s4.size ≤ maxLen) (h : 65536 < s0.size ∨ 65536 < s1.size ∨ 65536 < s2.size ∨ 65536 < s4.size) :
    Calls Tryf.prog 5 #[.string s0, .string s1, .string s2, .int .i64 iv, .string s4] w fun e w' => e = .returned (.bool true) ∧ Below w.heap.size w w' := by
  have HB := hide (bytes18 s0 s1 s2 iv s4 w h0 h1 h2 h4)
  clear h0 h1 h2 h4
  by_cases k0 : (65536 : Int) < s0.size
  · go_enter Tryf.func5, Tryf.ntmps5
    go_wp2_with fail
    refine HB.out.mono ?_
    rintro e w' ⟨r, rfl, hw⟩
    subst w'
    cases r <;> (go_wp2_with fail; go_ret; exact ⟨rfl, Below.refl _ _⟩)
  · by_cases k1 : (65536 : Int) < s1.size
    · go_enter Tryf.func5, Tryf.ntmps5
      go_wp2_with fail
      refine HB.out.mono ?_
      rintro e w' ⟨r, rfl, hw⟩
      subst w'
      cases r <;> (go_wp2_with fail; go_ret; exact ⟨rfl, Below.refl _ _⟩)
    · by_cases k2 : (65536 : Int) < s2.size
      · go_enter Tryf.func5, Tryf.ntmps5
        go_wp2_with fail
        refine HB.out.mono ?_
        rintro e w' ⟨r, rfl, hw⟩
        subst w'
        cases r <;> (go_wp2_with fail; go_ret; exact ⟨rfl, Below.refl _ _⟩)
      · have k4 : (65536 : Int) < s4.size := by omega
        go_enter Tryf.func5, Tryf.ntmps5
        go_wp2_with fail
        refine HB.out.mono ?_
        rintro e w' ⟨r, rfl, hw⟩
        subst w'
        cases r <;> (go_wp2_with fail; go_ret; exact ⟨rfl, Below.refl _ _⟩)

theorem fz0 : (FloatKind.f64.format.order 0 0 == some Ordering.eq) = true := by decide +kernel

set_option maxRecDepth 100000 in
set_option maxHeartbeats 1000000 in
theorem law5_none (s0 s1 s2 : ByteArray) (iv : Int) (s4 : ByteArray) (w : World) (h0 : s0.size ≤ 65536) (h1 : s1.size ≤ 65536) (h2 : s2.size ≤ 65536) (h4 : s4.size ≤ 65536) (hk : s4 ≠ s2) :
    Calls Tryf.prog 5 #[.string s0, .string s1, .string s2, .int .i64 iv, .string s4] w fun e w' => e = .returned (.bool true) ∧ Below w.heap.size w w' := by
  have HB := hide (bytes18 s0 s1 s2 iv s4 w (by unfold maxLen; omega) (by unfold maxLen; omega) (by unfold maxLen; omega) (by unfold maxLen; omega))
  have k0 : ¬ (65536 : Int) < s0.size := by omega
  have k1 : ¬ (65536 : Int) < s1.size := by omega
  have k2 : ¬ (65536 : Int) < s2.size := by omega
  have k4 : ¬ (65536 : Int) < s4.size := by omega
  have hne := str_ne hk
  have HK := hide hk
  have hz := fz0
  clear hk
  go_enter Tryf.func5, Tryf.ntmps5
  go_wp2_with fail
  refine HB.out.mono ?_
  rintro e w' ⟨r, rfl, hw⟩
  subst w'
  cases r
  · go_wp2_with fail
    go_ret
    exact ⟨rfl, Below.refl _ _⟩
  · go_wp2_with fail
    refine (new19 s0 s1 s2 iv w).mono ?_
    rintro e w1 ⟨rfl, hS1, hB1, hz1⟩
    have HS1 := hide hS1
    have HZ1 := hide hz1
    clear hS1 hz1
    go_wp2_with fail
    refine (new19 s0 s1 s2 iv w1).mono ?_
    rintro e w2 ⟨rfl, hS2, hB2, hz2⟩
    have HS1' := hide (HS1.out.keep (hB2.block _ HS1.out.lt.1) (hB2.block _ HS1.out.lt.2))
    have HS2 := hide hS2
    have HBB := hide (hB1.trans (hB2.mono hB1.size))
    clear hS2 hz2 hB1 hB2 HS1
    go_wp2_with fail
    refine (zzpos20_none _ _ s0 s1 s2 iv s4 w2 HS1'.out HK.out).mono ?_
    rintro e w3 ⟨rfl, hK3⟩
    have HS2' := hide (HS2.out.keep (hK3.block _ HS2.out.lt.1 (by have := HZ1.out; omega)) (hK3.block _ HS2.out.lt.2 (by have := HZ1.out; omega)))
    have HB3 := hide (HBB.out.trans (hK3.below HBB.out.size (fun x hx => by omega)))
    clear hK3 HS2
    go_wp2_with fail
    refine (zzcount21_ok _ _ s0 s1 s2 iv s4 false w3 HS2'.out ⟨fun h => by simp at h, fun h => absurd h HK.out⟩ (fun h => by simp at h)).mono ?_
    rintro e w4 ⟨rfl, hK4⟩
    have HB4 := hide (HB3.out.trans (hK4.below HB3.out.size (fun x hx => by have := HZ1.out; omega)))
    clear hK4
    go_wp2_with fail
    go_ret
    exact ⟨rfl, HB4.out⟩

set_option maxRecDepth 100000 in
set_option maxHeartbeats 1000000 in
theorem law5_ok (s0 s1 s2 : ByteArray) (iv : Int) (s4 : ByteArray) (w : World) (h0 : s0.size ≤ 65536) (h1 : s1.size ≤ 65536) (h2 : s2.size ≤ 65536) (h4 : s4.size ≤ 65536) (hk : s4 = s2) (hi : 1 ≤ iv) (hi2 : iv ≤ 9223372036854775807) :
    Calls Tryf.prog 5 #[.string s0, .string s1, .string s2, .int .i64 iv, .string s4] w fun e w' => e = .returned (.bool true) ∧ Below w.heap.size w w' := by
  have HB := hide (bytes18 s0 s1 s4 iv s4 w (by unfold maxLen; omega) (by unfold maxLen; omega) (by unfold maxLen; omega) (by unfold maxLen; omega))
  have k0 : ¬ (65536 : Int) < s0.size := by omega
  have k1 : ¬ (65536 : Int) < s1.size := by omega
  have k2 : ¬ (65536 : Int) < s4.size := by omega
  have k4 : ¬ (65536 : Int) < s4.size := by omega
  subst hk
  have hf := Flo.f64_pos iv hi hi2
  have hself : (FloatKind.f64.format.order (Flo.f64 iv) (Flo.f64 iv) == some Ordering.eq) = true := by
    have : FloatKind.f64.format.order (Flo.f64 iv) (Flo.f64 iv) = some .eq := hf.2.2
    rw [this]; rfl
  have hconv := conv_int iv
  have hii : (iv == iv) = true := beq_iff_eq.2 rfl
  have HI2 := hide hi2
  clear hf hi2
  go_enter Tryf.func5, Tryf.ntmps5
  go_wp2_with fail
  refine HB.out.mono ?_
  rintro e w' ⟨r, rfl, hw⟩
  subst w'
  cases r
  · go_wp2_with fail
    go_ret
    exact ⟨rfl, Below.refl _ _⟩
  · go_wp2_with fail
    refine (new19 s0 s1 s4 iv w).mono ?_
    rintro e w1 ⟨rfl, hS1, hB1, hz1⟩
    have HS1 := hide hS1
    have HZ1 := hide hz1
    clear hS1 hz1
    go_wp2_with fail
    refine (new19 s0 s1 s4 iv w1).mono ?_
    rintro e w2 ⟨rfl, hS2, hB2, hz2⟩
    have HS1' := hide (HS1.out.keep (hB2.block _ HS1.out.lt.1) (hB2.block _ HS1.out.lt.2))
    have HS2 := hide hS2
    have HBB := hide (hB1.trans (hB2.mono hB1.size))
    clear hS2 hz2 hB1 hB2 HS1
    go_wp2_with fail
    refine (zzpos20_ok _ _ s0 s1 s4 iv s4 w2 HS1'.out rfl hi HI2.out).mono ?_
    rintro e w3 ⟨rfl, hK3⟩
    have HS2' := hide (HS2.out.keep (hK3.block _ HS2.out.lt.1 (by have := HZ1.out; omega)) (hK3.block _ HS2.out.lt.2 (by have := HZ1.out; omega)))
    have HB3 := hide (HBB.out.trans (hK3.below HBB.out.size (fun x hx => by omega)))
    clear hK3 HS2
    go_wp2_with fail
    refine (zzcount21_ok _ _ s0 s1 s4 iv s4 true w3 HS2'.out ⟨fun _ => rfl, fun _ => rfl⟩ (fun _ => hi)).mono ?_
    rintro e w4 ⟨rfl, hK4⟩
    have HB4 := hide (HB3.out.trans (hK4.below HB3.out.size (fun x hx => by have := HZ1.out; omega)))
    clear hK4
    simp only [if_true]
    go_wp2_with fail
    go_ret
    exact ⟨rfl, HB4.out⟩

set_option maxRecDepth 100000 in
set_option maxHeartbeats 1000000 in
theorem law5_bad (s0 s1 s2 : ByteArray) (iv : Int) (s4 : ByteArray) (w : World) (h0 : s0.size ≤ 65536) (h1 : s1.size ≤ 65536) (h2 : s2.size ≤ 65536) (h4 : s4.size ≤ 65536) (hk : s4 = s2) (hi : iv < 1) :
    Calls Tryf.prog 5 #[.string s0, .string s1, .string s2, .int .i64 iv, .string s4] w fun e w' => e = .returned (.bool true) ∧ Below w.heap.size w w' := by
  have HB := hide (bytes18 s0 s1 s4 iv s4 w (by unfold maxLen; omega) (by unfold maxLen; omega) (by unfold maxLen; omega) (by unfold maxLen; omega))
  have k0 : ¬ (65536 : Int) < s0.size := by omega
  have k1 : ¬ (65536 : Int) < s1.size := by omega
  have k2 : ¬ (65536 : Int) < s4.size := by omega
  have k4 : ¬ (65536 : Int) < s4.size := by omega
  subst hk
  have hz := fz0
  have h1 : ¬ 1 ≤ iv := by omega
  go_enter Tryf.func5, Tryf.ntmps5
  go_wp2_with fail
  refine HB.out.mono ?_
  rintro e w' ⟨r, rfl, hw⟩
  subst w'
  cases r
  · go_wp2_with fail
    go_ret
    exact ⟨rfl, Below.refl _ _⟩
  · go_wp2_with fail
    refine (new19 s0 s1 s4 iv w).mono ?_
    rintro e w1 ⟨rfl, hS1, hB1, hz1⟩
    have HS1 := hide hS1
    have HZ1 := hide hz1
    clear hS1 hz1
    go_wp2_with fail
    refine (new19 s0 s1 s4 iv w1).mono ?_
    rintro e w2 ⟨rfl, hS2, hB2, hz2⟩
    have HS1' := hide (HS1.out.keep (hB2.block _ HS1.out.lt.1) (hB2.block _ HS1.out.lt.2))
    have HS2 := hide hS2
    have HBB := hide (hB1.trans (hB2.mono hB1.size))
    clear hS2 hz2 hB1 hB2 HS1
    go_wp2_with fail
    refine (zzpos20_bad _ _ s0 s1 s4 iv s4 w2 HS1'.out rfl hi h0 h4).mono ?_
    rintro e w3 ⟨msg, rfl, hK3⟩
    have HS2' := hide (HS2.out.keep (hK3.block _ HS2.out.lt.1 (by have := HZ1.out; omega)) (hK3.block _ HS2.out.lt.2 (by have := HZ1.out; omega)))
    have HB3 := hide (HBB.out.trans (hK3.below HBB.out.size (fun x hx => by omega)))
    clear hK3 HS2
    go_wp2_with fail
    refine (zzcount21_bad _ _ s0 s1 s4 iv s4 w3 HS2'.out rfl hi h0 h4).mono ?_
    rintro e w4 ⟨rfl, hK4⟩
    have HB4 := hide (HB3.out.trans (hK4.below HB3.out.size (fun x hx => by have := HZ1.out; omega)))
    clear hK4
    have HFull := hide (fun wx => full22 s0 s4 wx h0 h4)
    go_wp2_with (go_at_call 22; refine (HFull.out _).mono ?_; rintro e w' ⟨rfl, hw⟩; subst w')
    go_ret
    exact ⟨rfl, HB4.out⟩

theorem law5 (s0 s1 s2 : ByteArray) (iv : Int) (s4 : ByteArray) (w : World) (h0 : s0.size ≤ maxLen) (h1 : s1.size ≤ maxLen) (h2 : s2.size ≤ maxLen) (h4 : s4.size ≤ maxLen) (hi : iv ≤ 9223372036854775807) :
    Calls Tryf.prog 5 #[.string s0, .string s1, .string s2, .int .i64 iv, .string s4] w fun e w' => e = .returned (.bool true) ∧ Below w.heap.size w w' := by
  by_cases h : 65536 < s0.size ∨ 65536 < s1.size ∨ 65536 < s2.size ∨ 65536 < s4.size
  · exact law5_early s0 s1 s2 iv s4 w h0 h1 h2 h4 h
  · by_cases hk : s4 = s2
    · by_cases h3 : 1 ≤ iv
      · exact law5_ok s0 s1 s2 iv s4 w (by omega) (by omega) (by omega) (by omega) hk h3 hi
      · exact law5_bad s0 s1 s2 iv s4 w (by omega) (by omega) (by omega) (by omega) hk (by omega)
    · exact law5_none s0 s1 s2 iv s4 w (by omega) (by omega) (by omega) (by omega) hk
end Go.Proofs.Qxb6604484aFmt.Sect
