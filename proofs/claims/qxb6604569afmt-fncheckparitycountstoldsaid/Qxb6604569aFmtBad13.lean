import Derived.Test.Qxb6604569aFmtClone
namespace Go.Proofs.Qxb6604569aFmt.Par
open Go.ChangeShapes Go.WideShapes Go.ChangeAt Go.RowKit
set_option linter.unusedVariables false

theorem ones_fin : ∀ n : Fin 256, n.val ≠ 0 → Lib.onesCount (n.val &&& (n.val - 1)) + 1 = Lib.onesCount n.val ∧ (n.val &&& (n.val - 1)) < n.val := by decide +kernel
theorem ones_step (y : Nat) (h : y < 256) (h0 : y ≠ 0) : Lib.onesCount (y &&& (y - 1)) + 1 = Lib.onesCount y ∧ (y &&& (y - 1)) < y := ones_fin ⟨y, h⟩ h0
theorem ones_zero : Lib.onesCount 0 = 0 := by decide
theorem ones_le (y : Nat) (h : y < 256) : Lib.onesCount y ≤ 8 := Lib.onesCount_le8 ⟨y, h⟩
theorem and_pred (y : Nat) (h : y < 256) (h0 : y ≠ 0) : bits .and .u8 (y : Int) ((y : Int) - 1) = ((y &&& (y - 1) : Nat) : Int) := by
  have := u8_and_nat y (y - 1) h (by omega)
  rw [Int.natCast_sub (by omega)] at this
  exact this

structure OI (N y m : Nat) : Prop where
  out : m + Lib.onesCount y = N

set_option maxRecDepth 100000 in
theorem ones18 (z : Int) (w : World) (h0 : 0 ≤ z) (h1 : z ≤ 255) :
    Calls Tryf.prog 18 #[.int .u8 z] w fun e w' => e = .returned (.int .i64 (ones z)) ∧ w' = w := by
  obtain ⟨Z, rfl⟩ := Int.eq_ofNat_of_zero_le h0
  have hZ : Z < 256 := by omega
  have hE : ones (Z : Int) = (Lib.onesCount Z : Int) := by unfold ones; rw [Int.toNat_natCast]
  have hle := ones_le Z hZ
  rw [hE]
  clear hE
  obtain ⟨N, HN⟩ : ∃ N, OI N Z 0 := ⟨_, ⟨rfl⟩⟩
  have hNZ : Lib.onesCount Z = N := by have := HN.out; omega
  rw [hNZ] at hle ⊢
  clear hNZ h0 h1
  go_enter Tryf.func18, Tryf.ntmps18
  go_wp2
  go_loop [3, 4] (fun c x => ∃ y m : Nat, y < 256 ∧ OI N y m ∧ c = .int .i64 m ∧ x = .int .u8 y) (fun _ x => (intOf x).toNat)
  case atStart => exact ⟨Z, 0, hZ, HN, rfl, rfl⟩
  case round =>
    obtain ⟨y, m, hy, HM, rfl, rfl⟩ := hrel
    clear HN
    by_cases hy0 : y = 0
    · subst hy0
      have hm : m = N := by have := HM.out; rw [ones_zero] at this; omega
      subst hm
      go_wp2
      go_ret
      exact ⟨rfl, rfl⟩
    · have hm8 : m ≤ 8 := by have := HM.out; omega
      have hp : 0 < y := by omega
      clear hZ hle hy0
      go_wp2
      obtain ⟨s1, s2⟩ := ones_step y hy (by omega)
      rw [and_pred y hy (by omega)]
      have HX : OI N (y &&& (y - 1)) (m + 1) := ⟨by have := HM.out; omega⟩
      refine ⟨⟨y &&& (y - 1), m + 1, by omega, HX, by go_num, rfl⟩, ?_⟩
      simp [intOf]; omega

set_option maxRecDepth 100000 in
set_option maxHeartbeats 400000 in
theorem bad13 (p : Int) (n c S : Nat) (zs : List Int) (sa : Option Addr) (w : World) (hn : n ≤ 1048576) (hsa : 0 < n → sa = some ⟨S, 0, none⟩)
    (hS : ∀ j, j < n → w.cell? ⟨S, j, none⟩ = some (.int .u8 (zs.getD j 0))) (hb : ∀ j, j < n → 0 ≤ zs.getD j 0 ∧ zs.getD j 0 ≤ 255) :
    Calls Tryf.prog 13 #[.slice sa n c, .int .i64 p] w fun e w' => e = .returned (.int .i64 (cnt p zs n)) ∧ w' = w := by
  have HSA := hide hsa
  have HS := hide hS
  have HB := hide hb
  clear hsa hS hb
  have hA : ∀ m : Int, bits .and .u64 m 1 = m % 2 := u64_and1
  go_enter Tryf.func13, Tryf.ntmps13
  go_wp2
  have hP : IntKind.u64.wrap p % 2 = p % 2 := by rw [IntKind.wrap_u64]; omega
  rw [hP]
  clear hP
  obtain ⟨P2, hP2⟩ : ∃ P2, P2 = p % 2 := ⟨_, rfl⟩
  rw [← hP2]
  have HP2 := hide hP2
  clear hP2
  go_loop [6, 7] (fun b i => ∃ k : Nat, k ≤ n ∧ i = .int .i64 k ∧ b = .int .i64 (cnt p zs k)) (fun _ i => n - (intOf i).toNat)
  case atStart => exact ⟨0, Nat.zero_le _, rfl, rfl⟩
  case round =>
    obtain ⟨k, hk, rfl, rfl⟩ := hrel
    have hcb := cnt_bd p zs k
    by_cases hlt : k < n
    · obtain rfl : sa = some ⟨S, 0, none⟩ := HSA.out (by omega)
      have c1 := HS.out k hlt
      have hb := HB.out k hlt
      have hbad := badOf_two p (zs.getD k 0)
      have HC := hide (p := cnt p zs (k + 1) = cnt p zs k + badOf p (zs.getD k 0)) rfl
      have H18 := hide (ones18 (zs.getD k 0) w hb.1 hb.2)
      have ho : 0 ≤ ones (zs.getD k 0) ∧ ones (zs.getD k 0) ≤ 8 := by
        unfold ones
        have := ones_le (zs.getD k 0).toNat (by omega)
        omega
      have hbo : badOf p (zs.getD k 0) = (ones (zs.getD k 0) + p) % 2 := rfl
      generalize ones (zs.getD k 0) = o at *
      generalize badOf p (zs.getD k 0) = b at *
      have hw : IntKind.u64.wrap o = o := by rw [IntKind.wrap_u64]; omega
      rcases hbad with rfl | rfl
      · have hne : (o % 2 != P2) = false := by
          have := HP2.out
          rw [bne_eq_false_iff_eq]
          omega
        have hcnt := HC.out
        rw [Int.add_zero] at hcnt
        have HC' := hide hcnt
        clear hbo HC hcnt
        go_wp2_with (go_at_call 18; refine H18.out.mono ?_; rintro e w' ⟨rfl, hw'⟩; subst w')
        go_round
        case rel => exact ⟨k + 1, by omega, by go_num, by rw [HC'.out]⟩
        case measure => simp [intOf]; omega
      · have hne : (o % 2 != P2) = true := by
          have := HP2.out
          rw [bne_iff_ne]
          omega
        clear hbo
        go_wp2_with (go_at_call 18; refine H18.out.mono ?_; rintro e w' ⟨rfl, hw'⟩; subst w')
        go_round
        case rel => exact ⟨k + 1, by omega, by go_num, by rw [HC.out]⟩
        case measure => simp [intOf]; omega
    · obtain rfl : k = n := by omega
      go_wp2
      go_ret
      exact ⟨rfl, rfl⟩
end Go.Proofs.Qxb6604569aFmt.Par
