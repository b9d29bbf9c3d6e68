import Derived.Test.Qxb6604569aFmtRows
import Derived.Test.Qxb6604569aFmtBlk
import Derived.Test.Qxb6604569aFmtOnes
import Derived.WalkKit
import Derived.ProofKit
import Derived.OpenShut
import Derived.Below
import Derived.WalkLawsBesides
import Derived.WalkSpells
import Derived.BigQuiet
import Derived.Lib.Strings
import Derived.Lib.Slices
import Derived.Lib.Small
import Derived.Lib.Walk
import Derived.Lib.BitFns
import Derived.Laws.BitsAllLaws
namespace Go.Proofs.Qxb6604569aFmt.Par
open Go.ChangeShapes Go.WideShapes Go.ChangeAt Go.RowKit
set_option linter.unusedVariables false

theorem ret_int {k : IntKind} {a b : Int} (h : a = b) : Ending.returned (.int k a) = .returned (.int k b) := by rw [h]
theorem ret_bool {a b : Bool} (h : a = b) : Ending.returned (.bool a) = .returned (.bool b) := by rw [h]

theorem i64_and1 (n : Int) : bits .and .i64 n 1 = n % 2 := by
  have h1 : (BitVec.ofInt 64 1).toNat = 2 ^ 1 - 1 := by decide
  have key : (BitVec.ofInt 64 n &&& BitVec.ofInt 64 1).toNat = (n % ((2 ^ 64 : Nat) : Int)).toNat % 2 ^ 1 := by
    rw [BitVec.toNat_and, BitVec.toNat_ofInt, h1, Nat.and_two_pow_sub_one_eq_mod]
  show IntKind.i64.wrap ((BitVec.ofInt 64 n &&& BitVec.ofInt 64 1).toNat : Nat) = n % 2
  rw [key, IntKind.wrap_i64]
  omega
theorem u64_and1 (n : Int) : bits .and .u64 n 1 = n % 2 := by
  have h1 : (BitVec.ofInt 64 1).toNat = 2 ^ 1 - 1 := by decide
  have key : (BitVec.ofInt 64 n &&& BitVec.ofInt 64 1).toNat = (n % ((2 ^ 64 : Nat) : Int)).toNat % 2 ^ 1 := by
    rw [BitVec.toNat_and, BitVec.toNat_ofInt, h1, Nat.and_two_pow_sub_one_eq_mod]
  show IntKind.u64.wrap ((BitVec.ofInt 64 n &&& BitVec.ofInt 64 1).toNat : Nat) = n % 2
  have hw : ∀ m : Int, IntKind.u64.wrap m = m % 18446744073709551616 := fun m => by simp [IntKind.wrap, IntKind.bits, IntKind.signed]
  rw [key, hw]
  omega
theorem i64_xor1 (n : Int) : (bits .xor .i64 n 1) % 2 = (n + 1) % 2 ∧ (-9223372036854775808 ≤ bits .xor .i64 n 1 ∧ bits .xor .i64 n 1 ≤ 9223372036854775807) := by
  have h1 : (BitVec.ofInt 64 1).toNat = 1 := by decide
  have key : (BitVec.ofInt 64 n ^^^ BitVec.ofInt 64 1).toNat = (n % ((2 ^ 64 : Nat) : Int)).toNat ^^^ 1 := by
    rw [BitVec.toNat_xor, BitVec.toNat_ofInt, h1]
  have e : bits .xor .i64 n 1 = IntKind.i64.wrap (((n % ((2 ^ 64 : Nat) : Int)).toNat ^^^ 1 : Nat) : Int) := by
    rw [← key]; rfl
  have hm : ((n % ((2 ^ 64 : Nat) : Int)).toNat : Int) % 2 = n % 2 := by omega
  have hx := @Nat.xor_mod_two_eq_one (n % ((2 ^ 64 : Nat) : Int)).toNat 1
  clear key
  rw [e, IntKind.wrap_i64]
  clear e
  generalize (n % ((2 ^ 64 : Nat) : Int)).toNat = m at hx hm ⊢
  generalize m ^^^ 1 = y at hx ⊢
  omega

theorem bit23 (p o : Int) (w : World) :
    Calls Tryf.prog 23 #[.int .i64 p, .int .i64 o] w fun e w' => e = .returned (.int .i64 ((o + p) % 2)) ∧ w' = w := by
  go_enter Tryf.func23, Tryf.ntmps23
  go_wp2
  go_ret
  refine ⟨ret_int ?_, rfl⟩
  rw [i64_and1]
  unfold wrap64
  omega

def ones (z : Int) : Int := Lib.onesCount z.toNat
def badOf (p z : Int) : Int := (ones z + p) % 2
theorem badOf_two (p z : Int) : badOf p z = 0 ∨ badOf p z = 1 := by unfold badOf; omega

theorem holds21_good (p z : Int) (w : World) (h0 : 0 ≤ z) (h1 : z ≤ 255) (hb : badOf p z = 0) :
    Calls Tryf.prog 21 #[.int .i64 p, .int .u8 z] w fun e w' => e = .returned (.bool true) ∧ w' = w := by
  unfold badOf ones at hb
  have H := hide hb
  clear hb
  go_enter Tryf.func21, Tryf.ntmps21
  go_wp2_with (first | (go_at_call 24; refine (ones24 z w h0 h1).mono ?_; rintro e w' ⟨rfl, hw⟩; subst w') | (go_at_call 23; refine (bit23 _ _ w).mono ?_; rintro e w' ⟨rfl, hw⟩; subst w'; rw [H.out]))
  go_ret
  exact ⟨rfl, rfl⟩
theorem holds21_bad (p z : Int) (w : World) (h0 : 0 ≤ z) (h1 : z ≤ 255) (hb : badOf p z = 1) :
    Calls Tryf.prog 21 #[.int .i64 p, .int .u8 z] w fun e w' => e = .returned (.bool false) ∧ w' = w := by
  unfold badOf ones at hb
  have H := hide hb
  clear hb
  go_enter Tryf.func21, Tryf.ntmps21
  go_wp2_with (first | (go_at_call 24; refine (ones24 z w h0 h1).mono ?_; rintro e w' ⟨rfl, hw⟩; subst w') | (go_at_call 23; refine (bit23 _ _ w).mono ?_; rintro e w' ⟨rfl, hw⟩; subst w'; rw [H.out]))
  go_ret
  exact ⟨rfl, rfl⟩

/-- bytes.NewReader. -/
theorem newReader17 (s : Value) (w : World) (hs : ∃ a n c, s = .slice a n c) :
    Calls Tryf.prog 17 #[s] w fun e w' => e = .returned (.pointer (some ⟨w.heap.size, 0, none⟩)) ∧ w' = w.alloc (.cells #[s, .int .i64 0, .int .i64 (-1)] 53) := by
  obtain ⟨a, n, c, rfl⟩ := hs
  go_enter Tryf.func17, Tryf.ntmps17
  go_wp2
  go_ret
  exact ⟨rfl, rfl⟩

theorem bytes14 (a0 : Option Addr) (n0 c0 : Nat) (q : Int) (w : World) (h0 : n0 ≤ maxLen) :
    Calls Tryf.prog 14 #[.slice a0 n0 c0, .int .i64 q] w fun e w' => e = .returned (.bool (decide (n0 ≤ 1048576))) ∧ w' = w := by
  unfold maxLen at h0
  by_cases h2 : n0 ≤ 1048576
  · go_enter Tryf.func14, Tryf.ntmps14
    go_wp2
    go_ret
    exact ⟨ret_bool (by simp; omega), rfl⟩
  · go_enter Tryf.func14, Tryf.ntmps14
    go_wp2
    go_ret
    exact ⟨ret_bool (by simp; omega), rfl⟩
theorem bytes10 (a0 : Option Addr) (n0 c0 : Nat) (q : Int) (w : World) (h0 : n0 ≤ maxLen) :
    Calls Tryf.prog 10 #[.slice a0 n0 c0, .int .i64 q] w fun e w' => e = .returned (.bool (decide (n0 ≤ 1048576))) ∧ w' = w := by
  unfold maxLen at h0
  by_cases h2 : n0 ≤ 1048576
  · go_enter Tryf.func10, Tryf.ntmps10
    go_wp2
    go_ret
    exact ⟨ret_bool (by simp; omega), rfl⟩
  · go_enter Tryf.func10, Tryf.ntmps10
    go_wp2
    go_ret
    exact ⟨ret_bool (by simp; omega), rfl⟩
end Go.Proofs.Qxb6604569aFmt.Par
