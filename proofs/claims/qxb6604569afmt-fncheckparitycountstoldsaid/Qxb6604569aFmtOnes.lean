/-
  bits.OnesCount8, off the shelf's template.
-/
import Derived.Test.Qxb6604569aFmtRows
import Derived.Lib.Strings
import Derived.Lib.Slices
import Derived.Lib.Small
import Derived.Lib.Walk
import Derived.Lib.BitFns
namespace Go.Proofs.Qxb6604569aFmt.Par

theorem ones24 (x : Int) (w : World) (h0 : 0 ≤ x) (h1 : x ≤ 255) :
    Calls Tryf.prog 24 #[.int .u8 x] w fun e w' => e = .returned (.int .i64 (Lib.onesCount x.toNat)) ∧ w' = w := by
  rw [← Lib.pop8_int x h0 h1]
  go_enter Tryf.func24, Tryf.ntmps24
  go_wp2
  go_ret
  exact ⟨rfl, rfl⟩
end Go.Proofs.Qxb6604569aFmt.Par
