/-
  'magnitude' AND 'ZZmagnitude'.
-/
import Derived.Test.Qxb6617845aRows
import Derived.WalkKit
import Derived.ProofKit
import Derived.OpenShut
import Derived.ShutString
import Derived.Handy
namespace Go.Proofs.Qxb6617845a
open Go.RowKit

theorem ret_int {k : IntKind} {a b : Int} (h : a = b) : Ending.returned (.int k a) = .returned (.int k b) := by rw [h]

theorem ret_eq {a b : Int} (h : a = b) : Ending.returned (.bool (a == b)) = .returned (.bool true) := by rw [h]; simp

/-- The magnitude of v. -/
def mag (v : Int) : Int := if v < 0 then -v else v

theorem mag_neg {v : Int} (h : v ≤ 0) : mag v = -v := by unfold mag; split <;> omega
theorem mag_pos {v : Int} (h : 0 ≤ v) : mag v = v := by unfold mag; split <;> omega

theorem neg_wrap {v : Int} (h : v < 0) (h1 : -9223372036854775808 ≤ v) : IntKind.u64.wrap (-IntKind.u64.wrap v) = -v := by
  simp only [IntKind.wrap_u64]; omega

theorem magnitude_any (v : Int) (w : World) (h1 : -9223372036854775808 ≤ v) (h2 : v ≤ 9223372036854775807) :
    Calls Try.prog 13 #[.int .i64 v] w fun e w' => e = .returned (.int .u64 (mag v)) ∧ w = w' := by
  by_cases h : v < 0
  · go_enter Try.func13, Try.ntmps13
    go_wp2
    go_ret
    exact ⟨ret_int ((neg_wrap h h1).trans (mag_neg (by omega)).symm), rfl⟩
  · go_enter Try.func13, Try.ntmps13
    go_wp2
    go_ret
    exact ⟨ret_int (mag_pos (by omega)).symm, rfl⟩

/-- 'ZZmagnitude' -/
theorem zzmag_any (v : Int) (w : World) (h1 : -9223372036854775808 ≤ v) (h2 : v ≤ 9223372036854775807) :
    Calls Try.prog 11 #[.int .i64 v] w fun e w' => e = .returned (.int .u64 (mag v)) ∧ w = w' := by
  go_enter Try.func11, Try.ntmps11
  go_wp2_with (go_at_call 13; refine (magnitude_any _ _ h1 h2).mono ?_; rintro e w' ⟨rfl, rfl⟩)
  go_ret
  exact ⟨rfl, rfl⟩

/-- The distance of two numbers below zero. -/
theorem dist_neg {hi lo : Int} (h1 : hi < 0) (h2 : lo ≤ hi) (h3 : -9223372036854775808 ≤ lo) : IntKind.u64.wrap (IntKind.u64.wrap hi - IntKind.u64.wrap lo) = hi - lo := by
  simp only [IntKind.wrap_u64]; omega

/-- The distance of two numbers on either side of zero. -/
theorem dist_mid {hi lo : Int} (h1 : 0 ≤ hi) (h2 : lo < 0) (h3 : -9223372036854775808 ≤ lo) (h4 : hi ≤ 9223372036854775807) : IntKind.u64.wrap (hi - IntKind.u64.wrap lo) = hi - lo := by
  simp only [IntKind.wrap_u64]; omega

end Go.Proofs.Qxb6617845a
