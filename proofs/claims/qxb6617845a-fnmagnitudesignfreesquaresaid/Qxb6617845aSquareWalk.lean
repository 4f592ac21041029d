/-
  THE WALK OF 'FnMagnitudeSignFreeSquare'.
-/
import Derived.Test.Qxb6617845aMag
namespace Go.Proofs.Qxb6617845a
open Go.RowKit

theorem mag_bd {v : Int} (h1 : -9223372036854775808 ≤ v) (h2 : v ≤ 9223372036854775807) : 0 ≤ mag v ∧ mag v ≤ 9223372036854775808 := by
  unfold mag; split <;> omega

theorem mag_opp (v : Int) : mag (-v) = mag v := by
  unfold mag; split <;> split <;> omega

/-- Squares of a number from zero on. -/
theorem sq_pos {v : Int} (h : 0 ≤ v) : (IntKind.u64.wrap (mag v * mag v) != IntKind.u64.wrap (v * v)) = false := by
  rw [mag_pos h]; simp

/-- Squares of a number below zero. -/
theorem sq_neg {v : Int} (h : v < 0) : (IntKind.u64.wrap (mag v * mag v) != IntKind.u64.wrap (IntKind.u64.wrap v * IntKind.u64.wrap v)) = false := by
  have e : IntKind.u64.wrap (mag v * mag v) = IntKind.u64.wrap (IntKind.u64.wrap v * IntKind.u64.wrap v) := by
    rw [mag_neg (by omega), Int.neg_mul_neg]
    simp only [IntKind.wrap_u64]
    rw [← Int.mul_emod]
  rw [e]; simp

set_option maxHeartbeats 400000 in
theorem square_walk (v : Int) (w : World) (h1 : -9223372036854775808 ≤ v) (h2 : v ≤ 9223372036854775807) :
    Calls Try.prog 6 #[.int .i64 v] w fun e w' => e = .returned (.bool true) ∧ Grown w w' := by
  have hb := mag_bd h1 h2
  have ho : (mag (-v) == mag v) = true := by rw [mag_opp]; simp
  by_cases c1 : 0 ≤ v
  · have hs := sq_pos c1
    go_enter Try.func6, Try.ntmps6
    go_wp2_with fail
    refine (zzmag_any _ _ h1 h2).mono ?_
    rintro e w1 ⟨rfl, rfl⟩
    go_wp2_with fail
    refine (zzmag_any _ _ (by omega) (by omega)).mono ?_
    rintro e w1 ⟨rfl, rfl⟩
    go_wp2
    go_ret
    exact ⟨rfl, Grown.refl _⟩
  · have hs := sq_neg (v := v) (by omega)
    by_cases c2 : -9223372036854775807 ≤ v
    · go_enter Try.func6, Try.ntmps6
      go_wp2_with fail
      refine (zzmag_any _ _ h1 h2).mono ?_
      rintro e w1 ⟨rfl, rfl⟩
      go_wp2_with fail
      refine (zzmag_any _ _ (by omega) (by omega)).mono ?_
      rintro e w1 ⟨rfl, rfl⟩
      go_wp2
      go_ret
      exact ⟨rfl, Grown.refl _⟩
    · go_enter Try.func6, Try.ntmps6
      go_wp2_with fail
      refine (zzmag_any _ _ h1 h2).mono ?_
      rintro e w1 ⟨rfl, rfl⟩
      go_wp2
      go_ret
      exact ⟨rfl, Grown.refl _⟩

end Go.Proofs.Qxb6617845a
