/-
  THE WALK OF 'FnMagnitudeDistanceOnTheLine'.
-/
import Derived.Test.Qxb6617845aMag
namespace Go.Proofs.Qxb6617845a
open Go.RowKit

set_option maxHeartbeats 400000 in
/-- The greater one first. -/
theorem dist_down (hi lo : Int) (w : World) (ht : lo ≤ hi) (hlo : -9223372036854775808 ≤ lo) (hhi : hi ≤ 9223372036854775807) :
    Calls Try.prog 5 #[.int .i64 hi, .int .i64 lo] w fun e w' => e = .returned (.bool true) ∧ Grown w w' := by
  have n1 : -9223372036854775808 ≤ hi := by omega
  have n2 : lo ≤ 9223372036854775807 := by omega
  by_cases c1 : 0 ≤ lo
  · have k1 : mag hi ≤ hi ∧ hi ≤ mag hi := by rw [mag_pos (by omega)]; omega
    have k2 : mag lo ≤ lo ∧ lo ≤ mag lo := by rw [mag_pos c1]; omega
    go_enter Try.func5, Try.ntmps5
    go_wp2_with fail
    refine (zzmag_any _ _ n1 hhi).mono ?_
    rintro e w1 ⟨rfl, rfl⟩
    go_wp2_with fail
    refine (zzmag_any _ _ hlo n2).mono ?_
    rintro e w1 ⟨rfl, rfl⟩
    go_wp2
    go_ret
    exact ⟨ret_eq (by omega), Grown.refl _⟩
  · by_cases c2 : hi < 0
    · have e1 := dist_neg c2 (show lo ≤ hi by omega) hlo
      have k1 : mag hi ≤ (-hi) ∧ (-hi) ≤ mag hi := by rw [mag_neg (by omega)]; omega
      have k2 : mag lo ≤ (-lo) ∧ (-lo) ≤ mag lo := by rw [mag_neg (by omega)]; omega
      go_enter Try.func5, Try.ntmps5
      go_wp2_with fail
      refine (zzmag_any _ _ n1 hhi).mono ?_
      rintro e w1 ⟨rfl, rfl⟩
      go_wp2_with fail
      refine (zzmag_any _ _ hlo n2).mono ?_
      rintro e w1 ⟨rfl, rfl⟩
      go_wp2
      go_ret
      exact ⟨ret_eq (by omega), Grown.refl _⟩
    · have e1 := dist_mid (show 0 ≤ hi by omega) (show lo < 0 by omega) hlo hhi
      by_cases c3 : hi ≤ 0
      · have k1 : mag hi ≤ hi ∧ hi ≤ mag hi := by rw [mag_pos (by omega)]; omega
        have k2 : mag lo ≤ (-lo) ∧ (-lo) ≤ mag lo := by rw [mag_neg (by omega)]; omega
        go_enter Try.func5, Try.ntmps5
        go_wp2_with fail
        refine (zzmag_any _ _ n1 hhi).mono ?_
        rintro e w1 ⟨rfl, rfl⟩
        go_wp2_with fail
        refine (zzmag_any _ _ hlo n2).mono ?_
        rintro e w1 ⟨rfl, rfl⟩
        go_wp2
        go_ret
        exact ⟨ret_eq (by omega), Grown.refl _⟩
      · have k1 : mag hi ≤ hi ∧ hi ≤ mag hi := by rw [mag_pos (by omega)]; omega
        have k2 : mag lo ≤ (-lo) ∧ (-lo) ≤ mag lo := by rw [mag_neg (by omega)]; omega
        go_enter Try.func5, Try.ntmps5
        go_wp2_with fail
        refine (zzmag_any _ _ n1 hhi).mono ?_
        rintro e w1 ⟨rfl, rfl⟩
        go_wp2_with fail
        refine (zzmag_any _ _ hlo n2).mono ?_
        rintro e w1 ⟨rfl, rfl⟩
        go_wp2
        go_ret
        exact ⟨ret_eq (by omega), Grown.refl _⟩

set_option maxHeartbeats 400000 in
/-- The lesser one first. -/
theorem dist_up (hi lo : Int) (w : World) (ht : lo < hi) (hlo : -9223372036854775808 ≤ lo) (hhi : hi ≤ 9223372036854775807) :
    Calls Try.prog 5 #[.int .i64 lo, .int .i64 hi] w fun e w' => e = .returned (.bool true) ∧ Grown w w' := by
  have n1 : -9223372036854775808 ≤ hi := by omega
  have n2 : lo ≤ 9223372036854775807 := by omega
  by_cases c1 : 0 ≤ lo
  · have k1 : mag hi ≤ hi ∧ hi ≤ mag hi := by rw [mag_pos (by omega)]; omega
    have k2 : mag lo ≤ lo ∧ lo ≤ mag lo := by rw [mag_pos c1]; omega
    go_enter Try.func5, Try.ntmps5
    go_wp2_with fail
    refine (zzmag_any _ _ n1 hhi).mono ?_
    rintro e w1 ⟨rfl, rfl⟩
    go_wp2_with fail
    refine (zzmag_any _ _ hlo n2).mono ?_
    rintro e w1 ⟨rfl, rfl⟩
    go_wp2
    go_ret
    exact ⟨ret_eq (by omega), Grown.refl _⟩
  · by_cases c2 : hi < 0
    · have e1 := dist_neg c2 (show lo ≤ hi by omega) hlo
      have k1 : mag hi ≤ (-hi) ∧ (-hi) ≤ mag hi := by rw [mag_neg (by omega)]; omega
      have k2 : mag lo ≤ (-lo) ∧ (-lo) ≤ mag lo := by rw [mag_neg (by omega)]; omega
      go_enter Try.func5, Try.ntmps5
      go_wp2_with fail
      refine (zzmag_any _ _ n1 hhi).mono ?_
      rintro e w1 ⟨rfl, rfl⟩
      go_wp2_with fail
      refine (zzmag_any _ _ hlo n2).mono ?_
      rintro e w1 ⟨rfl, rfl⟩
      go_wp2
      go_ret
      exact ⟨ret_eq (by omega), Grown.refl _⟩
    · have e1 := dist_mid (show 0 ≤ hi by omega) (show lo < 0 by omega) hlo hhi
      by_cases c3 : hi ≤ 0
      · have k1 : mag hi ≤ hi ∧ hi ≤ mag hi := by rw [mag_pos (by omega)]; omega
        have k2 : mag lo ≤ (-lo) ∧ (-lo) ≤ mag lo := by rw [mag_neg (by omega)]; omega
        go_enter Try.func5, Try.ntmps5
        go_wp2_with fail
        refine (zzmag_any _ _ n1 hhi).mono ?_
        rintro e w1 ⟨rfl, rfl⟩
        go_wp2_with fail
        refine (zzmag_any _ _ hlo n2).mono ?_
        rintro e w1 ⟨rfl, rfl⟩
        go_wp2
        go_ret
        exact ⟨ret_eq (by omega), Grown.refl _⟩
      · have k1 : mag hi ≤ hi ∧ hi ≤ mag hi := by rw [mag_pos (by omega)]; omega
        have k2 : mag lo ≤ (-lo) ∧ (-lo) ≤ mag lo := by rw [mag_neg (by omega)]; omega
        go_enter Try.func5, Try.ntmps5
        go_wp2_with fail
        refine (zzmag_any _ _ n1 hhi).mono ?_
        rintro e w1 ⟨rfl, rfl⟩
        go_wp2_with fail
        refine (zzmag_any _ _ hlo n2).mono ?_
        rintro e w1 ⟨rfl, rfl⟩
        go_wp2
        go_ret
        exact ⟨ret_eq (by omega), Grown.refl _⟩

end Go.Proofs.Qxb6617845a
