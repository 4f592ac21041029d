/-
  'allDigits' AND 'ZZallDigits'.
-/
import Derived.Test.Qxb6617845aDigits
import Derived.Test.Qxb6617845aRows
import Derived.WalkKit
import Derived.ProofKit
import Derived.OpenShut
import Derived.ShutString
import Derived.Handy
import Derived.WalkSpells
import Derived.Deep.LoopGhost
namespace Go.Proofs.Qxb6617845a
open Go.RowKit

theorem ret_bool {a b : Bool} (h : a = b) : Ending.returned (.bool a) = .returned (.bool b) := by rw [h]

theorem isEmpty_of (s : ByteArray) : s.toList.isEmpty = decide (s.size = 0) := by
  rw [ByteArray.toList_eq, Bool.eq_iff_iff, List.isEmpty_iff_length_eq_zero]
  simp

/-- What the loop hands on. -/
structure Rd (s : ByteArray) (j : Nat) : Prop where
  le : j ≤ s.size
  digs : ∀ i (h : i < s.size), i < j → isD ((s[i]'h).toNat : Int) = true

theorem Rd.step {s : ByteArray} {j : Nat} (R : Rd s j) (hlt : j < s.size) (hd : isD ((s[j]'hlt).toNat : Int) = true) : Rd s (j + 1) := by
  refine ⟨hlt, fun i hi hij => ?_⟩
  by_cases e : i = j
  · subst e; exact hd
  · exact R.digs i hi (by omega)

theorem Rd.fin {s : ByteArray} {j : Nat} (R : Rd s j) (hj : ¬ j < s.size) (h0 : ¬ s.size = 0) : ad s = true := by
  rw [ad_of (by omega), okS_iff]
  exact fun i hi => R.digs i hi (by omega)

theorem ad_bad {s : ByteArray} {j : Nat} (hj : j < s.size) (h : isD ((s[j]'hj).toNat : Int) = false) : ad s = false := by
  rw [ad_of (by omega)]
  exact okS_bad hj h

set_option maxHeartbeats 400000 in
/-- 'allDigits' -/
theorem allDigits_any (s : ByteArray) (w : World) (hs : s.size ≤ 1048576) :
    Calls Try.prog 12 #[.string s] w fun e w' => e = .returned (.bool (ad s)) ∧ w = w' := by
  by_cases h0 : s.size = 0
  · have he : s.toList.isEmpty = true := by rw [isEmpty_of]; simp [h0]
    have ha := ad_empty h0
    rw [ha]
    clear ha h0
    go_enter Try.func12, Try.ntmps12
    go_wp2
    go_ret
    exact ⟨rfl, rfl⟩
  · have he : s.toList.isEmpty = false := by rw [isEmpty_of]; simp [h0]
    have H0 : Hid (¬ s.size = 0) := h0
    clear h0
    go_enter Try.func12, Try.ntmps12
    go_wp2
    go_loop [3] (fun i => ∃ j : Nat, i = .int .i64 j ∧ Rd s j) (fun i => s.size - (intOf i).toNat)
    case atStart => exact ⟨0, rfl, Nat.zero_le _, fun _ _ h => by omega⟩
    case round =>
      obtain ⟨j, rfl, R⟩ := hrel
      have hj := R.le
      by_cases hlt : j < s.size
      · by_cases d1 : 48 ≤ ((s[j]'hlt).toNat : Int)
        · by_cases d2 : ((s[j]'hlt).toNat : Int) ≤ 57
          · go_wp2
            go_round
            case rel => exact ⟨j + 1, by go_num, R.step hlt (isD_true d1 d2)⟩
            case measure => simp [intOf]; omega
          · go_wp2
            go_ret
            exact ⟨ret_bool (ad_bad hlt (isD_high (by omega))).symm, rfl⟩
        · go_wp2
          go_ret
          exact ⟨ret_bool (ad_bad hlt (isD_low (by omega))).symm, rfl⟩
      · go_wp2
        go_ret
        exact ⟨ret_bool (R.fin hlt H0.out).symm, rfl⟩

/-- 'ZZallDigits' -/
theorem zzAll_any (s : ByteArray) (w : World) (hs : s.size ≤ 1048576) :
    Calls Try.prog 9 #[.string s] w fun e w' => e = .returned (.bool (ad s)) ∧ w = w' := by
  go_enter Try.func9, Try.ntmps9
  go_wp2_with (go_at_call 12; refine (allDigits_any _ _ hs).mono ?_; rintro e w' ⟨rfl, rfl⟩)
  go_ret
  exact ⟨rfl, rfl⟩

end Go.Proofs.Qxb6617845a
