/-
  THE CALLEES: 'digits', 'ZZdigits', 'zzIsDigit'.
-/
import Derived.Test.Qxb6617330aPlain
import Derived.Test.Qxb6617330aRows
import Derived.WalkKit
import Derived.ProofKit
import Derived.OpenShut
import Derived.ShutString
import Derived.Handy
import Derived.WalkSpells
import Derived.Deep.LoopGhost
namespace Go.Proofs.Qxb6617330a
open Go.RowKit

theorem ret_bool {a b : Bool} (h : a = b) : Ending.returned (.bool a) = .returned (.bool b) := by rw [h]

/-- 'zzIsDigit' -/
theorem zzIsDigit_any (n : Int) (w : World) : Calls Try.prog 5 #[.int .u8 n] w fun e w' => e = .returned (.bool (isD n)) ∧ w = w' := by
  by_cases h1 : 48 ≤ n
  · by_cases h2 : n ≤ 57
    · have e := isD_true h1 h2
      go_enter Try.func5, Try.ntmps5
      go_wp2
      go_ret
      first | exact ⟨rfl, rfl⟩ | exact ⟨ret_bool e.symm, rfl⟩
    · have e := isD_high h2
      go_enter Try.func5, Try.ntmps5
      go_wp2
      go_ret
      first | exact ⟨rfl, rfl⟩ | exact ⟨ret_bool e.symm, rfl⟩
  · have e := isD_low h1
    go_enter Try.func5, Try.ntmps5
    go_wp2
    go_ret
    first | exact ⟨rfl, rfl⟩ | exact ⟨ret_bool e.symm, rfl⟩

/-- What the loop of 'digits' hands on. -/
structure Rd (s : ByteArray) (j : Nat) : Prop where
  le : j ≤ s.size
  digs : ∀ i (h : i < s.size), i < j → isD ((s[i]'h).toNat : Int) = true

theorem Rd.step {s : ByteArray} {j : Nat} (R : Rd s j) (hlt : j < s.size) (hd : isD ((s[j]'hlt).toNat : Int) = true) : Rd s (j + 1) := by
  refine ⟨hlt, fun i hi hij => ?_⟩
  by_cases e : i = j
  · subst e; exact hd
  · exact R.digs i hi (by omega)

theorem Rd.run {s : ByteArray} {j : Nat} (R : Rd s j) (hd : ∀ hlt : j < s.size, isD ((s[j]'hlt).toNat : Int) = false) : IsRun s j := ⟨R.le, R.digs, hd⟩

set_option maxHeartbeats 400000 in
/-- 'digits' -/
theorem digits_any (s : ByteArray) (w : World) (hs : s.size ≤ 1048576) :
    Calls Try.prog 7 #[.string s] w fun e w' => ∃ r : Nat, IsRun s r ∧ e = .returned (.int .i64 r) ∧ w = w' := by
  go_enter Try.func7, Try.ntmps7
  go_wp2
  go_loop [3] (fun i => ∃ j : Nat, i = .int .i64 j ∧ Rd s j) (fun i => s.size - (intOf i).toNat)
  case atStart => exact ⟨0, rfl, Nat.zero_le _, fun _ _ h => by omega⟩
  case round =>
    obtain ⟨j, rfl, R⟩ := hrel
    have hj := R.le
    by_cases hlt : j < s.size
    · by_cases d1 : 48 ≤ ((s[j]'hlt).toNat : Int)
      · by_cases d2 : ((s[j]'hlt).toNat : Int) ≤ 57
        · go_wp2
          go_round
          case rel => exact ⟨j + 1, by go_num, R.step hlt (isD_true d1 d2)⟩
          case measure => simp [intOf]; omega
        · go_wp2
          go_ret
          exact ⟨j, R.run (fun _ => isD_high (by omega)), rfl, rfl⟩
      · go_wp2
        go_ret
        exact ⟨j, R.run (fun _ => isD_low (by omega)), rfl, rfl⟩
    · go_wp2
      go_ret
      exact ⟨j, R.run (fun h => absurd h hlt), rfl, rfl⟩

/-- 'ZZdigits' -/
theorem zzdigits_any (s : ByteArray) (w : World) (hs : s.size ≤ 1048576) :
    Calls Try.prog 6 #[.string s] w fun e w' => ∃ r : Nat, IsRun s r ∧ e = .returned (.int .i64 r) ∧ w = w' := by
  go_enter Try.func6, Try.ntmps6
  go_wp2_with (go_at_call 7; refine (digits_any _ _ hs).mono ?_; rintro e w' ⟨r, hr, rfl, rfl⟩)
  go_ret
  exact ⟨r, hr, rfl, rfl⟩

end Go.Proofs.Qxb6617330a
