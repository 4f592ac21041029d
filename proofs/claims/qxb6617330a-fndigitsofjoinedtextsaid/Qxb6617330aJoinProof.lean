/-
  'Rows.FnDigitsOfJoinedTextSaid': the walk of the law, over the callees' contracts; the rest is the guide's template at this function's number and types.
-/
import Derived.Test.Qxb6617330aRows
import Derived.Test.Qxb6617330aWalks
import Derived.Handy
import Derived.Deep.LoopGhost
import Derived.WalkKit
import Derived.ProofKit
import Derived.OpenShut
import Derived.ShutString
namespace Go.Proofs.Qxb6617330a.fnDigitsOfJoinedText
open Go.ChangeShapes Go.WideShapes Go.ChangeAt Go.RowKit
open Go.ChangeMaps (open_string shut_string)
set_option linter.unusedVariables false      -- a walk need not use every 'w<i>' (that an integer argument fits its kind)

theorem own : ownKnob Try.prog.godebug = none := by kernel_rfl

/-! ### STEP 1: THE WALK: the Go text returns true. 'Grown w w'': the world has at most new blocks (Derived/RowKit3.lean). Part the cases AHEAD of 'go_enter' where a test parts the walk; take each callee by a contract of your own. -/
theorem walk (a0 : ByteArray) (a1 : ByteArray) (w0 : a0.size ≤ maxLen) (w1 : a1.size ≤ maxLen) (w : World) :
    Calls Try.prog 3 #[.string a0, .string a1] w fun e w' => e = .returned (.bool true) ∧ Grown w w' := by
  by_cases h1 : a0.size ≤ 524288
  · by_cases h2 : a1.size ≤ 524288
    · have q1 : decide ((1048576 : Int) < (a0.size : Int)) = false := by simp; omega
      have q2 : decide ((524288 : Int) < (a0.size : Int)) = false := by simp; omega
      have q3 : decide ((524288 : Int) < (a1.size : Int)) = false := by simp; omega
      have hj : (a0 ++ a1).size ≤ 1048576 := by rw [ByteArray.size_append]; omega
      have hA : a0.size ≤ 1048576 := by omega
      have hB : a1.size ≤ 1048576 := by omega
      go_enter Try.func3, Try.ntmps3
      go_wp2
      go_loopg [5, 6] a0.size (fun g t i wr => ∃ j : Nat, a0.size - j ≤ g ∧ t = .bool true ∧ i = .int .i64 j ∧ Rd a0 j ∧ Grown w wr)
      case atStart => exact ⟨0, Nat.le_refl _, rfl, rfl, ⟨Nat.zero_le _, fun _ _ h => by omega⟩, Grown.refl _⟩
      case round =>
        obtain ⟨j, hgk, rfl, rfl, R, hgr⟩ := hrel
        have hle := R.le
        by_cases hlt : j < a0.size
        · by_cases hd : isD ((a0[j]'hlt).toNat : Int) = true
          · go_wp2_with (go_at_call 5; refine (zzIsDigit_any _ _).mono ?_; rintro e w' ⟨rfl, rfl⟩)
            go_roundg (a0.size - (j + 1))
            case measure => omega
            case rel => exact ⟨j + 1, Nat.le_refl _, rfl, by go_num, R.step hlt hd, hgr⟩
          · have hd' : isD ((a0[j]'hlt).toNat : Int) = false := by simpa using hd
            have hrun := R.run (fun _ => hd')
            clear hd
            go_wp2_with (go_at_call 5; refine (zzIsDigit_any _ _).mono ?_; rintro e w' ⟨rfl, rfl⟩)
            refine (zzdigits_any _ _ hA).mono ?_
            rintro e w1 ⟨r1, hr1, rfl, rfl⟩
            have e1 : r1 = j := hr1.uniq hrun
            have hlt1 : r1 < a0.size := by omega
            clear e1 hrun hd'
            go_wp2_with fail
            refine (zzdigits_any _ _ hj).mono ?_
            rintro e w1 ⟨r2, hr2, rfl, rfl⟩
            obtain rfl : r2 = r1 := hr2.uniq (hr1.joinSome hlt1)
            go_wp2
            go_ret
            exact ⟨rfl, hgr⟩
        · obtain rfl : j = a0.size := by omega
          have hrun := R.run (fun h => absurd h hlt)
          go_wp2_with fail
          refine (zzdigits_any _ _ hA).mono ?_
          rintro e w1 ⟨r1, hr1, rfl, rfl⟩
          have e1 : r1 = a0.size := hr1.uniq hrun
          have q4 : ((r1 : Int) == (a0.size : Int)) = true := by rw [e1]; simp
          clear e1
          go_wp2_with fail
          refine (zzdigits_any _ _ hj).mono ?_
          rintro e w1 ⟨r2, hr2, rfl, rfl⟩
          go_wp2_with fail
          refine (zzdigits_any _ _ hB).mono ?_
          rintro e w1 ⟨r3, hr3, rfl, rfl⟩
          have e2 : r2 = a0.size + r3 := hr2.uniq (hrun.joinAll hr3)
          have q5 : ((r2 : Int) == (a0.size : Int) + (r3 : Int)) = true := by rw [e2]; simp
          have h3 := hr3.le
          clear e2
          go_wp2
          go_ret
          exact ⟨rfl, hgr⟩
    · go_enter Try.func3, Try.ntmps3
      go_wp2
      all_goals go_ret
      all_goals exact ⟨rfl, Grown.refl _⟩
  · go_enter Try.func3, Try.ntmps3
    go_wp2
    all_goals go_ret
    all_goals exact ⟨rfl, Grown.refl _⟩

/-! ### THE ROW's STEP: WRITTEN OUT: LEAVE IT -/
set_option maxRecDepth 100000 in
theorem lifted (os : Os) (started : os.Started) (H : Type) (enc : TypeId × Value → H) :
    ReturnsInHanded {} Try.checked os 3 .any (Rows.fnDigitsOfJoinedTextSpec.pre6 enc Try.prog Try.f3 Rows.fnDigitsOfJoinedTextRow.domain false) (Rows.fnDigitsOfJoinedTextSpec.post enc Try.prog Try.f3 false true false false) := by
  refine returnsInHanded_of_change (C := Try.checked) own started (by kernel_rfl) Try.func3
    (ChangeSpec.witness6 (enc := enc) (C := Try.checked) false ⟨#[], #[.string ByteArray.empty, .string ByteArray.empty], []⟩ 8 (by kernel_rfl) (by kernel_rfl) (by kernel_rfl) (by kernel_rfl)) ?_
  intro W base args ds gs before hval0 hW hcnd _
  have hval : ∀ (j : Nat) t v, Try.f3.params[j]? = some t → args[j]? = some v → Value.okWide Try.prog W .any base t v := hval0
  have hW' := hW
  obtain ⟨p, q, hA0, hV, rfl, hfz, hnd⟩ := hW
  have hA : DataW.TrodAll enc Try.prog W 0 (fun _ => true) true Try.f3.params.toList args.toList ds p := hA0
  rw [Try.params3] at hA hval
  obtain ⟨v0, vs0, d0, ds0, p0, q0, hargs, rfl, rfl, h0, r0⟩ := trodAll_cons hA
  obtain ⟨v1, vs1, d1, ds1, p1, q1, rfl, rfl, rfl, h1, r1⟩ := trodAll_cons r0
  obtain ⟨rfl, rfl, rfl⟩ := trodAll_nil r1
  obtain rfl : args = #[v0, v1] := by cases args; simp_all
  obtain ⟨rfl, rfl⟩ := trodVars_none hV
  obtain ⟨a0, rfl, rfl, rfl, w0⟩ := open_string Try.underlying9 (hval 0 9 v0 rfl rfl) h0
  obtain ⟨a1, rfl, rfl, rfl, w1⟩ := open_string Try.underlying9 (hval 1 9 v1 rfl rfl) h1
  clear hA0 hval0
  simp only [List.append_nil] at hW'
  refine (walk a0 a1 w0 w1 W).mono fun e W' ⟨he, hg⟩ => ?_
  subst he
  exact ⟨_, rfl, post_of_same (pa := []) (pv := []) hW' (fun _ _ _ => (trodAll_cons_mk (shut_bool Try.underlying4 _) trodAll_mk0)) (fun sp _ => (trodAll_cons_mk (shut_string Try.underlying9 w0) (trodAll_cons_mk (shut_string Try.underlying9 w1) trodAll_mk0))) (fun _ _ => rfl) rfl
    (hg.frame _) hg.2.1 (ok_one (by kernel_rfl) rfl (okWide_bool_mk Try.underlying4 _))⟩

theorem over : Rows.fnDigitsOfJoinedTextRow.holds Try.pinned (OpenSpec.ofChange Rows.fnDigitsOfJoinedTextSpec) :=
  OpenClaim.holds_of_wide 3 Try.f3 rfl rfl rfl rfl rfl rfl rfl ⟨rfl, rfl, rfl, rfl, rfl⟩ rfl rfl rfl rfl rfl (by kernel_rfl) Try.func3 (by kernel_rfl)
    (of_decide_eq_true (by kernel_rfl)) (by unfold Func.isWrapper; first | (rw [if_pos (by decide +kernel)]; kernel_rfl) | (rw [if_neg (by decide +kernel)]; exact ⟨rfl, rfl⟩))
    (fun os started H enc _ => lifted os started H enc)

/-- ████ THE STATEMENT ████ -/
theorem proved : Rows.FnDigitsOfJoinedTextSaid :=
  over
#print axioms proved
end Go.Proofs.Qxb6617330a.fnDigitsOfJoinedText
