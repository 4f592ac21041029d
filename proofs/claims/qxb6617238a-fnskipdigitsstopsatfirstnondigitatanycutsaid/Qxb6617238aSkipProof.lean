/-
  'Rows.FnSkipDigitsStopsAtFirstNonDigitAtAnyCutSaid': the walk of the law, over the contracts of Qxb6617238aWalks; the rest is the guide's template at this function's number and types.
-/
import Derived.Test.Qxb6617238aRows
import Derived.Test.Qxb6617238aWalks
import Derived.WalkKit
import Derived.ProofKit
import Derived.OpenShut
import Derived.ShutString
namespace Go.Proofs.Qxb6617238a.fnSkipDigitsStopsAtFirstNonDigitAtAnyCut
open Go.ChangeShapes Go.WideShapes Go.ChangeAt Go.RowKit
open Go.ChangeMaps (open_string shut_string)
set_option linter.unusedVariables false      -- a walk need not use every 'w<i>' (that an integer argument fits its kind)

theorem own : ownKnob Try.prog.godebug = none := by kernel_rfl

theorem grown_trans {a b c : World} (h : Grown a b) (k : Grown b c) : Grown a c :=
  ⟨World.keptBut_trans h.1 (k.frame _), fun x => (k.2.1 x).trans (h.2.1 x), Nat.le_trans h.2.2 k.2.2⟩

/-! ### STEP 1: THE WALK: the Go text returns true. 'Grown w w'': the world has at most new blocks (Derived/RowKit3.lean). Part the cases AHEAD of 'go_enter' where a test parts the walk; take each callee by a contract of your own. -/
theorem walk (a0 : ByteArray) (a1 : Int) (a2 : Bool) (a3 : Int) (w0 : a0.size ≤ maxLen) (w1 : (Lit.int .i64 a1).wf = true) (w3 : (Lit.int .i64 a3).wf = true) (w : World) :
    Calls Try.prog 5 #[.string a0, .int .i64 a1, .bool a2, .int .i64 a3] w fun e w' => e = .returned (.bool true) ∧ Grown w w' := by
  by_cases h1 : a0.size ≤ 1048576
  · by_cases h2 : 0 ≤ a1
    · obtain ⟨k, rfl⟩ : ∃ k : Nat, a1 = k := ⟨a1.toNat, by omega⟩
      by_cases h3 : k < a0.size
      · -- off lies in the text
        have q1 : decide ((1048576 : Int) < (a0.size : Int)) = false := by simp; omega
        have q2 : decide ((k : Int) < 0) = false := by simp
        have q5 : decide (a0.size ≤ k) = false := decide_eq_false (by omega)
        go_enter Try.func5, Try.ntmps5
        go_wp2_with (first | (go_at_call 13; refine (zzSkip_any _ _ _ _ h1 h2).mono ?_; rintro e w' ⟨r, hr, rfl, hg⟩; rw [Int.toNat_natCast] at hr; have hge := hr.ge; have hle := hr.le (Nat.le_of_lt h3); have q3 : decide (r < k) = false := decide_eq_false (by omega); have q4 : decide (a0.size < r) = false := decide_eq_false (by omega)) | go_in)
        go_loopg [12] (r - k) (fun g i wr => ∃ j : Nat, r - j ≤ g ∧ k ≤ j ∧ j ≤ r ∧ i = .int .i64 j ∧ Grown w wr)
        case atStart => exact ⟨k, Nat.le_refl _, Nat.le_refl _, hge, rfl, hg⟩
        case round =>
          obtain ⟨j, hgk, hj1, hj2, rfl, hgr⟩ := hrel
          by_cases hlt : j < r
          · have hsz : j < a0.size := by omega
            have hd := hr.digs j hsz hj1 hlt
            go_wp2_with (go_at_call 14; refine (zzDigit_any _ _).mono ?_; rintro e w' ⟨rfl, rfl⟩)
            go_roundg (r - (j + 1))
            case measure => omega
            case rel => exact ⟨j + 1, Nat.le_refl _, by omega, by omega, by go_num, hgr⟩
          · obtain rfl : j = r := by omega
            clear q1 q2 q3 q4 q5
            by_cases hrs : j < a0.size
            · -- the run ends at a byte that is no digit
              have hd := hr.ends hrs
              by_cases hc1 : (k : Int) ≤ a3
              · by_cases hc2 : a3 ≤ a0.size
                · obtain ⟨c, rfl⟩ : ∃ c : Nat, a3 = c := ⟨a3.toNat, by omega⟩
                  have hs1 : (a0.extract 0 c).size ≤ 1048576 := by rw [ByteArray.size_extract]; omega
                  have hs2 : (a0.extract c a0.size).size ≤ 1048576 := by rw [ByteArray.size_extract]; omega
                  go_wp2_with (first | (go_at_call 14; refine (zzDigit_any _ _).mono ?_; rintro e w' ⟨rfl, rfl⟩))
                  refine (zzSkip_any _ _ _ _ hs1 h2).mono ?_
                  rintro e w1 ⟨r1, hr1, rfl, hg1⟩
                  rw [Int.toNat_natCast] at hr1
                  by_cases hr1c : r1 < c
                  · have e := hr.cutHead (by omega) (by omega) hr1 hr1c
                    subst e
                    go_wp2
                    go_ret
                    exact ⟨rfl, grown_trans hgr hg1⟩
                  · go_wp2_with fail
                    refine (zzSkip_any _ _ _ _ hs2 (Int.le_refl _)).mono ?_
                    rintro e w2 ⟨r2, hr2, rfl, hg2⟩
                    have e : j = c + r2 := hr.cutRest (by omega) (by omega) h3 hr1 hr1c hr2
                    have e' : ((j : Int) == (c : Int) + (r2 : Int)) = true := by rw [e]; simp
                    have hr2' : r2 ≤ a0.size := by omega
                    clear e
                    go_wp2
                    go_ret
                    exact ⟨rfl, grown_trans (grown_trans hgr hg1) hg2⟩
                · go_wp2_with (first | (go_at_call 14; refine (zzDigit_any _ _).mono ?_; rintro e w' ⟨rfl, rfl⟩))
                  go_ret
                  exact ⟨rfl, hgr⟩
              · go_wp2_with (first | (go_at_call 14; refine (zzDigit_any _ _).mono ?_; rintro e w' ⟨rfl, rfl⟩))
                go_ret
                exact ⟨rfl, hgr⟩
            · -- the run comes to the text's end
              have hnd : decide (j < a0.size) = false := decide_eq_false hrs
              by_cases hc1 : (k : Int) ≤ a3
              · by_cases hc2 : a3 ≤ a0.size
                · obtain ⟨c, rfl⟩ : ∃ c : Nat, a3 = c := ⟨a3.toNat, by omega⟩
                  have hs1 : (a0.extract 0 c).size ≤ 1048576 := by rw [ByteArray.size_extract]; omega
                  have hs2 : (a0.extract c a0.size).size ≤ 1048576 := by rw [ByteArray.size_extract]; omega
                  go_wp2_with fail
                  refine (zzSkip_any _ _ _ _ hs1 h2).mono ?_
                  rintro e w1 ⟨r1, hr1, rfl, hg1⟩
                  rw [Int.toNat_natCast] at hr1
                  by_cases hr1c : r1 < c
                  · have e := hr.cutHead (by omega) (by omega) hr1 hr1c
                    subst e
                    go_wp2
                    go_ret
                    exact ⟨rfl, grown_trans hgr hg1⟩
                  · go_wp2_with fail
                    refine (zzSkip_any _ _ _ _ hs2 (Int.le_refl _)).mono ?_
                    rintro e w2 ⟨r2, hr2, rfl, hg2⟩
                    have e : j = c + r2 := hr.cutRest (by omega) (by omega) h3 hr1 hr1c hr2
                    have e' : ((j : Int) == (c : Int) + (r2 : Int)) = true := by rw [e]; simp
                    have hr2' : r2 ≤ a0.size := by omega
                    clear e
                    go_wp2
                    go_ret
                    exact ⟨rfl, grown_trans (grown_trans hgr hg1) hg2⟩
                · go_wp2
                  go_ret
                  exact ⟨rfl, hgr⟩
              · go_wp2
                go_ret
                exact ⟨rfl, hgr⟩
      · -- off lies at or behind the text's end
        go_enter Try.func5, Try.ntmps5
        go_wp2_with (first | (go_at_call 13; refine (zzSkip_any _ _ _ _ h1 h2).mono ?_; rintro e w' ⟨r, hr, rfl, hg⟩; rw [Int.toNat_natCast] at hr; obtain rfl := hr.past (by omega)) | go_in)
        go_ret
        exact ⟨rfl, hg⟩
    · go_enter Try.func5, Try.ntmps5
      go_wp2
      go_ret
      exact ⟨rfl, by repeat (first | exact Grown.refl _ | apply Grown.drew | apply Grown.alloc)⟩
  · go_enter Try.func5, Try.ntmps5
    go_wp2
    go_ret
    exact ⟨rfl, by repeat (first | exact Grown.refl _ | apply Grown.drew | apply Grown.alloc)⟩

/-! ### THE ROW's STEP: WRITTEN OUT: LEAVE IT -/
set_option maxRecDepth 100000 in
theorem lifted (os : Os) (started : os.Started) (H : Type) (enc : TypeId × Value → H) :
    ReturnsInHanded {} Try.checked os 5 .any (Rows.fnSkipDigitsStopsAtFirstNonDigitAtAnyCutSpec.pre6 enc Try.prog Try.f5 Rows.fnSkipDigitsStopsAtFirstNonDigitAtAnyCutRow.domain false) (Rows.fnSkipDigitsStopsAtFirstNonDigitAtAnyCutSpec.post enc Try.prog Try.f5 false true false false) := by
  refine returnsInHanded_of_change (C := Try.checked) own started (by kernel_rfl) Try.func5
    (ChangeSpec.witness6 (enc := enc) (C := Try.checked) false ⟨#[], #[.string ByteArray.empty, .int .i64 0, .bool false, .int .i64 0], []⟩ 8 (by kernel_rfl) (by kernel_rfl) (by kernel_rfl) (by kernel_rfl)) ?_
  intro W base args ds gs before hval0 hW hcnd _
  have hval : ∀ (j : Nat) t v, Try.f5.params[j]? = some t → args[j]? = some v → Value.okWide Try.prog W .any base t v := hval0
  have hW' := hW
  obtain ⟨p, q, hA0, hV, rfl, hfz, hnd⟩ := hW
  have hA : DataW.TrodAll enc Try.prog W 0 (fun _ => true) true Try.f5.params.toList args.toList ds p := hA0
  rw [Try.params5] at hA hval
  obtain ⟨v0, vs0, d0, ds0, p0, q0, hargs, rfl, rfl, h0, r0⟩ := trodAll_cons hA
  obtain ⟨v1, vs1, d1, ds1, p1, q1, rfl, rfl, rfl, h1, r1⟩ := trodAll_cons r0
  obtain ⟨v2, vs2, d2, ds2, p2, q2, rfl, rfl, rfl, h2, r2⟩ := trodAll_cons r1
  obtain ⟨v3, vs3, d3, ds3, p3, q3, rfl, rfl, rfl, h3, r3⟩ := trodAll_cons r2
  obtain ⟨rfl, rfl, rfl⟩ := trodAll_nil r3
  obtain rfl : args = #[v0, v1, v2, v3] := by cases args; simp_all
  obtain ⟨rfl, rfl⟩ := trodVars_none hV
  obtain ⟨a0, rfl, rfl, rfl, w0⟩ := open_string Try.underlying9 (hval 0 9 v0 rfl rfl) h0
  obtain ⟨a1, rfl, rfl, rfl, w1⟩ := open_int Try.underlying3 (hval 1 3 v1 rfl rfl) h1
  obtain ⟨a2, rfl, rfl, rfl⟩ := open_bool Try.underlying4 (hval 2 4 v2 rfl rfl) h2
  obtain ⟨a3, rfl, rfl, rfl, w3⟩ := open_int Try.underlying3 (hval 3 3 v3 rfl rfl) h3
  clear hA0 hval0
  simp only [List.append_nil] at hW'
  refine (walk a0 a1 a2 a3 w0 w1 w3 W).mono fun e W' ⟨he, hg⟩ => ?_
  subst he
  exact ⟨_, rfl, post_of_same (pa := []) (pv := []) hW' (fun _ _ _ => (trodAll_cons_mk (shut_bool Try.underlying4 _) trodAll_mk0)) (fun sp _ => (trodAll_cons_mk (shut_string Try.underlying9 w0) (trodAll_cons_mk (shut_int Try.underlying3 w1) (trodAll_cons_mk (shut_bool Try.underlying4 _) (trodAll_cons_mk (shut_int Try.underlying3 w3) trodAll_mk0))))) (fun _ _ => rfl) rfl
    (hg.frame _) hg.2.1 (ok_one (by kernel_rfl) rfl (okWide_bool_mk Try.underlying4 _))⟩

theorem over : Rows.fnSkipDigitsStopsAtFirstNonDigitAtAnyCutRow.holds Try.pinned (OpenSpec.ofChange Rows.fnSkipDigitsStopsAtFirstNonDigitAtAnyCutSpec) :=
  OpenClaim.holds_of_wide 5 Try.f5 rfl rfl rfl rfl rfl rfl rfl ⟨rfl, rfl, rfl, rfl, rfl⟩ rfl rfl rfl rfl rfl (by kernel_rfl) Try.func5 (by kernel_rfl)
    (of_decide_eq_true (by kernel_rfl)) (by unfold Func.isWrapper; first | (rw [if_pos (by decide +kernel)]; kernel_rfl) | (rw [if_neg (by decide +kernel)]; exact ⟨rfl, rfl⟩))
    (fun os started H enc _ => lifted os started H enc)

/-- ████ THE STATEMENT ████ -/
theorem proved : Rows.FnSkipDigitsStopsAtFirstNonDigitAtAnyCutSaid :=
  over
#print axioms proved
end Go.Proofs.Qxb6617238a.fnSkipDigitsStopsAtFirstNonDigitAtAnyCut
