/-
  'Rows.FnSetNewestPushThenPopRestoresSaid': the walk at every input; the row's step after the guide's way for a law over slices.
-/
import Derived.Test.Qxb6617820aPushWalk
import Derived.ShutString
import Derived.ChangeOld
import Derived.Below
namespace Go.Proofs.Qxb6617820a.fnSetNewestPushThenPopRestores
open Go.ChangeShapes Go.WideShapes Go.ChangeAt Go.RowKit

theorem own : ownKnob Try.prog.godebug = none := by kernel_rfl
theorem laidOut : laidOutB Try.prog = true := by kernel_rfl

/-- The walk, at every input. -/
theorem walk (a0 : Option Addr) (len0 cap0 : Nat) (a1 : Option Addr) (len1 cap1 : Nat) (w : World) (m0 : len0 ≤ maxLen) (m1 : len1 ≤ maxLen) (h0 : ∃ b off f, Bools w a0 len0 b off f) (h1 : ∃ b off f, Bools w a1 len1 b off f) :
    Calls Try.prog 7 #[.slice a0 len0 cap0, .slice a1 len1 cap1] w fun e w' => e = .returned (.bool true) ∧ Below w.heap.size w w' := by
  obtain ⟨b0, o0, f, h0⟩ := h0
  obtain ⟨b1, o1, g, h1⟩ := h1
  by_cases c0 : len0 ≤ 65536
  · by_cases c1 : len1 ≤ 65536
    · exact push_walk a0 a1 len0 len1 cap0 cap1 b0 b1 o0 o1 f g w c0 c1 h0 h1
    · clear h0 h1
      unfold maxLen at m0 m1
      have c1' : (65536 : Int) < (len1 : Int) := by omega
      go_enter Try.func7, Try.ntmps7
      go_wp2
      all_goals go_ret
      all_goals exact ⟨rfl, Below.refl _ _⟩
  · clear h0 h1
    unfold maxLen at m0 m1
    have c0' : (65536 : Int) < (len0 : Int) := by omega
    go_enter Try.func7, Try.ntmps7
    go_wp2
    all_goals go_ret
    all_goals exact ⟨rfl, Below.refl _ _⟩

set_option maxRecDepth 100000 in
theorem lifted (os : Os) (started : os.Started) (H : Type) (enc : TypeId × Value → H) :
    ReturnsInHanded {} Try.checked os 7 .any (Rows.fnSetNewestPushThenPopRestoresSpec.pre6 enc Try.prog Try.f7 Rows.fnSetNewestPushThenPopRestoresRow.domain false) (Rows.fnSetNewestPushThenPopRestoresSpec.post enc Try.prog Try.f7 false true false false) := by
  refine returnsInHanded_of_change (C := Try.checked) own started (by kernel_rfl) Try.func7
    (ChangeSpec.witness6 (enc := enc) (C := Try.checked) false ⟨#[], #[.slice none 0 0, .slice none 0 0], []⟩ 8 (by kernel_rfl) (by kernel_rfl) (by kernel_rfl) (by kernel_rfl)) ?_
  intro W base args ds gs before hval0 hW hcnd _
  have hval : ∀ (j : Nat) t v, Try.f7.params[j]? = some t → args[j]? = some v → Value.okWide Try.prog W .any base t v := hval0
  have hW' := hW
  obtain ⟨p, q, hA0, hV, rfl, hfz, hnd⟩ := hW
  have hA : DataW.TrodAll enc Try.prog W 0 (fun _ => true) true Try.f7.params.toList args.toList ds p := hA0
  rw [Try.params7] at hA hval
  obtain ⟨v0, vs0, d0, ds0, p0, q0, hargs, rfl, rfl, h0, r0⟩ := trodAll_cons hA
  obtain ⟨v1, vs1, d1, ds1, p1, q1, rfl, rfl, rfl, h1, r1⟩ := trodAll_cons r0
  obtain ⟨rfl, rfl, rfl⟩ := trodAll_nil r1
  obtain rfl : args = #[v0, v1] := by cases args; simp_all
  obtain ⟨rfl, rfl⟩ := trodVars_none hV
  obtain ⟨a0, len0, cap0, rfl⟩ := okWide_slice Try.underlying29 (hval 0 29 v0 rfl rfl)
  obtain ⟨a1, len1, cap1, rfl⟩ := okWide_slice Try.underlying29 (hval 1 29 v1 rfl rfl)
  have k0 := h0
  have lt0 : ∀ x ∈ p0, x.block < W.heap.size := by obtain ⟨m, hm⟩ := k0; exact DataW.trod_lt m _ _ _ hm
  have k1 := h1
  have lt1 : ∀ x ∈ p1, x.block < W.heap.size := by obtain ⟨m, hm⟩ := k1; exact DataW.trod_lt m _ _ _ hm
  obtain ⟨m0, w0⟩ := bools_of h0
  obtain ⟨m1, w1⟩ := bools_of h1
  clear hA0 hval0
  refine (walk a0 len0 cap0 a1 len1 cap1 W m0 m1 w0 w1).mono fun e W' ⟨he, bel⟩ => ?_
  subst he
  exact ⟨_, rfl, _, _, _, [], _, [], hW', trodAll_mk1 (shut_bool Try.underlying4 _), (trodAll_cons_mk (Below.trod laidOut (by kernel_rfl) (of_decide_eq_true (by kernel_rfl)) k0 bel lt0) (trodAll_cons_mk (Below.trod laidOut (by kernel_rfl) (of_decide_eq_true (by kernel_rfl)) k1 bel lt1) trodAll_mk0)), rfl, bel.frame _, fun h => by cases h⟩

theorem over : Rows.fnSetNewestPushThenPopRestoresRow.holds Try.pinned (OpenSpec.ofChange Rows.fnSetNewestPushThenPopRestoresSpec) :=
  OpenClaim.holds_of_wide 7 Try.f7 rfl rfl rfl rfl rfl rfl rfl ⟨rfl, rfl, rfl, rfl, rfl⟩ rfl rfl rfl rfl rfl (by kernel_rfl) Try.func7 (by kernel_rfl)
    (of_decide_eq_true (by kernel_rfl)) (by unfold Func.isWrapper; first | (rw [if_pos (by decide +kernel)]; kernel_rfl) | (rw [if_neg (by decide +kernel)]; exact ⟨rfl, rfl⟩))
    (fun os started H enc _ => lifted os started H enc)

/-- ████ THE STATEMENT ████ -/
theorem proved : Rows.FnSetNewestPushThenPopRestoresSaid := over
#print axioms proved
end Go.Proofs.Qxb6617820a.fnSetNewestPushThenPopRestores
