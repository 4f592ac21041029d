/-
  'Rows.FnSetNewestAnswerIsRiseOfRetainedSaid': the walk at every input; the row's step after the guide's way for a law over slices.
-/
import Derived.Test.Qxb6617820aRise0
import Derived.Test.Qxb6617820aRise1a
import Derived.Test.Qxb6617820aRise1b
import Derived.Test.Qxb6617820aRise2a
import Derived.Test.Qxb6617820aRise2b
import Derived.Test.Qxb6617820aRise2c
import Derived.ShutString
import Derived.ChangeOld
import Derived.Below
namespace Go.Proofs.Qxb6617820a.fnSetNewestAnswerIsRiseOfRetained
open Go.ChangeShapes Go.WideShapes Go.ChangeAt Go.RowKit

theorem own : ownKnob Try.prog.godebug = none := by kernel_rfl
theorem laidOut : laidOutB Try.prog = true := by kernel_rfl

set_option maxRecDepth 100000 in
/-- More than 65536 versions. -/
theorem walk_long (a0 : Option Addr) (len0 cap0 : Nat) (a1 : Int) (a2 a3 : Bool) (a4 : Int) (w : World) (m0 : len0 ≤ maxLen) (c0 : ¬ len0 ≤ 65536) :
    Calls Try.prog 6 #[.slice a0 len0 cap0, .int .u8 a1, .bool a2, .bool a3, .int .u64 a4] w fun e w' => e = .returned (.bool true) ∧ Below w.heap.size w w' := by
  unfold maxLen at m0
  have c0' : (65536 : Int) < (len0 : Int) := by omega
  go_enter Try.func6, Try.ntmps6
  go_wp2
  all_goals go_ret
  all_goals exact ⟨rfl, Below.refl _ _⟩

set_option maxRecDepth 100000 in
/-- No such move. -/
theorem walk_op (a0 : Option Addr) (len0 cap0 : Nat) (a1 : Int) (a2 a3 : Bool) (a4 : Int) (w : World) (c0 : len0 ≤ 65536) (c1 : 2 < a1) :
    Calls Try.prog 6 #[.slice a0 len0 cap0, .int .u8 a1, .bool a2, .bool a3, .int .u64 a4] w fun e w' => e = .returned (.bool true) ∧ Below w.heap.size w w' := by
  go_enter Try.func6, Try.ntmps6
  go_wp2
  all_goals go_ret
  all_goals exact ⟨rfl, Below.refl _ _⟩

set_option maxRecDepth 100000 in
/-- Nothing to take out. -/
theorem walk_none (a0 : Option Addr) (cap0 : Nat) (a2 a3 : Bool) (a4 : Int) (w : World) :
    Calls Try.prog 6 #[.slice a0 0 cap0, .int .u8 1, .bool a2, .bool a3, .int .u64 a4] w fun e w' => e = .returned (.bool true) ∧ Below w.heap.size w w' := by
  go_enter Try.func6, Try.ntmps6
  go_wp2
  all_goals go_ret
  all_goals exact ⟨rfl, Below.refl _ _⟩

/-- The walk, at every input. -/
theorem walk (a0 : Option Addr) (len0 cap0 : Nat) (a1 : Int) (a2 a3 : Bool) (a4 : Int) (w : World) (m0 : len0 ≤ maxLen) (h0 : ∃ b off f, Bools w a0 len0 b off f) (w1 : (Lit.int .u8 a1).wf = true) :
    Calls Try.prog 6 #[.slice a0 len0 cap0, .int .u8 a1, .bool a2, .bool a3, .int .u64 a4] w fun e w' => e = .returned (.bool true) ∧ Below w.heap.size w w' := by
  obtain ⟨b0, o0, f, h0⟩ := h0
  have hb := bounds_u8 w1
  by_cases c0 : len0 ≤ 65536
  · by_cases c1 : 2 < a1
    · exact walk_op a0 len0 cap0 a1 a2 a3 a4 w c0 c1
    · have hop : a1 = 0 ∨ a1 = 1 ∨ a1 = 2 := by omega
      rcases hop with rfl | rfl | rfl
      · exact rise0 a0 len0 cap0 b0 o0 f a2 a3 a4 w c0 h0
      · have hn : len0 = 0 ∨ len0 = 1 ∨ 2 ≤ len0 := by omega
        rcases hn with hn | hn | hn
        · subst hn; exact walk_none a0 cap0 a2 a3 a4 w
        · exact rise1a a0 len0 cap0 b0 o0 f a2 a3 a4 w c0 hn h0
        · exact rise1b a0 len0 cap0 b0 o0 f a2 a3 a4 w c0 hn h0
      · have hn : len0 = 0 ∨ len0 = 1 ∨ 2 ≤ len0 := by omega
        rcases hn with hn | hn | hn
        · exact rise2a a0 len0 cap0 b0 o0 f a2 a3 a4 w c0 hn h0
        · exact rise2b a0 len0 cap0 b0 o0 f a2 a3 a4 w c0 hn h0
        · exact rise2c a0 len0 cap0 b0 o0 f a2 a3 a4 w c0 hn h0
  · exact walk_long a0 len0 cap0 a1 a2 a3 a4 w m0 c0

set_option maxRecDepth 100000 in
theorem lifted (os : Os) (started : os.Started) (H : Type) (enc : TypeId × Value → H) :
    ReturnsInHanded {} Try.checked os 6 .any (Rows.fnSetNewestAnswerIsRiseOfRetainedSpec.pre6 enc Try.prog Try.f6 Rows.fnSetNewestAnswerIsRiseOfRetainedRow.domain false) (Rows.fnSetNewestAnswerIsRiseOfRetainedSpec.post enc Try.prog Try.f6 false true false false) := by
  refine returnsInHanded_of_change (C := Try.checked) own started (by kernel_rfl) Try.func6
    (ChangeSpec.witness6 (enc := enc) (C := Try.checked) false ⟨#[], #[.slice none 0 0, .int .u8 0, .bool false, .bool false, .int .u64 0], []⟩ 8 (by kernel_rfl) (by kernel_rfl) (by kernel_rfl) (by kernel_rfl)) ?_
  intro W base args ds gs before hval0 hW hcnd _
  have hval : ∀ (j : Nat) t v, Try.f6.params[j]? = some t → args[j]? = some v → Value.okWide Try.prog W .any base t v := hval0
  have hW' := hW
  obtain ⟨p, q, hA0, hV, rfl, hfz, hnd⟩ := hW
  have hA : DataW.TrodAll enc Try.prog W 0 (fun _ => true) true Try.f6.params.toList args.toList ds p := hA0
  rw [Try.params6] at hA hval
  obtain ⟨v0, vs0, d0, ds0, p0, q0, hargs, rfl, rfl, h0, r0⟩ := trodAll_cons hA
  obtain ⟨v1, vs1, d1, ds1, p1, q1, rfl, rfl, rfl, h1, r1⟩ := trodAll_cons r0
  obtain ⟨v2, vs2, d2, ds2, p2, q2, rfl, rfl, rfl, h2, r2⟩ := trodAll_cons r1
  obtain ⟨v3, vs3, d3, ds3, p3, q3, rfl, rfl, rfl, h3, r3⟩ := trodAll_cons r2
  obtain ⟨v4, vs4, d4, ds4, p4, q4, rfl, rfl, rfl, h4, r4⟩ := trodAll_cons r3
  obtain ⟨rfl, rfl, rfl⟩ := trodAll_nil r4
  obtain rfl : args = #[v0, v1, v2, v3, v4] := by cases args; simp_all
  obtain ⟨rfl, rfl⟩ := trodVars_none hV
  obtain ⟨a0, len0, cap0, rfl⟩ := okWide_slice Try.underlying29 (hval 0 29 v0 rfl rfl)
  have k0 := h0
  have lt0 : ∀ x ∈ p0, x.block < W.heap.size := by obtain ⟨m, hm⟩ := k0; exact DataW.trod_lt m _ _ _ hm
  obtain ⟨m0, w0⟩ := bools_of h0
  obtain ⟨a1, rfl, rfl, rfl, w1⟩ := open_int Try.underlying5 (hval 1 5 v1 rfl rfl) h1
  obtain ⟨a2, rfl, rfl, rfl⟩ := open_bool Try.underlying4 (hval 2 4 v2 rfl rfl) h2
  obtain ⟨a3, rfl, rfl, rfl⟩ := open_bool Try.underlying4 (hval 3 4 v3 rfl rfl) h3
  obtain ⟨a4, rfl, rfl, rfl, w4⟩ := open_int Try.underlying30 (hval 4 30 v4 rfl rfl) h4
  clear hA0 hval0
  refine (walk a0 len0 cap0 a1 a2 a3 a4 W m0 w0 w1).mono fun e W' ⟨he, bel⟩ => ?_
  subst he
  exact ⟨_, rfl, _, _, _, [], _, [], hW', trodAll_mk1 (shut_bool Try.underlying4 _), (trodAll_cons_mk (Below.trod laidOut (by kernel_rfl) (of_decide_eq_true (by kernel_rfl)) k0 bel lt0) (trodAll_cons_mk (shut_int Try.underlying5 w1) (trodAll_cons_mk (shut_bool Try.underlying4 _) (trodAll_cons_mk (shut_bool Try.underlying4 _) (trodAll_cons_mk (shut_int Try.underlying30 w4) trodAll_mk0))))), rfl, bel.frame _, fun h => by cases h⟩

theorem over : Rows.fnSetNewestAnswerIsRiseOfRetainedRow.holds Try.pinned (OpenSpec.ofChange Rows.fnSetNewestAnswerIsRiseOfRetainedSpec) :=
  OpenClaim.holds_of_wide 6 Try.f6 rfl rfl rfl rfl rfl rfl rfl ⟨rfl, rfl, rfl, rfl, rfl⟩ rfl rfl rfl rfl rfl (by kernel_rfl) Try.func6 (by kernel_rfl)
    (of_decide_eq_true (by kernel_rfl)) (by unfold Func.isWrapper; first | (rw [if_pos (by decide +kernel)]; kernel_rfl) | (rw [if_neg (by decide +kernel)]; exact ⟨rfl, rfl⟩))
    (fun os started H enc _ => lifted os started H enc)

/-- ████ THE STATEMENT ████ -/
theorem proved : Rows.FnSetNewestAnswerIsRiseOfRetainedSaid := over
#print axioms proved
end Go.Proofs.Qxb6617820a.fnSetNewestAnswerIsRiseOfRetained
