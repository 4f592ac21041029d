/-
  'zzDec': the decimal text of a number.
-/
import Derived.Test.Qxb6617845aAll
import Derived.Deep.OwnRows
namespace Go.Proofs.Qxb6617845a
open Go.RowKit

/-- The buffer while the digits are written from its end: from place k on they stand; M is still to be written. -/
structure Dc (w : World) (bb M k : Nat) (F : Nat → Int) (wr : World) : Prop where
  le : k ≤ 20
  small : M < 10 ^ k
  more : k = 20 ∨ 1 ≤ M
  row : wr.rowIs bb 31 20 (fun j => .int .u8 (F j))
  digs : ∀ j, k ≤ j → j < 20 → 48 ≤ F j ∧ F j ≤ 57
  ge : w.heap.size ≤ bb
  grown : Grown w wr

theorem Dc.pos {w : World} {bb M k : Nat} {F : Nat → Int} {wr : World} (h : Dc w bb M k F wr) : 1 ≤ k := by
  rcases Nat.eq_zero_or_pos k with e | e
  · subst e
    have := h.small
    rcases h.more with e | e
    · omega
    · simp at this; omega
  · exact e

theorem Dc.start (w : World) (N : Nat) (hN : N ≤ 18446744073709551615) : Dc w w.heap.size N 20 (fun _ => 0) (w.alloc (.cells #[.int .u8 0, .int .u8 0, .int .u8 0, .int .u8 0, .int .u8 0, .int .u8 0, .int .u8 0, .int .u8 0, .int .u8 0, .int .u8 0, .int .u8 0, .int .u8 0, .int .u8 0, .int .u8 0, .int .u8 0, .int .u8 0, .int .u8 0, .int .u8 0, .int .u8 0, .int .u8 0] 31)) := by
  refine ⟨Nat.le_refl _, by omega, .inl rfl, ?_, fun j h1 h2 => by omega, Nat.le_refl _, (Grown.refl w).alloc _ _⟩
  refine World.rowIs_alloc w _ 31 _ fun i hi => ?_
  have hi' : i < 20 := hi
  rcases (show i = 0 ∨ i = 1 ∨ i = 2 ∨ i = 3 ∨ i = 4 ∨ i = 5 ∨ i = 6 ∨ i = 7 ∨ i = 8 ∨ i = 9 ∨ i = 10 ∨ i = 11 ∨ i = 12 ∨ i = 13 ∨ i = 14 ∨ i = 15 ∨ i = 16 ∨ i = 17 ∨ i = 18 ∨ i = 19 by omega) with rfl | rfl | rfl | rfl | rfl | rfl | rfl | rfl | rfl | rfl | rfl | rfl | rfl | rfl | rfl | rfl | rfl | rfl | rfl | rfl <;> rfl

/-- What is stored at one place. -/
def put (F : Nat → Int) (i : Nat) (c : Int) : Nat → Int := fun j => if j = i then c else F j

theorem Dc.store {w : World} {bb M k : Nat} {F : Nat → Int} {wr : World} (h : Dc w bb M k F wr) (c : Int) (hc : 48 ≤ c ∧ c ≤ 57) :
    (wr.setCell ⟨bb, k - 1, none⟩ (.int .u8 c)).rowIs bb 31 20 (fun j => .int .u8 (put F (k - 1) c j)) ∧ (∀ j, k - 1 ≤ j → j < 20 → 48 ≤ put F (k - 1) c j ∧ put F (k - 1) c j ≤ 57) ∧ Grown w (wr.setCell ⟨bb, k - 1, none⟩ (.int .u8 c)) := by
  refine ⟨(h.row.set (k - 1) _).congr (fun i _ => by unfold put; split <;> rfl), fun j h1 h2 => ?_, h.grown.setCell h.ge _⟩
  unfold put
  by_cases e : j = k - 1
  · rw [if_pos e]; exact hc
  · rw [if_neg e]; exact h.digs j (by omega) h2

theorem Dc.step {w : World} {bb M k : Nat} {F : Nat → Int} {wr : World} (h : Dc w bb M k F wr) (hM : 10 ≤ M) (c : Int) (hc : 48 ≤ c ∧ c ≤ 57) :
    Dc w bb (M / 10) (k - 1) (put F (k - 1) c) (wr.setCell ⟨bb, k - 1, none⟩ (.int .u8 c)) := by
  have hp := h.pos
  have hs := h.small
  obtain ⟨h1, h2, h3⟩ := h.store c hc
  refine ⟨by have := h.le; omega, ?_, .inr (by omega), h1, h2, h.ge, h3⟩
  rw [show k = (k - 1) + 1 by omega, Nat.pow_succ] at hs
  exact Nat.div_lt_of_lt_mul (by rw [Nat.mul_comm]; exact hs)

/-- The buffer from place k - 1 on, as a slice. -/
theorem sl20 (bb k : Nat) (h1 : 1 ≤ k) (h2 : k ≤ 20) (wx : World) : (Instr.sliceAt 31 (.pointer (some ⟨bb, 0, none⟩)) (some (.int .i64 ((k : Int) - 1))) none none).run Try.prog wx = .ok (.slice (some ⟨bb, k - 1, none⟩) (20 - (k - 1)) (20 - (k - 1))) wx := by
  have ha : Try.prog.arrayLen 31 = 20 := by kernel_rfl
  have hsz : (sizeOf (Try.prog.elem 31)).run Try.prog wx = .ok 1 wx := by kernel_rfl
  have ek : ((k : Int) - 1).toNat = k - 1 := by omega
  rw [run_sliceAt_array_l (P := Try.prog) wx 31 ⟨bb, 0, none⟩ Try.underlying31 .i64 ((k : Int) - 1) (by omega) (by rw [ha]; omega), hsz, ha, ek]
  show Result.ok (slicedAt ⟨bb, 0, none⟩ (k - 1) 20 20 1) wx = _
  unfold slicedAt
  rw [if_neg (by omega), Nat.mul_one]
  congr 3
  unfold Addr.add
  by_cases e : k - 1 = 0
  · simp [e]
  · simp [e]

/-- The digits from place i on. -/
def digsFrom (F : Nat → Int) (i : Nat) : List Int := (List.range (20 - i)).map (fun j => F (i + j))

theorem digsFrom_len (F : Nat → Int) (i : Nat) : (digsFrom F i).length = 20 - i := by simp [digsFrom]

theorem digsFrom_get (F : Nat → Int) (i j : Nat) (h : j < 20 - i) : (digsFrom F i).getD j 0 = F (i + j) := by
  simp [digsFrom, List.getD, h]

/-- That slice, as a string. -/
theorem cv20 (wx : World) (bb i : Nat) (F : Nat → Int) (hr : wx.rowIs bb 31 20 (fun j => .int .u8 (F j))) :
    (convert 27 9 (.slice (some ⟨bb, i, none⟩) (20 - i) (20 - i))).run Try.prog wx = .ok (.string (strOfNums (digsFrom F i))) wx :=
  run_convert_bytes_arg (P := Try.prog) wx 27 5 Try.underlying27 Try.underlying5 bb i (20 - i) (20 - i) (digsFrom F i) (digsFrom_len F i)
    (fun j hj => by rw [digsFrom_get F i j hj]; exact hr.cell (i := i + j) (by omega)) 9 Try.underlying9

theorem digsFrom_ok (F : Nat → Int) (i : Nat) (h : ∀ j, i ≤ j → j < 20 → 48 ≤ F j ∧ F j ≤ 57) : okS (strOfNums (digsFrom F i)) = true := by
  refine okS_nums _ fun n hn => ?_
  obtain ⟨j, hj, rfl⟩ := List.mem_map.1 hn
  have := List.mem_range.1 hj
  exact h _ (by omega) (by omega)

set_option maxHeartbeats 400000 in
/-- 'zzDec' -/
theorem zzDec_any (N : Nat) (w : World) (hN : N ≤ 18446744073709551615) :
    Calls Try.prog 8 #[.int .u64 (N : Int)] w fun e w' => ∃ t : ByteArray, 0 < t.size ∧ t.size ≤ 20 ∧ okS t = true ∧ e = .returned (.string t) ∧ Grown w w' := by
  have hst := Dc.start w N hN
  go_enter Try.func8, Try.ntmps8
  go_wp2
  obtain ⟨bb, hbb⟩ : ∃ bb, bb = w.heap.size := ⟨_, rfl⟩
  rw [← hbb] at hst
  rw [← hbb]
  clear hbb
  go_loopg [0, 4] 20 (fun g nv iv wr => ∃ (M k : Nat) (F : Nat → Int), k ≤ g ∧ M ≤ 18446744073709551615 ∧ nv = .int .u64 M ∧ iv = .int .i64 k ∧ Dc w bb M k F wr)
  case atStart => exact ⟨N, 20, _, Nat.le_refl _, hN, rfl, rfl, hst⟩
  case round =>
    clear hst
    obtain ⟨M, k, F, hg, hM, rfl, rfl, D⟩ := hrel
    have hk1 := D.pos
    have hk2 := D.le
    have hcell := D.row.cell (i := k - 1) (by omega)
    have hfree := D.row.frozen (k - 1)
    by_cases h10 : 10 ≤ M
    · have ht : ((M : Int) / 10 == 0) = false := by rw [beq_eq_false_iff_ne]; omega
      go_wp2
      go_roundg (k - 1)
      case measure => omega
      case rel => exact ⟨M / 10, k - 1, _, Nat.le_refl _, by omega, by go_num, by go_num, D.step h10 (48 + (M : Int) % 10) (by omega)⟩
    · have ht : ((M : Int) / 10 == 0) = true := by rw [beq_iff_eq]; omega
      obtain ⟨s1, s2, s3⟩ := D.store (48 + (M : Int) % 10) (by omega)
      have hsl := sl20 bb k hk1 hk2
      have hcv := cv20 _ bb (k - 1) _ s1
      have S2 : Hid (∀ j, k - 1 ≤ j → j < 20 → 48 ≤ put F (k - 1) (48 + (M : Int) % 10) j ∧ put F (k - 1) (48 + (M : Int) % 10) j ≤ 57) := s2
      clear s1 s2 D
      go_wp2
      go_ret
      exact ⟨_, by rw [strOfNums_size, digsFrom_len]; omega, by rw [strOfNums_size, digsFrom_len]; omega, digsFrom_ok _ _ S2.out, rfl, s3⟩

end Go.Proofs.Qxb6617845a
