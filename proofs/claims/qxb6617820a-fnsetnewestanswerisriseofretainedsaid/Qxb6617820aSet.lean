/-
  'setNewest' AND THE SMALL GETTERS.
-/
import Derived.Test.Qxb6617820aWalks
namespace Go.Proofs.Qxb6617820a
open Go.RowKit

theorem same_below {x : Nat × Bool} {t u : List (Nat × Bool)} (h : ∀ z ∈ u, z.1 < x.1) : same u (x :: t) = false := by
  cases u with
  | nil => rfl
  | cons z v => have := h z (List.mem_cons_self ..); simp [same]; omega

theorem vret_bd (l : List (Nat × Bool)) : 0 ≤ vret l ∧ vret l ≤ 2 := by
  cases l with
  | nil => simp [vret]
  | cons x t => have := bit_bd x.2; simp only [vret]; split <;> omega

theorem push_rise (x : Nat × Bool) (l : List (Nat × Bool)) : vret (x :: l) - bit (top l) = ret (x :: l) - ret l := by
  cases l with
  | nil => simp [vret, top, ret, bit]
  | cons y t => simp [vret, top, ret]; omega

theorem pop_rise (x : Nat × Bool) (l : List (Nat × Bool)) : bit (top l) - vret (x :: l) = ret l - ret (x :: l) := by
  have := push_rise x l; omega

theorem swap_rise (x y : Nat × Bool) (t : List (Nat × Bool)) : vret (y :: t) - vret (x :: t) = ret (y :: t) - ret (x :: t) := by
  cases t with
  | nil => simp [vret, ret]
  | cons z t => simp [vret, ret]; omega

set_option maxHeartbeats 400000 in
/-- 'setNewest', the new version ahead of the newest. -/
theorem setNewest_push {B : Nat} (w : World) (rb : Nat) (x : Nat × Bool) (l : List (Nat × Bool)) (hr : w.cell? ⟨rb, 0, none⟩ = some (.pointer (hd l))) (hf : w.frozen? ⟨rb, 0, none⟩ = false)
    (h : Chain B w (x :: l)) (hne : ∀ y ∈ x :: l, y.1 ≠ rb) :
    Calls Try.prog 33 #[.pointer (some ⟨rb, 0, none⟩), .pointer (hd (x :: l))] w fun e w' => e = .returned (.int .i64 (ret (x :: l) - ret l)) ∧ w.setCell ⟨rb, 0, none⟩ (.pointer (hd (x :: l))) = w' := by
  have hC : Chain B (w.setCell ⟨rb, 0, none⟩ (.pointer (hd (x :: l)))) (x :: l) := h.setCell _ hne
  have h3 := hC.prev
  have he := eql_chains _ hC.tail hC.tail
  rw [same_refl] at he
  have hv := vret_bd (x :: l)
  have hb := bit_bd (top l)
  rw [← push_rise]
  rw [hd_cons] at hC h3 he ⊢
  go_enter Try.func33, Try.ntmps33
  go_wp2_with (first | (go_at_call 36; refine (vretained_any _ x l hC).mono ?_; rintro e w' ⟨rfl, rfl⟩) | (go_at_call 35; refine (deleteMark_any _ l hC.tail).mono ?_; rintro e w' ⟨rfl, rfl⟩))
  go_ret
  exact ⟨rfl, rfl⟩

set_option maxHeartbeats 400000 in
/-- 'setNewest', the version under the newest put back. -/
theorem setNewest_pop {B : Nat} (w : World) (rb : Nat) (x : Nat × Bool) (l : List (Nat × Bool)) (hr : w.cell? ⟨rb, 0, none⟩ = some (.pointer (hd (x :: l)))) (hf : w.frozen? ⟨rb, 0, none⟩ = false)
    (h : Chain B w (x :: l)) (hne : ∀ y ∈ x :: l, y.1 ≠ rb) :
    Calls Try.prog 33 #[.pointer (some ⟨rb, 0, none⟩), .pointer (hd l)] w fun e w' => e = .returned (.int .i64 (ret l - ret (x :: l))) ∧ w.setCell ⟨rb, 0, none⟩ (.pointer (hd l)) = w' := by
  have hC : Chain B (w.setCell ⟨rb, 0, none⟩ (.pointer (hd l))) (x :: l) := h.setCell _ hne
  have h3 := hC.prev
  have he := eql_chains _ hC.tail hC.tail
  rw [same_refl] at he
  have hv := vret_bd (x :: l)
  have hb := bit_bd (top l)
  rw [← pop_rise]
  rw [hd_cons] at hr
  cases l with
  | nil =>
    rw [hd_nil] at h3 he hC ⊢
    go_enter Try.func33, Try.ntmps33
    go_wp2_with (first | (go_at_call 36; refine (vretained_any _ x [] hC).mono ?_; rintro e w' ⟨rfl, rfl⟩) | (go_at_call 35; refine (deleteMark_any _ [] hC.tail).mono ?_; rintro e w' ⟨rfl, rfl⟩))
    go_ret
    exact ⟨rfl, rfl⟩
  | cons y u =>
    have h4 := hC.tail.prev
    have he2 := eql_chains _ hC.tail.tail hC
    rw [same_below (fun z hz => Nat.lt_trans (hC.2.2.2.2.2.1 z hz) (hC.2.2.1 y (List.mem_cons_self ..)))] at he2
    simp only [hd_cons] at h3 h4 he hC he2 ⊢
    go_enter Try.func33, Try.ntmps33
    go_wp2_with (first | (go_at_call 36; refine (vretained_any _ x (y :: u) hC).mono ?_; rintro e w' ⟨rfl, rfl⟩) | (go_at_call 35; refine (deleteMark_any _ (y :: u) hC.tail).mono ?_; rintro e w' ⟨rfl, rfl⟩))
    go_ret
    exact ⟨rfl, rfl⟩

set_option maxHeartbeats 400000 in
/-- 'setNewest', a new version in the newest's place. -/
theorem setNewest_swap {B : Nat} (w : World) (rb : Nat) (x y : Nat × Bool) (t : List (Nat × Bool)) (hr : w.cell? ⟨rb, 0, none⟩ = some (.pointer (hd (x :: t)))) (hf : w.frozen? ⟨rb, 0, none⟩ = false)
    (h : Chain B w (x :: t)) (h' : Chain B w (y :: t)) (hne : ∀ z ∈ x :: t, z.1 ≠ rb) (hne' : y.1 ≠ rb) :
    Calls Try.prog 33 #[.pointer (some ⟨rb, 0, none⟩), .pointer (hd (y :: t))] w fun e w' => e = .returned (.int .i64 (ret (y :: t) - ret (x :: t))) ∧ w.setCell ⟨rb, 0, none⟩ (.pointer (hd (y :: t))) = w' := by
  have hC : Chain B (w.setCell ⟨rb, 0, none⟩ (.pointer (hd (y :: t)))) (x :: t) := h.setCell _ hne
  have hD : Chain B (w.setCell ⟨rb, 0, none⟩ (.pointer (hd (y :: t)))) (y :: t) := h'.setCell _ (fun z hz => by rcases List.mem_cons.1 hz with e | e; (rw [e]; exact hne'); exact hne z (List.mem_cons_of_mem _ e))
  have h3 := hC.prev
  have h4 := hD.prev
  have he := eql_chains _ hC.tail hC
  have he2 := eql_chains _ hC.tail hD
  rw [same_below hC.2.2.1] at he
  rw [same_below hD.2.2.1] at he2
  have hv := vret_bd (x :: t)
  have hv' := vret_bd (y :: t)
  rw [← swap_rise]
  rw [hd_cons] at hr
  simp only [hd_cons] at hC hD h3 h4 he he2 ⊢
  go_enter Try.func33, Try.ntmps33
  go_wp2_with fail
  refine (vretained_any _ y t hD).mono ?_
  rintro e w' ⟨rfl, rfl⟩
  go_wp2_with fail
  refine (vretained_any _ x t hC).mono ?_
  rintro e w' ⟨rfl, rfl⟩
  go_wp2
  go_ret
  exact ⟨rfl, rfl⟩

end Go.Proofs.Qxb6617820a
