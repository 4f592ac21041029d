/-
  THE EXPORTED WRAPPERS AND THE LAWS' OWN COUNTS.
-/
import Derived.Test.Qxb6617820aSet
namespace Go.Proofs.Qxb6617820a
open Go.RowKit

/-- 'ZZSetNewest': push. -/
theorem zzSet_push {B : Nat} (w : World) (rb : Nat) (x : Nat × Bool) (l : List (Nat × Bool)) (hr : w.cell? ⟨rb, 0, none⟩ = some (.pointer (hd l))) (hf : w.frozen? ⟨rb, 0, none⟩ = false)
    (h : Chain B w (x :: l)) (hne : ∀ y ∈ x :: l, y.1 ≠ rb) :
    Calls Try.prog 23 #[.pointer (some ⟨rb, 0, none⟩), .pointer (hd (x :: l))] w fun e w' => e = .returned (.int .i64 (ret (x :: l) - ret l)) ∧ w.setCell ⟨rb, 0, none⟩ (.pointer (hd (x :: l))) = w' := by
  go_enter Try.func23, Try.ntmps23
  go_wp2_with fail
  refine (setNewest_push w rb x l hr hf h hne).mono ?_
  rintro e w' ⟨rfl, rfl⟩
  go_wp2
  go_ret
  exact ⟨rfl, rfl⟩

/-- 'ZZSetNewest': pop. -/
theorem zzSet_pop {B : Nat} (w : World) (rb : Nat) (x : Nat × Bool) (l : List (Nat × Bool)) (hr : w.cell? ⟨rb, 0, none⟩ = some (.pointer (hd (x :: l)))) (hf : w.frozen? ⟨rb, 0, none⟩ = false)
    (h : Chain B w (x :: l)) (hne : ∀ y ∈ x :: l, y.1 ≠ rb) :
    Calls Try.prog 23 #[.pointer (some ⟨rb, 0, none⟩), .pointer (hd l)] w fun e w' => e = .returned (.int .i64 (ret l - ret (x :: l))) ∧ w.setCell ⟨rb, 0, none⟩ (.pointer (hd l)) = w' := by
  go_enter Try.func23, Try.ntmps23
  go_wp2_with fail
  refine (setNewest_pop w rb x l hr hf h hne).mono ?_
  rintro e w' ⟨rfl, rfl⟩
  go_wp2
  go_ret
  exact ⟨rfl, rfl⟩

/-- 'ZZSetNewest': swap. -/
theorem zzSet_swap {B : Nat} (w : World) (rb : Nat) (x y : Nat × Bool) (t : List (Nat × Bool)) (hr : w.cell? ⟨rb, 0, none⟩ = some (.pointer (hd (x :: t)))) (hf : w.frozen? ⟨rb, 0, none⟩ = false)
    (h : Chain B w (x :: t)) (h' : Chain B w (y :: t)) (hne : ∀ z ∈ x :: t, z.1 ≠ rb) (hne' : y.1 ≠ rb) :
    Calls Try.prog 23 #[.pointer (some ⟨rb, 0, none⟩), .pointer (hd (y :: t))] w fun e w' => e = .returned (.int .i64 (ret (y :: t) - ret (x :: t))) ∧ w.setCell ⟨rb, 0, none⟩ (.pointer (hd (y :: t))) = w' := by
  go_enter Try.func23, Try.ntmps23
  go_wp2_with fail
  refine (setNewest_swap w rb x y t hr hf h h' hne hne').mono ?_
  rintro e w' ⟨rfl, rfl⟩
  go_wp2
  go_ret
  exact ⟨rfl, rfl⟩

/-- 'ZZRowRetained' -/
theorem zzRetained_any {B : Nat} (w : World) (rb : Nat) (l : List (Nat × Bool)) (hr : w.cell? ⟨rb, 0, none⟩ = some (.pointer (hd l))) (h : Chain B w l) (hl : l.length ≤ 1000000) :
    Calls Try.prog 21 #[.pointer (some ⟨rb, 0, none⟩)] w fun e w' => e = .returned (.int .i64 (ret l)) ∧ w = w' := by
  go_enter Try.func21, Try.ntmps21
  go_wp2_with fail
  refine (rowRetained_any w rb l hr h hl).mono ?_
  rintro e w' ⟨rfl, rfl⟩
  go_wp2
  go_ret
  exact ⟨rfl, rfl⟩

/-- 'ZZRowNewest' -/
theorem zzNewest_any (w : World) (rb : Nat) (u : Option Addr) (hr : w.cell? ⟨rb, 0, none⟩ = some (.pointer u)) :
    Calls Try.prog 24 #[.pointer (some ⟨rb, 0, none⟩)] w fun e w' => e = .returned (.pointer u) ∧ w = w' := by
  go_enter Try.func24, Try.ntmps24
  go_wp2
  go_ret
  exact ⟨rfl, rfl⟩

/-- 'ZZVersionPrev' -/
theorem zzPrev_any {B : Nat} (w : World) (x : Nat × Bool) (t : List (Nat × Bool)) (h : Chain B w (x :: t)) :
    Calls Try.prog 28 #[.pointer (hd (x :: t))] w fun e w' => e = .returned (.pointer (hd t)) ∧ w = w' := by
  have h3 := h.prev
  rw [hd_cons]
  go_enter Try.func28, Try.ntmps28
  go_wp2
  go_ret
  exact ⟨rfl, rfl⟩

/-- 'ZZVersionDeleted' -/
theorem zzDeleted_any {B : Nat} (w : World) (x : Nat × Bool) (t : List (Nat × Bool)) (h : Chain B w (x :: t)) :
    Calls Try.prog 29 #[.pointer (hd (x :: t))] w fun e w' => e = .returned (.bool x.2) ∧ w = w' := by
  have h3 := h.del
  rw [hd_cons]
  go_enter Try.func29, Try.ntmps29
  go_wp2
  go_ret
  exact ⟨rfl, rfl⟩

/-- 'zzChainRet' -/
theorem zzChainRet_any (w : World) (d : Bool) (n : Nat) (hn : n ≤ 1000000) :
    Calls Try.prog 22 #[.bool d, .int .i64 n] w fun e w' => e = .returned (.int .i64 (chainRet d n)) ∧ w = w' := by
  by_cases h0 : n = 0
  · subst h0
    go_enter Try.func22, Try.ntmps22
    go_wp2
    go_ret
    exact ⟨ret_int (by simp [chainRet]), rfl⟩
  · have hp : (0 : Int) < (n : Int) := by omega
    cases d
    · go_enter Try.func22, Try.ntmps22
      go_wp2
      go_ret
      exact ⟨ret_int (by simp [chainRet, h0, bit]; omega), rfl⟩
    · go_enter Try.func22, Try.ntmps22
      go_wp2
      go_ret
      exact ⟨ret_int (by simp [chainRet, h0, bit]; omega), rfl⟩

/-- WHAT THE WALK IS TOLD OF A []bool: its address is that of the block b from off on, where it has an element; element i is f i. -/
structure Bools (w : World) (a : Option Addr) (len : Nat) (b off : Nat) (f : Nat → Bool) : Prop where
  addr : 0 < len → a = some ⟨b, off, none⟩
  old : 0 < len → b < w.heap.size
  cell : ∀ i, i < len → w.cell? ⟨b, off + i, none⟩ = some (.bool (f i))

/-- 'zzRetOf' -/
theorem zzRetOf_any (w : World) (a : Option Addr) (len cap : Nat) (b off : Nat) (f : Nat → Bool) (h : Bools w a len b off f) (hn : len ≤ 1000000) :
    Calls Try.prog 19 #[.slice a len cap] w fun e w' => e = .returned (.int .i64 (chainRet (f 0) len)) ∧ w = w' := by
  by_cases h0 : len = 0
  · subst h0
    go_enter Try.func19, Try.ntmps19
    go_wp2
    go_ret
    exact ⟨ret_int (by simp [chainRet]), rfl⟩
  · have hp : (0 : Int) < (len : Int) := by omega
    have hp' : ((len : Int) == 0) = false := by simp; omega
    have hc := h.cell 0 (by omega)
    have ha := h.addr (by omega)
    subst ha
    rw [Nat.add_zero] at hc
    go_enter Try.func19, Try.ntmps19
    go_wp2_with fail
    refine (zzChainRet_any _ _ _ hn).mono ?_
    rintro e w' ⟨rfl, rfl⟩
    go_wp2
    go_ret
    exact ⟨rfl, rfl⟩

end Go.Proofs.Qxb6617820a
