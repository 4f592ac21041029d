/-
  THE WALK OF 'FnSetNewestAnswerIsRiseOfRetained': op 2 (a new version in the newest one's place), no version.
-/
import Derived.Test.Qxb6617820aNod
import Derived.Deep.QuietTactic
import Derived.BigQuiet
namespace Go.Proofs.Qxb6617820a
open Go.RowKit

set_option maxRecDepth 100000 in
set_option maxHeartbeats 1000000 in
theorem rise2a (a0 : Option Addr) (n cap b0 o0 : Nat) (f : Nat → Bool) (vd gn : Bool) (ls : Int) (w : World) (m0 : n ≤ 65536) (c0 : n = 0) (h0 : Bools w a0 n b0 o0 f) :
    Calls Try.prog 6 #[.slice a0 n cap, .int .u8 2, .bool vd, .bool gn, .int .u64 ls] w fun e w' => e = .returned (.bool true) ∧ Below w.heap.size w w' := by
  have q1 : decide ((65536 : Int) < (n : Int)) = false := by simp; omega
  have q2 : ((n : Int) == 0) = true := by simp; omega
  have q3 : n ≤ 0 := by omega
  have H0 : Hid (Bools w a0 n b0 o0 f) := h0
  have HC : Hid (n = 0) := c0
  clear h0 c0
  have hmk := run_make_row' (P := Try.prog) 32 33 (.pointer none) 8 Try.underlying32 info33 rfl .i64 .i64 n (by omega) (by omega)
  go_enter Try.func6, Try.ntmps6
  go_wp2
  clear hmk
  obtain ⟨nb, hnb⟩ : ∃ nb, nb = w.heap.size := ⟨_, rfl⟩
  have hst := Nod.start w n f
  obtain ⟨w1, hw1⟩ : ∃ w1, w1 = w.alloc (.cells (madeCells #[.pointer none] n) 33) := ⟨_, rfl⟩
  rw [← hnb, ← hw1]
  go_loopg [13, 14] n (fun gg p i wr => ∃ (q : Nat) (l : List (Nat × Bool)), q ≤ gg ∧ p = .pointer (hd l) ∧ i = .int .i64 ((q : Int) - 1) ∧ Nod w nb n f q l wr)
  case atStart => exact ⟨n, [], Nat.le_refl _, rfl, rfl, by rw [hnb, hw1]; exact hst⟩
  case round =>
    clear hst hnb hw1
    obtain ⟨q, l, hq, rfl, rfl, R⟩ := hrel
    have hln := R.len
    match q, hq, R, hln with
    | k + 1, hq, R, hln =>
      omega
    | 0, hq, R, hln =>
      have A := R.all
      have hll := A.len
      have hbase := A.base
      clear R
      have hcn := HC.out
      obtain rfl : l = [] := List.length_eq_zero_iff.1 (by omega)
      have h2' : ¬ (2 : Int) ≤ (n : Int) := by omega
      have hlen : (([] : List (Nat × Bool))).length ≤ 70000 := by omega
      have HL : Hid ((([] : List (Nat × Bool))).length = n) := hll
      clear hcn hll
      go_wp2_with fail
      clear h2'
      refine (zzRetOf_any _ _ _ _ _ _ _ (H0.out.later A.below) (by omega)).mono ?_
      rintro e w2 ⟨rfl, rfl⟩
      rw [hbase]
      clear hbase
      go_wp2_with fail
      refine (newRow_any _ _ _ _ _).mono ?_
      rintro e w2 ⟨rfl, rfl⟩
      have B := Rw.start A gn ls
      have A1 := A.alloc (.cells #[.pointer (hd ([] : List (Nat × Bool))), .bool gn, .pointer none, .int .u64 ls] 50)
      obtain ⟨rb, hrb⟩ : ∃ rb, rb = wr.heap.size := ⟨_, rfl⟩
      obtain ⟨w2, hw2⟩ : ∃ w2, w2 = wr.alloc (.cells #[.pointer (hd ([] : List (Nat × Bool))), .bool gn, .pointer none, .int .u64 ls] 50) := ⟨_, rfl⟩
      rw [← hrb, ← hw2] at B
      rw [← hw2] at A1
      rw [← hrb, ← hw2]
      clear hrb hw2 A
      have hrr : (ret ([] : List (Nat × Bool)) != ret ([] : List (Nat × Bool))) = false := by simp
      go_wp2_with fail
      refine (zzRetained_any _ rb ([] : List (Nat × Bool)) B.c0 A1.chain (Nat.le_trans hlen (by omega))).mono ?_
      rintro e w3 ⟨rfl, rfl⟩
      go_wp2_with fail
      clear hrr
      refine (newVersion_any _ _ _ _).mono ?_
      rintro e w3 ⟨rfl, rfl⟩
      have CT : Chain w.heap.size w2 [] := trivial
      have C2 := CT.push A1.below.size 0 vd
      have A2 := A1.alloc (.cells #[.int .u64 0, .slice none 0 0, .bool vd, .pointer (hd [])] 48)
      have B2 := B.alloc (.cells #[.int .u64 0, .slice none 0 0, .bool vd, .pointer (hd [])] 48)
      have hnv : w2.heap.size ≠ rb := Nat.ne_of_gt B.lt
      obtain ⟨vb, hvb⟩ : ∃ vb, vb = w2.heap.size := ⟨_, rfl⟩
      obtain ⟨w3, hw3⟩ : ∃ w3, w3 = w2.alloc (.cells #[.int .u64 0, .slice none 0 0, .bool vd, .pointer (hd [])] 48) := ⟨_, rfl⟩
      rw [← hvb, ← hw3] at C2
      rw [← hw3] at A2 B2
      rw [← hvb] at hnv
      have fold : w2.alloc (.cells #[.int .u64 0, .slice none 0 0, .bool vd, .pointer (hd [])] 48) = w3 := hw3.symm
      simp only [hd_nil] at fold
      rw [← hvb, fold]
      clear hvb hw3 A1 B CT fold
      have hret : chainRet vd 1 = ret ((vb, vd) :: []) := by have hll := HL.out; rw [ret_chain, show 1 = ((vb, vd) :: []).length by simp]; rfl
      go_wp2_with fail
      refine (zzChainRet_any _ _ 1 (by omega)).mono ?_
      rintro e w4 ⟨rfl, rfl⟩
      rw [hret]
      clear hret
      go_wp2_with fail
      refine (zzSet_push w3 rb (vb, vd) [] B2.c0 B2.free C2 (fun y hy => by rcases List.mem_cons.1 hy with e | e; (rw [e]; exact hnv); cases e)).mono ?_
      rintro e w4 ⟨rfl, rfl⟩
      have hnm : ∀ y ∈ (vb, vd) :: [], y.1 ≠ rb := fun y hy => by
        rcases List.mem_cons.1 hy with e | e
        · rw [e]; exact hnv
        · exact B2.ne y e
      have A3 := A2.set B2 (.pointer (hd ((vb, vd) :: [])))
      have B3 := B2.set ((vb, vd) :: [])
      have C3 := C2.setCell (a := ⟨rb, 0, none⟩) (.pointer (hd ((vb, vd) :: []))) hnm
      obtain ⟨w4, hw4⟩ : ∃ w4, w4 = w3.setCell ⟨rb, 0, none⟩ (.pointer (hd ((vb, vd) :: []))) := ⟨_, rfl⟩
      rw [← hw4] at A3 B3 C3
      rw [← hw4]
      clear hw4 A2 B2 C2 hnv hnm
      have hneq := neq_same w4 C3
      have hc0 := B3.c0
      rw [hd_cons] at hneq hc0
      have HC3 : Hid (Chain w.heap.size w4 ((vb, vd) :: [])) := C3
      have HB3 : Hid (Rw w nb rb ([] : List (Nat × Bool)) ((vb, vd) :: []) gn ls w4) := B3
      have rb1 := ret_bd ((vb, vd) :: [])
      have rb2 := ret_bd ([] : List (Nat × Bool))
      have hlm : (((vb, vd) :: [])).length ≤ 70000 := by have hll := HL.out; simp
      have hgot : (ret [(vb, vd)] - ret [] != ret [(vb, vd)] - ret []) = false := by simp
      have hgot2 : (ret [(vb, vd)] != ret [(vb, vd)]) = false := by simp
      clear C3 B3
      go_wp2_with fail
      refine (zzNewest_any _ rb _ hc0).mono ?_
      rintro e w5 ⟨rfl, rfl⟩
      go_wp2_with fail
      refine (zzRetained_any _ rb ((vb, vd) :: []) HB3.out.c0 HC3.out (by omega)).mono ?_
      rintro e w5 ⟨rfl, rfl⟩
      go_wp2_with fail
      refine (zzGone_any _ rb gn HB3.out.c1).mono ?_
      rintro e w5 ⟨rfl, rfl⟩
      go_wp2_with fail
      refine (zzListed_any _ rb ls HB3.out.c3).mono ?_
      rintro e w5 ⟨rfl, rfl⟩
      go_wp2_with fail
      refine (zzPaged_any _ rb _ HB3.out.c2).mono ?_
      rintro e w5 ⟨rfl, rfl⟩
      go_wp2_with fail
      have C3 := HC3.out
      clear HC3 HB3 hc0 rb1 rb2 hneq hlm hgot hgot2
      obtain ⟨m, hm⟩ : ∃ m, m = ((vb, vd) :: []) := ⟨_, rfl⟩
      obtain ⟨l, hl⟩ : ∃ l, l = ([] : List (Nat × Bool)) := ⟨_, rfl⟩
      have Hm : Hid (m = ((vb, vd) :: [])) := hm
      rw [← hm] at C3
      rw [← hl] at A3
      have hll2 := A3.len
      clear hm hl
      go_loopg [23] n (fun gg i wr => ∃ k : Nat, n - k ≤ gg ∧ k ≤ n ∧ i = .int .i64 k ∧ All w nb n f l wr ∧ Chain w.heap.size wr m)
      case atStart => exact ⟨0, Nat.le_refl _, Nat.zero_le _, rfl, A3, C3⟩
      case round =>
        clear A3 C3
        obtain ⟨k, hgk, hkn, rfl, A, C⟩ := hrel
        by_cases hk : k < n
        · omega
        · have hk' : ¬ (k : Int) < (n : Int) := by omega
          have C' : Chain w.heap.size wr ((vb, vd) :: []) := by rw [← Hm.out]; exact C
          have hnq := neq_same _ C'.tail
          clear C
          go_wp2_with fail
          refine (zzPrev_any _ (vb, vd) [] C').mono ?_
          rintro e w5 ⟨rfl, rfl⟩
          go_wp2_with fail
          refine (zzDeleted_any _ (vb, vd) [] C').mono ?_
          rintro e w5 ⟨rfl, rfl⟩
          go_wp2
          go_ret
          exact ⟨rfl, A.below⟩
end Go.Proofs.Qxb6617820a
