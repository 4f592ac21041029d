/-
  THE WALK OF 'FnSetNewestAnswerIsRiseOfRetained': op 2 (a new version in the newest one's place), two versions or more.
-/
import Derived.Test.Qxb6617820aNod
import Derived.Deep.QuietTactic
import Derived.BigQuiet
namespace Go.Proofs.Qxb6617820a
open Go.RowKit

set_option maxRecDepth 100000 in
set_option maxHeartbeats 1000000 in
theorem rise2c (a0 : Option Addr) (n cap b0 o0 : Nat) (f : Nat → Bool) (vd gn : Bool) (ls : Int) (w : World) (m0 : n ≤ 65536) (c0 : 2 ≤ n) (h0 : Bools w a0 n b0 o0 f) :
    Calls Try.prog 6 #[.slice a0 n cap, .int .u8 2, .bool vd, .bool gn, .int .u64 ls] w fun e w' => e = .returned (.bool true) ∧ Below w.heap.size w w' := by
  have q1 : decide ((65536 : Int) < (n : Int)) = false := by simp; omega
  have q2 : ((n : Int) == 0) = false := by simp; omega
  have H0 : Hid (Bools w a0 n b0 o0 f) := h0
  have HC : Hid (2 ≤ n) := c0
  clear h0 c0
  have hmk := run_make_row' (P := Try.prog) 32 33 (.pointer none) 8 Try.underlying32 info33 rfl .i64 .i64 n (by omega) (by omega)
  go_enter Try.func6, Try.ntmps6
  go_wp2
  clear hmk
  obtain ⟨nb, hnb⟩ : ∃ nb, nb = w.heap.size := ⟨_, rfl⟩
  have hst := Nod.start w n f
  obtain ⟨w1, hw1⟩ : ∃ w1, w1 = w.alloc (.cells (madeCells #[.pointer none] n) 33) := ⟨_, rfl⟩
  rw [← hnb, ← hw1]
  go_loopg [13, 14] n (fun gg p i wr => ∃ (q : Nat) (l : List (Nat × Bool)), q ≤ gg ∧ p = .pointer (hd l) ∧ i = .int .i64 ((q : Int) - 1) ∧ Nod w nb n f q l wr)
  case atStart => exact ⟨n, [], Nat.le_refl _, rfl, rfl, by rw [hnb, hw1]; exact hst⟩
  case round =>
    clear hst hnb hw1
    obtain ⟨q, l, hq, rfl, rfl, R⟩ := hrel
    have hln := R.len
    match q, hq, R, hln with
    | k + 1, hq, R, hln =>
      have hc := H0.out.cellB R.below k (by omega)
      have ha := H0.out.addr (by omega)
      subst ha
      have e1 : (((k + 1 : Nat) : Int) - 1) = (k : Int) := by omega
      have hk : (k : Int) < (n : Int) := by omega
      have hlt := R.nodes.lt
      have hfr : ∀ o, (wr.alloc o).frozen? ⟨nb, k, none⟩ = false := fun o => (R.nodes.alloc o).frozen k
      have hcl : ∀ o, (wr.alloc o).cell? ⟨nb, k, none⟩ = some (.pointer none) := fun o => by have := (R.nodes.alloc o).cell (i := k) (by omega); simpa using this
      rw [e1]
      clear e1
      go_wp2_with (go_at_call 18; refine (newVersion_any _ _ _ _).mono ?_; rintro e w' ⟨rfl, rfl⟩)
      go_roundg k
      case measure => omega
      case rel => exact ⟨k, (wr.heap.size, f k) :: l, Nat.le_refl _, rfl, rfl, by rw [← World.setCell_alloc_past _ _ _ _ hlt]; exact R.step⟩
    | 0, hq, R, hln =>
      have A := R.all
      have hll := A.len
      have hbase := A.base
      clear R
      have hcn := HC.out
      obtain ⟨x, t, rfl⟩ : ∃ x t, l = x :: t := by
        cases l with
        | nil => simp at hll; omega
        | cons x t => exact ⟨x, t, rfl⟩
      have h2' : (2 : Int) ≤ (n : Int) := by omega
      have hn1 : wr.cell? ⟨nb, 1, none⟩ = some (.pointer (hd t)) := A.nodes.cell (i := 1) (by omega)
      have hlen : ((x :: t)).length ≤ 70000 := by omega
      have HL : Hid (((x :: t)).length = n) := hll
      clear hcn hll
      go_wp2_with fail
      clear h2' hn1
      refine (zzRetOf_any _ _ _ _ _ _ _ (H0.out.later A.below) (by omega)).mono ?_
      rintro e w2 ⟨rfl, rfl⟩
      rw [hbase]
      clear hbase
      go_wp2_with fail
      refine (newRow_any _ _ _ _ _).mono ?_
      rintro e w2 ⟨rfl, rfl⟩
      have B := Rw.start A gn ls
      have A1 := A.alloc (.cells #[.pointer (hd (x :: t)), .bool gn, .pointer none, .int .u64 ls] 50)
      obtain ⟨rb, hrb⟩ : ∃ rb, rb = wr.heap.size := ⟨_, rfl⟩
      obtain ⟨w2, hw2⟩ : ∃ w2, w2 = wr.alloc (.cells #[.pointer (hd (x :: t)), .bool gn, .pointer none, .int .u64 ls] 50) := ⟨_, rfl⟩
      rw [← hrb, ← hw2] at B
      rw [← hw2] at A1
      rw [← hrb, ← hw2]
      clear hrb hw2 A
      have hrr : (ret (x :: t) != ret (x :: t)) = false := by simp
      go_wp2_with fail
      refine (zzRetained_any _ rb (x :: t) B.c0 A1.chain (Nat.le_trans hlen (by omega))).mono ?_
      rintro e w3 ⟨rfl, rfl⟩
      go_wp2_with fail
      clear hrr
      refine (newVersion_any _ _ _ _).mono ?_
      rintro e w3 ⟨rfl, rfl⟩
      have CT : Chain w.heap.size w2 t := A1.chain.tail
      have C2 := CT.push A1.below.size 0 vd
      have A2 := A1.alloc (.cells #[.int .u64 0, .slice none 0 0, .bool vd, .pointer (hd t)] 48)
      have B2 := B.alloc (.cells #[.int .u64 0, .slice none 0 0, .bool vd, .pointer (hd t)] 48)
      have hnv : w2.heap.size ≠ rb := Nat.ne_of_gt B.lt
      obtain ⟨vb, hvb⟩ : ∃ vb, vb = w2.heap.size := ⟨_, rfl⟩
      obtain ⟨w3, hw3⟩ : ∃ w3, w3 = w2.alloc (.cells #[.int .u64 0, .slice none 0 0, .bool vd, .pointer (hd t)] 48) := ⟨_, rfl⟩
      rw [← hvb, ← hw3] at C2
      rw [← hw3] at A2 B2
      rw [← hvb] at hnv
      have fold : w2.alloc (.cells #[.int .u64 0, .slice none 0 0, .bool vd, .pointer (hd t)] 48) = w3 := hw3.symm
      rw [← hvb, fold]
      clear hvb hw3 A1 B CT fold
      have hret : chainRet vd n = ret ((vb, vd) :: t) := by have hll := HL.out; rw [ret_chain, show n = ((vb, vd) :: t).length by simp only [List.length_cons] at hll ⊢; omega]; rfl
      go_wp2_with fail
      refine (zzChainRet_any _ _ n (by omega)).mono ?_
      rintro e w4 ⟨rfl, rfl⟩
      rw [hret]
      clear hret
      go_wp2_with fail
      refine (zzSet_swap w3 rb x (vb, vd) t B2.c0 B2.free A2.chain C2 B2.ne hnv).mono ?_
      rintro e w4 ⟨rfl, rfl⟩
      have hnm : ∀ y ∈ (vb, vd) :: t, y.1 ≠ rb := fun y hy => by
        rcases List.mem_cons.1 hy with e | e
        · rw [e]; exact hnv
        · exact B2.ne y (List.mem_cons_of_mem _ e)
      have A3 := A2.set B2 (.pointer (hd ((vb, vd) :: t)))
      have B3 := B2.set ((vb, vd) :: t)
      have C3 := C2.setCell (a := ⟨rb, 0, none⟩) (.pointer (hd ((vb, vd) :: t))) hnm
      obtain ⟨w4, hw4⟩ : ∃ w4, w4 = w3.setCell ⟨rb, 0, none⟩ (.pointer (hd ((vb, vd) :: t))) := ⟨_, rfl⟩
      rw [← hw4] at A3 B3 C3
      rw [← hw4]
      clear hw4 A2 B2 C2 hnv hnm
      have hneq := neq_same w4 C3
      have hc0 := B3.c0
      rw [hd_cons] at hneq hc0
      have HC3 : Hid (Chain w.heap.size w4 ((vb, vd) :: t)) := C3
      have HB3 : Hid (Rw w nb rb (x :: t) ((vb, vd) :: t) gn ls w4) := B3
      have rb1 := ret_bd ((vb, vd) :: t)
      have rb2 := ret_bd (x :: t)
      have hlm : (((vb, vd) :: t)).length ≤ 70000 := by have hll := HL.out; simp only [List.length_cons] at hll ⊢; omega
      have hgot : (ret ((vb, vd) :: t) - ret (x :: t) != ret ((vb, vd) :: t) - ret (x :: t)) = false := by simp
      have hgot2 : (ret ((vb, vd) :: t) != ret ((vb, vd) :: t)) = false := by simp
      clear C3 B3
      go_wp2_with fail
      refine (zzNewest_any _ rb _ hc0).mono ?_
      rintro e w5 ⟨rfl, rfl⟩
      go_wp2_with fail
      refine (zzRetained_any _ rb ((vb, vd) :: t) HB3.out.c0 HC3.out (by omega)).mono ?_
      rintro e w5 ⟨rfl, rfl⟩
      go_wp2_with fail
      refine (zzGone_any _ rb gn HB3.out.c1).mono ?_
      rintro e w5 ⟨rfl, rfl⟩
      go_wp2_with fail
      refine (zzListed_any _ rb ls HB3.out.c3).mono ?_
      rintro e w5 ⟨rfl, rfl⟩
      go_wp2_with fail
      refine (zzPaged_any _ rb _ HB3.out.c2).mono ?_
      rintro e w5 ⟨rfl, rfl⟩
      go_wp2_with fail
      have C3 := HC3.out
      clear HC3 HB3 hc0 rb1 rb2 hneq hlm hgot hgot2
      obtain ⟨m, hm⟩ : ∃ m, m = ((vb, vd) :: t) := ⟨_, rfl⟩
      obtain ⟨l, hl⟩ : ∃ l, l = (x :: t) := ⟨_, rfl⟩
      have Hm : Hid (m = ((vb, vd) :: t)) := hm
      rw [← hm] at C3
      rw [← hl] at A3
      have hll2 := A3.len
      clear hm hl
      go_loopg [23] n (fun gg i wr => ∃ k : Nat, n - k ≤ gg ∧ k ≤ n ∧ i = .int .i64 k ∧ All w nb n f l wr ∧ Chain w.heap.size wr m)
      case atStart => exact ⟨0, Nat.le_refl _, Nat.zero_le _, rfl, A3, C3⟩
      case round =>
        clear A3 C3
        obtain ⟨k, hgk, hkn, rfl, A, C⟩ := hrel
        by_cases hk : k < n
        · obtain ⟨⟨xb, xd⟩, hx2, hdx⟩ := A.nth k hk
          simp only at hx2
          subst hx2
          have hch : Chain w.heap.size wr ((xb, f k) :: l.drop (k + 1)) := by rw [← hdx]; exact A.chain.drop k
          have hcd := H0.out.cellB A.below k hk
          have ha := H0.out.addr (by omega)
          first | subst ha | clear ha
          have hck := A.nodes.cell hk
          rw [hdx, hd_cons] at hck
          have hk' : (k : Int) < (n : Int) := by omega
          have hdd : l.length ≤ k + 1 → l.drop (k + 1) = [] := fun h => List.drop_eq_nil_of_le h
          have hck1 : k + 1 < n → wr.cell? ⟨nb, k + 1, none⟩ = some (.pointer (hd (l.drop (k + 1)))) := fun h => A.nodes.cell h
          obtain ⟨t, ht⟩ : ∃ t, t = l.drop (k + 1) := ⟨_, rfl⟩
          rw [← ht] at hch hdd hck1
          clear hdx ht
          have hq : ∀ j, Chain w.heap.size (wr.drewN j) ((xb, f k) :: t) := fun j => hch.keep (fun _ _ => rfl)
          by_cases hk1 : k + 1 < n
          case' pos =>
            have hck2 := hck1 hk1
            have hk1' : (k : Int) + 1 < (n : Int) := by omega
            have hnq : ∀ j, (binOp .neq 33 (.pointer (hd t)) (.pointer (hd t))).run Try.prog (wr.drewN j) = .ok (.bool false) (wr.drewN j) := fun j => neq_same _ (hq j).tail
            clear hck1 hdd hch
            go_wp2_with fail
          case' neg =>
            obtain rfl : t = [] := hdd (by omega)
            have hk1' : ¬ (k : Int) + 1 < (n : Int) := by omega
            clear hck1 hdd hch
            go_wp2_with fail
          all_goals
            go_quiet ((first | (go_at_call 28; exact Calls.quiet_of_same (still (zzPrev_any _ (xb, f k) _ (hq _)))) | (go_at_call 29; exact Calls.quiet_of_same (still (zzDeleted_any _ (xb, f k) _ (hq _))))))
            go_wp2
            go_roundg (n - (k + 1))
            case measure => omega
            case rel => exact ⟨k + 1, Nat.le_refl _, hk, by go_num, A.drewN _, C.keep (fun _ _ => rfl)⟩
        · have hk' : ¬ (k : Int) < (n : Int) := by omega
          have C' : Chain w.heap.size wr ((vb, vd) :: t) := by rw [← Hm.out]; exact C
          have hnq := neq_same _ C'.tail
          clear C
          go_wp2_with fail
          refine (zzPrev_any _ (vb, vd) t C').mono ?_
          rintro e w5 ⟨rfl, rfl⟩
          go_wp2_with fail
          refine (zzDeleted_any _ (vb, vd) t C').mono ?_
          rintro e w5 ⟨rfl, rfl⟩
          go_wp2
          go_ret
          exact ⟨rfl, A.below⟩
end Go.Proofs.Qxb6617820a
