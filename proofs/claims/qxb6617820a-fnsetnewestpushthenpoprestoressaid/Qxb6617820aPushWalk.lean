/-
  THE WALK OF 'FnSetNewestPushThenPopRestores'.
-/
import Derived.Test.Qxb6617820aRel
import Derived.Deep.RegionWith
import Derived.BigRegion
namespace Go.Proofs.Qxb6617820a
open Go.RowKit

set_option maxHeartbeats 1000000 in
theorem push_walk (a0 a1 : Option Addr) (n0 n1 cap0 cap1 b0 b1 o0 o1 : Nat) (f g : Nat → Bool) (w : World) (m0 : n0 ≤ 65536) (m1 : n1 ≤ 65536) (h0 : Bools w a0 n0 b0 o0 f) (h1 : Bools w a1 n1 b1 o1 g) :
    Calls Try.prog 7 #[.slice a0 n0 cap0, .slice a1 n1 cap1] w fun e w' => e = .returned (.bool true) ∧ Below w.heap.size w w' := by
  have q1 : decide ((65536 : Int) < (n0 : Int)) = false := by simp; omega
  have q2 : decide ((65536 : Int) < (n1 : Int)) = false := by simp; omega
  have H0 : Hid (Bools w a0 n0 b0 o0 f) := h0
  have H1 : Hid (Bools w a1 n1 b1 o1 g) := h1
  clear h0 h1
  go_enter Try.func7, Try.ntmps7
  go_wp2
  go_loopg [5, 6] n0 (fun gg p i wr => ∃ (q : Nat) (l : List (Nat × Bool)), q ≤ gg ∧ p = .pointer (hd l) ∧ i = .int .i64 ((q : Int) - 1) ∧ Base w f n0 q l wr)
  case atStart => exact ⟨n0, [], Nat.le_refl _, rfl, rfl, Base.start _ _ _⟩
  case round =>
    obtain ⟨q, l, hq, rfl, rfl, R⟩ := hrel
    have hln := R.len
    match q, hq, R, hln with
    | k + 1, hq, R, hln =>
      have hc := H0.out.cellB R.below k (by omega)
      have ha := H0.out.addr (by omega)
      subst ha
      have e1 : (((k + 1 : Nat) : Int) - 1) = (k : Int) := by omega
      have hk : (k : Int) < (n0 : Int) := by omega
      rw [e1]
      clear e1
      go_wp2_with (go_at_call 18; refine (newVersion_any _ _ _ _).mono ?_; rintro e w' ⟨rfl, rfl⟩)
      go_roundg k
      case measure => omega
      case rel => exact ⟨k, (wr.heap.size, f k) :: l, Nat.le_refl _, rfl, rfl, R.step⟩
    | 0, hq, R, hln =>
      go_wp2_with fail
      refine (newRow_any _ _ _ _ _).mono ?_
      rintro e w1 ⟨rfl, rfl⟩
      have R1 := Row.start R false none 0
      have hbase : chainRet (f 0) n0 = ret l := R.base
      have hB1 := H0.out.later R1.below
      go_wp2_with fail
      refine (zzRetOf_any _ _ _ _ _ _ _ hB1 (by omega)).mono ?_
      rintro e w1 ⟨rfl, rfl⟩
      rw [hbase]
      have HBase : Hid (chainRet (f 0) n0 = ret l) := hbase
      clear hB1 hbase
      obtain ⟨rb, hrb⟩ : ∃ rb, rb = wr.heap.size := ⟨_, rfl⟩
      obtain ⟨w1, hw1⟩ : ∃ w1, w1 = wr.alloc (.cells #[.pointer (hd l), .bool false, .pointer none, .int .u64 0] 50) := ⟨_, rfl⟩
      rw [← hrb, ← hw1] at R1
      rw [← hrb, ← hw1]
      clear hrb hw1 R
      have hl0 : l.length = n0 := by omega
      go_wp2_with fail
      go_loopg [9, 10] n1 (fun gg s i wr2 => ∃ (k : Nat) (L : List (Nat × Bool)) (S : Int), n1 - k ≤ gg ∧ k ≤ n1 ∧ s = .int .i64 S ∧ i = .int .i64 k ∧ Psh w rb l g k S L wr2)
      case atStart => exact ⟨0, l, 0, Nat.le_refl _, Nat.zero_le _, rfl, rfl, ⟨by omega, by simp, rfl, fun h => absurd h (Nat.lt_irrefl _), R1⟩⟩
      case round =>
        obtain ⟨k, L, S, hg, hk, rfl, rfl, R⟩ := hrel
        by_cases hlt : k < n1
        · have hc := H1.out.cellB R.row.below k hlt
          have ha := H1.out.addr (by omega)
          subst ha
          have hb := R.bd
          have hcell := R.row.cell
          have hk' : (k : Int) < (n1 : Int) := by omega
          have hm := R.row.made ((k : Int) + 1) (g k)
          have hne := R.row.ne_push (g k)
          have hrise := rise_bd (wr.heap.size, g k) L
          go_wp2_with fail
          go_region_with (first | (go_at_call 24; refine (zzNewest_any _ rb _ (by exact hcell)).mono ?_; rintro e w' ⟨rfl, rfl⟩) | (go_at_call 18; refine (newVersion_any _ _ _ _).mono ?_; rintro e w' ⟨rfl, rfl⟩))
          all_goals
            go_wp2_with fail
            refine (zzSet_push (B := w.heap.size) _ rb (wr.heap.size, g k) L hm.1.cell hm.1.free hm.2 hne).mono ?_
            rintro e w' ⟨rfl, rfl⟩
            go_wp2
            go_roundg (n1 - (k + 1))
            case measure => omega
            case rel => exact ⟨k + 1, _, _, Nat.le_refl _, hlt, rfl, by go_num, R.step _⟩
        · obtain rfl : k = n1 := by omega
          have hb := R.bd
          have hcell := R.row.cell
          have rb1 := ret_bd L
          have rb2 := ret_bd l
          have hlen := R.len
          have hS : (S != ret L - ret l) = false := by rw [R.sum]; simp
          have hrr : (ret L != ret L) = false := by simp
          have hsum : n0 + k ≤ 1000000 := by omega
          have hcases : 0 < k ∨ (¬ 0 < k ∧ 0 < n0) ∨ (¬ 0 < k ∧ ¬ 0 < n0) := by omega
          rcases hcases with hA | hB | hC
          case' inl =>
            have hc := H1.out.cellB R.row.below (k - 1) (by omega)
            have ha := H1.out.addr hA
            subst ha
            have hk1 : (0 : Int) < (k : Int) := by omega
            have ek : ((k : Int) - 1).toNat = k - 1 := by omega
            have hT : Hid (chainRet (g (k - 1)) (n0 + k) = ret L) := by rw [← hl0]; exact R.fullG hA
            go_wp2_with fail
            refine (zzChainRet_sum _ _ _ _ hsum).mono ?_
            rintro e w1 ⟨rfl, rfl⟩
            rw [hT.out]
            clear hT hc ek
          case' inr.inl =>
            obtain ⟨hB, hn⟩ := hB
            have hc := H0.out.cellB R.row.below 0 hn
            rw [Nat.add_zero] at hc
            have ha := H0.out.addr hn
            subst ha
            have hk1 : ¬ (0 : Int) < (k : Int) := by omega
            have hk2 : (0 : Int) < (n0 : Int) := by omega
            have hT : Hid (chainRet (f 0) (n0 + k) = ret L) := R.full1 hB HBase.out
            go_wp2_with fail
            refine (zzChainRet_sum _ _ _ _ hsum).mono ?_
            rintro e w1 ⟨rfl, rfl⟩
            rw [hT.out]
            clear hT hc
          case' inr.inr =>
            obtain ⟨hB, hn⟩ := hC
            have hk1 : ¬ (0 : Int) < (k : Int) := by omega
            have hk2 : ¬ (0 : Int) < (n0 : Int) := by omega
            have hT : Hid (chainRet false (n0 + k) = ret L) := by rw [← R.full1 hB HBase.out, show n0 + k = 0 by omega]; rfl
            go_wp2_with fail
            refine (zzChainRet_sum _ _ _ _ hsum).mono ?_
            rintro e w1 ⟨rfl, rfl⟩
            rw [hT.out]
            clear hT
          all_goals
            go_wp2_with fail
            refine (zzRetained_any _ rb L hcell R.row.chain (by omega)).mono ?_
            rintro e w1 ⟨rfl, rfl⟩
            go_wp2_with fail
            have R0 := R.turn
            clear R hcell hS hrr hb rb1
            go_loopg [9, 14] k (fun gg s i wr3 => ∃ (j : Nat) (M : List (Nat × Bool)) (U : Int), k - j ≤ gg ∧ j ≤ k ∧ s = .int .i64 U ∧ i = .int .i64 j ∧ Pop w rb l j k U M wr3)
            case atStart => exact ⟨0, L, S, Nat.le_refl _, Nat.zero_le _, rfl, rfl, R0⟩
            case round =>
              clear R0
              obtain ⟨j, M, U, hg3, hj, rfl, rfl, P⟩ := hrel
              have hbU := P.bd
              by_cases hjk : j < k
              · obtain ⟨x, t, rfl⟩ := P.more hjk
                have hcl := P.row.cell
                have hch := P.row.chain
                have hrise := rise_bd x t
                have hjk' : (j : Int) < (k : Int) := by omega
                rw [hd_cons] at hcl
                go_wp2_with fail
                refine (zzNewest_any _ rb _ hcl).mono ?_
                rintro e w1 ⟨rfl, rfl⟩
                go_wp2_with fail
                refine (zzPrev_any _ x t hch).mono ?_
                rintro e w1 ⟨rfl, rfl⟩
                go_wp2_with fail
                refine (zzSet_pop _ rb x t hcl P.row.free hch P.row.ne).mono ?_
                rintro e w1 ⟨rfl, rfl⟩
                go_wp2
                go_roundg (k - (j + 1))
                case measure => omega
                case rel => exact ⟨j + 1, _, _, Nat.le_refl _, hjk, rfl, by go_num, P.step hjk⟩
              · obtain rfl : j = k := by omega
                obtain ⟨rfl, rfl⟩ := P.ended
                have hcl := P.row.cell
                have hch := P.row.chain
                have heq := eql_chains _ hch hch
                rw [same_refl] at heq
                have hrr : (ret M == ret M) = true := by simp
                go_wp2_with fail
                refine (zzNewest_any _ rb _ hcl).mono ?_
                rintro e w1 ⟨rfl, rfl⟩
                go_wp2_with fail
                refine (zzRetained_any _ rb M hcl hch (by omega)).mono ?_
                rintro e w1 ⟨rfl, rfl⟩
                go_wp2
                go_ret
                exact ⟨rfl, P.row.below⟩

end Go.Proofs.Qxb6617820a
