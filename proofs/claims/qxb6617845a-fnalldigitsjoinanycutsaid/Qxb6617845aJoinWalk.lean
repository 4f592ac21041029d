/-
  THE WALK OF 'FnAllDigitsJoinAnyCut', case by case.
-/
import Derived.Test.Qxb6617845aDec
namespace Go.Proofs.Qxb6617845a
open Go.RowKit

set_option maxHeartbeats 400000 in
/-- a: empty; b: empty. -/
theorem join_ee (a0 a1 : ByteArray) (N : Nat) (w : World) (m0 : a0.size ≤ 65536) (m1 : a1.size ≤ 65536) (hN : N ≤ 18446744073709551615) (ha : a0.size = 0) (hb : a1.size = 0) (oa : okS a0 = true) (ob : okS a1 = true) :
    Calls Try.prog 3 #[.string a0, .string a1, .int .u64 (N : Int)] w fun e w' => e = .returned (.bool true) ∧ Grown w w' := by
  have q1 : ((a0.size : Int) == 0) = true := by rw [beq_iff_eq]; omega
  have q2 : ((a1.size : Int) == 0) = true := by rw [beq_iff_eq]; omega
  have z1 : a0.size ≤ 0 := by omega
  have z2 : a1.size ≤ 0 := by omega
  have r3 : ad (a0 ++ a1) = false := ad_empty (by rw [ByteArray.size_append]; omega)
  have s3 : (a0 ++ a1).size ≤ 1048576 := by rw [ByteArray.size_append]; omega
  have OA : Hid (okS a0 = true) := oa
  have OB : Hid (okS a1 = true) := ob
  clear oa ob ha hb
  go_enter Try.func3, Try.ntmps3
  go_wp2_with (first | (go_at_call 7; go_in))
  refine (zzDec_any N _ hN).mono ?_
  rintro e w1 ⟨t, t1, t2, t3, rfl, hg⟩
  have rt : ad t = true := (ad_of t1).trans t3
  have r1 : ad (a0 ++ t) = (true && true) := ad_joined (by omega) OA.out t3
  have r2 : ad (t ++ a1) = (true && true) := ad_joined (by omega) t3 OB.out
  have s1 : (a0 ++ t).size ≤ 1048576 := by rw [ByteArray.size_append]; omega
  have s2 : (t ++ a1).size ≤ 1048576 := by rw [ByteArray.size_append]; omega
  clear t3
  go_wp2_with fail
  refine (zzAll_any t _ (by omega)).mono ?_
  rintro e w1 ⟨rfl, rfl⟩
  rw [rt]
  go_wp2_with fail
  refine (zzAll_any (a0 ++ t) _ s1).mono ?_
  rintro e w1 ⟨rfl, rfl⟩
  rw [r1]
  go_wp2_with fail
  refine (zzAll_any (t ++ a1) _ s2).mono ?_
  rintro e w1 ⟨rfl, rfl⟩
  rw [r2]
  go_wp2_with fail
  refine (zzAll_any (a0 ++ a1) _ s3).mono ?_
  rintro e w1 ⟨rfl, rfl⟩
  rw [r3]
  go_wp2
  go_ret
  exact ⟨rfl, hg⟩

set_option maxHeartbeats 400000 in
/-- a: empty; b: digits alone. -/
theorem join_eg (a0 a1 : ByteArray) (N : Nat) (w : World) (m0 : a0.size ≤ 65536) (m1 : a1.size ≤ 65536) (hN : N ≤ 18446744073709551615) (ha : a0.size = 0) (hb : ¬ a1.size = 0) (oa : okS a0 = true) (ob : okS a1 = true) :
    Calls Try.prog 3 #[.string a0, .string a1, .int .u64 (N : Int)] w fun e w' => e = .returned (.bool true) ∧ Grown w w' := by
  have q1 : ((a0.size : Int) == 0) = true := by rw [beq_iff_eq]; omega
  have q2 : ((a1.size : Int) == 0) = false := by rw [beq_eq_false_iff_ne]; omega
  have z1 : a0.size ≤ 0 := by omega
  have z2 : 1 ≤ a1.size := by omega
  have r3 : ad (a0 ++ a1) = (true && true) := ad_joined (by omega) oa ob
  have rb : ad a1 = true := (ad_of (by omega)).trans ob
  have s3 : (a0 ++ a1).size ≤ 1048576 := by rw [ByteArray.size_append]; omega
  have OA : Hid (okS a0 = true) := oa
  have OB : Hid (okS a1 = true) := ob
  clear oa ob ha hb
  go_enter Try.func3, Try.ntmps3
  go_wp2_with (first | (go_at_call 7; go_in))
  refine (zzDec_any N _ hN).mono ?_
  rintro e w1 ⟨t, t1, t2, t3, rfl, hg⟩
  have rt : ad t = true := (ad_of t1).trans t3
  have r1 : ad (a0 ++ t) = (true && true) := ad_joined (by omega) OA.out t3
  have r2 : ad (t ++ a1) = (true && true) := ad_joined (by omega) t3 OB.out
  have s1 : (a0 ++ t).size ≤ 1048576 := by rw [ByteArray.size_append]; omega
  have s2 : (t ++ a1).size ≤ 1048576 := by rw [ByteArray.size_append]; omega
  clear t3
  go_wp2_with fail
  refine (zzAll_any a1 _ (by omega)).mono ?_
  rintro e w1 ⟨rfl, rfl⟩
  rw [rb]
  go_wp2_with fail
  refine (zzAll_any t _ (by omega)).mono ?_
  rintro e w1 ⟨rfl, rfl⟩
  rw [rt]
  go_wp2_with fail
  refine (zzAll_any (a0 ++ t) _ s1).mono ?_
  rintro e w1 ⟨rfl, rfl⟩
  rw [r1]
  go_wp2_with fail
  refine (zzAll_any (t ++ a1) _ s2).mono ?_
  rintro e w1 ⟨rfl, rfl⟩
  rw [r2]
  go_wp2_with fail
  refine (zzAll_any (a0 ++ a1) _ s3).mono ?_
  rintro e w1 ⟨rfl, rfl⟩
  rw [r3]
  go_wp2
  go_ret
  exact ⟨rfl, hg⟩

set_option maxHeartbeats 400000 in
/-- a: empty; b: with a stranger. -/
theorem join_eb (a0 a1 : ByteArray) (N : Nat) (w : World) (m0 : a0.size ≤ 65536) (m1 : a1.size ≤ 65536) (hN : N ≤ 18446744073709551615) (ha : a0.size = 0) (hb : ¬ a1.size = 0) (oa : okS a0 = true) (ob : okS a1 = false) :
    Calls Try.prog 3 #[.string a0, .string a1, .int .u64 (N : Int)] w fun e w' => e = .returned (.bool true) ∧ Grown w w' := by
  have q1 : ((a0.size : Int) == 0) = true := by rw [beq_iff_eq]; omega
  have q2 : ((a1.size : Int) == 0) = false := by rw [beq_eq_false_iff_ne]; omega
  have z1 : a0.size ≤ 0 := by omega
  have z2 : 1 ≤ a1.size := by omega
  have r3 : ad (a0 ++ a1) = (true && false) := ad_joined (by omega) oa ob
  have rb : ad a1 = false := (ad_of (by omega)).trans ob
  have s3 : (a0 ++ a1).size ≤ 1048576 := by rw [ByteArray.size_append]; omega
  have OA : Hid (okS a0 = true) := oa
  have OB : Hid (okS a1 = false) := ob
  clear oa ob ha hb
  go_enter Try.func3, Try.ntmps3
  go_wp2_with (first | (go_at_call 7; go_in))
  refine (zzDec_any N _ hN).mono ?_
  rintro e w1 ⟨t, t1, t2, t3, rfl, hg⟩
  have rt : ad t = true := (ad_of t1).trans t3
  have r1 : ad (a0 ++ t) = (true && true) := ad_joined (by omega) OA.out t3
  have r2 : ad (t ++ a1) = (true && false) := ad_joined (by omega) t3 OB.out
  have s1 : (a0 ++ t).size ≤ 1048576 := by rw [ByteArray.size_append]; omega
  have s2 : (t ++ a1).size ≤ 1048576 := by rw [ByteArray.size_append]; omega
  clear t3
  go_wp2_with fail
  refine (zzAll_any a1 _ (by omega)).mono ?_
  rintro e w1 ⟨rfl, rfl⟩
  rw [rb]
  go_wp2_with fail
  refine (zzAll_any t _ (by omega)).mono ?_
  rintro e w1 ⟨rfl, rfl⟩
  rw [rt]
  go_wp2_with fail
  refine (zzAll_any (a0 ++ t) _ s1).mono ?_
  rintro e w1 ⟨rfl, rfl⟩
  rw [r1]
  go_wp2_with fail
  refine (zzAll_any (t ++ a1) _ s2).mono ?_
  rintro e w1 ⟨rfl, rfl⟩
  rw [r2]
  go_wp2_with fail
  refine (zzAll_any (a0 ++ a1) _ s3).mono ?_
  rintro e w1 ⟨rfl, rfl⟩
  rw [r3]
  go_wp2
  go_ret
  exact ⟨rfl, hg⟩

set_option maxHeartbeats 400000 in
/-- a: digits alone; b: empty. -/
theorem join_ge (a0 a1 : ByteArray) (N : Nat) (w : World) (m0 : a0.size ≤ 65536) (m1 : a1.size ≤ 65536) (hN : N ≤ 18446744073709551615) (ha : ¬ a0.size = 0) (hb : a1.size = 0) (oa : okS a0 = true) (ob : okS a1 = true) :
    Calls Try.prog 3 #[.string a0, .string a1, .int .u64 (N : Int)] w fun e w' => e = .returned (.bool true) ∧ Grown w w' := by
  have q1 : ((a0.size : Int) == 0) = false := by rw [beq_eq_false_iff_ne]; omega
  have q2 : ((a1.size : Int) == 0) = true := by rw [beq_iff_eq]; omega
  have z1 : 1 ≤ a0.size := by omega
  have z2 : a1.size ≤ 0 := by omega
  have r3 : ad (a0 ++ a1) = (true && true) := ad_joined (by omega) oa ob
  have ra : ad a0 = true := (ad_of (by omega)).trans oa
  have s3 : (a0 ++ a1).size ≤ 1048576 := by rw [ByteArray.size_append]; omega
  have OA : Hid (okS a0 = true) := oa
  have OB : Hid (okS a1 = true) := ob
  clear oa ob ha hb
  go_enter Try.func3, Try.ntmps3
  go_wp2_with (first | (go_at_call 7; go_in))
  refine (zzDec_any N _ hN).mono ?_
  rintro e w1 ⟨t, t1, t2, t3, rfl, hg⟩
  have rt : ad t = true := (ad_of t1).trans t3
  have r1 : ad (a0 ++ t) = (true && true) := ad_joined (by omega) OA.out t3
  have r2 : ad (t ++ a1) = (true && true) := ad_joined (by omega) t3 OB.out
  have s1 : (a0 ++ t).size ≤ 1048576 := by rw [ByteArray.size_append]; omega
  have s2 : (t ++ a1).size ≤ 1048576 := by rw [ByteArray.size_append]; omega
  clear t3
  go_wp2_with fail
  refine (zzAll_any a0 _ (by omega)).mono ?_
  rintro e w1 ⟨rfl, rfl⟩
  rw [ra]
  go_wp2_with fail
  refine (zzAll_any t _ (by omega)).mono ?_
  rintro e w1 ⟨rfl, rfl⟩
  rw [rt]
  go_wp2_with fail
  refine (zzAll_any (a0 ++ t) _ s1).mono ?_
  rintro e w1 ⟨rfl, rfl⟩
  rw [r1]
  go_wp2_with fail
  refine (zzAll_any (t ++ a1) _ s2).mono ?_
  rintro e w1 ⟨rfl, rfl⟩
  rw [r2]
  go_wp2_with fail
  refine (zzAll_any (a0 ++ a1) _ s3).mono ?_
  rintro e w1 ⟨rfl, rfl⟩
  rw [r3]
  go_wp2
  go_ret
  exact ⟨rfl, hg⟩

set_option maxHeartbeats 400000 in
/-- a: digits alone; b: digits alone. -/
theorem join_gg (a0 a1 : ByteArray) (N : Nat) (w : World) (m0 : a0.size ≤ 65536) (m1 : a1.size ≤ 65536) (hN : N ≤ 18446744073709551615) (ha : ¬ a0.size = 0) (hb : ¬ a1.size = 0) (oa : okS a0 = true) (ob : okS a1 = true) :
    Calls Try.prog 3 #[.string a0, .string a1, .int .u64 (N : Int)] w fun e w' => e = .returned (.bool true) ∧ Grown w w' := by
  have q1 : ((a0.size : Int) == 0) = false := by rw [beq_eq_false_iff_ne]; omega
  have q2 : ((a1.size : Int) == 0) = false := by rw [beq_eq_false_iff_ne]; omega
  have z1 : 1 ≤ a0.size := by omega
  have z2 : 1 ≤ a1.size := by omega
  have r3 : ad (a0 ++ a1) = (true && true) := ad_joined (by omega) oa ob
  have ra : ad a0 = true := (ad_of (by omega)).trans oa
  have rb : ad a1 = true := (ad_of (by omega)).trans ob
  have s3 : (a0 ++ a1).size ≤ 1048576 := by rw [ByteArray.size_append]; omega
  have OA : Hid (okS a0 = true) := oa
  have OB : Hid (okS a1 = true) := ob
  clear oa ob ha hb
  go_enter Try.func3, Try.ntmps3
  go_wp2_with (first | (go_at_call 7; go_in))
  refine (zzDec_any N _ hN).mono ?_
  rintro e w1 ⟨t, t1, t2, t3, rfl, hg⟩
  have rt : ad t = true := (ad_of t1).trans t3
  have r1 : ad (a0 ++ t) = (true && true) := ad_joined (by omega) OA.out t3
  have r2 : ad (t ++ a1) = (true && true) := ad_joined (by omega) t3 OB.out
  have s1 : (a0 ++ t).size ≤ 1048576 := by rw [ByteArray.size_append]; omega
  have s2 : (t ++ a1).size ≤ 1048576 := by rw [ByteArray.size_append]; omega
  clear t3
  go_wp2_with fail
  refine (zzAll_any a0 _ (by omega)).mono ?_
  rintro e w1 ⟨rfl, rfl⟩
  rw [ra]
  go_wp2_with fail
  refine (zzAll_any a1 _ (by omega)).mono ?_
  rintro e w1 ⟨rfl, rfl⟩
  rw [rb]
  go_wp2_with fail
  refine (zzAll_any t _ (by omega)).mono ?_
  rintro e w1 ⟨rfl, rfl⟩
  rw [rt]
  go_wp2_with fail
  refine (zzAll_any (a0 ++ t) _ s1).mono ?_
  rintro e w1 ⟨rfl, rfl⟩
  rw [r1]
  go_wp2_with fail
  refine (zzAll_any (t ++ a1) _ s2).mono ?_
  rintro e w1 ⟨rfl, rfl⟩
  rw [r2]
  go_wp2_with fail
  refine (zzAll_any (a0 ++ a1) _ s3).mono ?_
  rintro e w1 ⟨rfl, rfl⟩
  rw [r3]
  go_wp2
  go_ret
  exact ⟨rfl, hg⟩

set_option maxHeartbeats 400000 in
/-- a: digits alone; b: with a stranger. -/
theorem join_gb (a0 a1 : ByteArray) (N : Nat) (w : World) (m0 : a0.size ≤ 65536) (m1 : a1.size ≤ 65536) (hN : N ≤ 18446744073709551615) (ha : ¬ a0.size = 0) (hb : ¬ a1.size = 0) (oa : okS a0 = true) (ob : okS a1 = false) :
    Calls Try.prog 3 #[.string a0, .string a1, .int .u64 (N : Int)] w fun e w' => e = .returned (.bool true) ∧ Grown w w' := by
  have q1 : ((a0.size : Int) == 0) = false := by rw [beq_eq_false_iff_ne]; omega
  have q2 : ((a1.size : Int) == 0) = false := by rw [beq_eq_false_iff_ne]; omega
  have z1 : 1 ≤ a0.size := by omega
  have z2 : 1 ≤ a1.size := by omega
  have r3 : ad (a0 ++ a1) = (true && false) := ad_joined (by omega) oa ob
  have ra : ad a0 = true := (ad_of (by omega)).trans oa
  have rb : ad a1 = false := (ad_of (by omega)).trans ob
  have s3 : (a0 ++ a1).size ≤ 1048576 := by rw [ByteArray.size_append]; omega
  have OA : Hid (okS a0 = true) := oa
  have OB : Hid (okS a1 = false) := ob
  clear oa ob ha hb
  go_enter Try.func3, Try.ntmps3
  go_wp2_with (first | (go_at_call 7; go_in))
  refine (zzDec_any N _ hN).mono ?_
  rintro e w1 ⟨t, t1, t2, t3, rfl, hg⟩
  have rt : ad t = true := (ad_of t1).trans t3
  have r1 : ad (a0 ++ t) = (true && true) := ad_joined (by omega) OA.out t3
  have r2 : ad (t ++ a1) = (true && false) := ad_joined (by omega) t3 OB.out
  have s1 : (a0 ++ t).size ≤ 1048576 := by rw [ByteArray.size_append]; omega
  have s2 : (t ++ a1).size ≤ 1048576 := by rw [ByteArray.size_append]; omega
  clear t3
  go_wp2_with fail
  refine (zzAll_any a0 _ (by omega)).mono ?_
  rintro e w1 ⟨rfl, rfl⟩
  rw [ra]
  go_wp2_with fail
  refine (zzAll_any a1 _ (by omega)).mono ?_
  rintro e w1 ⟨rfl, rfl⟩
  rw [rb]
  go_wp2_with fail
  refine (zzAll_any t _ (by omega)).mono ?_
  rintro e w1 ⟨rfl, rfl⟩
  rw [rt]
  go_wp2_with fail
  refine (zzAll_any (a0 ++ t) _ s1).mono ?_
  rintro e w1 ⟨rfl, rfl⟩
  rw [r1]
  go_wp2_with fail
  refine (zzAll_any (t ++ a1) _ s2).mono ?_
  rintro e w1 ⟨rfl, rfl⟩
  rw [r2]
  go_wp2_with fail
  refine (zzAll_any (a0 ++ a1) _ s3).mono ?_
  rintro e w1 ⟨rfl, rfl⟩
  rw [r3]
  go_wp2
  go_ret
  exact ⟨rfl, hg⟩

set_option maxHeartbeats 400000 in
/-- a: with a stranger; b: empty. -/
theorem join_be (a0 a1 : ByteArray) (N : Nat) (w : World) (m0 : a0.size ≤ 65536) (m1 : a1.size ≤ 65536) (hN : N ≤ 18446744073709551615) (ha : ¬ a0.size = 0) (hb : a1.size = 0) (oa : okS a0 = false) (ob : okS a1 = true) :
    Calls Try.prog 3 #[.string a0, .string a1, .int .u64 (N : Int)] w fun e w' => e = .returned (.bool true) ∧ Grown w w' := by
  have q1 : ((a0.size : Int) == 0) = false := by rw [beq_eq_false_iff_ne]; omega
  have q2 : ((a1.size : Int) == 0) = true := by rw [beq_iff_eq]; omega
  have z1 : 1 ≤ a0.size := by omega
  have z2 : a1.size ≤ 0 := by omega
  have r3 : ad (a0 ++ a1) = (false && true) := ad_joined (by omega) oa ob
  have ra : ad a0 = false := (ad_of (by omega)).trans oa
  have s3 : (a0 ++ a1).size ≤ 1048576 := by rw [ByteArray.size_append]; omega
  have OA : Hid (okS a0 = false) := oa
  have OB : Hid (okS a1 = true) := ob
  clear oa ob ha hb
  go_enter Try.func3, Try.ntmps3
  go_wp2_with (first | (go_at_call 7; go_in))
  refine (zzDec_any N _ hN).mono ?_
  rintro e w1 ⟨t, t1, t2, t3, rfl, hg⟩
  have rt : ad t = true := (ad_of t1).trans t3
  have r1 : ad (a0 ++ t) = (false && true) := ad_joined (by omega) OA.out t3
  have r2 : ad (t ++ a1) = (true && true) := ad_joined (by omega) t3 OB.out
  have s1 : (a0 ++ t).size ≤ 1048576 := by rw [ByteArray.size_append]; omega
  have s2 : (t ++ a1).size ≤ 1048576 := by rw [ByteArray.size_append]; omega
  clear t3
  go_wp2_with fail
  refine (zzAll_any a0 _ (by omega)).mono ?_
  rintro e w1 ⟨rfl, rfl⟩
  rw [ra]
  go_wp2_with fail
  refine (zzAll_any t _ (by omega)).mono ?_
  rintro e w1 ⟨rfl, rfl⟩
  rw [rt]
  go_wp2_with fail
  refine (zzAll_any (a0 ++ t) _ s1).mono ?_
  rintro e w1 ⟨rfl, rfl⟩
  rw [r1]
  go_wp2_with fail
  refine (zzAll_any (t ++ a1) _ s2).mono ?_
  rintro e w1 ⟨rfl, rfl⟩
  rw [r2]
  go_wp2_with fail
  refine (zzAll_any (a0 ++ a1) _ s3).mono ?_
  rintro e w1 ⟨rfl, rfl⟩
  rw [r3]
  go_wp2
  go_ret
  exact ⟨rfl, hg⟩

set_option maxHeartbeats 400000 in
/-- a: with a stranger; b: digits alone. -/
theorem join_bg (a0 a1 : ByteArray) (N : Nat) (w : World) (m0 : a0.size ≤ 65536) (m1 : a1.size ≤ 65536) (hN : N ≤ 18446744073709551615) (ha : ¬ a0.size = 0) (hb : ¬ a1.size = 0) (oa : okS a0 = false) (ob : okS a1 = true) :
    Calls Try.prog 3 #[.string a0, .string a1, .int .u64 (N : Int)] w fun e w' => e = .returned (.bool true) ∧ Grown w w' := by
  have q1 : ((a0.size : Int) == 0) = false := by rw [beq_eq_false_iff_ne]; omega
  have q2 : ((a1.size : Int) == 0) = false := by rw [beq_eq_false_iff_ne]; omega
  have z1 : 1 ≤ a0.size := by omega
  have z2 : 1 ≤ a1.size := by omega
  have r3 : ad (a0 ++ a1) = (false && true) := ad_joined (by omega) oa ob
  have ra : ad a0 = false := (ad_of (by omega)).trans oa
  have rb : ad a1 = true := (ad_of (by omega)).trans ob
  have s3 : (a0 ++ a1).size ≤ 1048576 := by rw [ByteArray.size_append]; omega
  have OA : Hid (okS a0 = false) := oa
  have OB : Hid (okS a1 = true) := ob
  clear oa ob ha hb
  go_enter Try.func3, Try.ntmps3
  go_wp2_with (first | (go_at_call 7; go_in))
  refine (zzDec_any N _ hN).mono ?_
  rintro e w1 ⟨t, t1, t2, t3, rfl, hg⟩
  have rt : ad t = true := (ad_of t1).trans t3
  have r1 : ad (a0 ++ t) = (false && true) := ad_joined (by omega) OA.out t3
  have r2 : ad (t ++ a1) = (true && true) := ad_joined (by omega) t3 OB.out
  have s1 : (a0 ++ t).size ≤ 1048576 := by rw [ByteArray.size_append]; omega
  have s2 : (t ++ a1).size ≤ 1048576 := by rw [ByteArray.size_append]; omega
  clear t3
  go_wp2_with fail
  refine (zzAll_any a0 _ (by omega)).mono ?_
  rintro e w1 ⟨rfl, rfl⟩
  rw [ra]
  go_wp2_with fail
  refine (zzAll_any a1 _ (by omega)).mono ?_
  rintro e w1 ⟨rfl, rfl⟩
  rw [rb]
  go_wp2_with fail
  refine (zzAll_any t _ (by omega)).mono ?_
  rintro e w1 ⟨rfl, rfl⟩
  rw [rt]
  go_wp2_with fail
  refine (zzAll_any (a0 ++ t) _ s1).mono ?_
  rintro e w1 ⟨rfl, rfl⟩
  rw [r1]
  go_wp2_with fail
  refine (zzAll_any (t ++ a1) _ s2).mono ?_
  rintro e w1 ⟨rfl, rfl⟩
  rw [r2]
  go_wp2_with fail
  refine (zzAll_any (a0 ++ a1) _ s3).mono ?_
  rintro e w1 ⟨rfl, rfl⟩
  rw [r3]
  go_wp2
  go_ret
  exact ⟨rfl, hg⟩

set_option maxHeartbeats 400000 in
/-- a: with a stranger; b: with a stranger. -/
theorem join_bb (a0 a1 : ByteArray) (N : Nat) (w : World) (m0 : a0.size ≤ 65536) (m1 : a1.size ≤ 65536) (hN : N ≤ 18446744073709551615) (ha : ¬ a0.size = 0) (hb : ¬ a1.size = 0) (oa : okS a0 = false) (ob : okS a1 = false) :
    Calls Try.prog 3 #[.string a0, .string a1, .int .u64 (N : Int)] w fun e w' => e = .returned (.bool true) ∧ Grown w w' := by
  have q1 : ((a0.size : Int) == 0) = false := by rw [beq_eq_false_iff_ne]; omega
  have q2 : ((a1.size : Int) == 0) = false := by rw [beq_eq_false_iff_ne]; omega
  have z1 : 1 ≤ a0.size := by omega
  have z2 : 1 ≤ a1.size := by omega
  have r3 : ad (a0 ++ a1) = (false && false) := ad_joined (by omega) oa ob
  have ra : ad a0 = false := (ad_of (by omega)).trans oa
  have rb : ad a1 = false := (ad_of (by omega)).trans ob
  have s3 : (a0 ++ a1).size ≤ 1048576 := by rw [ByteArray.size_append]; omega
  have OA : Hid (okS a0 = false) := oa
  have OB : Hid (okS a1 = false) := ob
  clear oa ob ha hb
  go_enter Try.func3, Try.ntmps3
  go_wp2_with (first | (go_at_call 7; go_in))
  refine (zzDec_any N _ hN).mono ?_
  rintro e w1 ⟨t, t1, t2, t3, rfl, hg⟩
  have rt : ad t = true := (ad_of t1).trans t3
  have r1 : ad (a0 ++ t) = (false && true) := ad_joined (by omega) OA.out t3
  have r2 : ad (t ++ a1) = (true && false) := ad_joined (by omega) t3 OB.out
  have s1 : (a0 ++ t).size ≤ 1048576 := by rw [ByteArray.size_append]; omega
  have s2 : (t ++ a1).size ≤ 1048576 := by rw [ByteArray.size_append]; omega
  clear t3
  go_wp2_with fail
  refine (zzAll_any a0 _ (by omega)).mono ?_
  rintro e w1 ⟨rfl, rfl⟩
  rw [ra]
  go_wp2_with fail
  refine (zzAll_any a1 _ (by omega)).mono ?_
  rintro e w1 ⟨rfl, rfl⟩
  rw [rb]
  go_wp2_with fail
  refine (zzAll_any t _ (by omega)).mono ?_
  rintro e w1 ⟨rfl, rfl⟩
  rw [rt]
  go_wp2_with fail
  refine (zzAll_any (a0 ++ t) _ s1).mono ?_
  rintro e w1 ⟨rfl, rfl⟩
  rw [r1]
  go_wp2_with fail
  refine (zzAll_any (t ++ a1) _ s2).mono ?_
  rintro e w1 ⟨rfl, rfl⟩
  rw [r2]
  go_wp2_with fail
  refine (zzAll_any (a0 ++ a1) _ s3).mono ?_
  rintro e w1 ⟨rfl, rfl⟩
  rw [r3]
  go_wp2
  go_ret
  exact ⟨rfl, hg⟩

end Go.Proofs.Qxb6617845a
