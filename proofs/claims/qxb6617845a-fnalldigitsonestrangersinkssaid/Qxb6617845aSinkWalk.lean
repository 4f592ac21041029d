/-
  THE WALK OF 'FnAllDigitsOneStrangerSinks'.
-/
import Derived.Test.Qxb6617845aDec
namespace Go.Proofs.Qxb6617845a
open Go.RowKit

/-- One byte that is no digit. -/
theorem stranger {c : Int} (c0 : 0 ≤ c) (c1 : c ≤ 255) (h : isD c = false) : okS (strOfNums [c]) = false := by
  unfold okS
  rw [strOfNums_data]
  have e : ((UInt8.ofNat c.toNat).toNat : Int) = c := by
    rw [UInt8.toNat_ofNat']
    omega
  simp only [List.map_cons, List.map_nil, List.all_cons, List.all_nil, e, h, Bool.and_true]

/-- 'string([]byte{c})' -/
theorem one_byte (w : World) (c : Int) : (convert 27 9 (.slice (some ⟨w.heap.size, 0, none⟩) 1 1)).run Try.prog (w.alloc (.cells #[.int .u8 c] 5)) = .ok (.string (strOfNums [c])) (w.alloc (.cells #[.int .u8 c] 5)) :=
  run_convert_bytes_arg (P := Try.prog) (w.alloc (.cells #[.int .u8 c] 5)) 27 5 Try.underlying27 Try.underlying5 w.heap.size 0 1 1 [c] rfl
    (fun i hi => by obtain rfl : i = 0 := by omega
                    simp) 9 Try.underlying9

set_option maxHeartbeats 400000 in
/-- A byte below the digits. -/
theorem sinks_low (a0 a1 : ByteArray) (c : Int) (N : Nat) (w : World) (m0 : a0.size ≤ 65536) (m1 : a1.size ≤ 65536) (hN : N ≤ 18446744073709551615) (c0 : 0 ≤ c) (c1 : c ≤ 255) (hc : c < 48) :
    Calls Try.prog 4 #[.string a0, .string a1, .int .u8 c, .int .u64 (N : Int)] w fun e w' => e = .returned (.bool true) ∧ Grown w w' := by
  have hbad : okS (strOfNums [c]) = false := stranger c0 c1 (isD_low (by omega))
  have hone : (strOfNums [c]).size = 1 := strOfNums_size [c]
  have HB : Hid (okS (strOfNums [c]) = false) := hbad
  have HO : Hid ((strOfNums [c]).size = 1) := hone
  clear hbad hone
  go_enter Try.func4, Try.ntmps4
  go_wp2_with (first | (go_at_call 10; go_in))
  refine (zzDec_any N _ hN).mono ?_
  rintro e w1 ⟨t, t1, t2, t3, rfl, hg⟩
  have hcv := one_byte w1 c
  have hg1 : Grown w (w1.alloc (.cells #[.int .u8 c] 5)) := hg.alloc _ _
  obtain ⟨one, ho⟩ : ∃ s, s = strOfNums [c] := ⟨_, rfl⟩
  rw [← ho] at HB HO hcv
  have r1 : ad one = false := (ad_of (by have := HO.out; omega)).trans HB.out
  have r2 : ad (t ++ t) = (true && true) := ad_joined (by omega) t3 t3
  have o5 : okS ((((a0 ++ t) ++ one) ++ t) ++ a1) = false := okS_left (okS_left (okS_right HB.out))
  have z5 : ((((a0 ++ t) ++ one) ++ t) ++ a1).size = a0.size + t.size + one.size + t.size + a1.size := by simp only [ByteArray.size_append]
  have r5 : ad ((((a0 ++ t) ++ one) ++ t) ++ a1) = false := (ad_of (by omega)).trans o5
  have s1 : one.size ≤ 1 := by have := HO.out; omega
  have s2 : (t ++ t).size ≤ 1048576 := by rw [ByteArray.size_append]; omega
  have s5 : ((((a0 ++ t) ++ one) ++ t) ++ a1).size ≤ 1048576 := by omega
  clear ho o5 z5 t3
  go_wp2_with fail
  refine (zzAll_any one _ (by omega)).mono ?_
  rintro e w2 ⟨rfl, rfl⟩
  rw [r1]
  go_wp2_with fail
  refine (zzAll_any (t ++ t) _ s2).mono ?_
  rintro e w2 ⟨rfl, rfl⟩
  rw [r2]
  go_wp2_with fail
  refine (zzAll_any _ _ s5).mono ?_
  rintro e w2 ⟨rfl, rfl⟩
  rw [r5]
  go_wp2
  go_ret
  exact ⟨rfl, hg1⟩

set_option maxHeartbeats 400000 in
/-- A byte above the digits. -/
theorem sinks_high (a0 a1 : ByteArray) (c : Int) (N : Nat) (w : World) (m0 : a0.size ≤ 65536) (m1 : a1.size ≤ 65536) (hN : N ≤ 18446744073709551615) (c0 : 0 ≤ c) (c1 : c ≤ 255) (hc : 57 < c) :
    Calls Try.prog 4 #[.string a0, .string a1, .int .u8 c, .int .u64 (N : Int)] w fun e w' => e = .returned (.bool true) ∧ Grown w w' := by
  have hbad : okS (strOfNums [c]) = false := stranger c0 c1 (isD_high (by omega))
  have hone : (strOfNums [c]).size = 1 := strOfNums_size [c]
  have HB : Hid (okS (strOfNums [c]) = false) := hbad
  have HO : Hid ((strOfNums [c]).size = 1) := hone
  clear hbad hone
  go_enter Try.func4, Try.ntmps4
  go_wp2_with (first | (go_at_call 10; go_in))
  refine (zzDec_any N _ hN).mono ?_
  rintro e w1 ⟨t, t1, t2, t3, rfl, hg⟩
  have hcv := one_byte w1 c
  have hg1 : Grown w (w1.alloc (.cells #[.int .u8 c] 5)) := hg.alloc _ _
  obtain ⟨one, ho⟩ : ∃ s, s = strOfNums [c] := ⟨_, rfl⟩
  rw [← ho] at HB HO hcv
  have r1 : ad one = false := (ad_of (by have := HO.out; omega)).trans HB.out
  have r2 : ad (t ++ t) = (true && true) := ad_joined (by omega) t3 t3
  have o5 : okS ((((a0 ++ t) ++ one) ++ t) ++ a1) = false := okS_left (okS_left (okS_right HB.out))
  have z5 : ((((a0 ++ t) ++ one) ++ t) ++ a1).size = a0.size + t.size + one.size + t.size + a1.size := by simp only [ByteArray.size_append]
  have r5 : ad ((((a0 ++ t) ++ one) ++ t) ++ a1) = false := (ad_of (by omega)).trans o5
  have s1 : one.size ≤ 1 := by have := HO.out; omega
  have s2 : (t ++ t).size ≤ 1048576 := by rw [ByteArray.size_append]; omega
  have s5 : ((((a0 ++ t) ++ one) ++ t) ++ a1).size ≤ 1048576 := by omega
  clear ho o5 z5 t3
  go_wp2_with fail
  refine (zzAll_any one _ (by omega)).mono ?_
  rintro e w2 ⟨rfl, rfl⟩
  rw [r1]
  go_wp2_with fail
  refine (zzAll_any (t ++ t) _ s2).mono ?_
  rintro e w2 ⟨rfl, rfl⟩
  rw [r2]
  go_wp2_with fail
  refine (zzAll_any _ _ s5).mono ?_
  rintro e w2 ⟨rfl, rfl⟩
  rw [r5]
  go_wp2
  go_ret
  exact ⟨rfl, hg1⟩

end Go.Proofs.Qxb6617845a
