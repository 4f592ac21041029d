/-
  THE PLAIN PART: texts of ASCII digits. No Go in sight.
-/
import Derived.Laws.BytesArg
namespace Go.Proofs.Qxb6617845a

/-- Is the number n the byte of an ASCII digit? -/
def isD (n : Int) : Bool := decide (48 ≤ n) && decide (n ≤ 57)

theorem isD_true {n : Int} (h1 : 48 ≤ n) (h2 : n ≤ 57) : isD n = true := by simp [isD, h1, h2]
theorem isD_low {n : Int} (h : ¬ 48 ≤ n) : isD n = false := by simp [isD, h]
theorem isD_high {n : Int} (h : ¬ n ≤ 57) : isD n = false := by simp [isD, h]

/-- Every byte of s is a digit. -/
def okS (s : ByteArray) : Bool := s.data.toList.all (fun c => isD (c.toNat : Int))

/-- s is one or more digits. -/
def ad (s : ByteArray) : Bool := decide (0 < s.size) && okS s

theorem okS_iff (s : ByteArray) : okS s = true ↔ ∀ i (h : i < s.size), isD ((s[i]'h).toNat : Int) = true := by
  unfold okS
  rw [List.all_eq_true]
  constructor
  · intro h i hi
    exact h _ (List.mem_iff_getElem.2 ⟨i, by simpa using hi, rfl⟩)
  · intro h c hc
    obtain ⟨i, hi, rfl⟩ := List.mem_iff_getElem.1 hc
    exact h i (by simpa using hi)

theorem okS_append (a b : ByteArray) : okS (a ++ b) = (okS a && okS b) := by
  unfold okS
  rw [ByteArray.data_append, Array.toList_append, List.all_append]

theorem okS_empty {s : ByteArray} (h : s.size = 0) : okS s = true := by
  rw [okS_iff]; intro i hi; omega

theorem okS_bad {s : ByteArray} {j : Nat} (hj : j < s.size) (h : isD ((s[j]'hj).toNat : Int) = false) : okS s = false := by
  cases e : okS s with
  | false => rfl
  | true => have := (okS_iff s).1 e j hj; rw [h] at this; cases this

theorem ad_of {s : ByteArray} (h : 0 < s.size) : ad s = okS s := by simp [ad, h]
theorem ad_empty {s : ByteArray} (h : s.size = 0) : ad s = false := by simp [ad, h]

/-- A text of the numbers xs, each a digit's byte. -/
theorem okS_nums (xs : List Int) (h : ∀ n ∈ xs, 48 ≤ n ∧ n ≤ 57) : okS (strOfNums xs) = true := by
  unfold okS
  rw [strOfNums_data, List.all_eq_true]
  intro c hc
  obtain ⟨n, hn, rfl⟩ := List.mem_map.1 hc
  have := h n hn
  have e : ((UInt8.ofNat n.toNat).toNat : Int) = n := by
    rw [UInt8.toNat_ofNat']
    omega
  rw [e]
  exact isD_true this.1 this.2

/-- A text that holds a part with a stranger holds a stranger. -/
theorem okS_left {a b : ByteArray} (h : okS a = false) : okS (a ++ b) = false := by rw [okS_append, h]; rfl
theorem okS_right {a b : ByteArray} (h : okS b = false) : okS (a ++ b) = false := by rw [okS_append, h]; simp

theorem ad_join (a b : ByteArray) : ad (a ++ b) = (decide (0 < a.size + b.size) && (okS a && okS b)) := by
  unfold ad
  rw [okS_append, ByteArray.size_append]

/-- The join of two texts, one of them not empty. -/
theorem ad_joined {a b : ByteArray} {x y : Bool} (h : 0 < a.size + b.size) (ha : okS a = x) (hb : okS b = y) : ad (a ++ b) = (x && y) := by
  rw [ad_join, ha, hb]; simp [h]

end Go.Proofs.Qxb6617845a
