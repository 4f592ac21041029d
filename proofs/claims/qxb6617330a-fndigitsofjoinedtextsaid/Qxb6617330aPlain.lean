/-
  THE PLAIN PART: the run of ASCII digits at a text's start. No Go in sight.
-/
namespace Go.Proofs.Qxb6617330a

/-- Is the number n the byte of an ASCII digit? -/
def isD (n : Int) : Bool := decide (48 ≤ n) && decide (n ≤ 57)

theorem isD_true {n : Int} (h1 : 48 ≤ n) (h2 : n ≤ 57) : isD n = true := by simp [isD, h1, h2]
theorem isD_low {n : Int} (h : ¬ 48 ≤ n) : isD n = false := by simp [isD, h]
theorem isD_high {n : Int} (h : ¬ n ≤ 57) : isD n = false := by simp [isD, h]

/-- r is the length of the run of digits at the start of s. -/
structure IsRun (s : ByteArray) (r : Nat) : Prop where
  le : r ≤ s.size
  digs : ∀ j (h : j < s.size), j < r → isD ((s[j]'h).toNat : Int) = true
  fin : ∀ h : r < s.size, isD ((s[r]'h).toNat : Int) = false

theorem IsRun.uniq {s : ByteArray} {r r' : Nat} (a : IsRun s r) (b : IsRun s r') : r = r' := by
  have ha := a.le
  have hb := b.le
  rcases Nat.lt_trichotomy r r' with h | h | h
  · have h1 := a.fin (by omega)
    have h2 := b.digs r (by omega) h
    rw [h1] at h2; cases h2
  · exact h
  · have h1 := b.fin (by omega)
    have h2 := a.digs r' (by omega) h
    rw [h1] at h2; cases h2

/-- All of a are digits: the run of a ++ b is a's length and b's run. -/
theorem IsRun.joinAll {a b : ByteArray} {r : Nat} (ha : IsRun a a.size) (hb : IsRun b r) : IsRun (a ++ b) (a.size + r) := by
  have hl := hb.le
  refine ⟨by rw [ByteArray.size_append]; omega, ?_, ?_⟩
  · intro j h hj
    by_cases hja : j < a.size
    · rw [ByteArray.getElem_append_left hja]; exact ha.digs j hja hja
    · rw [ByteArray.getElem_append_right (by omega)]
      exact hb.digs _ (by rw [ByteArray.size_append] at h; omega) (by omega)
  · intro h
    rw [ByteArray.getElem_append_right (by omega)]
    have h' : r < b.size := by rw [ByteArray.size_append] at h; omega
    have := hb.fin h'
    simpa using this

/-- Some byte of a is no digit: the run of a ++ b is a's. -/
theorem IsRun.joinSome {a b : ByteArray} {r : Nat} (ha : IsRun a r) (h : r < a.size) : IsRun (a ++ b) r := by
  refine ⟨by rw [ByteArray.size_append]; omega, ?_, ?_⟩
  · intro j _ hj
    rw [ByteArray.getElem_append_left (show j < a.size by omega)]; exact ha.digs j (by omega) hj
  · intro _
    rw [ByteArray.getElem_append_left h]; exact ha.fin h

end Go.Proofs.Qxb6617330a
