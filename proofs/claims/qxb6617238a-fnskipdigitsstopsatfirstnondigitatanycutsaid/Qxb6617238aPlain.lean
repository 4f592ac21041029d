/-
  THE PLAIN PART: runs of ASCII digits in a text. No Go in sight.
-/
namespace Go.Proofs.Qxb6617238a

/-- Is the number n the byte of an ASCII digit? -/
def isD (n : Int) : Bool := decide (48 ≤ n) && decide (n ≤ 57)

theorem isD_iff (n : Int) : isD n = true ↔ 48 ≤ n ∧ n ≤ 57 := by
  unfold isD; simp

/-- r is where the run of digits from k on ends: the first place at or behind k that is the end or holds no digit; k itself where k is at or behind the end. -/
structure IsRun (s : ByteArray) (k r : Nat) : Prop where
  ge : k ≤ r
  le : k ≤ s.size → r ≤ s.size
  past : s.size ≤ k → r = k
  digs : ∀ j (h : j < s.size), k ≤ j → j < r → isD ((s[j]'h).toNat : Int) = true
  ends : ∀ h : r < s.size, isD ((s[r]'h).toNat : Int) = false

theorem IsRun.uniq {s : ByteArray} {k r r' : Nat} (a : IsRun s k r) (b : IsRun s k r') : r = r' := by
  by_cases hk : s.size ≤ k
  · rw [a.past hk, b.past hk]
  · have ha := a.le (by omega)
    have hb := b.le (by omega)
    rcases Nat.lt_trichotomy r r' with h | h | h
    · have h1 := a.ends (by omega)
      have h2 := b.digs r (by omega) a.ge h
      rw [h1] at h2; cases h2
    · exact h
    · have h1 := b.ends (by omega)
      have h2 := a.digs r' (by omega) b.ge h
      rw [h1] at h2; cases h2

theorem get_extract (s : ByteArray) (a b j : Nat) (h : j < (s.extract a b).size) (h' : a + j < s.size) : (s.extract a b)[j]'h = s[a + j]'h' := by
  rw [ByteArray.getElem_extract]

/-- The run in the head of the text, cut at c: where it ends ahead of the cut it is the whole text's. -/
theorem IsRun.cutHead {s : ByteArray} {k c r r1 : Nat} (hc : c ≤ s.size) (hkc : k ≤ c) (h : IsRun s k r) (h1 : IsRun (s.extract 0 c) k r1) (hr : r1 < c) : r = r1 := by
  have hs : (s.extract 0 c).size = c := by rw [ByteArray.size_extract]; omega
  have hg := h1.ge
  refine h.uniq ⟨h1.ge, fun _ => by omega, fun hh => by omega, ?_, ?_⟩
  · intro j hj hkj hjr
    have := h1.digs j (by rw [hs]; omega) hkj hjr
    rw [get_extract s 0 c j _ (by omega)] at this
    simpa using this
  · intro hr'
    have := h1.ends (by rw [hs]; exact hr)
    rw [get_extract s 0 c r1 _ (by omega)] at this
    simpa using this

/-- Where the run in the head comes to the cut, it goes on with the run of the rest. -/
theorem IsRun.cutRest {s : ByteArray} {k c r r1 r2 : Nat} (hc : c ≤ s.size) (hkc : k ≤ c) (hk : k < s.size) (h : IsRun s k r) (h1 : IsRun (s.extract 0 c) k r1) (hr : ¬ r1 < c) (h2 : IsRun (s.extract c s.size) 0 r2) : r = c + r2 := by
  have hs : (s.extract 0 c).size = c := by rw [ByteArray.size_extract]; omega
  have hs2 : (s.extract c s.size).size = s.size - c := by rw [ByteArray.size_extract]; omega
  have hl1 := h1.le (by omega)
  have hl2 := h2.le (by omega)
  refine h.uniq ⟨by omega, fun _ => by omega, fun hh => by omega, ?_, ?_⟩
  · intro j hj hkj hjr
    by_cases hjc : j < c
    · have := h1.digs j (by omega) hkj (by omega)
      rw [get_extract s 0 c j _ (by omega)] at this
      simpa using this
    · have := h2.digs (j - c) (by omega) (by omega) (by omega)
      rw [get_extract s c s.size (j - c) _ (by omega)] at this
      simpa [show c + (j - c) = j by omega] using this
  · intro hr'
    have := h2.ends (by omega)
    rw [get_extract s c s.size r2 _ (by omega)] at this
    exact this

end Go.Proofs.Qxb6617238a
