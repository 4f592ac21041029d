/-
  A []bool THAT CAME IN, as the walk is told of it.
-/
import Derived.Test.Qxb6617820aGet
import Derived.Deep.Grids
import Derived.ChangeOld
namespace Go.Proofs.Qxb6617820a
open Go.ChangeShapes Go.WideShapes Go.ChangeAt Go.RowKit Go.Deep

theorem cells4 : Try.prog.cellsOf 4 = 1 := by kernel_rfl

theorem lt_of_cell {w : World} {b o : Nat} {v : Value} (h : w.cell? ⟨b, o, none⟩ = some v) : b < w.heap.size := by
  by_cases hb : b < w.heap.size
  · exact hb
  · have e : w.heap[b]? = none := by simp; omega
    simp [World.cell?, e] at h

theorem bools_of {H : Type} {enc : TypeId × Value → H} {W : World} {a : Option Addr} {len cap : Nat} {d : DataW H} {p : List MemPlace} (h : DataW.Trod enc Try.prog W 0 (fun _ => true) true 29 (.slice a len cap) d p) :
    len ≤ maxLen ∧ ∃ b off f, Bools W a len b off f := by
  obtain ⟨fuel, hf⟩ := h
  rcases open_bools Try.underlying29 Try.underlying4 cells4 hf with ⟨hcs, _⟩ | ⟨x, l, c, B, hcs, _, hl, hm, _, hcell⟩
  · simp [Value.cells] at hcs
    obtain ⟨rfl, rfl, rfl⟩ := hcs
    exact ⟨Nat.zero_le _, 0, 0, fun _ => false, ⟨fun h => absurd h (Nat.lt_irrefl _), fun h => absurd h (Nat.lt_irrefl _), fun i h => absurd h (Nat.not_lt_zero _)⟩⟩
  · simp [Value.cells] at hcs
    obtain ⟨rfl, rfl, rfl⟩ := hcs
    refine ⟨Nat.le_trans hl hm, ?_⟩
    by_cases h0 : 0 < len
    · obtain ⟨b, off, spot⟩ := x
      have hc := hcell 0 (by omega)
      have hspot : spot = none := by simpa [Addr.add] using World.cell?_spot hc
      subst hspot
      have hcell' : ∀ i, i < len → W.cell? ⟨b, off + i, none⟩ = some (.bool (B i)) := fun i hi => by
        have := hcell i (by omega)
        unfold Addr.add at this
        by_cases e : i = 0
        · subst e; simpa using this
        · simpa [e] using this
      exact ⟨b, off, B, ⟨fun _ => rfl, fun _ => lt_of_cell (hcell' 0 h0), hcell'⟩⟩
    · exact ⟨0, 0, fun _ => false, ⟨fun h => absurd h h0, fun h => absurd h h0, fun i h => absurd (Nat.lt_of_le_of_lt (Nat.zero_le _) h) h0⟩⟩

end Go.Proofs.Qxb6617820a
