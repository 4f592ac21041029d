import Derived.Test.Qxb6617238aPlain
import Derived.Test.Qxb6617238aRows
import Derived.WalkKit
import Derived.ProofKit
import Derived.OpenShut
import Derived.ShutString
import Derived.Handy
import Derived.WalkSpells
import Derived.Deep.QuietTactic
import Derived.BigQuiet
import Derived.Deep.LoopGhost
namespace Go.Proofs.Qxb6617238a
open Go.RowKit

theorem ret_bool {a b : Bool} (h : a = b) : Ending.returned (.bool a) = .returned (.bool b) := by rw [h]

/-- 'isDigit' -/
theorem isDigit_any (n : Int) (w : World) : Calls Try.prog 19 #[.int .u8 n] w fun e w' => e = .returned (.bool (isD n)) ∧ w' = w := by
  by_cases h1 : 48 ≤ n
  · by_cases h2 : n ≤ 57
    · have e : isD n = true := by simp [isD, h1, h2]
      go_enter Try.func19, Try.ntmps19
      go_wp2
      go_ret
      first | exact ⟨rfl, rfl⟩ | exact ⟨ret_bool e.symm, rfl⟩
    · have e : isD n = false := by simp [isD, h2]
      go_enter Try.func19, Try.ntmps19
      go_wp2
      go_ret
      first | exact ⟨rfl, rfl⟩ | exact ⟨ret_bool e.symm, rfl⟩
  · have e : isD n = false := by simp [isD, h1]
    go_enter Try.func19, Try.ntmps19
    go_wp2
    go_ret
    first | exact ⟨rfl, rfl⟩ | exact ⟨ret_bool e.symm, rfl⟩

/-- 'zzDigit' -/
theorem zzDigit_any (n : Int) (w : World) : Calls Try.prog 14 #[.int .u8 n] w fun e w' => e = .returned (.bool (isD n)) ∧ w = w' := by
  by_cases h1 : 48 ≤ n
  · by_cases h2 : n ≤ 57
    · have e : isD n = true := by simp [isD, h1, h2]
      go_enter Try.func14, Try.ntmps14
      go_wp2
      go_ret
      first | exact ⟨rfl, rfl⟩ | exact ⟨ret_bool e.symm, rfl⟩
    · have e : isD n = false := by simp [isD, h2]
      go_enter Try.func14, Try.ntmps14
      go_wp2
      go_ret
      first | exact ⟨rfl, rfl⟩ | exact ⟨ret_bool e.symm, rfl⟩
  · have e : isD n = false := by simp [isD, h1]
    go_enter Try.func14, Try.ntmps14
    go_wp2
    go_ret
    first | exact ⟨rfl, rfl⟩ | exact ⟨ret_bool e.symm, rfl⟩

/-- The loop's state: the lexer's three cells in block b, and the world besides. -/
structure At (W : World) (b : Nat) (s : ByteArray) (k : Nat) (semi : Bool) (wr : World) : Prop where
  c0 : wr.cell? ⟨b, 0, none⟩ = some (.string s)
  c1 : wr.cell? ⟨b, 1, none⟩ = some (.int .i64 k)
  c2 : wr.cell? ⟨b, 2, none⟩ = some (.bool semi)
  f1 : wr.frozen? ⟨b, 1, none⟩ = false
  grown : Grown W wr


/-- What the loop hands on from round to round. -/
structure Rd (W : World) (b : Nat) (s : ByteArray) (k : Nat) (semi : Bool) (j : Nat) (wr : World) : Prop where
  ge : k ≤ j
  le : k ≤ s.size → j ≤ s.size
  past : s.size ≤ k → j = k
  digs : ∀ i (h : i < s.size), k ≤ i → i < j → isD ((s[i]'h).toNat : Int) = true
  cells : At W b s j semi wr

theorem At.drewN {W : World} {b : Nat} {s : ByteArray} {k : Nat} {semi : Bool} {wr : World} (h : At W b s k semi wr) (n : Nat) : At W b s k semi (wr.drewN n) :=
  ⟨h.c0, h.c1, h.c2, h.f1, h.grown⟩

theorem At.step {W : World} {b : Nat} {s : ByteArray} {k : Nat} {semi : Bool} {wr : World} (hb : W.heap.size ≤ b) (h : At W b s k semi wr) (x : Nat) : At W b s x semi (wr.setCell ⟨b, 1, none⟩ (.int .i64 x)) :=
  ⟨(World.cell?_setCell_other _ _ _ _ (by simp)).trans h.c0, World.cell?_setCell_same _ _ _ h.c1, (World.cell?_setCell_other _ _ _ _ (by simp)).trans h.c2, (World.frozen?_setCell _ _ _ _).trans h.f1, h.grown.setCell hb _⟩

theorem Rd.step {W : World} {b : Nat} {s : ByteArray} {k : Nat} {semi : Bool} {j : Nat} {wr : World} (hb : W.heap.size ≤ b) (R : Rd W b s k semi j wr) (hlt : j < s.size) (hd : isD ((s[j]'hlt).toNat : Int) = true) (n : Nat) : Rd W b s k semi (j + 1) ((wr.drewN n).setCell ⟨b, 1, none⟩ (.int .i64 ((j : Int) + 1))) := by
  refine ⟨Nat.le_succ_of_le R.ge, fun _ => hlt, fun h => by have := R.past h; omega, ?_, (R.cells.drewN n).step hb (j + 1)⟩
  intro i hi hki hij
  by_cases e : i = j
  · subst e; exact hd
  · exact R.digs i hi hki (by omega)

theorem Rd.run {W : World} {b : Nat} {s : ByteArray} {k : Nat} {semi : Bool} {j : Nat} {wr : World} (R : Rd W b s k semi j wr) (hd : ∀ hlt : j < s.size, isD ((s[j]'hlt).toNat : Int) = false) : IsRun s k j :=
  ⟨R.ge, R.le, R.past, R.digs, hd⟩

set_option maxHeartbeats 400000 in
/-- 'skipDigits' -/
theorem skipDigits_any (W w : World) (b : Nat) (s : ByteArray) (k : Nat) (semi : Bool) (hs : s.size ≤ 1048576) (hb : W.heap.size ≤ b) (h : At W b s k semi w) :
    Calls Try.prog 16 #[.pointer (some ⟨b, 0, none⟩)] w fun e w' => e = .returned (.tuple #[]) ∧ ∃ r, IsRun s k r ∧ At W b s r semi w' := by
  go_enter Try.func16, Try.ntmps16
  go_wp2
  go_loopg [] (s.size - k) (fun g wr => ∃ j : Nat, s.size - j ≤ g ∧ Rd W b s k semi j wr)
  case atStart => exact ⟨k, Nat.le_refl _, Nat.le_refl _, fun h => h, fun _ => rfl, fun i _ h1 h2 => by omega, h⟩
  case round =>
    obtain ⟨j, hg, R⟩ := hrel
    have h0 := R.cells.c0
    have h1 := R.cells.c1
    have hf := R.cells.f1
    by_cases hlt : j < s.size
    · by_cases hd : isD ((s[j]'hlt).toNat : Int) = true
      · have hlt' : (j : Int) < (s.size : Int) := by omega
        go_wp2_with fail
        go_quiet ((go_at_call 19; exact Calls.quiet_of_same (isDigit_any _ _)))
        go_wp2
        go_roundg (s.size - (j + 1))
        case measure => omega
        case rel => exact ⟨j + 1, Nat.le_refl _, R.step hb hlt hd _⟩
      · have hlt' : (j : Int) < (s.size : Int) := by omega
        have hd' : isD ((s[j]'hlt).toNat : Int) = false := by simpa using hd
        clear hd
        go_wp2_with fail
        go_quiet ((go_at_call 19; exact Calls.quiet_of_same (isDigit_any _ _)))
        go_wp2
        go_end0
        exact ⟨rfl, j, R.run (fun _ => hd'), R.cells.drewN _⟩
    · have hd : decide ((j : Int) < (s.size : Int)) = false := by simp; omega
      go_wp2_with fail
      go_quiet ((go_at_call 19; exact Calls.quiet_of_same (isDigit_any _ _)))
      go_wp2
      go_end0
      exact ⟨rfl, j, R.run (fun h => absurd h hlt), R.cells.drewN _⟩

theorem At.new (w : World) (s : ByteArray) (k : Nat) (semi : Bool) (t : TypeId) : At w w.heap.size s k semi (w.alloc (.cells #[.string s, .int .i64 k, .bool semi] t)) := by
  refine ⟨by simp [go_sem], by simp [go_sem], by simp [go_sem], ?_, (Grown.refl w).alloc _ _⟩
  rw [((Grown.refl w).alloc _ _).2.1]
  simp [World.frozen?]

set_option maxHeartbeats 400000 in
/-- 'ZZSkipDigits' -/
theorem zzSkip_any (w : World) (s : ByteArray) (x : Int) (semi : Bool) (hs : s.size ≤ 1048576) (hx : 0 ≤ x) :
    Calls Try.prog 13 #[.string s, .int .i64 x, .bool semi] w fun e w' => ∃ r : Nat, IsRun s x.toNat r ∧ e = .returned (.tuple #[.string s, .int .i64 r, .bool semi]) ∧ Grown w w' := by
  obtain ⟨k, rfl⟩ : ∃ k : Nat, x = k := ⟨x.toNat, by omega⟩
  go_enter Try.func13, Try.ntmps13
  go_wp2_with (go_at_call 16; refine (skipDigits_any w _ w.heap.size s k semi hs (Nat.le_refl _) (At.new w s k semi _)).mono ?_; rintro e w' ⟨rfl, r, hr, hat⟩; have h0 := hat.c0; have h1 := hat.c1; have h2 := hat.c2)
  go_quiet (fail)
  go_wp2
  go_ret3
  exact ⟨r, hr, rfl, hat.grown⟩
end Go.Proofs.Qxb6617238a
