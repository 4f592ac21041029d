/-
  THE CHAIN AND THE ARRAY OF ITS VERSIONS, for 'FnSetNewestAnswerIsRiseOfRetained'.
-/
import Derived.Test.Qxb6617820aRel
import Derived.Deep.OwnRows
namespace Go.Proofs.Qxb6617820a
open Go.RowKit

theorem info33 : (Try.prog.info? 33).map (fun i => (i.zero, i.size, i.bytes)) = some (some (.pointer none), 1, 8) := by kernel_rfl

/-- While the chain is built: q versions still to come; the array's block is nb. -/
structure Nod (w : World) (nb n : Nat) (f : Nat → Bool) (q : Nat) (l : List (Nat × Bool)) (wr : World) : Prop where
  len : l.length + q = n
  flag : ∀ i (h : i < l.length), (l[i]'h).2 = f (q + i)
  chain : Chain w.heap.size wr l
  nodes : wr.rowIs nb 33 n (fun i => .pointer (if i < q then none else hd (l.drop (i - q))))
  ge : w.heap.size ≤ nb
  ne : ∀ y ∈ l, y.1 ≠ nb
  below : Below w.heap.size w wr

theorem Nod.start (w : World) (n : Nat) (f : Nat → Bool) : Nod w w.heap.size n f n [] (w.alloc (.cells (madeCells #[.pointer none] n) 33)) :=
  ⟨by simp, fun i h => absurd h (Nat.not_lt_zero _), trivial, (World.rowIs_made w (.pointer none) n 33).congr (fun i hi => by simp [hi]), Nat.le_refl _, fun y hy => absurd hy (by simp), (Below.refl _ _).alloc (Nat.le_refl _) _⟩

theorem Nod.step {w : World} {nb n : Nat} {f : Nat → Bool} {k : Nat} {l : List (Nat × Bool)} {wr : World} (h : Nod w nb n f (k + 1) l wr) :
    Nod w nb n f k ((wr.heap.size, f k) :: l) ((wr.alloc (.cells #[.int .u64 0, .slice none 0 0, .bool (f k), .pointer (hd l)] 48)).setCell ⟨nb, k, none⟩ (.pointer (some ⟨wr.heap.size, 0, none⟩))) := by
  have hne : ∀ y ∈ (wr.heap.size, f k) :: l, y.1 ≠ nb := fun y hy => by
    rcases List.mem_cons.1 hy with e | e
    · rw [e]; exact Nat.ne_of_gt h.nodes.lt
    · exact h.ne y e
  refine ⟨by have := h.len; simp only [List.length_cons]; omega, ?_, (h.chain.push h.below.size 0 (f k)).setCell _ hne, ?_, h.ge, hne, (h.below.alloc h.below.size _).setCell h.ge _⟩
  · intro i hi
    cases i with
    | zero => rfl
    | succ i =>
      have := h.flag i (by simpa using hi)
      rw [show k + (i + 1) = k + 1 + i by omega, ← this]
      rfl
  · refine ((h.nodes.alloc _).set k _).congr fun i hi => ?_
    by_cases e : i = k
    · subst e; simp [hd]
    · by_cases e2 : i < k
      · simp [e, e2, show i < k + 1 by omega]
      · rw [if_neg e, if_neg (show ¬ i < k + 1 by omega), if_neg e2, show i - k = (i - (k + 1)) + 1 by omega, List.drop_succ_cons]

/-- The whole chain l, the array of its versions in block nb. -/
structure All (w : World) (nb n : Nat) (f : Nat → Bool) (l : List (Nat × Bool)) (wr : World) : Prop where
  len : l.length = n
  flag : ∀ i (h : i < l.length), (l[i]'h).2 = f i
  chain : Chain w.heap.size wr l
  nodes : wr.rowIs nb 33 n (fun i => .pointer (hd (l.drop i)))
  ne : ∀ y ∈ l, y.1 ≠ nb
  ge : w.heap.size ≤ nb
  below : Below w.heap.size w wr

theorem Nod.all {w : World} {nb n : Nat} {f : Nat → Bool} {l : List (Nat × Bool)} {wr : World} (h : Nod w nb n f 0 l wr) : All w nb n f l wr :=
  ⟨h.len, fun i hi => by have := h.flag i hi; rwa [Nat.zero_add] at this, h.chain, h.nodes.congr (fun i _ => by simp), h.ne, h.ge, h.below⟩

theorem All.keep {w : World} {nb n : Nat} {f : Nat → Bool} {l : List (Nat × Bool)} {wr wr' : World} (h : All w nb n f l wr) (hk : ∀ b, b = nb ∨ (∃ y ∈ l, y.1 = b) → wr'.heap[b]? = wr.heap[b]?) (hb : Below w.heap.size w wr') : All w nb n f l wr' :=
  ⟨h.len, h.flag, h.chain.keep (fun x hx => hk _ (.inr ⟨x, hx, rfl⟩)), h.nodes.of_block (hk nb (.inl rfl)), h.ne, h.ge, hb⟩

theorem All.alloc {w : World} {nb n : Nat} {f : Nat → Bool} {l : List (Nat × Bool)} {wr : World} (h : All w nb n f l wr) (o : Obj) : All w nb n f l (wr.alloc o) :=
  ⟨h.len, h.flag, h.chain.alloc _, h.nodes.alloc _, h.ne, h.ge, h.below.alloc h.below.size _⟩

theorem All.setCell {w : World} {nb n : Nat} {f : Nat → Bool} {l : List (Nat × Bool)} {wr : World} (h : All w nb n f l wr) {a : Addr} (v : Value) (h1 : nb ≠ a.block) (h2 : ∀ y ∈ l, y.1 ≠ a.block) (h3 : w.heap.size ≤ a.block) : All w nb n f l (wr.setCell a v) :=
  ⟨h.len, h.flag, h.chain.setCell _ h2, h.nodes.setOther h1 _, h.ne, h.ge, h.below.setCell h3 _⟩

theorem All.drewN {w : World} {nb n : Nat} {f : Nat → Bool} {l : List (Nat × Bool)} {wr : World} (h : All w nb n f l wr) (k : Nat) : All w nb n f l (wr.drewN k) :=
  h.keep (fun _ _ => rfl) ⟨h.below.os, h.below.tape, h.below.output, h.below.size, h.below.block⟩

/-- The count of the whole chain. -/
theorem All.base {w : World} {nb n : Nat} {f : Nat → Bool} {l : List (Nat × Bool)} {wr : World} (h : All w nb n f l wr) : chainRet (f 0) n = ret l := by
  have h1 := h.len
  have h2 := h.flag
  rw [ret_chain]
  cases l with
  | nil => simp at h1; subst h1; simp [chainRet]
  | cons x t => rw [← h2 0 (by simp), ← h1]; rfl

/-- The chain from version i on. -/
theorem All.nth {w : World} {nb n : Nat} {f : Nat → Bool} {l : List (Nat × Bool)} {wr : World} (h : All w nb n f l wr) (i : Nat) (hi : i < n) : ∃ x, x.2 = f i ∧ l.drop i = x :: l.drop (i + 1) := by
  have hl : i < l.length := by rw [h.len]; exact hi
  exact ⟨l[i], h.flag i hl, List.drop_eq_getElem_cons hl⟩

/-- The row's four cells, in block rb. -/
structure Rw (w : World) (nb rb : Nat) (l m : List (Nat × Bool)) (g : Bool) (ls : Int) (wr : World) : Prop where
  c0 : wr.cell? ⟨rb, 0, none⟩ = some (.pointer (hd m))
  c1 : wr.cell? ⟨rb, 1, none⟩ = some (.bool g)
  c2 : wr.cell? ⟨rb, 2, none⟩ = some (.pointer none)
  c3 : wr.cell? ⟨rb, 3, none⟩ = some (.int .u64 ls)
  free : wr.frozen? ⟨rb, 0, none⟩ = false
  lt : rb < wr.heap.size
  ge : w.heap.size ≤ rb
  nn : nb ≠ rb
  ne : ∀ y ∈ l, y.1 ≠ rb

theorem Rw.start {w : World} {nb n : Nat} {f : Nat → Bool} {l : List (Nat × Bool)} {wr : World} (h : All w nb n f l wr) (g : Bool) (ls : Int) :
    Rw w nb wr.heap.size l l g ls (wr.alloc (.cells #[.pointer (hd l), .bool g, .pointer none, .int .u64 ls] 50)) := by
  refine ⟨by simp, by simp, by simp, by simp, ?_, by simp, h.below.size, Nat.ne_of_lt h.nodes.lt, fun y hy => Nat.ne_of_lt (h.chain.lt y hy)⟩
  rw [frozen?_alloc_cells]
  simp [World.frozen?]

theorem Rw.alloc {w : World} {nb rb : Nat} {l m : List (Nat × Bool)} {g : Bool} {ls : Int} {wr : World} (h : Rw w nb rb l m g ls wr) (o : Obj) : Rw w nb rb l m g ls (wr.alloc o) :=
  ⟨(World.cell?_alloc_past o rb 0 h.lt).trans h.c0, (World.cell?_alloc_past o rb 1 h.lt).trans h.c1, (World.cell?_alloc_past o rb 2 h.lt).trans h.c2, (World.cell?_alloc_past o rb 3 h.lt).trans h.c3,
   (World.frozen?_alloc_old wr o ⟨rb, 0, none⟩ (Nat.ne_of_lt h.lt)).trans h.free, by have := h.lt; simp; omega, h.ge, h.nn, h.ne⟩

theorem Rw.set {w : World} {nb rb : Nat} {l m : List (Nat × Bool)} {g : Bool} {ls : Int} {wr : World} (h : Rw w nb rb l m g ls wr) (m' : List (Nat × Bool)) : Rw w nb rb l m' g ls (wr.setCell ⟨rb, 0, none⟩ (.pointer (hd m'))) :=
  ⟨World.cell?_setCell_same _ _ _ h.c0, (World.cell?_setCell_other _ _ _ _ (by simp)).trans h.c1, (World.cell?_setCell_other _ _ _ _ (by simp)).trans h.c2, (World.cell?_setCell_other _ _ _ _ (by simp)).trans h.c3,
   (World.frozen?_setCell _ _ _ _).trans h.free, by simpa using h.lt, h.ge, h.nn, h.ne⟩

theorem All.set {w : World} {nb n rb : Nat} {f : Nat → Bool} {l m : List (Nat × Bool)} {g : Bool} {ls : Int} {wr : World} (h : All w nb n f l wr) (r : Rw w nb rb l m g ls wr) (v : Value) : All w nb n f l (wr.setCell ⟨rb, 0, none⟩ v) :=
  h.setCell v r.nn r.ne r.ge

theorem zzChainRet_succ (w : World) (d : Bool) (n : Nat) (hn : n ≤ 900000) :
    Calls Try.prog 22 #[.bool d, .int .i64 ((n : Int) + 1)] w fun e w' => e = .returned (.int .i64 (chainRet d (n + 1))) ∧ w = w' := by
  rw [show (n : Int) + 1 = ((n + 1 : Nat) : Int) by omega]
  exact zzChainRet_any w d (n + 1) (by omega)

theorem zzChainRet_pred (w : World) (d : Bool) (n : Nat) (h1 : 1 ≤ n) (hn : n ≤ 900000) :
    Calls Try.prog 22 #[.bool d, .int .i64 ((n : Int) - 1)] w fun e w' => e = .returned (.int .i64 (chainRet d (n - 1))) ∧ w = w' := by
  rw [show (n : Int) - 1 = ((n - 1 : Nat) : Int) by omega]
  exact zzChainRet_any w d (n - 1) (by omega)

theorem neq_same (w : World) {B : Nat} {m : List (Nat × Bool)} (hm : Chain B w m) : (binOp .neq 33 (.pointer (hd m)) (.pointer (hd m))).run Try.prog w = .ok (.bool false) w := by
  have h := neq_chains w hm hm
  rw [same_refl] at h
  exact h

theorem still {K : Nat} {xs : Array Value} {w : World} {E : Ending} (h : Calls Try.prog K xs w fun e w' => e = E ∧ w = w') : Calls Try.prog K xs w fun e w' => e = E ∧ w' = w :=
  h.mono fun _ _ ⟨a, b⟩ => ⟨a, b.symm⟩

/-- 'ZZRowGone' -/
theorem zzGone_any (w : World) (rb : Nat) (d : Bool) (hr : w.cell? ⟨rb, 1, none⟩ = some (.bool d)) :
    Calls Try.prog 25 #[.pointer (some ⟨rb, 0, none⟩)] w fun e w' => e = .returned (.bool d) ∧ w = w' := by
  go_enter Try.func25, Try.ntmps25
  go_wp2
  go_ret
  exact ⟨rfl, rfl⟩

/-- 'ZZRowListed' -/
theorem zzListed_any (w : World) (rb : Nat) (d : Int) (hr : w.cell? ⟨rb, 3, none⟩ = some (.int .u64 d)) :
    Calls Try.prog 26 #[.pointer (some ⟨rb, 0, none⟩)] w fun e w' => e = .returned (.int .u64 d) ∧ w = w' := by
  go_enter Try.func26, Try.ntmps26
  go_wp2
  go_ret
  exact ⟨rfl, rfl⟩

/-- 'ZZRowPaged' -/
theorem zzPaged_any (w : World) (rb : Nat) (u : Option Addr) (hr : w.cell? ⟨rb, 2, none⟩ = some (.pointer u)) :
    Calls Try.prog 27 #[.pointer (some ⟨rb, 0, none⟩)] w fun e w' => e = .returned (.pointer u) ∧ w = w' := by
  go_enter Try.func27, Try.ntmps27
  go_wp2
  go_ret
  exact ⟨rfl, rfl⟩

end Go.Proofs.Qxb6617820a
