/-
  WHAT THE LAWS' LOOPS HAND ON.
-/
import Derived.Test.Qxb6617820aOpen
import Derived.Deep.Draws
namespace Go.Proofs.Qxb6617820a
open Go.RowKit

/-- The base chain while it is built, q versions still to come. -/
structure Base (w : World) (f : Nat → Bool) (n q : Nat) (l : List (Nat × Bool)) (wr : World) : Prop where
  len : l.length + q = n
  top : l ≠ [] → top l = f q
  chain : Chain w.heap.size wr l
  below : Below w.heap.size w wr

theorem Base.start (w : World) (f : Nat → Bool) (n : Nat) : Base w f n n [] w := ⟨by simp, fun h => absurd rfl h, trivial, Below.refl _ _⟩

theorem Base.step {w : World} {f : Nat → Bool} {n k : Nat} {l : List (Nat × Bool)} {wr : World} (h : Base w f n (k + 1) l wr) :
    Base w f n k ((wr.heap.size, f k) :: l) (wr.alloc (.cells #[.int .u64 0, .slice none 0 0, .bool (f k), .pointer (hd l)] 48)) :=
  ⟨by have := h.len; simp only [List.length_cons]; omega, fun _ => rfl, h.chain.push h.below.size 0 (f k), h.below.alloc h.below.size _⟩

theorem Base.base {w : World} {f : Nat → Bool} {n : Nat} {l : List (Nat × Bool)} {wr : World} (h : Base w f n 0 l wr) : chainRet (f 0) n = ret l := by
  have h1 := h.len
  have h2 := h.top
  rw [ret_chain]
  cases l with
  | nil => simp at h1; subst h1; simp [chainRet]
  | cons x t => rw [h2 (by simp), show n = (x :: t).length from h1.symm]

/-- A []bool reads as it did. -/
theorem Bools.cellB {w wr : World} {a : Option Addr} {len b off : Nat} {f : Nat → Bool} (h : Bools w a len b off f) (hb : Below w.heap.size w wr) (i : Nat) (hi : i < len) : wr.cell? ⟨b, off + i, none⟩ = some (.bool (f i)) :=
  (hb.cell (p := ⟨b, off + i, none⟩) (h.old (by omega))).trans (h.cell i hi)

theorem Bools.later {w wr : World} {a : Option Addr} {len b off : Nat} {f : Nat → Bool} (h : Bools w a len b off f) (hb : Below w.heap.size w wr) : Bools wr a len b off f :=
  ⟨h.addr, fun h' => Nat.lt_of_lt_of_le (h.old h') hb.size, fun i hi => h.cellB hb i hi⟩

/-- The row, its newest version's chain, and the world besides. -/
structure Row (w : World) (rb : Nat) (l : List (Nat × Bool)) (wr : World) : Prop where
  cell : wr.cell? ⟨rb, 0, none⟩ = some (.pointer (hd l))
  free : wr.frozen? ⟨rb, 0, none⟩ = false
  chain : Chain w.heap.size wr l
  ne : ∀ y ∈ l, y.1 ≠ rb
  ge : w.heap.size ≤ rb
  lt : rb < wr.heap.size
  below : Below w.heap.size w wr

theorem Row.start {w : World} {f : Nat → Bool} {n q : Nat} {l : List (Nat × Bool)} {wr : World} (h : Base w f n q l wr) (g : Bool) (v : Option Addr) (m : Int) :
    Row w wr.heap.size l (wr.alloc (.cells #[.pointer (hd l), .bool g, .pointer v, .int .u64 m] 50)) := by
  refine ⟨by simp, ?_, h.chain.alloc _, fun y hy => Nat.ne_of_lt (h.chain.lt y hy), h.below.size, by simp, h.below.alloc h.below.size _⟩
  rw [frozen?_alloc_cells]
  simp [World.frozen?]

theorem Row.drewN {w : World} {rb : Nat} {l : List (Nat × Bool)} {wr : World} (h : Row w rb l wr) (n : Nat) : Row w rb l (wr.drewN n) :=
  ⟨h.cell, h.free, h.chain.keep (fun _ _ => rfl), h.ne, h.ge, h.lt, ⟨h.below.os, h.below.tape, h.below.output, h.below.size, h.below.block⟩⟩

theorem Row.drew {w : World} {rb : Nat} {l : List (Nat × Bool)} {wr : World} (h : Row w rb l wr) : Row w rb l wr.drew := h.drewN 1

/-- A new version is made. -/
theorem Row.alloc {w : World} {rb : Nat} {l : List (Nat × Bool)} {wr : World} (h : Row w rb l wr) (o : Obj) : Row w rb l (wr.alloc o) :=
  ⟨(World.cell?_alloc_past o rb 0 h.lt).trans h.cell, (World.frozen?_alloc_old wr o ⟨rb, 0, none⟩ (Nat.ne_of_lt h.lt)).trans h.free, h.chain.alloc _, h.ne, h.ge, by have := h.lt; simp; omega, h.below.alloc h.below.size _⟩

/-- The row's newest version is set. -/
theorem Row.set {w : World} {rb : Nat} {l m : List (Nat × Bool)} {wr : World} (h : Row w rb l wr) (hm : Chain w.heap.size wr m) (hne : ∀ y ∈ m, y.1 ≠ rb) : Row w rb m (wr.setCell ⟨rb, 0, none⟩ (.pointer (hd m))) :=
  ⟨World.cell?_setCell_same _ _ _ h.cell, (World.frozen?_setCell _ _ _ _).trans h.free, hm.setCell _ hne, hne, h.ge, by simpa using h.lt, h.below.setCell h.ge _⟩

theorem Row.ne_push {w : World} {rb : Nat} {l : List (Nat × Bool)} {wr : World} (h : Row w rb l wr) (d : Bool) : ∀ y ∈ (wr.heap.size, d) :: l, y.1 ≠ rb := by
  intro y hy
  rcases List.mem_cons.1 hy with e | e
  · rw [e]; exact Nat.ne_of_gt h.lt
  · exact h.ne y e

/-- While the pushes go on: k of them made. -/
structure Psh (w : World) (rb : Nat) (l0 : List (Nat × Bool)) (g : Nat → Bool) (k : Nat) (S : Int) (l : List (Nat × Bool)) (wr : World) : Prop where
  sum : S = ret l - ret l0
  len : l.length = l0.length + k
  back : l.drop k = l0
  top : 0 < k → top l = g (k - 1)
  row : Row w rb l wr

theorem Psh.bd {w : World} {rb : Nat} {l0 : List (Nat × Bool)} {g : Nat → Bool} {k : Nat} {S : Int} {l : List (Nat × Bool)} {wr : World} (h : Psh w rb l0 g k S l wr) : -(l0.length : Int) ≤ S ∧ S ≤ (l0.length : Int) + k := by
  have h1 := ret_bd l
  have h2 := ret_bd l0
  have h3 := h.sum
  have h4 := h.len
  omega

/-- The world behind the making of a new version ahead of l. -/
theorem Row.made {w : World} {rb : Nat} {l : List (Nat × Bool)} {wr : World} (h : Row w rb l wr) (tx : Int) (d : Bool) :
    Row w rb l (wr.alloc (.cells #[.int .u64 tx, .slice none 0 0, .bool d, .pointer (hd l)] 48)).drew ∧ Chain w.heap.size (wr.alloc (.cells #[.int .u64 tx, .slice none 0 0, .bool d, .pointer (hd l)] 48)).drew ((wr.heap.size, d) :: l) :=
  ⟨(h.alloc _).drew, (h.chain.push h.below.size tx d).keep (fun _ _ => rfl)⟩

theorem rise_bd (x : Nat × Bool) (l : List (Nat × Bool)) : -1 ≤ ret (x :: l) - ret l ∧ ret (x :: l) - ret l ≤ 2 := by
  rw [← push_rise]
  have h1 := vret_bd (x :: l)
  have h2 := bit_bd (Qxb6617820a.top l)
  omega

/-- One push. -/
theorem Psh.step {w : World} {rb : Nat} {l0 : List (Nat × Bool)} {g : Nat → Bool} {k : Nat} {S : Int} {l : List (Nat × Bool)} {wr : World} (h : Psh w rb l0 g k S l wr) (tx : Int) :
    Psh w rb l0 g (k + 1) (S + (ret ((wr.heap.size, g k) :: l) - ret l)) ((wr.heap.size, g k) :: l)
      ((wr.alloc (.cells #[.int .u64 tx, .slice none 0 0, .bool (g k), .pointer (hd l)] 48)).drew.setCell ⟨rb, 0, none⟩ (.pointer (hd ((wr.heap.size, g k) :: l)))) :=
  ⟨by have := h.sum; omega, by have := h.len; simp only [List.length_cons]; omega, by rw [List.drop_succ_cons]; exact h.back, fun _ => by simp [Qxb6617820a.top],
   (h.row.made tx (g k)).1.set (h.row.made tx (g k)).2 (h.row.ne_push (g k))⟩

theorem zzChainRet_sum (w : World) (d : Bool) (n m : Nat) (hn : n + m ≤ 1000000) :
    Calls Try.prog 22 #[.bool d, .int .i64 ((n : Int) + (m : Int))] w fun e w' => e = .returned (.int .i64 (chainRet d (n + m))) ∧ w = w' := by
  rw [show (n : Int) + (m : Int) = ((n + m : Nat) : Int) by omega]
  exact zzChainRet_any w d (n + m) hn

/-- The count of the full chain, out of the last push's flag. -/
theorem Psh.fullG {w : World} {rb : Nat} {l0 : List (Nat × Bool)} {g : Nat → Bool} {k : Nat} {S : Int} {l : List (Nat × Bool)} {wr : World} (h : Psh w rb l0 g k S l wr) (hk : 0 < k) : chainRet (g (k - 1)) (l0.length + k) = ret l := by
  rw [ret_chain, h.top hk, h.len]

/-- The count of the full chain where nothing was pushed. -/
theorem Psh.full0 {w : World} {rb : Nat} {l0 : List (Nat × Bool)} {g : Nat → Bool} {S : Int} {l : List (Nat × Bool)} {wr : World} (h : Psh w rb l0 g 0 S l wr) : l = l0 := by
  have := h.back; rwa [List.drop_zero] at this

theorem Psh.full1 {w : World} {rb : Nat} {l0 : List (Nat × Bool)} {g : Nat → Bool} {k n : Nat} {d : Bool} {S : Int} {l : List (Nat × Bool)} {wr : World} (h : Psh w rb l0 g k S l wr) (hk : ¬ 0 < k) (hb : chainRet d n = ret l0) : chainRet d (n + k) = ret l := by
  obtain rfl : k = 0 := by omega
  rw [h.full0, Nat.add_zero, hb]

/-- While the versions are put back: the chain l is left. -/
structure Pop (w : World) (rb : Nat) (l0 : List (Nat × Bool)) (k n : Nat) (S : Int) (l : List (Nat × Bool)) (wr : World) : Prop where
  sum : S = ret l - ret l0
  len : l.length + k = l0.length + n
  back : l.drop (n - k) = l0
  row : Row w rb l wr

theorem Pop.bd {w : World} {rb : Nat} {l0 : List (Nat × Bool)} {k n : Nat} {S : Int} {l : List (Nat × Bool)} {wr : World} (h : Pop w rb l0 k n S l wr) : -(l0.length : Int) ≤ S ∧ S ≤ (l0.length : Int) + n := by
  have h1 := ret_bd l
  have h2 := ret_bd l0
  have h3 := h.sum
  have h4 := h.len
  omega

theorem Psh.turn {w : World} {rb : Nat} {l0 : List (Nat × Bool)} {g : Nat → Bool} {k : Nat} {S : Int} {l : List (Nat × Bool)} {wr : World} (h : Psh w rb l0 g k S l wr) : Pop w rb l0 0 k S l wr :=
  ⟨h.sum, h.len, h.back, h.row⟩

theorem Pop.more {w : World} {rb : Nat} {l0 : List (Nat × Bool)} {k n : Nat} {S : Int} {l : List (Nat × Bool)} {wr : World} (h : Pop w rb l0 k n S l wr) (hk : k < n) : ∃ x t, l = x :: t := by
  cases l with
  | nil => have := h.len; simp at this; omega
  | cons x t => exact ⟨x, t, rfl⟩

/-- One version is put back. -/
theorem Pop.step {w : World} {rb : Nat} {l0 : List (Nat × Bool)} {k n : Nat} {S : Int} {x : Nat × Bool} {t : List (Nat × Bool)} {wr : World} (h : Pop w rb l0 k n S (x :: t) wr) (hk : k < n) :
    Pop w rb l0 (k + 1) n (S + (ret t - ret (x :: t))) t (wr.setCell ⟨rb, 0, none⟩ (.pointer (hd t))) :=
  ⟨by have := h.sum; omega, by have := h.len; simp only [List.length_cons] at this; omega, by
    have := h.back
    rw [show n - k = (n - (k + 1)) + 1 by omega, List.drop_succ_cons] at this
    exact this, h.row.set h.row.chain.tail (fun y hy => h.row.ne y (List.mem_cons_of_mem _ hy))⟩

theorem Pop.ended {w : World} {rb : Nat} {l0 : List (Nat × Bool)} {n : Nat} {S : Int} {l : List (Nat × Bool)} {wr : World} (h : Pop w rb l0 n n S l wr) : l = l0 ∧ S = 0 := by
  have h1 := h.back
  rw [Nat.sub_self, List.drop_zero] at h1
  subst h1
  have := h.sum
  exact ⟨rfl, by omega⟩

end Go.Proofs.Qxb6617820a
