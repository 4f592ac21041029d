/-
  CHAINS OF VERSIONS IN MEMORY, and the count of old versions of a chain.
-/
import Derived.Test.Qxb6617820aRows
import Derived.WalkKit
import Derived.ProofKit
import Derived.OpenShut
import Derived.LaidEqlPtr
namespace Go.Proofs.Qxb6617820a
open Go.RowKit

/-- Where a chain begins. A chain: each version's block and its delete flag, the newest first. -/
def hd : List (Nat × Bool) → Option Addr
  | [] => none
  | x :: _ => some ⟨x.1, 0, none⟩

theorem hd_nil : hd [] = none := rfl
theorem hd_cons (x : Nat × Bool) (t : List (Nat × Bool)) : hd (x :: t) = some ⟨x.1, 0, none⟩ := rfl

/-- The newest version's delete flag; false where there is none. -/
def top : List (Nat × Bool) → Bool
  | [] => false
  | x :: _ => x.2

/-- 1 for true, 0 for false. -/
def bit : Bool → Int
  | true => 1
  | false => 0

theorem bit_bd (b : Bool) : 0 ≤ bit b ∧ bit b ≤ 1 := by cases b <;> simp [bit]

/-- The count of old versions of a chain. -/
def ret : List (Nat × Bool) → Int
  | [] => 0
  | x :: t => bit x.2 + (t.length : Int)

/-- The same out of the newest's flag and the length. -/
def chainRet (d : Bool) (n : Nat) : Int := if n = 0 then 0 else bit d + ((n - 1 : Nat) : Int)

theorem ret_chain (l : List (Nat × Bool)) : ret l = chainRet (top l) l.length := by
  cases l <;> simp [ret, chainRet, top]

theorem ret_bd (l : List (Nat × Bool)) : 0 ≤ ret l ∧ ret l ≤ (l.length : Int) := by
  cases l with
  | nil => simp [ret]
  | cons x t => have := bit_bd x.2; simp only [ret, List.length_cons]; omega

theorem chainRet_bd (d : Bool) (n : Nat) : 0 ≤ chainRet d n ∧ chainRet d n ≤ (n : Int) := by
  have := bit_bd d
  unfold chainRet; split <;> omega

/-- The chain l lies in w: each version in a block of its own from B on, leading to the next, each block's number below the one's ahead of it. -/
def Chain (B : Nat) (w : World) : List (Nat × Bool) → Prop
  | [] => True
  | x :: t => B ≤ x.1 ∧ (∃ tx : Int, w.heap[x.1]? = some (.cells #[.int .u64 tx, .slice none 0 0, .bool x.2, .pointer (hd t)] 48)) ∧ (∀ y ∈ t, y.1 < x.1) ∧ Chain B w t

theorem Chain.tail {B : Nat} {w : World} {x : Nat × Bool} {t : List (Nat × Bool)} (h : Chain B w (x :: t)) : Chain B w t := h.2.2.2

theorem Chain.block {B : Nat} {w : World} {x : Nat × Bool} {t : List (Nat × Bool)} (h : Chain B w (x :: t)) : ∃ c, w.heap[x.1]? = some (.cells c 48 (0, 0)) := by
  obtain ⟨_, ⟨tx, e⟩, _⟩ := h
  exact ⟨_, e⟩

theorem Chain.del {B : Nat} {w : World} {x : Nat × Bool} {t : List (Nat × Bool)} (h : Chain B w (x :: t)) : w.cell? ⟨x.1, 2, none⟩ = some (.bool x.2) := by
  obtain ⟨_, ⟨tx, e⟩, _⟩ := h
  simp [World.cell?, e]

theorem Chain.prev {B : Nat} {w : World} {x : Nat × Bool} {t : List (Nat × Bool)} (h : Chain B w (x :: t)) : w.cell? ⟨x.1, 3, none⟩ = some (.pointer (hd t)) := by
  obtain ⟨_, ⟨tx, e⟩, _⟩ := h
  simp [World.cell?, e]

theorem Chain.ge {B : Nat} {w : World} : ∀ {l : List (Nat × Bool)}, Chain B w l → ∀ x ∈ l, B ≤ x.1
  | [], _, x, hx => by cases hx
  | y :: t, h, x, hx => by
    rcases List.mem_cons.1 hx with e | e
    · rw [e]; exact h.1
    · exact Chain.ge h.tail x e

theorem Chain.lt {B : Nat} {w : World} : ∀ {l : List (Nat × Bool)}, Chain B w l → ∀ x ∈ l, x.1 < w.heap.size
  | [], _, x, hx => by cases hx
  | y :: t, h, x, hx => by
    rcases List.mem_cons.1 hx with e | e
    · rw [e]; obtain ⟨c, hc⟩ := h.block; exact lt_of_block hc
    · exact Chain.lt h.tail x e

/-- A chain lies wherever its blocks are as they were. -/
theorem Chain.keep {B : Nat} {w w' : World} : ∀ {l : List (Nat × Bool)}, Chain B w l → (∀ x ∈ l, w'.heap[x.1]? = w.heap[x.1]?) → Chain B w' l
  | [], _, _ => trivial
  | y :: t, h, k => by
    obtain ⟨h1, ⟨tx, e⟩, h3, h4⟩ := h
    exact ⟨h1, ⟨tx, (k y (List.mem_cons_self ..)).trans e⟩, h3, Chain.keep h4 (fun x hx => k x (List.mem_cons_of_mem _ hx))⟩

theorem Chain.alloc {B : Nat} {w : World} {l : List (Nat × Bool)} (h : Chain B w l) (o : Obj) : Chain B (w.alloc o) l :=
  h.keep fun x hx => Below.heap_alloc _ _ _ (h.lt x hx)

theorem Chain.setCell {B : Nat} {w : World} {l : List (Nat × Bool)} (h : Chain B w l) {a : Addr} (v : Value) (ha : ∀ x ∈ l, x.1 ≠ a.block) : Chain B (w.setCell a v) l :=
  h.keep fun x hx => Below.heap_setCell _ _ _ _ (ha x hx)

theorem Chain.drop {B : Nat} {w : World} {l : List (Nat × Bool)} (h : Chain B w l) : ∀ n, Chain B w (l.drop n) := by
  intro n
  induction n generalizing l with
  | zero => exact h
  | succ n ih => cases l with
    | nil => exact h
    | cons x t => exact ih h.tail

/-- A new version ahead of a chain. -/
theorem Chain.push {B : Nat} {w : World} {l : List (Nat × Bool)} (h : Chain B w l) (hB : B ≤ w.heap.size) (tx : Int) (d : Bool) :
    Chain B (w.alloc (.cells #[.int .u64 tx, .slice none 0 0, .bool d, .pointer (hd l)] 48)) ((w.heap.size, d) :: l) :=
  ⟨hB, ⟨tx, heap_alloc_new _ _⟩, fun y hy => h.lt y hy, h.alloc _⟩

theorem isSize : (Try.prog.info? 48).map (·.size) = some 4 := by kernel_rfl

/-- Do two chains begin at the same version? -/
def same : List (Nat × Bool) → List (Nat × Bool) → Bool
  | [], [] => true
  | x :: _, y :: _ => x.1 == y.1
  | _, _ => false

theorem same_refl (l : List (Nat × Bool)) : same l l = true := by cases l <;> simp [same]

/-- Two pointers to versions, compared. -/
theorem equalIn_chains (d : Nat) (w : World) {B B' : Nat} {l m : List (Nat × Bool)} (hl : Chain B w l) (hm : Chain B' w m) :
    (Op.equalIn (d + 1) 33 (.pointer (hd l)) (.pointer (hd m))).run Try.prog w = .ok (same l m) w := by
  obtain ⟨j, hj, hjs⟩ := Option.map_eq_some_iff.1 isSize
  cases l with
  | nil =>
    cases m with
    | nil => simp [Op.equalIn, run_underlying Try.underlying33, hd, same]
    | cons y u => simp [Op.equalIn, run_underlying Try.underlying33, hd, same]
  | cons x t =>
    cases m with
    | nil => simp [Op.equalIn, run_underlying Try.underlying33, hd, same]
    | cons y u =>
      obtain ⟨c, hc⟩ := hl.block
      obtain ⟨c', hc'⟩ := hm.block
      by_cases e : x.1 = y.1
      · have e1 : same (x :: t) (y :: u) = true := by simp [same, e]
        rw [e1, hd_cons, hd_cons, e]
        simp [Op.equalIn, run_underlying Try.underlying33, sizeOf, typeInfo, hj, run_sameAddr_same]
      · have e1 : same (x :: t) (y :: u) = false := by simp [same, e]
        have e2 := run_sameAddr_other (P := Try.prog) w (a := ⟨x.1, 0, none⟩) (b := ⟨y.1, 0, none⟩) (fun h => e (congrArg Addr.block h)) hc hc'
        rw [e1, hd_cons, hd_cons]
        simp [Op.equalIn, run_underlying Try.underlying33, sizeOf, typeInfo, hj, hjs, e2]

theorem eql_chains (w : World) {B B' : Nat} {l m : List (Nat × Bool)} (hl : Chain B w l) (hm : Chain B' w m) :
    (binOp .eql 33 (.pointer (hd l)) (.pointer (hd m))).run Try.prog w = .ok (.bool (same l m)) w := by
  have h := equalIn_chains 9999 w hl hm
  simp only [binOp]
  simp [Op.equal, Op.maxDepth, h]

theorem neq_chains (w : World) {B B' : Nat} {l m : List (Nat × Bool)} (hl : Chain B w l) (hm : Chain B' w m) :
    (binOp .neq 33 (.pointer (hd l)) (.pointer (hd m))).run Try.prog w = .ok (.bool (!same l m)) w := by
  have h := equalIn_chains 9999 w hl hm
  simp only [binOp]
  simp [Op.equal, Op.maxDepth, h]

end Go.Proofs.Qxb6617820a
