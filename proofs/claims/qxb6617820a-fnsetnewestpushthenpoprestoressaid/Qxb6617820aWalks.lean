/-
  THE CALLEES OF THE TWO LAWS ON setNewest.
-/
import Derived.Test.Qxb6617820aChain
import Derived.Handy
import Derived.WalkSpells
import Derived.Deep.LoopGhost
namespace Go.Proofs.Qxb6617820a
open Go.RowKit

theorem ret_int {k : IntKind} {a b : Int} (h : a = b) : Ending.returned (.int k a) = .returned (.int k b) := by rw [h]

/-- 'ZZNewVersion' -/
theorem newVersion_any (w : World) (tx : Int) (d : Bool) (u : Option Addr) :
    Calls Try.prog 18 #[.int .u64 tx, .slice none 0 0, .bool d, .pointer u] w fun e w' => e = .returned (.pointer (some ⟨w.heap.size, 0, none⟩)) ∧ w.alloc (.cells #[.int .u64 tx, .slice none 0 0, .bool d, .pointer u] 48) = w' := by
  go_enter Try.func18, Try.ntmps18
  go_wp2
  go_ret
  exact ⟨rfl, rfl⟩

/-- 'ZZNewRow' -/
theorem newRow_any (w : World) (u v : Option Addr) (g : Bool) (n : Int) :
    Calls Try.prog 20 #[.pointer u, .bool g, .pointer v, .int .u64 n] w fun e w' => e = .returned (.pointer (some ⟨w.heap.size, 0, none⟩)) ∧ w.alloc (.cells #[.pointer u, .bool g, .pointer v, .int .u64 n] 50) = w' := by
  go_enter Try.func20, Try.ntmps20
  go_wp2
  go_ret
  exact ⟨rfl, rfl⟩

/-- 'deleteMark' -/
theorem deleteMark_any {B : Nat} (w : World) (l : List (Nat × Bool)) (h : Chain B w l) :
    Calls Try.prog 35 #[.pointer (hd l)] w fun e w' => e = .returned (.int .i64 (bit (top l))) ∧ w = w' := by
  cases l with
  | nil =>
    rw [hd_nil]
    go_enter Try.func35, Try.ntmps35
    go_wp2
    go_ret
    exact ⟨rfl, rfl⟩
  | cons x t =>
    have h2 := h.del
    obtain ⟨b, d⟩ := x
    rw [hd_cons]
    cases d
    · go_enter Try.func35, Try.ntmps35
      go_wp2
      go_ret
      exact ⟨rfl, rfl⟩
    · go_enter Try.func35, Try.ntmps35
      go_wp2
      go_ret
      exact ⟨rfl, rfl⟩

/-- What a version adds to the count while it is the newest. -/
def vret : List (Nat × Bool) → Int
  | [] => 0
  | x :: t => bit x.2 + (if t.isEmpty then 0 else 1)

/-- '(*version).retained' -/
theorem vretained_any {B : Nat} (w : World) (x : Nat × Bool) (t : List (Nat × Bool)) (h : Chain B w (x :: t)) :
    Calls Try.prog 36 #[.pointer (hd (x :: t))] w fun e w' => e = .returned (.int .i64 (vret (x :: t))) ∧ w = w' := by
  have h3 := h.prev
  have hb := bit_bd (top (x :: t))
  rw [hd_cons]
  cases t with
  | nil =>
    rw [hd_nil] at h3
    go_enter Try.func36, Try.ntmps36
    go_wp2_with (go_at_call 35; refine (deleteMark_any _ (_ :: _) h).mono ?_; rintro e w' ⟨rfl, rfl⟩)
    go_ret
    exact ⟨ret_int (by simp [vret, top]), rfl⟩
  | cons y u =>
    rw [hd_cons] at h3
    go_enter Try.func36, Try.ntmps36
    go_wp2_with (go_at_call 35; refine (deleteMark_any _ (_ :: _) h).mono ?_; rintro e w' ⟨rfl, rfl⟩)
    go_ret
    exact ⟨ret_int (by simp [vret, top]), rfl⟩

/-- What the loop of '(*row).retained' hands on: S counted so far, m the chain that is still to be walked. -/
structure Cnt (B : Nat) (l : List (Nat × Bool)) (wr : World) (S : Int) (m : List (Nat × Bool)) : Prop where
  sum : S + m.length = bit (top l) + l.length
  lo : 0 ≤ S
  hi : S ≤ 2000000
  chain : Chain B wr m
  left : l ≠ [] → m ≠ []

theorem Cnt.step {B : Nat} {l : List (Nat × Bool)} {wr : World} {S : Int} {x : Nat × Bool} {t : List (Nat × Bool)} (h : Cnt B l wr S (x :: t)) (ht : t ≠ []) (hl : l.length ≤ 1000000) : Cnt B l wr (S + 1) t := by
  have h1 := h.sum
  have h2 := h.lo
  have h3 := bit_bd (top l)
  simp only [List.length_cons] at h1
  exact ⟨by omega, by omega, by omega, h.chain.tail, fun _ => ht⟩

theorem Cnt.total {B : Nat} {l : List (Nat × Bool)} {wr : World} {S : Int} {x : Nat × Bool} (h : Cnt B l wr S [x]) (hl : l ≠ []) : S = ret l := by
  have h1 := h.sum
  cases l with
  | nil => exact absurd rfl hl
  | cons y t => simp only [top, List.length_cons, List.length_nil, ret] at h1 ⊢; omega

set_option maxHeartbeats 400000 in
/-- '(*row).retained' -/
theorem rowRetained_any {B : Nat} (w : World) (rb : Nat) (l : List (Nat × Bool)) (hr : w.cell? ⟨rb, 0, none⟩ = some (.pointer (hd l))) (h : Chain B w l) (hl : l.length ≤ 1000000) :
    Calls Try.prog 32 #[.pointer (some ⟨rb, 0, none⟩)] w fun e w' => e = .returned (.int .i64 (ret l)) ∧ w = w' := by
  have hb := bit_bd (top l)
  by_cases hn : l = []
  · subst hn
    rw [hd_nil] at hr
    go_enter Try.func32, Try.ntmps32
    go_wp2_with (go_at_call 35; refine (deleteMark_any _ [] h).mono ?_; rintro e w' ⟨rfl, rfl⟩)
    refine wp_loop_rounds 1 ?_
    rw [rounds_succ]
    go_wp2
    go_ret
    exact ⟨rfl, rfl⟩
  · go_enter Try.func32, Try.ntmps32
    go_wp2_with (go_at_call 35; refine (deleteMark_any _ l h).mono ?_; rintro e w' ⟨rfl, rfl⟩)
    go_loopg [3, 4] l.length (fun g n v wr => ∃ (m : List (Nat × Bool)) (S : Int), m.length ≤ g ∧ n = .int .i64 S ∧ v = .pointer (hd m) ∧ Cnt B l wr S m ∧ w = wr)
    case atStart => exact ⟨l, _, Nat.le_refl _, rfl, rfl, ⟨rfl, by omega, by omega, h, fun h => h⟩, rfl⟩
    case round =>
      obtain ⟨m, S, hg, rfl, rfl, C, rfl⟩ := hrel
      have HN : Hid (l ≠ []) := hn
      clear hn
      have h1 := C.lo
      have h2 := C.hi
      match m, C, hg with
      | [], C, hg => exact absurd rfl (C.left HN)
      | [x], C, hg =>
        have h3 := C.chain.prev
        rw [hd_nil] at h3
        have hS := C.total HN.out
        rw [hd_cons]
        go_wp2
        go_ret
        exact ⟨ret_int hS, rfl⟩
      | x :: y :: u, C, hg =>
        have h3 := C.chain.prev
        rw [hd_cons] at h3
        have C' := C.step (by simp) hl
        rw [hd_cons]
        go_wp2
        go_roundg (u.length + 1)
        case measure => simp at hg; omega
        case rel => exact ⟨y :: u, S + 1, by simp, rfl, rfl, C', rfl⟩

end Go.Proofs.Qxb6617820a
