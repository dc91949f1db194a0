import Derived.Test.Qxb6600128aDoorTok
import Derived.Deep.OwnRows
namespace Go.Proofs.Qxb6600128aDoor
open Go.RowKit

/-- A slice's cells, one an element, in blocks below B. -/
def Row (w : World) (B : Nat) (ao : Option Addr) (len : Nat) (V : Nat → Value) : Prop :=
  (ao = none → len = 0) ∧ (len = 0 ∨ ∃ b o, ao = some ⟨b, o, none⟩ ∧ b < B ∧ ∀ j, j < len → w.cell? ⟨b, o + j, none⟩ = some (V j))

theorem Row.mono {w w' : World} {B B' : Nat} {ao : Option Addr} {len : Nat} {V : Nat → Value} (h : Row w B ao len V) (hb : Below B w w') (hB : B ≤ B') : Row w' B' ao len V := by
  refine ⟨h.1, ?_⟩
  rcases h.2 with h | ⟨b, o, h1, h2, h3⟩
  · exact .inl h
  · exact .inr ⟨b, o, h1, by omega, fun j hj => (hb.cell (p := ⟨b, o + j, none⟩) h2).trans (h3 j hj)⟩

/-- The row of a clone behind k rounds: the first k values, then zeros. -/
def part (z : Value) (V : Nat → Value) (n k : Nat) : Array Value := ((List.range n).map fun j => if j < k then V j else z).toArray

theorem part_at (z : Value) (V : Nat → Value) (n k j : Nat) (h : j < n) : (part z V n k)[j]? = some (if j < k then V j else z) := by simp [part, h]
theorem part_zero (z : Value) (V : Nat → Value) (n : Nat) : madeCells #[z] n = part z V n 0 := by
  apply Array.ext'
  rw [toList_madeCells_one]
  apply List.ext_getElem
  · simp [part]
  · intro i h1 h2; simp [part]
theorem part_succ (z : Value) (V : Nat → Value) (n k : Nat) : (part z V n k).setIfInBounds k (V k) = part z V n (k + 1) := by
  apply Array.ext
  · simp [part]
  · intro i h1 h2
    simp [part]
    by_cases e : k = i
    · subst e; simp
    · simp [e, show (i < k + 1) = (i < k) by simp; omega]

theorem part_cell (w : World) (z : Value) (V : Nat → Value) (n k j : Nat) (t : TypeId) (h : j < n) : (w.alloc (.cells (part z V n k) t)).cell? ⟨w.heap.size, j, none⟩ = some (if j < k then V j else z) := by
  simp only [World.cell?, heap_alloc_new]
  rw [if_neg (by simp), part_at _ _ _ _ _ h]
theorem part_cell_k (w : World) (z : Value) (V : Nat → Value) (n k : Nat) (t : TypeId) (h : k < n) : (w.alloc (.cells (part z V n k) t)).cell? ⟨w.heap.size, k, none⟩ = some z := by
  rw [part_cell _ _ _ _ _ _ _ h, if_neg (by omega)]
theorem part_free (w : World) (z : Value) (V : Nat → Value) (n k j : Nat) (t : TypeId) : (w.alloc (.cells (part z V n k) t)).frozen? ⟨w.heap.size, j, none⟩ = false := by
  simp only [World.frozen?, heap_alloc_new]
  simp

/-- The strings of a slice. -/
def strV (S : Nat → ByteArray) (j : Nat) : Value := .string (S j)

theorem part_row (w : World) (z : Value) (V : Nat → Value) (n : Nat) (t : TypeId) : Row (w.alloc (.cells (part z V n n) t)) (w.heap.size + 1) (some ⟨w.heap.size, 0, none⟩) n V := by
  refine ⟨fun e => (by cases e), .inr ⟨w.heap.size, 0, rfl, by omega, fun j hj => ?_⟩⟩
  rw [Nat.zero_add, part_cell _ _ _ _ _ _ _ hj, if_pos hj]

theorem info9 : (Tryd.prog.info? 9).map (fun i => (i.zero, i.size, i.bytes)) = some (some (.string ByteArray.empty), 1, 16) := by kernel_rfl

/-- Some bool comes back, and nothing is written. -/
def SomeBool (w : World) (e : Ending) (w' : World) : Prop := ∃ r : Bool, e = .returned (.bool r) ∧ w = w'

set_option maxRecDepth 100000 in
set_option maxHeartbeats 4000000 in
theorem bytes8_any (n0 n1 : Value) (dev root point opt typ src sup : ByteArray) (nl : Value) (ao : Option Addr) (len cap : Nat) (S : Nat → ByteArray) (w : World) (B : Nat) (hz : Row w B ao len (strV S)) :
    Calls Tryd.prog 8 #[n0, n1, .string dev, .string root, .string point, .string opt, .slice ao len cap, .string typ, .string src, .string sup, nl] w (SomeBool w) := by
  go_enter Tryd.func8, Tryd.ntmps8
  by_cases b0 : dev.size ≤ 1048576
  case neg =>
    go_wp2
    go_ret
    exact ⟨false, rfl, rfl⟩
  by_cases b1 : root.size ≤ 1048576
  case neg =>
    go_wp2
    go_ret
    exact ⟨false, rfl, rfl⟩
  by_cases d1 : dev.size + root.size ≤ 1048576
  case neg =>
    go_wp2
    go_ret
    exact ⟨false, rfl, rfl⟩
  by_cases b2 : point.size ≤ 1048576
  case neg =>
    go_wp2
    go_ret
    exact ⟨false, rfl, rfl⟩
  by_cases d2 : dev.size + root.size + point.size ≤ 1048576
  case neg =>
    go_wp2
    go_ret
    exact ⟨false, rfl, rfl⟩
  by_cases b3 : opt.size ≤ 1048576
  case neg =>
    go_wp2
    go_ret
    exact ⟨false, rfl, rfl⟩
  by_cases d3 : dev.size + root.size + point.size + opt.size ≤ 1048576
  case neg =>
    go_wp2
    go_ret
    exact ⟨false, rfl, rfl⟩
  by_cases b4 : len ≤ 1048576
  case neg =>
    go_wp2
    go_ret
    exact ⟨false, rfl, rfl⟩
  by_cases d4 : dev.size + root.size + point.size + opt.size + len ≤ 1048576
  case neg =>
    go_wp2
    go_ret
    exact ⟨false, rfl, rfl⟩
  go_wp2
  go_loop [23, 24] (fun zn i => ∃ k m : Nat, k ≤ len ∧ m ≤ 1048576 ∧ zn = .int .i64 m ∧ i = .int .i64 k) (fun _ i => len - (intOf i).toNat)
  case atStart => exact ⟨0, dev.size + root.size + point.size + opt.size + len, by omega, by omega, by go_num, rfl⟩
  case round =>
    obtain ⟨k, m, hk, hm, rfl, rfl⟩ := hrel
    by_cases t : k < len
    case pos =>
      obtain h0 | ⟨b, o, rfl, hb, hcells⟩ := hz.2
      · omega
      have hc := hcells k t
      simp only [strV] at hc
      clear hcells
      by_cases s1 : (S k).size ≤ 1048576
      case neg =>
        go_wp2
        go_ret
        exact ⟨false, rfl, rfl⟩
      by_cases s2 : m + (S k).size ≤ 1048576
      case neg =>
        go_wp2
        go_ret
        exact ⟨false, rfl, rfl⟩
      go_wp2
      go_round
      case rel => exact ⟨k + 1, m + (S k).size, by omega, s2, by go_num, by go_num⟩
      case measure => simp [intOf]; omega
    obtain rfl : k = len := by omega
    by_cases b5 : typ.size ≤ 1048576
    case neg =>
      go_wp2
      go_ret
      exact ⟨false, rfl, rfl⟩
    by_cases d5 : m + typ.size ≤ 1048576
    case neg =>
      go_wp2
      go_ret
      exact ⟨false, rfl, rfl⟩
    by_cases b6 : src.size ≤ 1048576
    case neg =>
      go_wp2
      go_ret
      exact ⟨false, rfl, rfl⟩
    by_cases d6 : m + typ.size + src.size ≤ 1048576
    case neg =>
      go_wp2
      go_ret
      exact ⟨false, rfl, rfl⟩
    by_cases b7 : sup.size ≤ 1048576
    case neg =>
      go_wp2
      go_ret
      exact ⟨false, rfl, rfl⟩
    by_cases d7 : m + typ.size + src.size + sup.size ≤ 1048576
    case neg =>
      go_wp2
      go_ret
      exact ⟨false, rfl, rfl⟩
    go_wp2
    go_ret
    exact ⟨true, rfl, rfl⟩
end Go.Proofs.Qxb6600128aDoor
