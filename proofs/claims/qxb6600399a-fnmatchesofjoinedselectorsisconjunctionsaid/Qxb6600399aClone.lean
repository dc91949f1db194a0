import Derived.Test.Qxb6600399aProg
import Derived.WalkKit
import Derived.Deep.QuietTactic
import Derived.BigQuiet
import Derived.Deep.LoopGhost
import Derived.WalkSpells
import Derived.WalkLawsBesides
import Derived.Handy
import Derived.Deep.OwnRows
namespace Go.Proofs.Qxb6600399a
open Go.RowKit

/-- A slice's cells, one an element, in blocks below B. -/
def Row (w : World) (B : Nat) (ao : Option Addr) (len : Nat) (V : Nat → Value) : Prop :=
  (ao = none → len = 0) ∧ (len = 0 ∨ ∃ b o, ao = some ⟨b, o, none⟩ ∧ b < B ∧ ∀ j, j < len → w.cell? ⟨b, o + j, none⟩ = some (V j))

theorem Row.mono {w w' : World} {B B' : Nat} {ao : Option Addr} {len : Nat} {V : Nat → Value} (h : Row w B ao len V) (hb : Below B w w') (hB : B ≤ B') : Row w' B' ao len V := by
  refine ⟨h.1, ?_⟩
  rcases h.2 with h | ⟨b, o, h1, h2, h3⟩
  · exact .inl h
  · exact .inr ⟨b, o, h1, by omega, fun j hj => (hb.cell (p := ⟨b, o + j, none⟩) h2).trans (h3 j hj)⟩

/-- The row of a clone behind k rounds: the first k values, then zeros. -/
def part (z : Value) (V : Nat → Value) (n k : Nat) : Array Value := ((List.range n).map fun j => if j < k then V j else z).toArray

theorem part_size (z : Value) (V : Nat → Value) (n k : Nat) : (part z V n k).size = n := by simp [part]
theorem part_at (z : Value) (V : Nat → Value) (n k j : Nat) (h : j < n) : (part z V n k)[j]? = some (if j < k then V j else z) := by simp [part, h]
theorem part_zero (z : Value) (V : Nat → Value) (n : Nat) : madeCells #[z] n = part z V n 0 := by
  apply Array.ext'
  rw [toList_madeCells_one]
  apply List.ext_getElem
  · simp [part]
  · intro i h1 h2; simp [part]
theorem part_succ (z : Value) (V : Nat → Value) (n k : Nat) : (part z V n k).setIfInBounds k (V k) = part z V n (k + 1) := by
  apply Array.ext
  · simp [part]
  · intro i h1 h2
    simp [part]
    by_cases e : k = i
    · subst e; simp
    · simp [e, show (i < k + 1) = (i < k) by simp; omega]

theorem part_cell (w : World) (z : Value) (V : Nat → Value) (n k j : Nat) (t : TypeId) (h : j < n) : (w.alloc (.cells (part z V n k) t)).cell? ⟨w.heap.size, j, none⟩ = some (if j < k then V j else z) := by
  simp only [World.cell?, heap_alloc_new]
  rw [if_neg (by simp), part_at _ _ _ _ _ h]
theorem part_cell_k (w : World) (z : Value) (V : Nat → Value) (n k : Nat) (t : TypeId) (h : k < n) : (w.alloc (.cells (part z V n k) t)).cell? ⟨w.heap.size, k, none⟩ = some z := by
  rw [part_cell _ _ _ _ _ _ _ h, if_neg (by omega)]
theorem part_free (w : World) (z : Value) (V : Nat → Value) (n k j : Nat) (t : TypeId) : (w.alloc (.cells (part z V n k) t)).frozen? ⟨w.heap.size, j, none⟩ = false := by
  simp only [World.frozen?, heap_alloc_new]
  simp

/-- What a clone hands back: a row of its own with the same values. -/
def ClonePost (len : Nat) (V : Nat → Value) (w : World) (e : Ending) (w' : World) : Prop :=
  ∃ ao cap, e = .returned (.slice ao len cap) ∧ Row w' w'.heap.size ao len V ∧ Below w.heap.size w w' ∧ ∀ b o, ao = some ⟨b, o, none⟩ → w.heap.size ≤ b

theorem clonePost_mk (len : Nat) (z : Value) (V : Nat → Value) (w : World) (t : TypeId) : ClonePost len V w (.returned (.slice (some ⟨w.heap.size, 0, none⟩) len len)) (w.alloc (.cells (part z V len len) t)) := by
  refine ⟨_, _, rfl, ⟨fun e => (by cases e), .inr ⟨w.heap.size, 0, rfl, by simp, fun j hj => ?_⟩⟩, (Below.refl _ _).alloc (Nat.le_refl _) _, fun b o e => by simp at e; omega⟩
  rw [Nat.zero_add, part_cell _ _ _ _ _ _ _ hj, if_pos hj]

theorem info9 : (Try.prog.info? 9).map (fun i => (i.zero, i.size, i.bytes)) = some (some (.string ByteArray.empty), 1, 16) := by kernel_rfl
theorem info4 : (Try.prog.info? 4).map (fun i => (i.zero, i.size, i.bytes)) = some (some (.bool false), 1, 1) := by kernel_rfl
theorem info24 : (Try.prog.info? 24).map (fun i => (i.zero, i.size, i.bytes)) = some (some (.slice none 0 0), 1, 24) := by kernel_rfl

/-- The strings of a slice. -/
def strV (S : Nat → ByteArray) (j : Nat) : Value := .string (S j)
def boolV (S : Nat → Bool) (j : Nat) : Value := .bool (S j)

set_option maxHeartbeats 400000 in
theorem cloneStrs_any (ao : Option Addr) (len cap : Nat) (S : Nat → ByteArray) (w : World) (hlen : len ≤ 1048576) (hz : Row w w.heap.size ao len (strV S)) :
    Calls Try.prog 15 #[.slice ao len cap] w (ClonePost len (strV S) w) := by
  obtain ⟨hnil, hz⟩ := hz
  rcases ao with _ | x
  · obtain rfl := hnil rfl
    have hq := fun W c => Lib.run_eql_slice_nil (P := Try.prog) W 24 9 none 0 c 0 0 Try.underlying24
    go_enter Try.func15, Try.ntmps15
    go_wp2
    go_ret
    exact ⟨none, 0, rfl, ⟨fun _ => rfl, .inl rfl⟩, Below.refl _ _, fun b o e => (by cases e)⟩
  have hmk := run_make_row' (P := Try.prog) 24 9 (.string ByteArray.empty) 16 Try.underlying24 info9 rfl .i64 .i64 len (by omega) (by omega)
  rw [part_zero (.string ByteArray.empty) (strV S) len] at hmk
  clear hnil
  have hq := fun W => Lib.run_eql_slice_nil (P := Try.prog) W 24 9 (some x) len cap 0 0 Try.underlying24
  go_enter Try.func15, Try.ntmps15
  go_wp2
  go_loopw [4] (fun i wr => ∃ k : Nat, k ≤ len ∧ i = .int .i64 k ∧ wr = w.alloc (.cells (part (.string ByteArray.empty) (strV S) len k) 9)) (fun i _ => len - (intOf i).toNat)
  case atStart => exact ⟨0, by omega, rfl, rfl⟩
  case round =>
    obtain ⟨k, hk, rfl, rfl⟩ := hrel
    by_cases hlt : k < len
    · obtain h0 | ⟨b, o, hx, hb, hcells⟩ := hz
      · omega
      obtain rfl : x = ⟨b, o, none⟩ := by simpa using hx
      have hc : (w.alloc (.cells (part (.string ByteArray.empty) (strV S) len k) 9)).cell? ⟨b, o + k, none⟩ = some (.string (S k)) := (World.cell?_alloc_lt _ _ _ hb).trans (hcells k hlt)
      have hcn := part_cell_k w (.string ByteArray.empty) (strV S) len k 9 hlt
      have hfn := part_free w (.string ByteArray.empty) (strV S) len k k 9
      have hps : (part (.string ByteArray.empty) (strV S) len k).setIfInBounds k (.string (S k)) = _ := part_succ (.string ByteArray.empty) (strV S) len k
      clear hcells hx
      go_wp2
      go_roundw
      case rel => exact ⟨k + 1, by omega, by go_num, rfl⟩
      case measure => simp [intOf]; omega
    · obtain rfl : k = len := by omega
      clear hz
      go_wp2
      go_ret
      exact clonePost_mk _ _ _ _ _

set_option maxHeartbeats 400000 in
theorem cloneBools_any (ao : Option Addr) (len cap : Nat) (S : Nat → Bool) (w : World) (hlen : len ≤ 1048576) (hz : Row w w.heap.size ao len (boolV S)) :
    Calls Try.prog 25 #[.slice ao len cap] w (ClonePost len (boolV S) w) := by
  obtain ⟨hnil, hz⟩ := hz
  rcases ao with _ | x
  · obtain rfl := hnil rfl
    have hq := fun W c => Lib.run_eql_slice_nil (P := Try.prog) W 37 4 none 0 c 0 0 Try.underlying37
    go_enter Try.func25, Try.ntmps25
    go_wp2
    go_ret
    exact ⟨none, 0, rfl, ⟨fun _ => rfl, .inl rfl⟩, Below.refl _ _, fun b o e => (by cases e)⟩
  have hmk := run_make_row' (P := Try.prog) 37 4 (.bool false) 1 Try.underlying37 info4 rfl .i64 .i64 len (by omega) (by omega)
  rw [part_zero (.bool false) (boolV S) len] at hmk
  clear hnil
  have hq := fun W => Lib.run_eql_slice_nil (P := Try.prog) W 37 4 (some x) len cap 0 0 Try.underlying37
  go_enter Try.func25, Try.ntmps25
  go_wp2
  go_loopw [4] (fun i wr => ∃ k : Nat, k ≤ len ∧ i = .int .i64 k ∧ wr = w.alloc (.cells (part (.bool false) (boolV S) len k) 4)) (fun i _ => len - (intOf i).toNat)
  case atStart => exact ⟨0, by omega, rfl, rfl⟩
  case round =>
    obtain ⟨k, hk, rfl, rfl⟩ := hrel
    by_cases hlt : k < len
    · obtain h0 | ⟨b, o, hx, hb, hcells⟩ := hz
      · omega
      obtain rfl : x = ⟨b, o, none⟩ := by simpa using hx
      have hc : (w.alloc (.cells (part (.bool false) (boolV S) len k) 4)).cell? ⟨b, o + k, none⟩ = some (.bool (S k)) := (World.cell?_alloc_lt _ _ _ hb).trans (hcells k hlt)
      have hcn := part_cell_k w (.bool false) (boolV S) len k 4 hlt
      have hfn := part_free w (.bool false) (boolV S) len k k 4
      have hps : (part (.bool false) (boolV S) len k).setIfInBounds k (.bool (S k)) = _ := part_succ (.bool false) (boolV S) len k
      clear hcells hx
      go_wp2
      go_roundw
      case rel => exact ⟨k + 1, by omega, by go_num, rfl⟩
      case measure => simp [intOf]; omega
    · obtain rfl : k = len := by omega
      clear hz
      go_wp2
      go_ret
      exact clonePost_mk _ _ _ _ _
end Go.Proofs.Qxb6600399a
