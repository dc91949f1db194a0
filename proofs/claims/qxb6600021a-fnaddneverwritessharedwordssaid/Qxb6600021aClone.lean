import Derived.Test.Qxb6600021aSmall
namespace Go.Proofs.Qxb6600021a
open Go.RowKit

theorem info29 : (Try.prog.info? 29).map (fun i => (i.zero, i.size, i.bytes)) = some (some (.int .u64 0), 1, 8) := by kernel_rfl
theorem info3 : (Try.prog.info? 3).map (fun i => (i.zero, i.size, i.bytes)) = some (some (.int .i64 0), 1, 8) := by kernel_rfl

/-- The row of a clone behind k rounds: the first k numbers, then zeros. -/
def part (kd : IntKind) (z : Nat → Int) (n k : Nat) : Array Value := ((List.range n).map fun j => Value.int kd (if j < k then z j else 0)).toArray

theorem part_size (kd : IntKind) (z : Nat → Int) (n k : Nat) : (part kd z n k).size = n := by simp [part]
theorem part_at (kd : IntKind) (z : Nat → Int) (n k j : Nat) (h : j < n) : (part kd z n k)[j]? = some (.int kd (if j < k then z j else 0)) := by simp [part, h]
theorem part_zero (kd : IntKind) (z : Nat → Int) (n : Nat) : madeCells #[.int kd 0] n = part kd z n 0 := by
  apply Array.ext'
  rw [toList_madeCells_one]
  apply List.ext_getElem
  · simp [part]
  · intro i h1 h2; simp [part]
theorem part_succ (kd : IntKind) (z : Nat → Int) (n k : Nat) : (part kd z n k).setIfInBounds k (.int kd (z k)) = part kd z n (k + 1) := by
  apply Array.ext
  · simp [part]
  · intro i h1 h2
    simp [part]
    by_cases e : k = i
    · subst e; simp
    · simp [e, show (i < k + 1) = (i < k) by simp; omega]

theorem part_cell (w : World) (kd : IntKind) (z : Nat → Int) (n k j : Nat) (t : TypeId) (h : j < n) : (w.alloc (.cells (part kd z n k) t)).cell? ⟨w.heap.size, j, none⟩ = some (.int kd (if j < k then z j else 0)) := by
  simp only [World.cell?, heap_alloc_new]
  rw [if_neg (by simp), part_at _ _ _ _ _ h]
theorem part_free (w : World) (kd : IntKind) (z : Nat → Int) (n k j : Nat) (t : TypeId) : (w.alloc (.cells (part kd z n k) t)).frozen? ⟨w.heap.size, j, none⟩ = false := by
  simp only [World.frozen?, heap_alloc_new]
  simp

/-- What a clone hands back: a row of its own with the same numbers. -/
def ClonePost (kd : IntKind) (len : Nat) (z : Nat → Int) (w : World) (e : Ending) (w' : World) : Prop :=
  ∃ ao cap, e = .returned (.slice ao len cap) ∧ Row kd w' w'.heap.size ao len z ∧ Below w.heap.size w w'

theorem clonePost_mk (kd : IntKind) (len : Nat) (z : Nat → Int) (w : World) (t : TypeId) : ClonePost kd len z w (.returned (.slice (some ⟨w.heap.size, 0, none⟩) len len)) (w.alloc (.cells (part kd z len len) t)) := by
  refine ⟨_, _, rfl, .inr ⟨w.heap.size, 0, rfl, by simp, fun j hj => ?_⟩, (Below.refl _ _).alloc (Nat.le_refl _) _⟩
  rw [Nat.zero_add, part_cell _ _ _ _ _ _ _ hj, if_pos hj]

set_option maxHeartbeats 400000 in
theorem cloneU64_any (ao : Option Addr) (len cap : Nat) (z : Nat → Int) (w : World) (hlen : len ≤ 65536) (hnil : ao = none → len = 0) (hz : Row .u64 w w.heap.size ao len z) :
    Calls Try.prog 26 #[.slice ao len cap] w (ClonePost .u64 len z w) := by
  rcases ao with _ | x
  · obtain rfl := hnil rfl
    have hq := fun W c => Lib.run_eql_slice_nil (P := Try.prog) W 38 29 none 0 c 0 0 Try.underlying38
    go_enter Try.func26, Try.ntmps26
    go_wp2
    go_ret
    exact ⟨none, 0, rfl, .inl rfl, Below.refl _ _⟩
  have hmk := run_make_row' (P := Try.prog) 38 29 (.int .u64 0) 8 Try.underlying38 info29 rfl .i64 .i64 len (by omega) (by omega)
  rw [part_zero .u64 z len] at hmk
  clear hnil
  have hq := fun W => Lib.run_eql_slice_nil (P := Try.prog) W 38 29 (some x) len cap 0 0 Try.underlying38
  go_enter Try.func26, Try.ntmps26
  go_wp2
  go_loopw [4] (fun i wr => ∃ k : Nat, k ≤ len ∧ i = .int .i64 k ∧ wr = w.alloc (.cells (part .u64 z len k) 29)) (fun i _ => len - (intOf i).toNat)
  case atStart => exact ⟨0, by omega, rfl, rfl⟩
  case round =>
    obtain ⟨k, hk, rfl, rfl⟩ := hrel
    by_cases hlt : k < len
    · obtain h0 | ⟨b, o, hx, hb, hcells⟩ := hz
      · omega
      obtain rfl : x = ⟨b, o, none⟩ := by simpa using hx
      have hc : (w.alloc (.cells (part .u64 z len k) 29)).cell? ⟨b, o + k, none⟩ = some (.int .u64 (z k)) := (World.cell?_alloc_lt _ _ _ hb).trans (hcells k hlt)
      have hcn := part_cell w .u64 z len k k 29 hlt
      have hfn := part_free w .u64 z len k k 29
      have hps := part_succ .u64 z len k
      clear hcells hx
      go_wp2
      go_roundw
      case rel => exact ⟨k + 1, by omega, by go_num, rfl⟩
      case measure => simp [intOf]; omega
    · obtain rfl : k = len := by omega
      clear hz
      go_wp2
      go_ret
      exact clonePost_mk _ _ _ _ _

set_option maxHeartbeats 400000 in
theorem cloneInts_any (ao : Option Addr) (len cap : Nat) (z : Nat → Int) (w : World) (hlen : len ≤ 65536) (hnil : ao = none → len = 0) (hz : Row .i64 w w.heap.size ao len z) :
    Calls Try.prog 27 #[.slice ao len cap] w (ClonePost .i64 len z w) := by
  rcases ao with _ | x
  · obtain rfl := hnil rfl
    have hq := fun W c => Lib.run_eql_slice_nil (P := Try.prog) W 39 3 none 0 c 0 0 Try.underlying39
    go_enter Try.func27, Try.ntmps27
    go_wp2
    go_ret
    exact ⟨none, 0, rfl, .inl rfl, Below.refl _ _⟩
  have hmk := run_make_row' (P := Try.prog) 39 3 (.int .i64 0) 8 Try.underlying39 info3 rfl .i64 .i64 len (by omega) (by omega)
  rw [part_zero .i64 z len] at hmk
  clear hnil
  have hq := fun W => Lib.run_eql_slice_nil (P := Try.prog) W 39 3 (some x) len cap 0 0 Try.underlying39
  go_enter Try.func27, Try.ntmps27
  go_wp2
  go_loopw [4] (fun i wr => ∃ k : Nat, k ≤ len ∧ i = .int .i64 k ∧ wr = w.alloc (.cells (part .i64 z len k) 3)) (fun i _ => len - (intOf i).toNat)
  case atStart => exact ⟨0, by omega, rfl, rfl⟩
  case round =>
    obtain ⟨k, hk, rfl, rfl⟩ := hrel
    by_cases hlt : k < len
    · obtain h0 | ⟨b, o, hx, hb, hcells⟩ := hz
      · omega
      obtain rfl : x = ⟨b, o, none⟩ := by simpa using hx
      have hc : (w.alloc (.cells (part .i64 z len k) 3)).cell? ⟨b, o + k, none⟩ = some (.int .i64 (z k)) := (World.cell?_alloc_lt _ _ _ hb).trans (hcells k hlt)
      have hcn := part_cell w .i64 z len k k 3 hlt
      have hfn := part_free w .i64 z len k k 3
      have hps := part_succ .i64 z len k
      clear hcells hx
      go_wp2
      go_roundw
      case rel => exact ⟨k + 1, by omega, by go_num, rfl⟩
      case measure => simp [intOf]; omega
    · obtain rfl : k = len := by omega
      clear hz
      go_wp2
      go_ret
      exact clonePost_mk _ _ _ _ _
end Go.Proofs.Qxb6600021a
