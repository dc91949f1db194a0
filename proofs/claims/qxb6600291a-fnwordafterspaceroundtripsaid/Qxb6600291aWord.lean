import Derived.Test.Qxb6600291aPrefix
import Derived.Deep.RegionHeld3
namespace Go.Proofs.Qxb6600291a
open Go.RowKit

/-- The world behind '[]byte(s)', two draws on: what was there reads as it did. -/
theorem conv_old (w : World) (g o k len cap C m : Nat) (z : Nat → Int) (s : ByteArray) (hg : g < w.heap.size) (hz : ∀ j, j < len → w.cell? ⟨g, o + j, none⟩ = some (.int .u8 (z j))) (hfit : k + s.size ≤ len) (hw : ∀ i (h : i < s.size), z (k + i) = (s[i].toNat : Int)) :
    (convert 22 9 (.slice (some ⟨g, o + k, none⟩) s.size cap)).run Try.prog (w.alloc (.cells (bytesRow s C) 5 (m, m + 1))).drew.drew = .ok (.string s) (w.alloc (.cells (bytesRow s C) 5 (m, m + 1))).drew.drew := by
  refine Lib.run_convert_whole _ 22 5 9 Try.underlying22 Try.underlying5 Try.underlying9 g (o + k) s ?_ cap
  intro i hi
  show (w.alloc (.cells (bytesRow s C) 5 (m, m + 1))).cell? _ = _
  rw [World.cell?_alloc_lt _ _ _ hg, Nat.add_assoc, hz (k + i) (by omega), hw i hi]

theorem conv_new (w : World) (cap C m : Nat) (s : ByteArray) :
    (convert 22 9 (.slice (some ⟨w.heap.size, 0, none⟩) s.size cap)).run Try.prog (w.alloc (.cells (bytesRow s C) 5 (m, m + 1))).drew.drew = .ok (.string s) (w.alloc (.cells (bytesRow s C) 5 (m, m + 1))).drew.drew := by
  refine Lib.run_convert_whole _ 22 5 9 Try.underlying22 Try.underlying5 Try.underlying9 w.heap.size 0 s ?_ cap
  intro i hi
  show (w.alloc (.cells (bytesRow s C) 5 (m, m + 1))).cell? _ = _
  simp only [World.cell?, heap_alloc_new]
  simp [bytesRow, Array.getElem?_append, hi]
  rfl

theorem word_end {w w1 : World} {R len cap k m : Nat} {ao : Option Addr} {dep : Value} {o : Obj} (hR : w1.heap[R]? = some (.cells #[.slice ao len cap, .int .i64 k, dep] 33 (0, 0))) (hb : Below R w w1) :
    (((w1.setCell ⟨R, 1, none⟩ (.int .i64 (k + m))).alloc o).drew.drew).heap[R]? = some (.cells #[.slice ao len cap, .int .i64 ((k + m : Nat) : Int), dep] 33 (0, 0)) ∧ Below R w (((w1.setCell ⟨R, 1, none⟩ (.int .i64 (k + m))).alloc o).drew.drew) := by
  have hlt := lt_of_block hR
  have h1 := block_setCell hR 1 (.int .i64 (k + m))
  refine ⟨?_, (((hb.setCell (Nat.le_refl _) _)).alloc (Nat.le_of_lt (lt_of_block h1)) o).drew.drew⟩
  exact (Below.heap_alloc _ o R (lt_of_block h1)).trans (by rw [h1]; simp)

set_option maxHeartbeats 400000 in
theorem word_true (R g o len cap n1 : Nat) (dep : Value) (z : Nat → Int) (s : ByteArray) (w : World) (hlen : len ≤ 1048576) (hcap : len ≤ cap) (hs1 : 1 ≤ s.size) (hfit : n1 + s.size ≤ len)
    (hR : w.heap[R]? = some (.cells #[.slice (some ⟨g, o, none⟩) len cap, .int .i64 0, dep] 33 (0, 0))) (hg : g < R) (hz : ∀ k, k < len → w.cell? ⟨g, o + k, none⟩ = some (.int .u8 (z k)))
    (hstop : ∀ k, Stops z len 0 k → k = n1) (hw : ∀ i (h : i < s.size), z (n1 + i) = (s[i].toNat : Int)) :
    Calls Try.prog 21 #[.pointer (some ⟨R, 0, none⟩), .string s] w fun e w' => e = .returned (.bool true) ∧
      w'.heap[R]? = some (.cells #[.slice (some ⟨g, o, none⟩) len cap, .int .i64 ((n1 + s.size : Nat) : Int), dep] 33 (0, 0)) ∧ Below R w w' := by
  go_enter Try.func21, Try.ntmps21
  go_wp2_with fail
  refine (space_any R (some ⟨g, o, none⟩) len cap 0 dep z _ hlen (by omega) hR (.inr ⟨g, o, rfl, hg, hz⟩)).mono ?_
  rintro e w1 ⟨rfl, k, hk, _, hR1, hb1⟩
  obtain rfl := hstop k hk
  obtain ⟨c0, c1, c2, f0, f1, f2⟩ := cells3 hR1
  have hz1 : ∀ j, j < len → w1.cell? ⟨g, o + j, none⟩ = some (.int .u8 (z j)) := fun j hj => (hb1.cell (p := ⟨g, o + j, none⟩) hg).trans (hz j hj)
  have i1 : (0 : Int) ≤ (k : Int) := by omega
  have i2 : (k : Int) ≤ (len : Int) := by omega
  have i3 : (len : Int) ≤ (cap : Int) := by omega
  have i4 : ¬ cap = k := by omega
  clear hR hz hstop hk
  go_wp2_with fail
  have hcv := fun W => run_bytes_of_string (P := Try.prog) W 9 22 5 s Try.underlying9 Try.underlying22 Try.underlying5
  have hgs : g < w1.heap.size := Nat.lt_trans hg (lt_of_block hR1)
  have hRs : R < w1.heap.size := lt_of_block hR1
  have a0 : ∀ ob, (w1.alloc ob).cell? ⟨R, 0, none⟩ = some (.slice (some ⟨g, o, none⟩) len cap) := fun ob => (World.cell?_alloc_lt _ _ _ hRs).trans c0
  have a1 : ∀ o, (w1.alloc o).cell? ⟨R, 1, none⟩ = some (.int .i64 k) := fun o => (World.cell?_alloc_lt _ _ _ hRs).trans c1
  have a2 : ∀ o, (w1.alloc o).frozen? ⟨R, 1, none⟩ = false := fun o => ((Below.refl w1.heap.size w1).alloc (Nat.le_refl _) o).frozen hRs |>.trans f1
  go_region_with (go_at_call 23; refine (begins_true _ _ _ _ _ _ s _ (by omega) (by omega) (conv_old w1 g o k len _ _ _ z s hgs hz1 hfit hw) (conv_new w1 _ _ _ s)).mono ?_; rintro e w' ⟨rfl, rfl⟩)
  all_goals
    go_wp2
    go_ret
    exact ⟨rfl, (word_end hR1 hb1).1, (word_end hR1 hb1).2⟩
end Go.Proofs.Qxb6600291a
