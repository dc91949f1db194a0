import Derived.Test.Qxb6600291aSpace
import Derived.Laws.CopyOwn
import Derived.Deep.OwnRows
namespace Go.Proofs.Qxb6600291a
open Go.RowKit

theorem Bytes.mono {w w' : World} {B B' : Nat} {ao : Option Addr} {len : Nat} {z : Nat → Int} (h : Bytes w B ao len z) (hb : Below B w w') (hB : B ≤ B') : Bytes w' B' ao len z := by
  rcases h with h | ⟨b, o, h1, h2, h3⟩
  · exact .inl h
  · exact .inr ⟨b, o, h1, by omega, fun k hk => (hb.cell (p := ⟨b, o + k, none⟩) h2).trans (h3 k hk)⟩

theorem zzspace_any (ao : Option Addr) (len cap off : Nat) (z : Nat → Int) (w : World) (hlen : len ≤ 1048576) (hoff : off ≤ 9223372036854775807) (hz : Bytes w w.heap.size ao len z) :
    Calls Try.prog 10 #[.slice ao len cap, .int .i64 off] w fun e w' => ∃ k : Nat, e = .returned (.int .i64 k) ∧ Stops z len off k ∧ k ≤ 9223372036854775807 ∧ Below w.heap.size w w' := by
  go_enter Try.func10, Try.ntmps10
  go_wp2_with fail
  have H1 : Below w.heap.size w (w.alloc (.cells #[.slice ao len cap, .int .i64 off, .int .i64 0] 33)) := (Below.refl _ _).alloc (Nat.le_refl _) _
  refine (space_any w.heap.size ao len cap off (.int .i64 0) z _ hlen hoff ?_ ?_).mono ?_
  · exact heap_alloc_new _ _
  · exact hz.mono H1 (Nat.le_refl _)
  rintro e w1 ⟨rfl, k, hs, hk, hR, hb⟩
  obtain ⟨c0, c1, c2, f0, f1, f2⟩ := cells3 hR
  go_wp2
  go_ret
  exact ⟨k, rfl, hs, hk, H1.trans hb⟩

theorem bytes_any (ao : Option Addr) (len cap : Nat) (off : Int) (w : World) (hm : len ≤ maxLen) :
    Calls Try.prog 12 #[.slice ao len cap, .int .i64 off] w fun e w' => e = .returned (.bool (decide (len ≤ 1048576))) ∧ w = w' := by
  unfold maxLen at hm
  by_cases h : len ≤ 1048576
  all_goals
    go_enter Try.func12, Try.ntmps12
    go_wp2
    go_ret
    exact ⟨by simp [h], rfl⟩

theorem cs_at (z : List Int) (n j : Nat) (v : Value) (h : ((z.take n).map (Value.int .u8))[j]? = some v) : j < n ∧ j < z.length ∧ v = .int .u8 (z.getD j 0) := by
  rw [List.getElem?_map, List.getElem?_take] at h
  split at h
  · rename_i hj
    rcases hz : z[j]? with _ | q
    · simp [hz] at h
    · simp [hz] at h
      have := (List.getElem?_eq_some_iff.1 hz).1
      exact ⟨hj, this, by rw [← h, List.getD_eq_getElem?_getD, hz]; rfl⟩
  · simp at h

theorem info5 : (Try.prog.info? 5).map (fun i => (i.zero, i.size, i.bytes)) = some (some (.int .u8 0), 1, 1) := by kernel_rfl
theorem size5 : (Try.prog.info? 5).map (·.size) = some 1 := by kernel_rfl

theorem setRow_alloc (w : World) (a b : Array Value) (t : TypeId) : (w.alloc (.cells a t)).setRow w.heap.size b = w.alloc (.cells b t) := by
  show ({ w with heap := (w.heap.push _).modify w.heap.size _ } : World) = { w with heap := w.heap.push _ }
  congr 1
  apply Array.ext
  · simp
  · intro i h1 h2
    simp at h1 h2
    by_cases e : i = w.heap.size
    · subst e; simp [Array.getElem_modify]
    · simp [Array.getElem_modify, Array.getElem_push, show i < w.heap.size by omega, Ne.symm e]

/-- 'copy(c, b)' into the new row of as many bytes. -/
theorem clone_run (w : World) (x : Addr) (len cap : Nat) (z : List Int) (hn : len ≤ z.length) (hcell : ∀ i, i < z.length → w.cell? (x.add i) = some (.int .u8 (z.getD i 0))) :
    (Builtin.copy_ #[22, 22] 3 #[.slice (some ⟨w.heap.size, 0, none⟩) len len, .slice (some x) len cap]).run Try.prog (w.alloc (.cells (madeCells #[.int .u8 0] len) 5)) =
      .ok (.int .i64 len) (w.alloc (.cells ((z.take len).map (Value.int .u8)).toArray 5)) := by
  have H1 : Below w.heap.size w (w.alloc (.cells (madeCells #[.int .u8 0] len) 5)) := (Below.refl _ _).alloc (Nat.le_refl _) _
  have hl : ((z.take len).map (Value.int .u8)).length = len := by simp; omega
  have h := run_copy_row (P := Try.prog) (w.alloc (.cells (madeCells #[.int .u8 0] len) 5)) 22 22 3 5 w.heap.size 0 len len x len cap (madeCells #[.int .u8 0] len) 5 ((z.take len).map (Value.int .u8)) Try.underlying22 size5 (heap_alloc_new _ _) (by rw [hl]; simp)
    (fun j v hj => by obtain ⟨h1, h2, rfl⟩ := cs_at _ _ _ _ hj; exact cell_later H1 (hcell j h2)) (by rw [hl, size_madeCells]; omega) (fun v hv => by obtain ⟨n, _, rfl⟩ := List.mem_map.1 hv; rfl)
  rw [h, setRow_alloc, hl, toList_madeCells_one]
  simp [goInt]

/-- What the block of the copy holds. -/
theorem copied (w : World) {n : Nat} {z : List Int} (hn : n ≤ z.length) :
    Bytes (w.alloc (.cells ((z.take n).map (Value.int .u8)).toArray 5)) (w.heap.size + 1) (some ⟨w.heap.size, 0, none⟩) n (fun k => z.getD k 0) := by
  refine .inr ⟨w.heap.size, 0, rfl, by omega, fun k hk => ?_⟩
  simp only [World.cell?, heap_alloc_new]
  simp [hk, show k < z.length by omega]

end Go.Proofs.Qxb6600291a
