import Derived.Test.Qxb6600021aLen
namespace Go.Proofs.Qxb6600021a
open Go.RowKit

theorem size29 : (Try.prog.info? 29).map (·.size) = some 1 := by kernel_rfl

theorem setRow_alloc (w : World) (a b : Array Value) (t : TypeId) : (w.alloc (.cells a t)).setRow w.heap.size b = w.alloc (.cells b t) := by
  show ({ w with heap := (w.heap.push _).modify w.heap.size _ } : World) = { w with heap := w.heap.push _ }
  congr 1
  apply Array.ext
  · simp
  · intro i h1 h2
    simp at h1 h2
    by_cases e : i = w.heap.size
    · subst e; simp [Array.getElem_modify]
    · simp [Array.getElem_modify, Array.getElem_push, show i < w.heap.size by omega, Ne.symm e]

/-- A row of T words, whatever they are. -/
def Words (C : Array Value) (T : Nat) : Prop := C.size = T ∧ ∀ j, j < T → ∃ q, C[j]? = some (.int .u64 q)

theorem Words.set {C : Array Value} {T : Nat} (h : Words C T) (i : Nat) (q : Int) : Words (C.setIfInBounds i (.int .u64 q)) T := by
  refine ⟨by simpa using h.1, fun j hj => ?_⟩
  obtain ⟨q', hq'⟩ := h.2 j hj
  rw [Array.getElem?_setIfInBounds]
  by_cases e : i = j
  · exact ⟨q, by rw [if_pos e, if_pos (by have := h.1; omega)]⟩
  · exact ⟨q', by rw [if_neg e]; exact hq'⟩

/-- 'copy(words, run.words)' into the new row. -/
theorem copy_words (W : World) (sa : Option Addr) (sl sc T : Nat) (Z : Nat → Int) (R : Nat) (hZ : Row .u64 W R sa sl Z) (hRs : R ≤ W.heap.size) (hT : sl ≤ T) :
    ∃ C0, Words C0 T ∧ (Builtin.copy_ #[38, 38] 3 #[.slice (some ⟨W.heap.size, 0, none⟩) T T, .slice sa sl sc]).run Try.prog (W.alloc (.cells (madeCells #[.int .u64 0] T) 29)) = .ok (goInt (sl : Int)) (W.alloc (.cells C0 29)) := by
  have hmade : Words (madeCells #[.int .u64 0] T) T := ⟨size_madeCells _ _, fun j hj => ⟨0, by
    rw [← Array.getElem?_toList, toList_madeCells_one]; simp [hj]⟩⟩
  rcases Nat.eq_zero_or_pos sl with h0 | hpos
  · subst h0
    exact ⟨_, hmade, run_copy_zero (P := Try.prog) _ 38 38 3 29 1 _ _ T T 0 sc Try.underlying38 size29 (by simp)⟩
  obtain h0 | ⟨b, o, rfl, hb, hc⟩ := hZ
  · omega
  have hcl : ((List.range sl).map fun j => Value.int .u64 (Z j)).length = sl := by simp
  have hmin : Nat.min sl T = sl := Nat.min_eq_left hT
  have hrun := run_copy_sz (P := Try.prog) (W.alloc (.cells (madeCells #[.int .u64 0] T) 29)) 38 38 3 29 1 W.heap.size 0 T T ⟨b, o, none⟩ sl sc (madeCells #[.int .u64 0] T) 29 ((List.range sl).map fun j => Value.int .u64 (Z j)) Try.underlying38 size29 (heap_alloc_new _ _) (by rw [hcl, hmin, Nat.mul_one])
    (fun j v hj => by
      rw [Addr.add_lit, World.cell?_alloc_lt _ _ _ (by show b < W.heap.size; omega)]
      have hjl : j < sl := by
        have := (List.getElem?_eq_some_iff.1 hj).1
        simpa using this
      rw [hc j hjl]
      simpa [hjl] using hj) (by rw [hcl, size_madeCells]; omega) (fun v hv => by obtain ⟨n, _, rfl⟩ := List.mem_map.1 hv; rfl)
  rw [hmin, setRow_alloc] at hrun
  refine ⟨_, ⟨?_, fun j hj => ?_⟩, hrun⟩
  · rw [List.size_toArray, List.length_append, List.length_append, hcl, List.length_take, List.length_drop, Array.length_toList, size_madeCells]; omega
  · by_cases hlt : j < sl
    · refine ⟨Z j, ?_⟩
      rw [List.getElem?_toArray, List.getElem?_append_left (by simp; omega)]
      simp [hlt]
    · refine ⟨0, ?_⟩
      rw [List.getElem?_toArray, List.getElem?_append_right (by simp; omega), toList_madeCells_one, List.getElem?_drop, List.getElem?_replicate, List.length_append, hcl, List.length_take, if_pos (by simp; omega)]

theorem make_T (T : Nat) (t : Int) (ht : t = T) (hT : T ≤ 65537) (W : World) :
    (Instr.makeSlice 38 (.int .i64 t) (.int .i64 t)).run Try.prog W = .ok (.slice (some ⟨W.heap.size, 0, none⟩) T T) (W.alloc (.cells (madeCells #[.int .u64 0] T) 29)) := by
  subst ht
  exact run_make_row' (P := Try.prog) 38 29 (.int .u64 0) 8 Try.underlying38 info29 rfl .i64 .i64 T (by omega) (by omega) W

/-- One round of the loop over the changed words. -/
theorem full_round {W wr : World} {G T x : Nat} {C : Array Value} {q : Int} {o : Obj} (hg : wr.heap[G]? = some (.cells C 29 (0, 0))) (hW : Words C T) (hb : Below G W wr) :
    ∃ C', ((wr.setCell ⟨G, x, none⟩ (.int .u64 q)).alloc o).heap[G]? = some (.cells C' 29 (0, 0)) ∧ Words C' T ∧ Below G W ((wr.setCell ⟨G, x, none⟩ (.int .u64 q)).alloc o) := by
  have h1 := block_setCell hg x (.int .u64 q)
  have hlt := lt_of_block h1
  exact ⟨_, (Below.heap_alloc _ _ _ hlt).trans h1, hW.set x q, (hb.setCell (Nat.le_refl _) _).alloc (Nat.le_of_lt hlt) _⟩

/-- The run takes its own words. -/
theorem full_end {w3 : World} {R G T : Nat} {C : Array Value} {v0 v1 v2 : Value} (hR : w3.heap[R]? = some (.cells #[v0, v1, v2] 87 (0, 0))) (hG : w3.heap[G]? = some (.cells C 29 (0, 0))) (hW : Words C T) (hRG : R < G) (hT : T ≤ 65537) :
    Owned (((w3.setCell ⟨R, 0, none⟩ (.slice (some ⟨G, 0, none⟩) T T)).setCell ⟨R, 2, none⟩ (.slice none 0 0)).setCell ⟨R, 1, none⟩ (.bool true)) R G T T C := by
  refine ⟨?_, hRG, hT, Nat.le_refl _, by unfold maxLen; omega, by rw [heap_other (by omega), heap_other (by omega), heap_other (by omega)]; exact hG, hW.1, hW.2⟩
  rw [block_setCell (block_setCell (block_setCell hR 0 _) 2 _) 1 _]
  simp
end Go.Proofs.Qxb6600021a
