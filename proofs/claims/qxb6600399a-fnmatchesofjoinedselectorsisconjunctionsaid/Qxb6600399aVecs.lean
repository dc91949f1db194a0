import Derived.Test.Qxb6600399aClone
namespace Go.Proofs.Qxb6600399a
open Go.RowKit

theorem block_setCell {w : World} {R : Nat} {cs : Array Value} {t : TypeId} (h : w.heap[R]? = some (.cells cs t (0, 0))) (i : Nat) (u : Value) :
    (w.setCell ⟨R, i, none⟩ u).heap[R]? = some (.cells (cs.setIfInBounds i u) t (0, 0)) := by
  have hlt := lt_of_block h
  have h' : w.heap[R] = .cells cs t (0, 0) := by simpa [Array.getElem?_eq_getElem hlt] using h
  show (w.heap.modify R _)[R]? = _
  rw [Array.getElem?_eq_getElem (by simpa using hlt), Array.getElem_modify_self, h']
  rfl
theorem block_cell {w : World} {g : Nat} {cs : Array Value} {t : TypeId} (h : w.heap[g]? = some (.cells cs t (0, 0))) (j : Nat) : w.cell? ⟨g, j, none⟩ = cs[j]? := by simp [World.cell?, h]
theorem block_free {w : World} {g : Nat} {cs : Array Value} {t : TypeId} (h : w.heap[g]? = some (.cells cs t (0, 0))) (j : Nat) : w.frozen? ⟨g, j, none⟩ = false := by simp [World.frozen?, h]

/-- A slice of strings, told whole. -/
structure Vec where
  a : Option Addr
  n : Nat
  c : Nat
  s : Nat → ByteArray
def vecV (X : Nat → Vec) (j : Nat) : Value := .slice (X j).a (X j).n (X j).c
/-- A slice of slices of strings: the outer row's cells, and each inner row. -/
def Vecs (w : World) (B : Nat) (ao : Option Addr) (len : Nat) (X : Nat → Vec) : Prop :=
  Row w B ao len (vecV X) ∧ ∀ j, j < len → (X j).n ≤ 1048576 ∧ Row w B (X j).a (X j).n (strV (X j).s)

theorem Vecs.mono {w w' : World} {B B' : Nat} {ao : Option Addr} {len : Nat} {X : Nat → Vec} (h : Vecs w B ao len X) (hb : Below B w w') (hB : B ≤ B') : Vecs w' B' ao len X :=
  ⟨h.1.mono hb hB, fun j hj => ⟨(h.2 j hj).1, (h.2 j hj).2.mono hb hB⟩⟩

theorem Row.setOther {w : World} {B G i : Nat} {u : Value} {ao : Option Addr} {len : Nat} {V : Nat → Value} (h : Row w B ao len V) (hne : ∀ b o, ao = some ⟨b, o, none⟩ → b ≠ G) : Row (w.setCell ⟨G, i, none⟩ u) B ao len V := by
  refine ⟨h.1, ?_⟩
  rcases h.2 with h | ⟨b, o, h1, h2, h3⟩
  · exact .inl h
  · refine .inr ⟨b, o, h1, h2, fun j hj => ?_⟩
    rw [← h3 j hj]
    exact World.cell?_of_block (w := w) (Below.heap_setCell _ _ _ _ (hne b o h1))

/-- What the clone of a slice of slices hands back: some slices of strings. -/
def VecsPost (len : Nat) (w : World) (e : Ending) (w' : World) : Prop :=
  ∃ ao cap X, e = .returned (.slice ao len cap) ∧ Vecs w' w'.heap.size ao len X ∧ Below w.heap.size w w'

/-- The outer row behind k rounds: block G holds k slices, then nil. -/
def Outer (w0 wr : World) (G len k : Nat) (X : Nat → Vec) : Prop :=
  wr.heap[G]? = some (.cells (part (.slice none 0 0) (vecV X) len k) 24 (0, 0)) ∧ (∀ j, j < k → (X j).n ≤ 1048576 ∧ Row wr wr.heap.size (X j).a (X j).n (strV (X j).s) ∧ ∀ b o, (X j).a = some ⟨b, o, none⟩ → G < b) ∧ Below G w0 wr

theorem part_next (z : Value) (V V' : Nat → Value) (n k : Nat) (h : ∀ j, j < k → V' j = V j) : (part z V n k).setIfInBounds k (V' k) = part z V' n (k + 1) := by
  rw [show part z V n k = part z V' n k from ?_, part_succ]
  unfold part
  congr 1
  apply List.map_congr_left
  intro j _
  by_cases e : j < k
  · simp [e, h j e]
  · simp [e]

theorem outer_step {w0 wr w1 : World} {G len k : Nat} {X : Nat → Vec} (h : Outer w0 wr G len k X) {ao : Option Addr} {n c : Nat} {s : Nat → ByteArray} (hn : n ≤ 1048576) (hrow : Row w1 w1.heap.size ao n (strV s)) (hb : Below wr.heap.size wr w1) (hnew : ∀ b o, ao = some ⟨b, o, none⟩ → wr.heap.size ≤ b) :
    ∃ X', Outer w0 (w1.setCell ⟨G, k, none⟩ (.slice ao n c)) G len (k + 1) X' := by
  obtain ⟨h1, h2, h3⟩ := h
  have hG := lt_of_block h1
  have h1' : w1.heap[G]? = some (.cells (part (.slice none 0 0) (vecV X) len k) 24 (0, 0)) := (hb.block G hG).trans h1
  have hsz : (w1.setCell ⟨G, k, none⟩ (.slice ao n c)).heap.size = w1.heap.size := by simp [World.setCell]
  refine ⟨fun j => if j = k then ⟨ao, n, c, s⟩ else X j, ?_, fun j hj => ?_, (h3.trans (hb.mono (Nat.le_of_lt hG))).setCell (Nat.le_refl _) _⟩
  · rw [block_setCell h1' k]
    have := part_next (.slice none 0 0) (vecV X) (vecV (fun j => if j = k then (⟨ao, n, c, s⟩ : Vec) else X j)) len k (fun j hj => by simp [vecV, show j ≠ k by omega])
    rw [← this]
    simp [vecV]
  · rw [hsz]
    by_cases e : j = k
    · subst e
      simp only [if_true]
      exact ⟨hn, hrow.setOther (fun b o h => by have := hnew b o h; omega), fun b o h => by have := hnew b o h; omega⟩
    · simp only [e, if_false]
      obtain ⟨p1, p2, p3⟩ := h2 j (by omega)
      exact ⟨p1, (p2.mono hb hb.size).setOther (fun b o h => by have := p3 b o h; omega), p3⟩

set_option maxHeartbeats 400000 in
theorem cloneVecs_any (ao : Option Addr) (len cap : Nat) (X : Nat → Vec) (w : World) (hlen : len ≤ 1048576) (hz : Vecs w w.heap.size ao len X) :
    Calls Try.prog 24 #[.slice ao len cap] w (VecsPost len w) := by
  obtain ⟨⟨hnil, hz⟩, hin⟩ := hz
  rcases ao with _ | x
  · obtain rfl := hnil rfl
    have hq := fun W c => Lib.run_eql_slice_nil (P := Try.prog) W 36 24 none 0 c 0 0 Try.underlying36
    go_enter Try.func24, Try.ntmps24
    go_wp2
    go_ret
    exact ⟨none, 0, fun _ => ⟨none, 0, 0, fun _ => ByteArray.empty⟩, rfl, ⟨⟨fun _ => rfl, .inl rfl⟩, fun j hj => by omega⟩, Below.refl _ _⟩
  have hmk := run_make_row' (P := Try.prog) 36 24 (.slice none 0 0) 24 Try.underlying36 info24 rfl .i64 .i64 len (by omega) (by omega)
  obtain ⟨X0, hX0⟩ : ∃ X0 : Nat → Vec, X0 = fun _ => ⟨none, 0, 0, fun _ => ByteArray.empty⟩ := ⟨_, rfl⟩
  rw [part_zero (.slice none 0 0) (vecV X0) len] at hmk
  clear hnil hX0
  have hq := fun W => Lib.run_eql_slice_nil (P := Try.prog) W 36 24 (some x) len cap 0 0 Try.underlying36
  obtain ⟨G, hG⟩ : ∃ G, G = w.heap.size := ⟨_, rfl⟩
  have HIN : Hid (∀ j, j < len → (X j).n ≤ 1048576 ∧ Row w w.heap.size (X j).a (X j).n (strV (X j).s)) := hin
  clear hin
  go_enter Try.func24, Try.ntmps24
  go_wp2
  go_loopw [4] (fun i wr => ∃ (k : Nat) (Y : Nat → Vec), k ≤ len ∧ i = .int .i64 k ∧ Outer w wr G len k Y) (fun i _ => len - (intOf i).toNat)
  case atStart => exact ⟨0, X0, by omega, rfl, by rw [hG]; exact heap_alloc_new _ _, fun j h => by omega, (Below.refl G w).alloc (by omega) _⟩
  case round =>
    obtain ⟨k, Y, hk, rfl, ho⟩ := hrel
    rw [← hG]
    have HG : Hid (G = w.heap.size) := hG
    clear hG
    have HO : Hid (Outer w wr G len k Y) := ho
    by_cases hlt : k < len
    · obtain h0 | ⟨b, o, hx, hb, hcells⟩ := hz
      · omega
      obtain rfl : x = ⟨b, o, none⟩ := by simpa using hx
      have hGlt := lt_of_block ho.1
      have hc : wr.cell? ⟨b, o + k, none⟩ = some (.slice (X k).a (X k).n (X k).c) := (ho.2.2.cell (p := ⟨b, o + k, none⟩) (by rw [HG.out]; exact hb)).trans (hcells k hlt)
      obtain ⟨hn, hr⟩ := HIN.out k hlt
      have hr' : Row wr wr.heap.size (X k).a (X k).n (strV (X k).s) := hr.mono (by rw [← HG.out]; exact ho.2.2) (by rw [← HG.out]; omega)
      have hcG : wr.cell? ⟨G, k, none⟩ = some (.slice none 0 0) := by rw [block_cell ho.1, part_at _ _ _ _ _ hlt, if_neg (by omega)]
      have hfG := block_free ho.1 k
      have i1 : (k : Int) < (len : Int) := by omega
      clear hcells hx ho hr
      generalize X k = xk at hc hn hr'
      go_wp2_with fail
      refine (cloneStrs_any xk.a xk.n xk.c xk.s _ hn hr').mono ?_
      rintro e w1 ⟨ya, yc, rfl, yr, yb, ynew⟩
      have dG := (yb.cell (p := ⟨G, k, none⟩) hGlt).trans hcG
      have eG := (yb.frozen (p := ⟨G, k, none⟩) hGlt).trans hfG
      have HS : Hid (∃ X', Outer w (w1.setCell ⟨G, k, none⟩ (.slice ya xk.n yc)) G len (k + 1) X') := outer_step HO.out hn yr yb ynew
      clear yr yb ynew hr' hcG hfG hc
      go_wp2
      go_roundw
      case rel =>
        obtain ⟨X', h'⟩ := HS.out
        exact ⟨k + 1, X', by omega, by go_num, h'⟩
      case measure => simp [intOf]; omega
    · obtain rfl : k = len := by omega
      clear hz
      go_wp2
      go_ret
      have hGlt := lt_of_block ho.1
      refine ⟨_, _, Y, rfl, ⟨⟨fun e => (by cases e), .inr ⟨G, 0, rfl, hGlt, fun j hj => ?_⟩⟩, fun j hj => ⟨(ho.2.1 j hj).1, (ho.2.1 j hj).2.1⟩⟩, by rw [← HG.out]; exact ho.2.2⟩
      rw [Nat.zero_add, block_cell ho.1, part_at _ _ _ _ _ hj, if_pos hj]
end Go.Proofs.Qxb6600399a
