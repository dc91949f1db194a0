import Derived.Test.Qxb6600021aClone
import Derived.Deep.AppendLies
namespace Go.Proofs.Qxb6600021a
open Go.RowKit

theorem cells3 {w : World} {R : Nat} {v0 v1 v2 : Value} {t : TypeId} (h : w.heap[R]? = some (.cells #[v0, v1, v2] t (0, 0))) :
    w.cell? ⟨R, 0, none⟩ = some v0 ∧ w.cell? ⟨R, 1, none⟩ = some v1 ∧ w.cell? ⟨R, 2, none⟩ = some v2 ∧ w.frozen? ⟨R, 0, none⟩ = false ∧ w.frozen? ⟨R, 1, none⟩ = false ∧ w.frozen? ⟨R, 2, none⟩ = false := by
  simp [World.cell?, World.frozen?, h]

theorem block_setCell {w : World} {R : Nat} {cs : Array Value} {t : TypeId} (h : w.heap[R]? = some (.cells cs t (0, 0))) (i : Nat) (u : Value) :
    (w.setCell ⟨R, i, none⟩ u).heap[R]? = some (.cells (cs.setIfInBounds i u) t (0, 0)) := by
  have hlt := lt_of_block h
  have h' : w.heap[R] = .cells cs t (0, 0) := by simpa [Array.getElem?_eq_getElem hlt] using h
  show (w.heap.modify R _)[R]? = _
  rw [Array.getElem?_eq_getElem (by simpa using hlt), Array.getElem_modify_self, h']
  rfl
theorem block_cell {w : World} {g : Nat} {cs : Array Value} {t : TypeId} (h : w.heap[g]? = some (.cells cs t (0, 0))) (j : Nat) : w.cell? ⟨g, j, none⟩ = cs[j]? := by simp [World.cell?, h]
theorem block_free {w : World} {g : Nat} {cs : Array Value} {t : TypeId} (h : w.heap[g]? = some (.cells cs t (0, 0))) (j : Nat) : w.frozen? ⟨g, j, none⟩ = false := by simp [World.frozen?, h]

/-- The state of a run that owns its words: n words in a block of its own. -/
def Owned (w : World) (R g n cap : Nat) (cur : Array Value) : Prop :=
  w.heap[R]? = some (.cells #[.slice (some ⟨g, 0, none⟩) n cap, .bool true, .slice none 0 0] 87 (0, 0)) ∧ R < g ∧ n ≤ 65537 ∧ n ≤ cap ∧ cap ≤ maxLen ∧ w.heap[g]? = some (.cells cur 29 (0, 0)) ∧ cur.size = cap ∧ ∀ j, j < n → ∃ q, cur[j]? = some (.int .u64 q)

theorem Owned.row {w : World} {R g n cap : Nat} {cur : Array Value} (h : Owned w R g n cap cur) : w.ownsRow (R + 1) 29 1 (.slice (some ⟨g, 0, none⟩) n cap) n (cur.toList.take n) := by
  obtain ⟨h1, h2, h3, h4, h5, h6, h7, h8⟩ := h
  exact ⟨by simp; omega, .inr ⟨g, cap, cur, rfl, h2, h6, h4, h5, by omega, by simp⟩⟩

/-- Behind the append: block R is as it was. -/
theorem grown_R {wr w1 : World} {R : Nat} {o ob : Obj} {row : Option Nat} (hR : wr.heap[R]? = some ob) (hrow : row ≠ some R) (hgrow : (wr.alloc o).grownBy w1 row) : w1.heap[R]? = some ob := by
  have hlt := lt_of_block hR
  rw [hgrow.block R (by simp; omega) (Ne.symm hrow), Below.heap_alloc _ _ _ hlt, hR]

theorem grown_below {w wr w1 : World} {R g : Nat} {o : Obj} (hb : Below R w wr) (hlt : R < wr.heap.size) (hg : R < g) (hgrow : (wr.alloc o).grownBy w1 (some g)) : Below R w w1 :=
  (hb.alloc (Nat.le_of_lt hlt) o).grown hgrow (by simp; omega) (fun k hk => by simp at hk; omega)

theorem heap_other {w : World} {R g : Nat} {i : Nat} {u : Value} (h : g ≠ R) : (w.setCell ⟨R, i, none⟩ u).heap[g]? = w.heap[g]? := Below.heap_setCell _ _ _ _ h

theorem owned_step {w1 : World} {R g n cap : Nat} {v c : Value} {xs : List Value} (hR : w1.heap[R]? = some (.cells #[v, .bool true, .slice none 0 0] 87 (0, 0))) (hn : n + 1 ≤ 65537)
    (hxs : ∀ j, j < n → ∃ q, xs[j]? = some (.int .u64 q)) (hl : xs.length = n) (hown : w1.ownsRow (R + 1) 29 1 (.slice (some ⟨g, 0, none⟩) (n + 1) cap) (n + 1) (xs ++ [.int .u64 0])) (hc : c = .slice (some ⟨g, 0, none⟩) (n + 1) cap) :
    ∃ cur, Owned (w1.setCell ⟨R, 0, none⟩ c) R g (n + 1) cap cur := by
  subst hc
  obtain ⟨_, ⟨h, _⟩ | ⟨g', cap', cur, hv, hg, hh, h1, h2, h3, h4⟩⟩ := hown
  · cases h
  · simp at hv
    obtain ⟨rfl, rfl⟩ := hv
    refine ⟨cur, ?_, hg, hn, h1, h2, by rw [heap_other (by omega)]; exact hh, by omega, fun j hj => ?_⟩
    · rw [block_setCell hR 0]; simp
    · have e : cur[j]? = (xs ++ [Value.int .u64 0])[j]? := by
        rw [← h4, List.getElem?_take, if_pos (by omega), Array.getElem?_toList]
      rw [e]
      by_cases hjn : j < n
      · obtain ⟨q, hq⟩ := hxs j hjn
        exact ⟨q, by rw [List.getElem?_append_left (by omega)]; exact hq⟩
      · exact ⟨0, by rw [List.getElem?_append_right (by omega), show j - xs.length = 0 by omega]; rfl⟩

theorem owned_or {w1 : World} {R g n cap : Nat} {cur : Array Value} (h : Owned w1 R g n cap cur) (i : Nat) (q : Int) : ∃ cur, Owned (w1.setCell ⟨g, i, none⟩ (.int .u64 q)) R g n cap cur := by
  obtain ⟨h1, h2, h3, h4, h5, h6, h7, h8⟩ := h
  refine ⟨_, by rw [heap_other (by omega)]; exact h1, h2, h3, h4, h5, block_setCell h6 i _, by simpa using h7, fun j hj => ?_⟩
  obtain ⟨q', hq'⟩ := h8 j hj
  rw [Array.getElem?_setIfInBounds]
  by_cases e : i = j
  · subst e; exact ⟨q, by rw [if_pos rfl, if_pos (by omega)]⟩
  · exact ⟨q', by rw [if_neg e]; exact hq'⟩

set_option maxRecDepth 100000 in
set_option maxHeartbeats 400000 in
theorem add_owned (R : Nat) (i bit : Int) (w : World) (g n cap : Nat) (cur : Array Value) (hi0 : 0 ≤ i) (hi1 : i ≤ 65536) (ho : Owned w R g n cap cur) :
    Calls Try.prog 54 #[.pointer (some ⟨R, 0, none⟩), .int .i64 i, .int .u64 bit] w fun e w' => e = .returned (.tuple #[]) ∧ (∃ g n cap cur, Owned w' R g n cap cur) ∧ Below R w w' := by
  obtain ⟨ii, rfl⟩ := Int.eq_ofNat_of_zero_le hi0
  obtain ⟨c0, c1, c2, f0, f1, f2⟩ := cells3 ho.1
  go_enter Try.func54, Try.ntmps54
  go_wp2_with fail
  go_loopg [] (ii + 1 - n) (fun m wr => ∃ g n cap cur, Owned wr R g n cap cur ∧ m = ii + 1 - n ∧ Below R w wr)
  case atStart => exact ⟨g, n, cap, cur, ho, rfl, Below.refl _ _⟩
  case round =>
    clear ho c0 c1 c2 f0 f1 f2
    obtain ⟨g, n, cap, cur, ho, hm, hb⟩ := hrel
    obtain ⟨c0, c1, c2, f0, f1, f2⟩ := cells3 ho.1
    have hrow := ho.row
    obtain ⟨hR, hRg, hn, hnc, hcm, hg, hcs, hcell⟩ := ho
    have HM : Hid (gk = ii + 1 - n) := hm
    clear hm
    by_cases hlt : n ≤ ii
    · obtain ⟨i0, hi, hz0, hz1, hz2⟩ := info_parts info29
      have hRlt := lt_of_block hR
      go_wp2_with (at_builtin; refine wpList_append_lies _ rfl (.tmp 26) (.tmp 27) 38 rfl (R + 1) 29 i0 (.int .u64 0) 1 8 Try.underlying38 hi hz0 hz1 hz2 rfl (by decide) _ n _ rfl (hrow.alloc _) ⟨wr.heap.size, 0, none⟩ 1 1 [.int .u64 0] rfl rfl (cell_one_new _ _ _) (fun u hu => by simp at hu; subst hu; rfl) (by decide) (by unfold maxLen; omega) (by omega) (by simp; omega) (wr.heap.size + 1) (by simp) ?_)
      intro g' cap' w1 hown hgrow hat hlt1
      have hR1 := grown_R hR (by simp [Value.ownBlock]; omega) hgrow
      have hB1 := grown_below hb hRlt hRg hgrow
      have hx1 : ∀ j, j < n → ∃ q, (cur.toList.take n)[j]? = some (Value.int .u64 q) := fun j hj => by
        obtain ⟨q, hq⟩ := hcell j hj
        exact ⟨q, by rw [List.getElem?_take, if_pos hj, Array.getElem?_toList]; exact hq⟩
      have HO := owned_step hR1 (by omega) hx1 (by simp; omega) hown rfl
      obtain ⟨d0, d1, d2, e0, e1, e2⟩ := cells3 hR1
      clear hown hgrow hrow hcell hg c0 c1 c2 f0 f1 f2 hx1 hat
      go_wp2
      obtain ⟨cur', ho'⟩ := HO
      go_roundg (ii + 1 - (n + 1))
      case measure => have := HM.out; omega
      case rel => exact ⟨g', n + 1, cap', cur', ho', rfl, hB1.setCell (Nat.le_refl _) _⟩
    · have ho' : Owned wr R g n cap cur := ⟨hR, hRg, hn, hnc, hcm, hg, hcs, hcell⟩
      obtain ⟨q, hq⟩ := hcell ii (by omega)
      have hcq := (block_cell hg ii).trans hq
      have hfq := block_free hg ii
      have HO := fun q => owned_or ho' ii q
      have i1 : (ii : Int) < (n : Int) := by omega
      clear hcell hrow ho'
      go_wp2
      go_returns
      obtain ⟨cur', ho'⟩ := HO _
      exact ⟨rfl, ⟨_, _, _, cur', ho'⟩, hb.setCell (by show R ≤ g; omega) _⟩
end Go.Proofs.Qxb6600021a
