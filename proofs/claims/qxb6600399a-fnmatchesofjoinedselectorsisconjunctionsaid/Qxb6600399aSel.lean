import Derived.Test.Qxb6600399aVecs
namespace Go.Proofs.Qxb6600399a
open Go.RowKit

/-- A requirement, told whole. -/
structure Rq where
  key : ByteArray
  v : Vec
  h : Bool

theorem info58 : (Try.prog.info? 58).map (fun i => (i.zero, i.size, i.bytes)) = some (some (.agg #[.string ByteArray.empty, .slice none 0 0, .bool false]), 3, 48) := by kernel_rfl

/-- A selector in memory. -/
def Sel (w : World) (B : Nat) (ao : Option Addr) (len : Nat) (Q : Nat → Rq) : Prop :=
  (len = 0 ∨ ∃ b, ao = some ⟨b, 0, none⟩ ∧ b < B ∧ ∀ j, j < len → w.cell? ⟨b, j * 3, none⟩ = some (.string (Q j).key) ∧ w.cell? ⟨b, j * 3 + 1, none⟩ = some (.slice (Q j).v.a (Q j).v.n (Q j).v.c) ∧ w.cell? ⟨b, j * 3 + 2, none⟩ = some (.bool (Q j).h)) ∧
  ∀ j, j < len → (Q j).key.size ≤ 1048576 ∧ (Q j).v.n ≤ 1048576 ∧ Row w B (Q j).v.a (Q j).v.n (strV (Q j).v.s)

def rqOf (K : Nat → ByteArray) (X : Nat → Vec) (H : Nat → Bool) (j : Nat) : Rq := ⟨K j, X j, H j⟩

theorem make_sel (n : Nat) (hn : n ≤ 2097152) (W : World) :
    (Instr.makeSlice 45 (.int .i64 n) (.int .i64 n)).run Try.prog W = .ok (.slice (some ⟨W.heap.size, 0, none⟩) n n) (W.alloc (.cells (madeCells #[.string ByteArray.empty, .slice none 0 0, .bool false] (n * 3)) 58)) := by
  obtain ⟨i, hi, hz, hsz, hby⟩ := info_parts info58
  have := run_make (P := Try.prog) W 45 58 i (.agg #[.string ByteArray.empty, .slice none 0 0, .bool false]) Try.underlying45 hi hz .i64 .i64 n n (by omega) (by omega) (by rw [hby]; omega) (by omega)
  rw [this, hsz]
  simp [Value.cells]

def Part (C : Array Value) (len k : Nat) (K : Nat → ByteArray) (X : Nat → Vec) (H : Nat → Bool) : Prop :=
  C.size = len * 3 ∧ ∀ j, j < k → C[j * 3]? = some (.string (K j)) ∧ C[j * 3 + 1]? = some (.slice (X j).a (X j).n (X j).c) ∧ C[j * 3 + 2]? = some (.bool (H j))

theorem heap_other {w : World} {R g : Nat} {i : Nat} {u : Value} (h : g ≠ R) : (w.setCell ⟨R, i, none⟩ u).heap[g]? = w.heap[g]? := Below.heap_setCell _ _ _ _ h

theorem sel_step {w0 wr : World} {G len k : Nat} {C : Array Value} {K : Nat → ByteArray} {X : Nat → Vec} {H : Nat → Bool} (hlt : k < len) (hG : wr.heap[G]? = some (.cells C 58 (0, 0))) (hP : Part C len k K X H) (hb : Below G w0 wr) :
    ∃ C', (((wr.setCell ⟨G, k * 3, none⟩ (.string (K k))).setCell ⟨G, k * 3 + 1, none⟩ (.slice (X k).a (X k).n (X k).c)).setCell ⟨G, k * 3 + 2, none⟩ (.bool (H k))).heap[G]? = some (.cells C' 58 (0, 0)) ∧ Part C' len (k + 1) K X H ∧
      Below G w0 (((wr.setCell ⟨G, k * 3, none⟩ (.string (K k))).setCell ⟨G, k * 3 + 1, none⟩ (.slice (X k).a (X k).n (X k).c)).setCell ⟨G, k * 3 + 2, none⟩ (.bool (H k))) := by
  refine ⟨_, block_setCell (block_setCell (block_setCell hG _ _) _ _) _ _, ⟨by simpa using hP.1, fun j hj => ?_⟩, ((hb.setCell (Nat.le_refl _) _).setCell (Nat.le_refl _) _).setCell (Nat.le_refl _) _⟩
  have hsz := hP.1
  have e : ∀ t, t ≠ k * 3 → t ≠ k * 3 + 1 → t ≠ k * 3 + 2 → (((C.setIfInBounds (k * 3) (.string (K k))).setIfInBounds (k * 3 + 1) (.slice (X k).a (X k).n (X k).c)).setIfInBounds (k * 3 + 2) (.bool (H k)))[t]? = C[t]? := fun t h1 h2 h3 => by
    rw [Array.getElem?_setIfInBounds, if_neg (Ne.symm h3), Array.getElem?_setIfInBounds, if_neg (Ne.symm h2), Array.getElem?_setIfInBounds, if_neg (Ne.symm h1)]
  by_cases ek : j = k
  · subst ek
    refine ⟨?_, ?_, ?_⟩
    · rw [Array.getElem?_setIfInBounds, if_neg (by omega), Array.getElem?_setIfInBounds, if_neg (by omega), Array.getElem?_setIfInBounds, if_pos rfl, if_pos (by omega)]
    · rw [Array.getElem?_setIfInBounds, if_neg (by omega), Array.getElem?_setIfInBounds, if_pos rfl, if_pos (by simp; omega)]
    · rw [Array.getElem?_setIfInBounds, if_pos rfl, if_pos (by simp; omega)]
  · have := hP.2 j (by omega)
    rw [e _ (by omega) (by omega) (by omega), e _ (by omega) (by omega) (by omega), e _ (by omega) (by omega) (by omega)]
    exact this

def SelPost (len : Nat) (K : Nat → ByteArray) (X : Nat → Vec) (H : Nat → Bool) (w : World) (e : Ending) (w' : World) : Prop :=
  ∃ ao cap, e = .returned (.slice ao len cap) ∧ Sel w' w'.heap.size ao len (rqOf K X H) ∧ Below w.heap.size w w'

set_option maxHeartbeats 1000000 in
theorem sel_any (a0 a1 a2 : Option Addr) (len c0 c1 c2 : Nat) (K : Nat → ByteArray) (X : Nat → Vec) (H : Nat → Bool) (w : World) (hlen : len ≤ 2097152) (hK : ∀ j, j < len → (K j).size ≤ 1048576) (r0 : Row w w.heap.size a0 len (strV K)) (r1 : Vecs w w.heap.size a1 len X) (r2 : Row w w.heap.size a2 len (boolV H)) :
    Calls Try.prog 27 #[.slice a0 len c0, .slice a1 len c1, .slice a2 len c2] w (SelPost len K X H w) := by
  have HK : Hid (∀ j, j < len → (K j).size ≤ 1048576) := hK
  have R1 : Hid (Vecs w w.heap.size a1 len X) := r1
  have hmk := make_sel len hlen
  obtain ⟨G, hG⟩ : ∃ G, G = w.heap.size := ⟨_, rfl⟩
  clear hK
  go_enter Try.func27, Try.ntmps27
  go_wp2
  go_loopw [8] (fun i wr => ∃ (k : Nat) (C : Array Value), k ≤ len ∧ i = .int .i64 k ∧ wr.heap[G]? = some (.cells C 58 (0, 0)) ∧ Part C len k K X H ∧ Below G w wr) (fun i _ => len - (intOf i).toNat)
  case atStart => exact ⟨0, _, by omega, rfl, by rw [hG]; exact heap_alloc_new _ _, ⟨size_madeCells _ _, fun j h => by omega⟩, (Below.refl G w).alloc (by omega) _⟩
  case round =>
    obtain ⟨k, C, hk, rfl, hC, hP, hbel⟩ := hrel
    rw [← hG]
    have HG : Hid (G = w.heap.size) := hG
    clear hG
    by_cases hlt : k < len
    · obtain h0 | ⟨b, o, rfl, hb, hcells⟩ := r0.2
      · omega
      obtain h0 | ⟨b1, o1, rfl, hb1, hcells1⟩ := r1.1.2
      · omega
      obtain h0 | ⟨b2, o2, rfl, hb2, hcells2⟩ := r2.2
      · omega
      have x0 : wr.cell? ⟨b, o + k, none⟩ = some (.string (K k)) := (hbel.cell (p := ⟨b, o + k, none⟩) (by rw [HG.out]; exact hb)).trans (hcells k hlt)
      have x1 : wr.cell? ⟨b1, o1 + k, none⟩ = some (.slice (X k).a (X k).n (X k).c) := (hbel.cell (p := ⟨b1, o1 + k, none⟩) (by rw [HG.out]; exact hb1)).trans (hcells1 k hlt)
      have x2 : wr.cell? ⟨b2, o2 + k, none⟩ = some (.bool (H k)) := (hbel.cell (p := ⟨b2, o2 + k, none⟩) (by rw [HG.out]; exact hb2)).trans (hcells2 k hlt)
      have hsz := hP.1
      have y0 : wr.cell? ⟨G, k * 3, none⟩ = some C[k * 3] := (block_cell hC _).trans (Array.getElem?_eq_getElem (by omega))
      have y1 : wr.cell? ⟨G, k * 3 + 1, none⟩ = some C[k * 3 + 1] := (block_cell hC _).trans (Array.getElem?_eq_getElem (by omega))
      have y2 : wr.cell? ⟨G, k * 3 + 2, none⟩ = some C[k * 3 + 2] := (block_cell hC _).trans (Array.getElem?_eq_getElem (by omega))
      have f0 := block_free hC (k * 3)
      have f1 := block_free hC (k * 3 + 1)
      have f2 := block_free hC (k * 3 + 2)
      have HST := sel_step hlt hC hP hbel
      have HST2 : Hid (∃ C', _ ∧ _ ∧ _) := HST
      have i1 : (k : Int) < (len : Int) := by omega
      generalize C[k * 3] = z0 at y0
      generalize C[k * 3 + 1] = z1 at y1
      generalize C[k * 3 + 2] = z2 at y2
      clear hcells hcells1 hcells2 hC hP hbel hsz HST r0 r1 r2
      go_wp2_with fail
      go_region
      all_goals
        go_wp2
        go_roundw
        case rel =>
          obtain ⟨C', h1, h2, h3⟩ := HST2.out
          exact ⟨k + 1, C', by omega, by go_num, h1, h2, h3.drew⟩
        case measure => simp [intOf]; omega
    · obtain rfl : k = len := by omega
      clear r0 r1 r2
      go_wp2
      go_ret
      have hGlt := lt_of_block hC
      refine ⟨_, _, rfl, ⟨.inr ⟨G, rfl, hGlt, fun j hj => ?_⟩, fun j hj => ⟨HK.out j hj, (R1.out.2 j hj).1, (R1.out.2 j hj).2.mono (by rw [← HG.out]; exact hbel) (by rw [← HG.out]; omega)⟩⟩, by rw [← HG.out]; exact hbel⟩
      have := hP.2 j hj
      exact ⟨(block_cell hC _).trans this.1, (block_cell hC _).trans this.2.1, (block_cell hC _).trans this.2.2⟩
end Go.Proofs.Qxb6600399a
