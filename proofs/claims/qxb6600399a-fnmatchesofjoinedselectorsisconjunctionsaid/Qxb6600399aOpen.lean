import Derived.Test.Qxb6600399aBytes
import Derived.Deep.Slices
import Derived.Deep.Strs
import Derived.Deep.Grids
import Derived.OpenShut
namespace Go.Proofs.Qxb6600399a
open Go.RowKit Go.Deep

theorem row_of {W : World} {a : Addr} {len : Nat} {V : Nat → Value} (h : ∀ j, j < len → W.cell? (a.add j) = some (V j)) : Row W W.heap.size (some a) len V := by
  refine ⟨fun e => (by cases e), ?_⟩
  rcases Nat.eq_zero_or_pos len with h0 | hpos
  · exact .inl h0
  obtain ⟨b, o, spot⟩ := a
  have hspot : spot = none := by simpa [Addr.add] using World.cell?_spot (h 0 (by omega))
  subst hspot
  exact .inr ⟨b, o, rfl, World.block_lt_of_cell? _ _ (h 0 (by omega)), fun j hj => by rw [← Addr.add_lit]; exact h j hj⟩

theorem row_nil {W : World} {V : Nat → Value} : Row W W.heap.size none 0 V := ⟨fun _ => rfl, .inl rfl⟩

variable {H : Type} {enc : TypeId × Value → H} {w : World} {base : Nat} {spare : Nat → Bool} {held : Bool}

theorem row_strs {fuel : Nat} {ao : Option Addr} {len cap : Nat} {x : DataW H × List MemPlace} (h : DataW.trod enc Try.prog w base spare held fuel 24 [.slice ao len cap] = some x) : ∃ S, Row w w.heap.size ao len (strV S) := by
  rcases open_strs Try.underlying24 Try.underlying9 (by kernel_rfl) h with ⟨hcs, _⟩ | ⟨a, l, c, m, S, hcs, _, hl, _, hm, _, hcell⟩
  · simp at hcs
    obtain ⟨rfl, rfl, rfl⟩ := hcs
    exact ⟨fun _ => ByteArray.empty, row_nil⟩
  · simp at hcs
    obtain ⟨rfl, rfl, rfl⟩ := hcs
    have hlm : len ≤ m := by rw [hm]; split <;> omega
    exact ⟨S, row_of fun j hj => (hcell j (by omega)).1⟩

theorem row_bools {fuel : Nat} {ao : Option Addr} {len cap : Nat} {x : DataW H × List MemPlace} (h : DataW.trod enc Try.prog w base (fun _ => true) held fuel 37 [.slice ao len cap] = some x) : ∃ S, Row w w.heap.size ao len (boolV S) := by
  rcases open_bools Try.underlying37 Try.underlying4 (by kernel_rfl) h with ⟨hcs, _⟩ | ⟨a, l, c, S, hcs, _, hl, _, _, hcell⟩
  · simp at hcs
    obtain ⟨rfl, rfl, rfl⟩ := hcs
    exact ⟨fun _ => false, row_nil⟩
  · simp at hcs
    obtain ⟨rfl, rfl, rfl⟩ := hcs
    exact ⟨S, row_of fun j hj => hcell j (by omega)⟩

theorem row_vec_one {fuel : Nat} {v : Value} {x : DataW H × List MemPlace} (h : DataW.trod enc Try.prog w base spare held fuel 24 [v] = some x) : ∃ X : Vec, v = .slice X.a X.n X.c ∧ Row w w.heap.size X.a X.n (strV X.s) := by
  rcases open_strs Try.underlying24 Try.underlying9 (by kernel_rfl) h with ⟨hcs, _⟩ | ⟨a, l, c, m, S, hcs, _, hl, _, hm, _, hcell⟩
  · simp at hcs
    subst hcs
    exact ⟨⟨none, 0, 0, fun _ => ByteArray.empty⟩, rfl, row_nil⟩
  · simp at hcs
    subst hcs
    have hlm : l ≤ m := by rw [hm]; split <;> omega
    exact ⟨⟨some a, l, c, S⟩, rfl, row_of fun j (hj : j < l) => (hcell j (by omega)).1⟩

theorem row_vecs {fuel : Nat} {ao : Option Addr} {len cap : Nat} {x : DataW H × List MemPlace} (h : DataW.trod enc Try.prog w base spare held fuel 36 [.slice ao len cap] = some x) : ∃ X, VecsRaw w w.heap.size ao len X := by
  rcases open_slice1 Try.underlying36 (by kernel_rfl) h with ⟨hcs, _⟩ | ⟨a, l, c, m, n, V, D, Pl, hcs, _, hl, _, hm, _, hcell⟩
  · simp at hcs
    obtain ⟨rfl, rfl, rfl⟩ := hcs
    exact ⟨fun _ => ⟨none, 0, 0, fun _ => ByteArray.empty⟩, row_nil, fun j hj => by omega⟩
  · simp at hcs
    obtain ⟨rfl, rfl, rfl⟩ := hcs
    have hlm : len ≤ m := by rw [hm]; split <;> omega
    have hall : ∀ j, ∃ X : Vec, j < len → V j = .slice X.a X.n X.c ∧ Row w w.heap.size X.a X.n (strV X.s) := fun j => by
      by_cases hj : j < len
      · obtain ⟨X, h1, h2⟩ := row_vec_one (hcell j (by omega)).2
        exact ⟨X, fun _ => ⟨h1, h2⟩⟩
      · exact ⟨⟨none, 0, 0, fun _ => ByteArray.empty⟩, fun h => absurd h hj⟩
    refine ⟨fun j => (hall j).choose, row_of fun j hj => ?_, fun j hj => ((hall j).choose_spec hj).2⟩
    rw [(hcell j (by omega)).1, ((hall j).choose_spec hj).1]
    rfl
end Go.Proofs.Qxb6600399a
