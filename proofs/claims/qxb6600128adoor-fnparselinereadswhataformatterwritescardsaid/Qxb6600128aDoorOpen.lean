import Derived.Test.Qxb6600128aDoorRow
import Derived.Deep.Slices
import Derived.Deep.Strs
import Derived.OpenShut
namespace Go.Proofs.Qxb6600128aDoor
open Go.RowKit Go.Deep

theorem row_of {W : World} {a : Addr} {len : Nat} {V : Nat → Value} (h : ∀ j, j < len → W.cell? (a.add j) = some (V j)) : Row W W.heap.size (some a) len V := by
  refine ⟨fun e => (by cases e), ?_⟩
  rcases Nat.eq_zero_or_pos len with h0 | hpos
  · exact .inl h0
  obtain ⟨b, o, spot⟩ := a
  have hspot : spot = none := by simpa [Addr.add] using World.cell?_spot (h 0 (by omega))
  subst hspot
  exact .inr ⟨b, o, rfl, World.block_lt_of_cell? _ _ (h 0 (by omega)), fun j hj => by rw [← Addr.add_lit]; exact h j hj⟩

theorem row_nil {W : World} {V : Nat → Value} : Row W W.heap.size none 0 V := ⟨fun _ => rfl, .inl rfl⟩

variable {H : Type} {enc : TypeId × Value → H} {w : World} {base : Nat} {spare : Nat → Bool} {held : Bool}

theorem row_strs {fuel : Nat} {ao : Option Addr} {len cap : Nat} {x : DataW H × List MemPlace} (h : DataW.trod enc Tryd.prog w base spare held fuel 23 [.slice ao len cap] = some x) : ∃ S, Row w w.heap.size ao len (strV S) := by
  rcases open_strs Tryd.underlying23 Tryd.underlying9 (by kernel_rfl) h with ⟨hcs, _⟩ | ⟨a, l, c, m, S, hcs, _, hl, _, hm, _, hcell⟩
  · simp at hcs
    obtain ⟨rfl, rfl, rfl⟩ := hcs
    exact ⟨fun _ => ByteArray.empty, row_nil⟩
  · simp at hcs
    obtain ⟨rfl, rfl, rfl⟩ := hcs
    have hlm : len ≤ m := by rw [hm]; split <;> omega
    exact ⟨S, row_of fun j hj => (hcell j (by omega)).1⟩
end Go.Proofs.Qxb6600128aDoor
