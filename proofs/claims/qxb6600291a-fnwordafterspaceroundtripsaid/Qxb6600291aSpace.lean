import Derived.Test.Qxb6600291aProg
import Derived.WalkKit
import Derived.Deep.QuietTactic
import Derived.BigQuiet
import Derived.Deep.LoopGhost
import Derived.WalkSpells
import Derived.WalkLawsBesides
import Derived.Handy
namespace Go.Proofs.Qxb6600291a
open Go.RowKit

def isSp (c : Int) : Prop := c = 32 ∨ c = 9 ∨ c = 10 ∨ c = 13

/-- e is where 'space' stops when it starts at off: what is passed is white space, what it stops at is none. -/
def Stops (z : Nat → Int) (len off e : Nat) : Prop :=
  off ≤ e ∧ (e = off ∨ e ≤ len) ∧ (e < len → ¬ isSp (z e)) ∧ ∀ j, off ≤ j → j < e → isSp (z j)

/-- The bytes of a slice, in blocks below B. -/
def Bytes (w : World) (B : Nat) (ao : Option Addr) (len : Nat) (z : Nat → Int) : Prop :=
  len = 0 ∨ ∃ b o, ao = some ⟨b, o, none⟩ ∧ b < B ∧ (∀ k, k < len → w.cell? ⟨b, o + k, none⟩ = some (.int .u8 (z k)))

theorem cells3 {w : World} {R : Nat} {v0 v1 v2 : Value} {t : TypeId} (h : w.heap[R]? = some (.cells #[v0, v1, v2] t (0, 0))) :
    w.cell? ⟨R, 0, none⟩ = some v0 ∧ w.cell? ⟨R, 1, none⟩ = some v1 ∧ w.cell? ⟨R, 2, none⟩ = some v2 ∧ w.frozen? ⟨R, 0, none⟩ = false ∧ w.frozen? ⟨R, 1, none⟩ = false ∧ w.frozen? ⟨R, 2, none⟩ = false := by
  simp [World.cell?, World.frozen?, h]

theorem block_setCell {w : World} {R : Nat} {cs : Array Value} {t : TypeId} (h : w.heap[R]? = some (.cells cs t (0, 0))) (i : Nat) (u : Value) :
    (w.setCell ⟨R, i, none⟩ u).heap[R]? = some (.cells (cs.setIfInBounds i u) t (0, 0)) := by
  have hlt := lt_of_block h
  have h' : w.heap[R] = .cells cs t (0, 0) := by simpa [Array.getElem?_eq_getElem hlt] using h
  show (w.heap.modify R _)[R]? = _
  rw [Array.getElem?_eq_getElem (by simpa using hlt), Array.getElem_modify_self, h']
  rfl

theorem space_step {w wr : World} {R len cap n : Nat} {ao : Option Addr} {k : Nat} {dep : Value} (hR : wr.heap[R]? = some (.cells #[.slice ao len cap, .int .i64 k, dep] 33 (0, 0))) (hb : Below R w wr) :
    ((wr.drewN n).setCell ⟨R, 1, none⟩ (.int .i64 (k + 1))).heap[R]? = some (.cells #[.slice ao len cap, .int .i64 ((k + 1 : Nat) : Int), dep] 33 (0, 0)) ∧ Below R w ((wr.drewN n).setCell ⟨R, 1, none⟩ (.int .i64 (k + 1))) := by
  refine ⟨?_, (below_drewN hb n).setCell (Nat.le_refl _) _⟩
  rw [block_setCell (w := wr.drewN n) hR 1]
  simp

theorem sp_more {z : Nat → Int} {off k : Nat} (h : ∀ j, off ≤ j → j < k → isSp (z j)) (hk : isSp (z k)) : ∀ j, off ≤ j → j < k + 1 → isSp (z j) := by
  intro j h1 h2
  by_cases e : j = k
  · subst e; exact hk
  · exact h j h1 (by omega)

theorem sp_yes {c : Int} (h : (c == 32) = true ∨ (c == 9) = true ∨ (c == 10) = true ∨ (c == 13) = true) : isSp c := by simpa [isSp] using h
theorem sp_no {c : Int} (h1 : (c == 32) = false) (h2 : (c == 9) = false) (h3 : (c == 10) = false) (h4 : (c == 13) = false) : ¬ isSp c := by simp_all [isSp]

set_option maxHeartbeats 400000 in
theorem space_any (R : Nat) (ao : Option Addr) (len cap off : Nat) (dep : Value) (z : Nat → Int) (w : World) (hlen : len ≤ 1048576) (hoff : off ≤ 9223372036854775807)
    (hR : w.heap[R]? = some (.cells #[.slice ao len cap, .int .i64 off, dep] 33 (0, 0))) (hz : Bytes w R ao len z) :
    Calls Try.prog 20 #[.pointer (some ⟨R, 0, none⟩)] w fun e w' => e = .returned (.tuple #[]) ∧
      ∃ k : Nat, Stops z len off k ∧ k ≤ 9223372036854775807 ∧ w'.heap[R]? = some (.cells #[.slice ao len cap, .int .i64 k, dep] 33 (0, 0)) ∧ Below R w w' := by
  go_enter Try.func20, Try.ntmps20
  go_wp2_with fail
  go_loopg [] (len - off) (fun n wr => ∃ k : Nat, off ≤ k ∧ (k = off ∨ k ≤ len) ∧ n = len - k ∧ Hid (∀ j, off ≤ j → j < k → isSp (z j)) ∧ k ≤ 9223372036854775807 ∧ wr.heap[R]? = some (.cells #[.slice ao len cap, .int .i64 k, dep] 33 (0, 0)) ∧ Below R w wr)
  case atStart => exact ⟨off, Nat.le_refl _, .inl rfl, rfl, fun j h1 h2 => by omega, hoff, hR, Below.refl _ _⟩
  case round =>
    obtain ⟨k, hk1, hk2, hn, hsp, hk3, hRr, hbel⟩ := hrel
    obtain ⟨c0, c1, c2, f0, f1, f2⟩ := cells3 hRr
    by_cases hlt : k < len
    · obtain h0 | ⟨b, o, rfl, hb, hcells⟩ := hz
      · omega
      have hc := (hbel.cell (p := ⟨b, o + k, none⟩) hb).trans (hcells k hlt)
      have hlti : (k : Int) < (len : Int) := by omega
      have hge : (0 : Int) ≤ (k : Int) := by omega
      have HN : Hid (gk = len - k) := hn
      have HB := hbel
      clear hbel hn hR hcells
      go_wp2_with fail
      go_quiet (fail)
      go_wp2_with fail
      go_quiet (fail)
      go_wp2
      · have hs : isSp (z k) := sp_yes (.inl ‹_›)
        go_roundg (len - (k + 1))
        case measure => have := HN.out; omega
        case rel => exact ⟨k + 1, by omega, .inr (by omega), rfl, sp_more hsp hs, by omega, (space_step hRr HB).1, (space_step hRr HB).2⟩
      · have hs : isSp (z k) := sp_yes (.inr (.inl ‹_›))
        go_roundg (len - (k + 1))
        case measure => have := HN.out; omega
        case rel => exact ⟨k + 1, by omega, .inr (by omega), rfl, sp_more hsp hs, by omega, (space_step hRr HB).1, (space_step hRr HB).2⟩
      · have hs : isSp (z k) := sp_yes (.inr (.inr (.inl ‹_›)))
        go_roundg (len - (k + 1))
        case measure => have := HN.out; omega
        case rel => exact ⟨k + 1, by omega, .inr (by omega), rfl, sp_more hsp hs, by omega, (space_step hRr HB).1, (space_step hRr HB).2⟩
      · have hs : isSp (z k) := sp_yes (.inr (.inr (.inr ‹_›)))
        go_roundg (len - (k + 1))
        case measure => have := HN.out; omega
        case rel => exact ⟨k + 1, by omega, .inr (by omega), rfl, sp_more hsp hs, by omega, (space_step hRr HB).1, (space_step hRr HB).2⟩
      · go_returns
        exact ⟨rfl, k, ⟨hk1, hk2, fun _ => sp_no ‹_› ‹_› ‹_› ‹_›, hsp⟩, hk3, hRr, below_drewN HB _⟩
    · have hge : (len : Int) ≤ (k : Int) := by omega
      clear hz
      go_wp2_with fail
      go_quiet (fail)
      go_wp2
      go_end0
      exact ⟨rfl, k, ⟨hk1, hk2, fun h => absurd h hlt, hsp⟩, hk3, hRr, below_drewN hbel _⟩
end Go.Proofs.Qxb6600291a
