import Derived.Test.Qxb6600021aProg
import Derived.WalkKit
import Derived.Deep.QuietTactic
import Derived.BigQuiet
import Derived.Deep.LoopGhost
import Derived.WalkSpells
import Derived.WalkLawsBesides
import Derived.Handy
import Derived.Deep.OwnRows
namespace Go.Proofs.Qxb6600021a
open Go.RowKit

/-- A slice's numbers, in blocks below B. -/
def Row (k : IntKind) (w : World) (B : Nat) (ao : Option Addr) (len : Nat) (z : Nat → Int) : Prop :=
  len = 0 ∨ ∃ b o, ao = some ⟨b, o, none⟩ ∧ b < B ∧ ∀ j, j < len → w.cell? ⟨b, o + j, none⟩ = some (.int k (z j))

theorem Row.mono {k : IntKind} {w w' : World} {B B' : Nat} {ao : Option Addr} {len : Nat} {z : Nat → Int} (h : Row k w B ao len z) (hb : Below B w w') (hB : B ≤ B') : Row k w' B' ao len z := by
  rcases h with h | ⟨b, o, h1, h2, h3⟩
  · exact .inl h
  · exact .inr ⟨b, o, h1, by omega, fun j hj => (hb.cell (p := ⟨b, o + j, none⟩) h2).trans (h3 j hj)⟩

theorem bytes_yes (a0 a1 a2 : Option Addr) (l0 c0 l1 c1 l2 c2 : Nat) (w : World) (h : l0 + l1 + l2 ≤ 1048576) :
    Calls Try.prog 34 #[.slice a0 l0 c0, .slice a1 l1 c1, .slice a2 l2 c2] w fun e w' => e = .returned (.bool true) ∧ w = w' := by
  go_enter Try.func34, Try.ntmps34
  go_wp2
  go_ret
  exact ⟨rfl, rfl⟩

theorem bytes_no (a0 a1 a2 : Option Addr) (l0 c0 l1 c1 l2 c2 : Nat) (w : World) (h0 : l0 ≤ maxLen) (h1 : l1 ≤ maxLen) (h2 : l2 ≤ maxLen) (h : 1048576 < l0 + l1 + l2) :
    Calls Try.prog 34 #[.slice a0 l0 c0, .slice a1 l1 c1, .slice a2 l2 c2] w fun e w' => e = .returned (.bool false) ∧ w = w' := by
  unfold maxLen at h0 h1 h2
  go_enter Try.func34, Try.ntmps34
  go_wp2
  all_goals
    go_ret
    exact ⟨rfl, rfl⟩

theorem script_any (a1 a2 : Option Addr) (l1 c1 l2 c2 : Nat) (w : World) (_h1 : l1 ≤ 1048576) (_h2 : l2 ≤ 1048576) :
    Calls Try.prog 23 #[.slice a1 l1 c1, .slice a2 l2 c2] w fun e w' => ∃ n : Nat, e = .returned (.int .i64 n) ∧ n ≤ l1 ∧ n ≤ l2 ∧ w = w' := by
  by_cases h : l2 < l1
  · go_enter Try.func23, Try.ntmps23
    go_wp2
    go_ret
    exact ⟨l2, rfl, by omega, by omega, rfl⟩
  · go_enter Try.func23, Try.ntmps23
    go_wp2
    go_ret
    exact ⟨l1, rfl, by omega, by omega, rfl⟩

def RangePost (z : Nat → Int) (n : Nat) (w : World) (e : Ending) (w' : World) : Prop := ∃ r : Bool, e = .returned (.bool r) ∧ (r = true → ∀ j, j < n → 0 ≤ z j ∧ z j ≤ 65536) ∧ w = w'

set_option maxHeartbeats 400000 in
theorem range_any (a1 : Option Addr) (l1 c1 n : Nat) (z : Nat → Int) (w : World) (h1 : l1 ≤ 1048576) (hn : n ≤ l1) (hz : Row .i64 w w.heap.size a1 l1 z) :
    Calls Try.prog 24 #[.slice a1 l1 c1, .int .i64 n] w (RangePost z n w) := by
  go_enter Try.func24, Try.ntmps24
  go_wp2
  go_loop [5] (fun i => ∃ k : Nat, k ≤ n ∧ i = .int .i64 k ∧ ∀ j, j < k → 0 ≤ z j ∧ z j ≤ 65536) (fun i => n - (intOf i).toNat)
  case atStart => exact ⟨0, by omega, rfl, fun j h => by omega⟩
  case round =>
    obtain ⟨k, hk, rfl, hsp⟩ := hrel
    have HSP : Hid (∀ j, j < k → 0 ≤ z j ∧ z j ≤ 65536) := hsp
    clear hsp
    by_cases hlt : k < n
    · obtain h0 | ⟨b, o, rfl, hb, hcells⟩ := hz
      · omega
      have hc := hcells k (by omega)
      clear hcells
      by_cases h2 : 0 ≤ z k
      · by_cases h3 : z k ≤ 65536
        · go_wp2
          go_round
          case rel =>
            refine ⟨k + 1, by omega, by go_num, fun j h => ?_⟩
            by_cases e : j = k
            · subst e; exact ⟨h2, h3⟩
            · exact HSP.out j (by omega)
          case measure => simp [intOf]; omega
        · go_wp2
          go_ret
          exact ⟨false, by simp, fun h => (by cases h), rfl⟩
      · go_wp2
        go_ret
        exact ⟨false, by simp, fun h => (by cases h), rfl⟩
    · obtain rfl : k = n := by omega
      clear hz
      go_wp2
      go_ret
      exact ⟨true, by simp, fun _ => HSP.out, rfl⟩
end Go.Proofs.Qxb6600021a
