import Derived.Test.Qxb6600399aVecs
namespace Go.Proofs.Qxb6600399a
open Go.RowKit

def hasB (S : Nat → ByteArray) : Nat → ByteArray → Bool
  | 0, _ => false
  | n + 1, v => hasB S n v || (v.toList == (S n).toList)

theorem hasB_true {S : Nat → ByteArray} {v : ByteArray} : ∀ {n k : Nat}, k < n → (v.toList == (S k).toList) = true → hasB S n v = true
  | n + 1, k, h, e => by
    unfold hasB
    by_cases hk : k = n
    · subst hk; rw [e]; simp
    · rw [hasB_true (show k < n by omega) e]; simp

theorem hasB_false {S : Nat → ByteArray} {v : ByteArray} : ∀ {n : Nat}, (∀ k, k < n → (v.toList == (S k).toList) = false) → hasB S n v = false
  | 0, _ => rfl
  | n + 1, h => by
    unfold hasB
    rw [hasB_false (n := n) (fun k hk => h k (by omega)), h n (by omega)]
    rfl

def IndexPost (S : Nat → ByteArray) (n : Nat) (v : ByteArray) (w : World) (e : Ending) (w' : World) : Prop :=
  ∃ r : Int, e = .returned (.int .i64 r) ∧ decide (0 ≤ r) = hasB S n v ∧ w = w'

set_option maxHeartbeats 400000 in
theorem index_any (ao : Option Addr) (len cap : Nat) (S : Nat → ByteArray) (v : ByteArray) (w : World) (B : Nat) (hlen : len ≤ 1048576) (hz : Row w B ao len (strV S)) :
    Calls Try.prog 43 #[.slice ao len cap, .string v] w (IndexPost S len v w) := by
  go_enter Try.func43, Try.ntmps43
  go_wp2
  go_loop [8] (fun i => ∃ k : Nat, k ≤ len ∧ i = .int .i64 k ∧ ∀ j, j < k → (v.toList == (S j).toList) = false) (fun i => len - (intOf i).toNat)
  case atStart => exact ⟨0, by omega, rfl, fun j h => by omega⟩
  case round =>
    obtain ⟨k, hk, rfl, hno⟩ := hrel
    have HNO : Hid (∀ j, j < k → (v.toList == (S j).toList) = false) := hno
    clear hno
    by_cases hlt : k < len
    · obtain h0 | ⟨b, o, rfl, hb, hcells⟩ := hz.2
      · omega
      have hc := hcells k hlt
      simp only [strV] at hc
      clear hcells hz
      rcases hq : (v.toList == (S k).toList) with _ | _
      · have HQ : Hid ((v.toList == (S k).toList) = false) := hq
        go_wp2
        go_round
        case rel =>
          refine ⟨k + 1, by omega, by go_num, fun j hj => ?_⟩
          by_cases e : j = k
          · subst e; exact HQ.out
          · exact HNO.out j (by omega)
        case measure => simp [intOf]; omega
      · have HQ : Hid ((v.toList == (S k).toList) = true) := hq
        go_wp2
        go_ret
        exact ⟨k, rfl, by rw [hasB_true hlt HQ.out]; simp, rfl⟩
    · go_wp2
      go_ret
      exact ⟨-1, rfl, by rw [hasB_false (fun j hj => HNO.out j (by omega))]; decide, rfl⟩

theorem contains_any (ao : Option Addr) (len cap : Nat) (S : Nat → ByteArray) (v : ByteArray) (w : World) (B : Nat) (hlen : len ≤ 1048576) (hz : Row w B ao len (strV S)) :
    Calls Try.prog 38 #[.slice ao len cap, .string v] w fun e w' => e = .returned (.bool (hasB S len v)) ∧ w = w' := by
  go_enter Try.func38, Try.ntmps38
  go_wp2_with fail
  refine (index_any ao len cap S v w B hlen hz).mono ?_
  rintro e w' ⟨r, rfl, hr, rfl⟩
  have HR : Hid (decide (0 ≤ r) = hasB S len v) := hr
  clear hr
  go_wp2
  go_ret
  exact ⟨by rw [← HR.out]; simp, rfl⟩
end Go.Proofs.Qxb6600399a
