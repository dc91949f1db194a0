import Derived.Test.Qxb6600399aVecs
namespace Go.Proofs.Qxb6600399a
open Go.RowKit

/-- A size that is bounded. -/
def SizePost (w : World) (e : Ending) (w' : World) : Prop := ∃ m : Nat, e = .returned (.int .i64 m) ∧ m ≤ 1048577 ∧ w = w'

set_option maxHeartbeats 400000 in
theorem strsBytes_any (ao : Option Addr) (len cap : Nat) (S : Nat → ByteArray) (w : World) (B : Nat) (hlen : len ≤ 1048576) (hs : ∀ j, j < len → (S j).size ≤ 1048576) (hz : Row w B ao len (strV S)) :
    Calls Try.prog 14 #[.slice ao len cap] w (SizePost w) := by
  have HS : Hid (∀ j, j < len → (S j).size ≤ 1048576) := hs
  clear hs
  go_enter Try.func14, Try.ntmps14
  go_wp2
  go_loop [3, 4] (fun n i => ∃ k m : Nat, k ≤ len ∧ m ≤ 17825792 ∧ n = .int .i64 m ∧ i = .int .i64 k) (fun _ i => len - (intOf i).toNat)
  case atStart => exact ⟨0, 16 * len, by omega, by omega, by go_num, rfl⟩
  case round =>
    obtain ⟨k, m, hk, hm, rfl, rfl⟩ := hrel
    by_cases hlt : k < len
    · obtain h0 | ⟨b, o, rfl, hb, hcells⟩ := hz.2
      · omega
      have hc := hcells k hlt
      simp only [strV] at hc
      have hs := HS.out k hlt
      clear hcells
      by_cases hb : m ≤ 1048576
      · go_wp2
        go_round
        case rel => exact ⟨k + 1, m + (S k).size, by omega, by omega, by go_num, by go_num⟩
        case measure => simp [intOf]; omega
      · go_wp2
        go_ret
        exact ⟨1048577, rfl, by omega, rfl⟩
    · by_cases hb : m ≤ 1048576
      · go_wp2
        go_ret
        exact ⟨m, rfl, by omega, rfl⟩
      · go_wp2
        go_ret
        exact ⟨1048577, rfl, by omega, rfl⟩

set_option maxHeartbeats 400000 in
theorem vecsBytes_any (ao : Option Addr) (len cap : Nat) (X : Nat → Vec) (w : World) (B : Nat) (hlen : len ≤ 1048576) (hs : ∀ j, j < len → (X j).n ≤ 1048576 ∧ ∀ t, t < (X j).n → ((X j).s t).size ≤ 1048576) (hz : Row w B ao len (vecV X)) (hin : ∀ j, j < len → Row w B (X j).a (X j).n (strV (X j).s)) :
    Calls Try.prog 23 #[.slice ao len cap] w (SizePost w) := by
  have HS : Hid (∀ j, j < len → (X j).n ≤ 1048576 ∧ ∀ t, t < (X j).n → ((X j).s t).size ≤ 1048576) := hs
  have HIN : Hid (∀ j, j < len → Row w B (X j).a (X j).n (strV (X j).s)) := hin
  clear hs hin
  go_enter Try.func23, Try.ntmps23
  go_wp2
  go_loop [3, 4] (fun n i => ∃ k m : Nat, k ≤ len ∧ m ≤ 26214400 ∧ n = .int .i64 m ∧ i = .int .i64 k) (fun _ i => len - (intOf i).toNat)
  case atStart => exact ⟨0, 24 * len, by omega, by omega, by go_num, rfl⟩
  case round =>
    obtain ⟨k, m, hk, hm, rfl, rfl⟩ := hrel
    by_cases hlt : k < len
    · obtain h0 | ⟨b, o, rfl, hb, hcells⟩ := hz.2
      · omega
      have hc := hcells k hlt
      simp only [vecV] at hc
      have hs := HS.out k hlt
      have hi := HIN.out k hlt
      clear hcells hz
      generalize X k = x at hc hs hi
      by_cases hb : m ≤ 1048576
      · go_wp2_with fail
        refine (strsBytes_any x.a x.n x.c x.s w B hs.1 hs.2 hi).mono ?_
        rintro e w' ⟨q, rfl, hq, rfl⟩
        go_wp2
        go_round
        case rel => exact ⟨k + 1, m + q, by omega, by omega, by go_num, by go_num⟩
        case measure => simp [intOf]; omega
      · go_wp2_with fail
        go_ret
        exact ⟨1048577, rfl, by omega, rfl⟩
    · by_cases hb : m ≤ 1048576
      · go_wp2
        go_ret
        exact ⟨m, rfl, by omega, rfl⟩
      · go_wp2
        go_ret
        exact ⟨1048577, rfl, by omega, rfl⟩
end Go.Proofs.Qxb6600399a
