import Derived.Test.Qxb6600128aDoorBld
import Derived.Test.Qxb6600128aDoorTok
namespace Go.Proofs.Qxb6600128aDoor
open Go.RowKit

/-- What 'decimalModel' hands back. -/
def decV : Lib.NumEnd Nat → Value
  | .ok u => .tuple #[.int .u64 u, .bool true]
  | _ => .tuple #[.int .u64 0, .bool false]

theorem pu_ne {s : ByteArray} (h : 0 < s.size) : Lib.parseUintB 64 s.data.toList = Lib.parseUintM 18446744073709551615 0 (rest s 0) := by
  unfold Lib.parseUintB
  rw [if_neg, rest_zero]
  intro e
  have h2 : s.data.toList.length = s.size := by simp
  rw [e, List.length_nil] at h2
  omega
theorem pu_no {M v : Nat} {c : UInt8} {l : List UInt8} (h : ¬ (48 ≤ c.toNat ∧ c.toNat ≤ 57)) : Lib.parseUintM M v (c :: l) = Lib.parseUintB 64 [] := by unfold Lib.parseUintM; rw [if_neg h]; rfl
theorem pu_big {M v : Nat} {c : UInt8} {l : List UInt8} (h : 48 ≤ c.toNat ∧ c.toNat ≤ 57) (h1 : 1844674407370955161 < v) : Lib.parseUintM M v (c :: l) = .range := by unfold Lib.parseUintM; rw [if_pos h, if_pos (by omega)]
theorem pu_over {v : Nat} {c : UInt8} {l : List UInt8} (h : 48 ≤ c.toNat ∧ c.toNat ≤ 57) (h1 : v = 1844674407370955161) (h2 : 5 < c.toNat - 48) : Lib.parseUintM 18446744073709551615 v (c :: l) = .range := by unfold Lib.parseUintM; rw [if_pos h, if_neg (by omega), if_pos (by omega)]
theorem pu_on {v : Nat} {c : UInt8} {l : List UInt8} (h : 48 ≤ c.toNat ∧ c.toNat ≤ 57) (h1 : v < 1844674407370955161 ∨ v = 1844674407370955161 ∧ c.toNat - 48 ≤ 5) : Lib.parseUintM 18446744073709551615 v (c :: l) = Lib.parseUintM 18446744073709551615 (v * 10 + (c.toNat - 48)) l := by
  rw [Lib.parseUintM, if_pos h, if_neg (by omega), if_neg (by omega)]

set_option maxHeartbeats 1000000 in
theorem decimal_any (s : ByteArray) (w : World) (hs : s.size ≤ 1048576) :
    Calls Tryd.prog 15 #[.string s] w fun e w' => e = .returned (decV (Lib.parseUintB 64 s.data.toList)) ∧ w' = w := by
  by_cases h0 : s.size = 0
  · have hn : s.data.toList = [] := List.eq_nil_of_length_eq_zero (by simpa using h0)
    rw [hn]
    go_enter Tryd.func15, Tryd.ntmps15
    go_wp2
    go_ret2
    exact ⟨rfl, rfl⟩
  have he : ((s.size : Int) == 0) = false := by simpa using h0
  rw [pu_ne (by omega)]
  obtain ⟨D, hD⟩ : ∃ D, D = Lib.parseUintM 18446744073709551615 0 (rest s 0) := ⟨_, rfl⟩
  rw [← hD]
  have HD : Hid (D = Lib.parseUintM 18446744073709551615 0 (rest s 0)) := hD
  clear hD
  go_enter Tryd.func15, Tryd.ntmps15
  go_wp2
  go_loop [4, 5] (fun v i => ∃ k n : Nat, k ≤ s.size ∧ n ≤ 18446744073709551615 ∧ v = .int .u64 n ∧ i = .int .i64 k ∧ Hid (D = Lib.parseUintM 18446744073709551615 n (rest s k))) (fun _ i => s.size - (intOf i).toNat)
  case atStart => exact ⟨0, 0, by omega, by omega, rfl, rfl, HD⟩
  case round =>
    obtain ⟨k, n, hk, hn, rfl, rfl, hD⟩ := hrel
    clear HD
    by_cases hlt : k < s.size
    · by_cases g1 : 48 ≤ s[k].toNat
      case neg =>
        have hE := hD.out
        rw [rest_cons hlt, pu_no (by omega)] at hE
        subst hE
        go_wp2
        go_ret2
        exact ⟨rfl, rfl⟩
      by_cases g2 : s[k].toNat ≤ 57
      case neg =>
        have hE := hD.out
        rw [rest_cons hlt, pu_no (by omega)] at hE
        subst hE
        go_wp2
        go_ret2
        exact ⟨rfl, rfl⟩
      by_cases g3 : 1844674407370955161 < n
      case pos =>
        have hE := hD.out
        rw [rest_cons hlt, pu_big ⟨g1, g2⟩ g3] at hE
        subst hE
        go_wp2
        go_ret2
        exact ⟨rfl, rfl⟩
      by_cases g4 : n = 1844674407370955161
      case pos =>
        subst g4
        by_cases g5 : 5 < s[k].toNat - 48
        case pos =>
          have hE := hD.out
          rw [rest_cons hlt, pu_over ⟨g1, g2⟩ rfl g5] at hE
          subst hE
          go_wp2
          go_ret2
          exact ⟨rfl, rfl⟩
        have hE : Hid (D = Lib.parseUintM 18446744073709551615 (1844674407370955161 * 10 + (s[k].toNat - 48)) (rest s (k + 1))) := by
          rw [← pu_on ⟨g1, g2⟩ (.inr ⟨rfl, by omega⟩), ← rest_cons hlt]; exact hD.out
        clear hD
        go_wp2
        go_round
        case rel => exact ⟨k + 1, 1844674407370955161 * 10 + (s[k].toNat - 48), by omega, by omega, by go_num, by go_num, hE⟩
        case measure => simp [intOf]; omega
      have g6 : ((n : Int) == 1844674407370955161) = false := by simp; omega
      have hE : Hid (D = Lib.parseUintM 18446744073709551615 (n * 10 + (s[k].toNat - 48)) (rest s (k + 1))) := by
        rw [← pu_on ⟨g1, g2⟩ (.inl (by omega)), ← rest_cons hlt]; exact hD.out
      clear hD
      go_wp2
      go_round
      case rel => exact ⟨k + 1, n * 10 + (s[k].toNat - 48), by omega, by omega, by go_num, by go_num, hE⟩
      case measure => simp [intOf]; omega
    · obtain rfl : k = s.size := by omega
      have hE := hD.out
      rw [rest_end] at hE
      subst hE
      go_wp2
      go_ret2
      exact ⟨rfl, rfl⟩
end Go.Proofs.Qxb6600128aDoor
