import Derived.Test.Qxb6600399aVecs
namespace Go.Proofs.Qxb6600399a
open Go.RowKit

def StrOk (S : Nat → ByteArray) (k : Nat) : Prop := ∀ j, j < k → (S j).size ≤ 1048576
def VecOk (X : Nat → Vec) (k : Nat) : Prop := ∀ j, j < k → (X j).n ≤ 1048576 ∧ ∀ t, t < (X j).n → ((X j).s t).size ≤ 1048576
theorem all_next {S : Nat → ByteArray} {k : Nat} (h : ∀ j, j < k → (S j).size ≤ 1048576) (h1 : (S k).size ≤ 1048576) : ∀ j, j < k + 1 → (S j).size ≤ 1048576 := by
  intro j hj
  by_cases e : j = k
  · subst e; exact h1
  · exact h j (by omega)
theorem vec_next {X : Nat → Vec} {k : Nat} (h : VecOk X k) (h1 : (X k).n ≤ 1048576) (h2 : ∀ t, t < (X k).n → ((X k).s t).size ≤ 1048576) : VecOk X (k + 1) := by
  intro j hj
  by_cases e : j = k
  · subst e; exact ⟨h1, h2⟩
  · exact h j (by omega)

/-- A slice of slices of strings as it came in: of its inner lengths nothing is known but that they are lengths. -/
def VecsRaw (w : World) (B : Nat) (ao : Option Addr) (len : Nat) (X : Nat → Vec) : Prop :=
  Row w B ao len (vecV X) ∧ ∀ j, j < len → Row w B (X j).a (X j).n (strV (X j).s)

def BytesGood (l0 l1 l2 l3 l4 l5 l6 l7 : Nat) (K0 K3 K6 K7 : Nat → ByteArray) (X1 X4 : Nat → Vec) : Prop :=
  l0 ≤ 1048576 ∧ StrOk K0 l0 ∧ l1 ≤ 1048576 ∧ VecOk X1 l1 ∧ l2 ≤ 1048576 ∧ l3 ≤ 1048576 ∧ StrOk K3 l3 ∧ l4 ≤ 1048576 ∧ VecOk X4 l4 ∧ l5 ≤ 1048576 ∧ l6 ≤ 1048576 ∧ StrOk K6 l6 ∧ l7 ≤ 1048576 ∧ StrOk K7 l7
def BytesPost (good : Prop) (w : World) (e : Ending) (w' : World) : Prop := ∃ r : Bool, e = .returned (.bool r) ∧ w = w' ∧ (r = true → good)

set_option maxRecDepth 100000 in
set_option maxHeartbeats 4000000 in
theorem bytes_any (a0 a1 a2 a3 a4 a5 a6 a7 : Option Addr) (l0 c0 l1 c1 l2 c2 l3 c3 l4 c4 l5 c5 l6 c6 l7 c7 : Nat) (K0 K3 K6 K7 : Nat → ByteArray) (X1 X4 : Nat → Vec) (w : World) (B : Nat)
    (r0 : Row w B a0 l0 (strV K0)) (r1 : VecsRaw w B a1 l1 X1) (r3 : Row w B a3 l3 (strV K3)) (r4 : VecsRaw w B a4 l4 X4) (r6 : Row w B a6 l6 (strV K6)) (r7 : Row w B a7 l7 (strV K7)) :
    Calls Try.prog 30 #[.slice a0 l0 c0, .slice a1 l1 c1, .slice a2 l2 c2, .slice a3 l3 c3, .slice a4 l4 c4, .slice a5 l5 c5, .slice a6 l6 c6, .slice a7 l7 c7] w
      (BytesPost (BytesGood l0 l1 l2 l3 l4 l5 l6 l7 K0 K3 K6 K7 X1 X4) w) := by
  go_enter Try.func30, Try.ntmps30
  by_cases b0 : l0 ≤ 1048576
  case neg =>
    go_wp2
    go_ret
    exact ⟨false, rfl, rfl, fun h => (by cases h)⟩
  go_wp2
  go_loop [17, 18] (fun zn i => ∃ k m : Nat, k ≤ l0 ∧ m ≤ 1048576 ∧ zn = .int .i64 m ∧ i = .int .i64 k ∧ ∀ j, j < k → (K0 j).size ≤ 1048576) (fun _ i => l0 - (intOf i).toNat)
  case atStart => exact ⟨0, 0 + l0, by omega, by omega, by go_num, rfl, fun j h => by omega⟩
  case round =>
    obtain ⟨k0, m0, hk0, hm0, rfl, rfl, hs0⟩ := hrel
    have HS0 : Hid (∀ j, j < k0 → (K0 j).size ≤ 1048576) := hs0
    clear hs0
    by_cases t0 : k0 < l0
    case pos =>
      obtain h0 | ⟨b, o, rfl, hb, hcells⟩ := r0.2
      · omega
      have hc := hcells k0 t0
      simp only [strV] at hc
      clear hcells
      by_cases s1 : (K0 k0).size ≤ 1048576
      case neg =>
        go_wp2
        go_ret
        exact ⟨false, rfl, rfl, fun h => (by cases h)⟩
      by_cases s2 : m0 + (K0 k0).size ≤ 1048576
      case neg =>
        go_wp2
        go_ret
        exact ⟨false, rfl, rfl, fun h => (by cases h)⟩
      have HX := all_next HS0.out s1
      have HX2 : Hid (∀ j, j < k0 + 1 → (K0 j).size ≤ 1048576) := HX
      clear HX
      go_wp2
      go_round
      case rel => exact ⟨k0 + 1, m0 + (K0 k0).size, by omega, s2, by go_num, by go_num, HX2.out⟩
      case measure => simp [intOf]; omega
    obtain rfl : k0 = l0 := by omega
    by_cases b1 : l1 ≤ 1048576
    case neg =>
      go_wp2
      go_ret
      exact ⟨false, rfl, rfl, fun h => (by cases h)⟩
    by_cases d1 : m0 + l1 ≤ 1048576
    case neg =>
      go_wp2
      go_ret
      exact ⟨false, rfl, rfl, fun h => (by cases h)⟩
    go_wp2
    go_loop [17, 19, 20] (fun zn i _ => ∃ k m : Nat, k ≤ l1 ∧ m ≤ 1048576 ∧ zn = .int .i64 m ∧ i = .int .i64 k ∧ VecOk X1 k) (fun _ i _ => l1 - (intOf i).toNat)
    case atStart => exact ⟨0, m0 + l1, by omega, by omega, by go_num, rfl, fun j h => by omega⟩
    case round =>
      obtain ⟨k1, m1, hk1, hm1, rfl, rfl, hs1⟩ := hrel
      have HS1 : Hid (VecOk X1 k1) := hs1
      clear hs1
      by_cases t1 : k1 < l1
      case pos =>
        obtain h0 | ⟨b, o, rfl, hb, hcells⟩ := r1.1.2
        · omega
        have hc := hcells k1 t1
        have hin := r1.2 k1 t1
        simp only [vecV] at hc
        have HX3 := fun h1 h2 => vec_next (X := X1) (k := k1) HS1.out h1 h2
        have HX4 : Hid (∀ h1 h2, VecOk X1 (k1 + 1)) := HX3
        clear hcells HX3
        generalize X1 k1 = x at hc hin HX4
        by_cases s1 : x.n ≤ 1048576
        case neg =>
          go_wp2
          go_ret
          exact ⟨false, rfl, rfl, fun h => (by cases h)⟩
        by_cases s2 : m1 + x.n ≤ 1048576
        case neg =>
          go_wp2
          go_ret
          exact ⟨false, rfl, rfl, fun h => (by cases h)⟩
        go_wp2
        go_loop [17, 20] (fun zn i => ∃ t m : Nat, t ≤ x.n ∧ m ≤ 1048576 ∧ zn = .int .i64 m ∧ i = .int .i64 t ∧ ∀ j, j < t → (x.s j).size ≤ 1048576) (fun _ i => x.n - (intOf i).toNat)
        case atStart => exact ⟨0, m1 + x.n, by omega, by omega, by go_num, rfl, fun j h => by omega⟩
        case round =>
          obtain ⟨t, m, ht, hm, rfl, rfl, hs⟩ := hrel
          have HT : Hid (∀ j, j < t → (x.s j).size ≤ 1048576) := hs
          clear hs
          by_cases tt : t < x.n
          case pos =>
            obtain h0 | ⟨b2, o2, hx, hb2, hcells⟩ := hin.2
            · omega
            have hc2 := hcells t tt
            simp only [strV] at hc2
            rw [hx] at hc
            clear hcells hin hx
            by_cases s3 : (x.s t).size ≤ 1048576
            case neg =>
              go_wp2
              go_ret
              exact ⟨false, rfl, rfl, fun h => (by cases h)⟩
            by_cases s4 : m + (x.s t).size ≤ 1048576
            case neg =>
              go_wp2
              go_ret
              exact ⟨false, rfl, rfl, fun h => (by cases h)⟩
            have HX : Hid (∀ j, j < t + 1 → (x.s j).size ≤ 1048576) := all_next HT.out s3
            go_wp2
            go_round
            case rel => exact ⟨t + 1, m + (x.s t).size, by omega, s4, by go_num, by go_num, HX.out⟩
            case measure => simp [intOf]; omega
          obtain rfl : t = x.n := by omega
          clear hin
          go_wp2
          go_round
          case rel => exact ⟨k1 + 1, m, by omega, hm, by go_num, by go_num, HX4.out s1 HT.out⟩
          case measure => simp [intOf]; omega
      obtain rfl : k1 = l1 := by omega
      by_cases b2 : l2 ≤ 1048576
      case neg =>
        go_wp2
        go_ret
        exact ⟨false, rfl, rfl, fun h => (by cases h)⟩
      by_cases d2 : m1 + l2 ≤ 1048576
      case neg =>
        go_wp2
        go_ret
        exact ⟨false, rfl, rfl, fun h => (by cases h)⟩
      by_cases b3 : l3 ≤ 1048576
      case neg =>
        go_wp2
        go_ret
        exact ⟨false, rfl, rfl, fun h => (by cases h)⟩
      by_cases d3 : (m1 + l2) + l3 ≤ 1048576
      case neg =>
        go_wp2
        go_ret
        exact ⟨false, rfl, rfl, fun h => (by cases h)⟩
      go_wp2
      go_loop [17, 21] (fun zn i => ∃ k m : Nat, k ≤ l3 ∧ m ≤ 1048576 ∧ zn = .int .i64 m ∧ i = .int .i64 k ∧ ∀ j, j < k → (K3 j).size ≤ 1048576) (fun _ i => l3 - (intOf i).toNat)
      case atStart => exact ⟨0, (m1 + l2) + l3, by omega, by omega, by go_num, rfl, fun j h => by omega⟩
      case round =>
        obtain ⟨k3, m3, hk3, hm3, rfl, rfl, hs3⟩ := hrel
        have HS3 : Hid (∀ j, j < k3 → (K3 j).size ≤ 1048576) := hs3
        clear hs3
        by_cases t3 : k3 < l3
        case pos =>
          obtain h0 | ⟨b, o, rfl, hb, hcells⟩ := r3.2
          · omega
          have hc := hcells k3 t3
          simp only [strV] at hc
          clear hcells
          by_cases s1 : (K3 k3).size ≤ 1048576
          case neg =>
            go_wp2
            go_ret
            exact ⟨false, rfl, rfl, fun h => (by cases h)⟩
          by_cases s2 : m3 + (K3 k3).size ≤ 1048576
          case neg =>
            go_wp2
            go_ret
            exact ⟨false, rfl, rfl, fun h => (by cases h)⟩
          have HX := all_next HS3.out s1
          have HX2 : Hid (∀ j, j < k3 + 1 → (K3 j).size ≤ 1048576) := HX
          clear HX
          go_wp2
          go_round
          case rel => exact ⟨k3 + 1, m3 + (K3 k3).size, by omega, s2, by go_num, by go_num, HX2.out⟩
          case measure => simp [intOf]; omega
        obtain rfl : k3 = l3 := by omega
        by_cases b4 : l4 ≤ 1048576
        case neg =>
          go_wp2
          go_ret
          exact ⟨false, rfl, rfl, fun h => (by cases h)⟩
        by_cases d4 : m3 + l4 ≤ 1048576
        case neg =>
          go_wp2
          go_ret
          exact ⟨false, rfl, rfl, fun h => (by cases h)⟩
        go_wp2
        go_loop [17, 22, 23] (fun zn i _ => ∃ k m : Nat, k ≤ l4 ∧ m ≤ 1048576 ∧ zn = .int .i64 m ∧ i = .int .i64 k ∧ VecOk X4 k) (fun _ i _ => l4 - (intOf i).toNat)
        case atStart => exact ⟨0, m3 + l4, by omega, by omega, by go_num, rfl, fun j h => by omega⟩
        case round =>
          obtain ⟨k4, m4, hk4, hm4, rfl, rfl, hs4⟩ := hrel
          have HS4 : Hid (VecOk X4 k4) := hs4
          clear hs4
          by_cases t4 : k4 < l4
          case pos =>
            obtain h0 | ⟨b, o, rfl, hb, hcells⟩ := r4.1.2
            · omega
            have hc := hcells k4 t4
            have hin := r4.2 k4 t4
            simp only [vecV] at hc
            have HX3 := fun h1 h2 => vec_next (X := X4) (k := k4) HS4.out h1 h2
            have HX4 : Hid (∀ h1 h2, VecOk X4 (k4 + 1)) := HX3
            clear hcells HX3
            generalize X4 k4 = x at hc hin HX4
            by_cases s1 : x.n ≤ 1048576
            case neg =>
              go_wp2
              go_ret
              exact ⟨false, rfl, rfl, fun h => (by cases h)⟩
            by_cases s2 : m4 + x.n ≤ 1048576
            case neg =>
              go_wp2
              go_ret
              exact ⟨false, rfl, rfl, fun h => (by cases h)⟩
            go_wp2
            go_loop [17, 23] (fun zn i => ∃ t m : Nat, t ≤ x.n ∧ m ≤ 1048576 ∧ zn = .int .i64 m ∧ i = .int .i64 t ∧ ∀ j, j < t → (x.s j).size ≤ 1048576) (fun _ i => x.n - (intOf i).toNat)
            case atStart => exact ⟨0, m4 + x.n, by omega, by omega, by go_num, rfl, fun j h => by omega⟩
            case round =>
              obtain ⟨t, m, ht, hm, rfl, rfl, hs⟩ := hrel
              have HT : Hid (∀ j, j < t → (x.s j).size ≤ 1048576) := hs
              clear hs
              by_cases tt : t < x.n
              case pos =>
                obtain h0 | ⟨b2, o2, hx, hb2, hcells⟩ := hin.2
                · omega
                have hc2 := hcells t tt
                simp only [strV] at hc2
                rw [hx] at hc
                clear hcells hin hx
                by_cases s3 : (x.s t).size ≤ 1048576
                case neg =>
                  go_wp2
                  go_ret
                  exact ⟨false, rfl, rfl, fun h => (by cases h)⟩
                by_cases s4 : m + (x.s t).size ≤ 1048576
                case neg =>
                  go_wp2
                  go_ret
                  exact ⟨false, rfl, rfl, fun h => (by cases h)⟩
                have HX : Hid (∀ j, j < t + 1 → (x.s j).size ≤ 1048576) := all_next HT.out s3
                go_wp2
                go_round
                case rel => exact ⟨t + 1, m + (x.s t).size, by omega, s4, by go_num, by go_num, HX.out⟩
                case measure => simp [intOf]; omega
              obtain rfl : t = x.n := by omega
              clear hin
              go_wp2
              go_round
              case rel => exact ⟨k4 + 1, m, by omega, hm, by go_num, by go_num, HX4.out s1 HT.out⟩
              case measure => simp [intOf]; omega
          obtain rfl : k4 = l4 := by omega
          by_cases b5 : l5 ≤ 1048576
          case neg =>
            go_wp2
            go_ret
            exact ⟨false, rfl, rfl, fun h => (by cases h)⟩
          by_cases d5 : m4 + l5 ≤ 1048576
          case neg =>
            go_wp2
            go_ret
            exact ⟨false, rfl, rfl, fun h => (by cases h)⟩
          by_cases b6 : l6 ≤ 1048576
          case neg =>
            go_wp2
            go_ret
            exact ⟨false, rfl, rfl, fun h => (by cases h)⟩
          by_cases d6 : (m4 + l5) + l6 ≤ 1048576
          case neg =>
            go_wp2
            go_ret
            exact ⟨false, rfl, rfl, fun h => (by cases h)⟩
          go_wp2
          go_loop [17, 24] (fun zn i => ∃ k m : Nat, k ≤ l6 ∧ m ≤ 1048576 ∧ zn = .int .i64 m ∧ i = .int .i64 k ∧ ∀ j, j < k → (K6 j).size ≤ 1048576) (fun _ i => l6 - (intOf i).toNat)
          case atStart => exact ⟨0, (m4 + l5) + l6, by omega, by omega, by go_num, rfl, fun j h => by omega⟩
          case round =>
            obtain ⟨k6, m6, hk6, hm6, rfl, rfl, hs6⟩ := hrel
            have HS6 : Hid (∀ j, j < k6 → (K6 j).size ≤ 1048576) := hs6
            clear hs6
            by_cases t6 : k6 < l6
            case pos =>
              obtain h0 | ⟨b, o, rfl, hb, hcells⟩ := r6.2
              · omega
              have hc := hcells k6 t6
              simp only [strV] at hc
              clear hcells
              by_cases s1 : (K6 k6).size ≤ 1048576
              case neg =>
                go_wp2
                go_ret
                exact ⟨false, rfl, rfl, fun h => (by cases h)⟩
              by_cases s2 : m6 + (K6 k6).size ≤ 1048576
              case neg =>
                go_wp2
                go_ret
                exact ⟨false, rfl, rfl, fun h => (by cases h)⟩
              have HX := all_next HS6.out s1
              have HX2 : Hid (∀ j, j < k6 + 1 → (K6 j).size ≤ 1048576) := HX
              clear HX
              go_wp2
              go_round
              case rel => exact ⟨k6 + 1, m6 + (K6 k6).size, by omega, s2, by go_num, by go_num, HX2.out⟩
              case measure => simp [intOf]; omega
            obtain rfl : k6 = l6 := by omega
            by_cases b7 : l7 ≤ 1048576
            case neg =>
              go_wp2
              go_ret
              exact ⟨false, rfl, rfl, fun h => (by cases h)⟩
            by_cases d7 : m6 + l7 ≤ 1048576
            case neg =>
              go_wp2
              go_ret
              exact ⟨false, rfl, rfl, fun h => (by cases h)⟩
            go_wp2
            go_loop [17, 25] (fun zn i => ∃ k m : Nat, k ≤ l7 ∧ m ≤ 1048576 ∧ zn = .int .i64 m ∧ i = .int .i64 k ∧ ∀ j, j < k → (K7 j).size ≤ 1048576) (fun _ i => l7 - (intOf i).toNat)
            case atStart => exact ⟨0, m6 + l7, by omega, by omega, by go_num, rfl, fun j h => by omega⟩
            case round =>
              obtain ⟨k7, m7, hk7, hm7, rfl, rfl, hs7⟩ := hrel
              have HS7 : Hid (∀ j, j < k7 → (K7 j).size ≤ 1048576) := hs7
              clear hs7
              by_cases t7 : k7 < l7
              case pos =>
                obtain h0 | ⟨b, o, rfl, hb, hcells⟩ := r7.2
                · omega
                have hc := hcells k7 t7
                simp only [strV] at hc
                clear hcells
                by_cases s1 : (K7 k7).size ≤ 1048576
                case neg =>
                  go_wp2
                  go_ret
                  exact ⟨false, rfl, rfl, fun h => (by cases h)⟩
                by_cases s2 : m7 + (K7 k7).size ≤ 1048576
                case neg =>
                  go_wp2
                  go_ret
                  exact ⟨false, rfl, rfl, fun h => (by cases h)⟩
                have HX := all_next HS7.out s1
                have HX2 : Hid (∀ j, j < k7 + 1 → (K7 j).size ≤ 1048576) := HX
                clear HX
                go_wp2
                go_round
                case rel => exact ⟨k7 + 1, m7 + (K7 k7).size, by omega, s2, by go_num, by go_num, HX2.out⟩
                case measure => simp [intOf]; omega
              obtain rfl : k7 = l7 := by omega
              go_wp2
              go_ret
              exact ⟨true, rfl, rfl, fun _ => ⟨b0, HS0.out, b1, HS1.out, b2, b3, HS3.out, b4, HS4.out, b5, b6, HS6.out, b7, HS7.out⟩⟩
end Go.Proofs.Qxb6600399a
