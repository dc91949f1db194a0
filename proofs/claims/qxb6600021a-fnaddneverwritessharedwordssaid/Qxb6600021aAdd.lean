import Derived.Test.Qxb6600021aRoom
import Derived.Test.Qxb6600021aFull
namespace Go.Proofs.Qxb6600021a
open Go.RowKit

/-- The state of a run that began by sharing the words at sa. -/
def RunInv (w : World) (R : Nat) (sa : Option Addr) (sl sc : Nat) : Prop :=
  (∃ va n vc I Bt, Shr w R sa sl sc va n vc I Bt) ∨ ∃ g n cap cur, Owned w R g n cap cur

/-- Where the index i belongs among n sorted ones. -/
theorem place (n : Nat) (I : Nat → Int) (i : Int) (hs : ∀ j k, j < k → k < n → I j < I k) : ∃ k, k ≤ n ∧ (∀ j, j < k → I j < i) ∧ ∀ j, k ≤ j → j < n → i ≤ I j := by
  induction n with
  | zero => exact ⟨0, Nat.le_refl _, fun j h => by omega, fun j _ h => by omega⟩
  | succ n ih =>
    obtain ⟨k, h1, h2, h3⟩ := ih (fun j k hjk hk => hs j k hjk (by omega))
    by_cases hlt : I n < i
    · refine ⟨n + 1, Nat.le_refl _, fun j hj => ?_, fun j h h' => by omega⟩
      by_cases e : j = n
      · subst e; exact hlt
      · have := hs j n (by omega) (by omega); omega
    · refine ⟨k, by omega, h2, fun j hkj hj => ?_⟩
      by_cases e : j = n
      · subst e; omega
      · exact h3 j hkj (by omega)

theorem add_any (R : Nat) (i bit : Int) (w : World) (sa : Option Addr) (sl sc : Nat) (Z : Nat → Int) (hi0 : 0 ≤ i) (hi1 : i ≤ 65536) (hsl : sl ≤ 65536) (hZ : Row .u64 w R sa sl Z) (h : RunInv w R sa sl sc) :
    Calls Try.prog 54 #[.pointer (some ⟨R, 0, none⟩), .int .i64 i, .int .u64 bit] w fun e w' => e = .returned (.tuple #[]) ∧ RunInv w' R sa sl sc ∧ Below R w w' := by
  rcases h with ⟨va, n, vc, I, Bt, h⟩ | ⟨g, n, cap, cur, h⟩
  · obtain ⟨ii, rfl⟩ := Int.eq_ofNat_of_zero_le hi0
    obtain ⟨k, hk, hlow, hhigh⟩ := place n I ii h.2.2.2.2
    by_cases heq : k < n ∧ I k = ii
    · refine (add_hit R ii bit w sa sl sc va n vc I Bt k (by omega) h heq.1 hlow heq.2).mono ?_
      rintro e w' ⟨rfl, h1, h2⟩
      exact ⟨rfl, .inl h1, h2⟩
    · have hhigh' : ∀ j, k ≤ j → j < n → (ii : Int) < I j := fun j h1 h2 => by
        have h3 := hhigh j h1 h2
        rcases Nat.lt_or_ge k j with d | d
        · have := h.2.2.2.2 k j d h2
          have := hhigh k (Nat.le_refl _) (by omega)
          omega
        · obtain rfl : j = k := by omega
          have : I j ≠ ii := fun e => heq ⟨h2, e⟩
          omega
      obtain ⟨sh, hsh⟩ : ∃ sh, (ii < sl ∧ Z ii = sh) ∨ (sl ≤ ii ∧ 0 = sh) := by
        rcases Nat.lt_or_ge ii sl with d | d
        · exact ⟨_, .inl ⟨d, rfl⟩⟩
        · exact ⟨_, .inr ⟨d, rfl⟩⟩
      rcases hand : (bits .and .u64 sh bit != 0) with _ | _
      · rcases Nat.lt_or_ge n 8 with d | d
        · refine (add_room R ii bit sh w sa sl sc Z va n vc I Bt k (by omega) hsl hZ h hk hlow hhigh' hsh hand d).mono ?_
          rintro e w' ⟨rfl, h1, h2⟩
          exact ⟨rfl, .inl h1, h2⟩
        · refine (add_full R ii bit sh w sa sl sc Z va n vc I Bt k (by omega) hsl hZ h hk hlow hhigh' hsh hand d).mono ?_
          rintro e w' ⟨rfl, h1, h2⟩
          exact ⟨rfl, .inr h1, h2⟩
      · refine (add_seen R ii bit sh w sa sl sc Z va n vc I Bt k (by omega) hsl hZ h hk hlow hhigh' hsh hand).mono ?_
        rintro e w' ⟨rfl, rfl⟩
        exact ⟨rfl, .inl ⟨_, _, _, _, _, h⟩, Below.refl _ _⟩
  · refine (add_owned R i bit w g n cap cur hi0 hi1 h).mono ?_
    rintro e w' ⟨rfl, h1, h2⟩
    exact ⟨rfl, .inr h1, h2⟩

theorem newrun_any (ao : Option Addr) (len cap : Nat) (w : World) :
    Calls Try.prog 28 #[.slice ao len cap, .bool false] w fun e w' => e = .returned (.pointer (some ⟨w.heap.size, 0, none⟩)) ∧ w' = w.alloc (.cells #[.slice ao len cap, .bool false, .slice none 0 0] 87) := by
  go_enter Try.func28, Try.ntmps28
  go_wp2
  go_ret
  exact ⟨rfl, rfl⟩

theorem runadd_any (R : Nat) (i bit : Int) (w : World) (sa : Option Addr) (sl sc : Nat) (Z : Nat → Int) (hi0 : 0 ≤ i) (hi1 : i ≤ 65536) (hsl : sl ≤ 65536) (hZ : Row .u64 w R sa sl Z) (h : RunInv w R sa sl sc) :
    Calls Try.prog 29 #[.pointer (some ⟨R, 0, none⟩), .int .i64 i, .int .u64 bit] w fun e w' => e = .returned (.tuple #[]) ∧ RunInv w' R sa sl sc ∧ Below R w w' := by
  go_enter Try.func29, Try.ntmps29
  go_wp2_with fail
  refine (add_any R i bit w sa sl sc Z hi0 hi1 hsl hZ h).mono ?_
  rintro e w1 ⟨rfl, h1, h2⟩
  go_wp2
  go_returns
  exact ⟨rfl, h1, h2⟩
end Go.Proofs.Qxb6600021a
