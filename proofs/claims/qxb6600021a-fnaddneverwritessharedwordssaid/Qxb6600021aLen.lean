import Derived.Test.Qxb6600021aShared
namespace Go.Proofs.Qxb6600021a
open Go.RowKit

/-- What 'len' hands back: a number that is no less than the words' count and greater than the last changed index. -/
def LenPost (w : World) (sl n : Nat) (I : Nat → Int) (e : Ending) (w' : World) : Prop :=
  ∃ m : Nat, e = .returned (.int .i64 m) ∧ sl ≤ m ∧ I (n - 1) < m ∧ m ≤ 65537 ∧ ∃ q, w' = w.drewN q

set_option maxHeartbeats 400000 in
theorem len_any (R : Nat) (w : World) (sa : Option Addr) (sl sc : Nat) (va : Option Addr) (n vc : Nat) (I Bt : Nat → Int) (hsl : sl ≤ 65536) (h : Shr w R sa sl sc va n vc I Bt) (hn1 : 1 ≤ n) :
    Calls Try.prog 55 #[.pointer (some ⟨R, 0, none⟩)] w (LenPost w sl n I) := by
  obtain ⟨hR, hn, hC, hS⟩ := h
  obtain ⟨c0, c1, c2, f0, f1, f2⟩ := cells3 hR
  obtain ⟨g, rfl, hRg, d0, _⟩ := hC.cell (show n - 1 < n by omega)
  have hI := hS.1 (n - 1) (by omega)
  obtain ⟨x, hx⟩ := Int.eq_ofNat_of_zero_le hI.1
  have HX : Hid (I (n - 1) = x) := hx
  rw [hx] at d0 hI
  have i1 : (1 : Int) ≤ (n : Int) := by omega
  clear hC hS hR hx
  by_cases hlt : (sl : Int) < x + 1
  · go_enter Try.func55, Try.ntmps55
    go_wp2_with fail
    go_quiet (fail)
    go_wp2
    go_ret
    exact ⟨x + 1, by simp, by omega, by rw [HX.out]; omega, by omega, _, rfl⟩
  · go_enter Try.func55, Try.ntmps55
    go_wp2_with fail
    go_quiet (fail)
    go_wp2
    go_ret
    exact ⟨sl, rfl, by omega, by rw [HX.out]; omega, by omega, _, rfl⟩
end Go.Proofs.Qxb6600021a
