import Derived.Test.Qxb6600291aZz
import Derived.Lib.SlBytesRow
namespace Go.Proofs.Qxb6600291a
open Go.RowKit

theorem equal_true (ao bo : Option Addr) (n c c2 : Nat) (s : ByteArray) (w : World) (hA : (convert 22 9 (.slice ao n c)).run Try.prog w = .ok (.string s) w) (hB : (convert 22 9 (.slice bo n c2)).run Try.prog w = .ok (.string s) w) :
    Calls Try.prog 24 #[.slice ao n c, .slice bo n c2] w fun e w' => e = .returned (.bool true) ∧ w = w' := by
  go_enter Try.func24, Try.ntmps24
  go_wp2
  go_ret
  exact ⟨by simp, rfl⟩

theorem begins_true (ao bo : Option Addr) (n c m c2 : Nat) (s : ByteArray) (w : World) (hmn : m ≤ n) (hnc : n ≤ c) (hA : (convert 22 9 (.slice ao m c)).run Try.prog w = .ok (.string s) w) (hB : (convert 22 9 (.slice bo m c2)).run Try.prog w = .ok (.string s) w) :
    Calls Try.prog 23 #[.slice ao n c, .slice bo m c2] w fun e w' => e = .returned (.bool true) ∧ w = w' := by
  have h1 : (m : Int) ≤ (n : Int) := by omega
  have h2 : (m : Int) ≤ (c : Int) := by omega
  go_enter Try.func23, Try.ntmps23
  go_wp2_with (go_at_call 24; refine (equal_true _ _ _ _ _ s _ hA hB).mono ?_; rintro e w' ⟨rfl, rfl⟩)
  go_ret
  exact ⟨by simp, rfl⟩
end Go.Proofs.Qxb6600291a
