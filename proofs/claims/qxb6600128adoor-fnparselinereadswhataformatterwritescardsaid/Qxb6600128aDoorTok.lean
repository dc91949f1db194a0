import Derived.Test.Qxb6600128aDoorProg
import Derived.WalkKit
import Derived.BigQuiet
import Derived.Handy
import Derived.WalkSpells
import Derived.WalkLawsBesides
import Derived.Deep.QuietTactic
import Derived.Deep.LoopGhost
namespace Go.Proofs.Qxb6600128aDoor
open Go.RowKit

set_option maxHeartbeats 400000 in
theorem graphic_any (c : Nat) (w : World) :
    Calls Tryd.prog 21 #[.int .u8 c] w fun e w' => e = .returned (.bool (decide (33 ≤ c ∧ c ≤ 126))) ∧ w' = w := by
  by_cases h1 : 33 ≤ c
  · by_cases h2 : c ≤ 126
    · have g2 : (c : Int) ≤ 126 := by omega
      rw [decide_eq_true ⟨h1, h2⟩]
      go_enter Tryd.func21, Tryd.ntmps21
      go_wp2
      go_ret
      simp
    · have g2 : ¬ (c : Int) ≤ 126 := by omega
      rw [decide_eq_false (fun h => h2 h.2)]
      go_enter Tryd.func21, Tryd.ntmps21
      go_wp2
      go_ret
      simp
  · rw [decide_eq_false (fun h => h1 h.1)]
    go_enter Tryd.func21, Tryd.ntmps21
    go_wp2
    go_ret
    simp

def TokPost (good : Prop) (w : World) (e : Ending) (w' : World) : Prop := ∃ r : Bool, e = .returned (.bool r) ∧ w = w' ∧ (r = true → good)
def Tok (s : ByteArray) : Prop := 0 < s.size ∧ ∀ j (h : j < s.size), 33 ≤ s[j].toNat ∧ s[j].toNat ≤ 126

set_option maxHeartbeats 400000 in
theorem token_any (s : ByteArray) (w : World) (hs : s.size ≤ 1048576) :
    Calls Tryd.prog 10 #[.string s] w (TokPost (Tok s) w) := by
  go_enter Tryd.func10, Tryd.ntmps10
  by_cases h0 : s.size = 0
  · go_wp2
    go_ret
    exact ⟨false, rfl, rfl, fun h => (by cases h)⟩
  have he : ((s.size : Int) == 0) = false := by simpa using h0
  go_wp2
  go_loop [3] (fun i => ∃ k : Nat, k ≤ s.size ∧ i = .int .i64 k ∧ Hid (∀ j (h : j < s.size), j < k → 33 ≤ s[j].toNat ∧ s[j].toNat ≤ 126)) (fun i => s.size - (intOf i).toNat)
  case atStart => exact ⟨0, by omega, rfl, fun j _ h => by omega⟩
  case round =>
    obtain ⟨k, hk, rfl, hall⟩ := hrel
    by_cases hlt : k < s.size
    · by_cases hg : 33 ≤ s[k].toNat ∧ s[k].toNat ≤ 126
      · go_wp2_with (go_at_call 21; refine (graphic_any _ _).mono ?_; rintro e w' ⟨rfl, rfl⟩)
        go_round
        case rel =>
          refine ⟨k + 1, by omega, by go_num, fun j h hj => ?_⟩
          by_cases e : j = k
          · subst e; exact hg
          · exact hall.out j h (by omega)
        case measure => simp [intOf]; omega
      · go_wp2_with (go_at_call 21; refine (graphic_any _ _).mono ?_; rintro e w' ⟨rfl, rfl⟩)
        go_ret
        exact ⟨false, rfl, rfl, fun h => (by cases h)⟩
    · go_wp2
      go_ret
      exact ⟨true, rfl, rfl, fun _ => ⟨by omega, fun j h => hall.out j h (by omega)⟩⟩

/-- The string of one byte that parts a line: '-'. -/
def dash : ByteArray := ⟨#[45]⟩
theorem dash_list : dash.toList = [45] := by kernel_rfl

set_option maxHeartbeats 400000 in
theorem field_any (s : ByteArray) (w : World) (hs : s.size ≤ 1048576) :
    Calls Tryd.prog 9 #[.string s] w (TokPost (Tok s ∧ s ≠ dash) w) := by
  go_enter Tryd.func9, Tryd.ntmps9
  go_wp2_with fail
  refine (token_any _ _ hs).mono ?_
  rintro e w' ⟨r, rfl, rfl, hr⟩
  cases r
  · go_wp2
    go_ret
    exact ⟨false, rfl, rfl, fun h => (by cases h)⟩
  · go_wp2
    go_ret
    exact ⟨!(s.toList == [45]), rfl, rfl, fun h => ⟨hr trivial, fun e => by subst e; rw [dash_list] at h; cases h⟩⟩

set_option maxHeartbeats 400000 in
theorem bytes14_any (s : ByteArray) (v b : Value) (w : World) :
    Calls Tryd.prog 14 #[.string s, v, b] w (TokPost (s.size ≤ 1048576) w) := by
  by_cases h : s.size ≤ 1048576
  · go_enter Tryd.func14, Tryd.ntmps14
    go_wp2
    go_ret
    exact ⟨true, rfl, rfl, fun _ => h⟩
  · go_enter Tryd.func14, Tryd.ntmps14
    go_wp2
    all_goals
      go_ret
      exact ⟨false, rfl, rfl, fun h => (by cases h)⟩

/-- What is left of a string behind its first k bytes. -/
def rest (s : ByteArray) (k : Nat) : List UInt8 := s.data.toList.drop k
theorem rest_cons {s : ByteArray} {k : Nat} (h : k < s.size) : rest s k = s[k] :: rest s (k + 1) := by
  unfold rest
  rw [List.drop_eq_getElem_cons (by simpa using h)]
  rfl
theorem rest_end (s : ByteArray) : rest s s.size = [] := by unfold rest; exact List.drop_eq_nil_of_le (by simp)
theorem rest_zero (s : ByteArray) : rest s 0 = s.data.toList := rfl
end Go.Proofs.Qxb6600128aDoor
