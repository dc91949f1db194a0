import Derived.Test.Qxb6600291aWord
import Derived.Deep.AppendSrc
namespace Go.Proofs.Qxb6600291a
open Go.RowKit

theorem zzword_true (g len cap n1 : Nat) (z : Nat → Int) (s : ByteArray) (w : World) (hlen : len ≤ 1048576) (hcap : len ≤ cap) (hs1 : 1 ≤ s.size) (hfit : n1 + s.size ≤ len)
    (hg : g < w.heap.size) (hz : ∀ k, k < len → w.cell? ⟨g, 0 + k, none⟩ = some (.int .u8 (z k)))
    (hstop : ∀ k, Stops z len 0 k → k = n1) (hw : ∀ i (h : i < s.size), z (n1 + i) = (s[i].toNat : Int)) :
    Calls Try.prog 15 #[.slice (some ⟨g, 0, none⟩) len cap, .int .i64 0, .string s] w fun e w' => e = .returned (.tuple #[.int .i64 ((n1 + s.size : Nat) : Int), .bool true]) ∧ Below w.heap.size w w' := by
  have H1 : Below w.heap.size w (w.alloc (.cells #[.slice (some ⟨g, 0, none⟩) len cap, .int .i64 0, .int .i64 0] 33)) := (Below.refl _ _).alloc (Nat.le_refl _) _
  go_enter Try.func15, Try.ntmps15
  go_wp2_with fail
  refine (word_true w.heap.size g 0 len cap n1 (.int .i64 0) z s _ hlen hcap hs1 hfit (heap_alloc_new _ _) hg (fun k hk => (H1.cell (p := ⟨g, 0 + k, none⟩) hg).trans (hz k hk)) hstop hw).mono ?_
  rintro e w1 ⟨rfl, hR, hb⟩
  obtain ⟨c0, c1, c2, f0, f1, f2⟩ := cells3 hR
  go_wp2
  go_ret2
  exact ⟨rfl, H1.trans hb⟩

theorem isSpace_yes (c : Int) (w : World) (h : isSp c) : Calls Try.prog 11 #[.int .u8 c] w fun e w' => e = .returned (.bool true) ∧ w = w' := by
  rcases h with rfl | rfl | rfl | rfl
  all_goals
    go_enter Try.func11, Try.ntmps11
    go_wp2
    go_ret
    exact ⟨rfl, rfl⟩

theorem isSpace_no (c : Int) (w : World) (h : ¬ isSp c) : Calls Try.prog 11 #[.int .u8 c] w fun e w' => e = .returned (.bool false) ∧ w = w' := by
  have h1 : (c == 32) = false := by simp; exact fun e => h (.inl e)
  have h2 : (c == 9) = false := by simp; exact fun e => h (.inr (.inl e))
  have h3 : (c == 10) = false := by simp; exact fun e => h (.inr (.inr (.inl e)))
  have h4 : (c == 13) = false := by simp; exact fun e => h (.inr (.inr (.inr e)))
  go_enter Try.func11, Try.ntmps11
  go_wp2
  go_ret
  exact ⟨rfl, rfl⟩

theorem bytesw_yes (s t : ByteArray) (ao : Option Addr) (len cap : Nat) (w : World) (h : s.size + t.size + len ≤ 1048576) :
    Calls Try.prog 14 #[.string s, .string t, .slice ao len cap] w fun e w' => e = .returned (.bool true) ∧ w = w' := by
  go_enter Try.func14, Try.ntmps14
  go_wp2
  go_ret
  exact ⟨rfl, rfl⟩

theorem bytesw_no (s t : ByteArray) (ao : Option Addr) (len cap : Nat) (w : World) (hs : s.size ≤ maxLen) (ht : t.size ≤ maxLen) (hl : len ≤ maxLen) (h : 1048576 < s.size + t.size + len) :
    Calls Try.prog 14 #[.string s, .string t, .slice ao len cap] w fun e w' => e = .returned (.bool false) ∧ w = w' := by
  unfold maxLen at hs ht hl
  go_enter Try.func14, Try.ntmps14
  go_wp2
  all_goals
    go_ret
    exact ⟨rfl, rfl⟩
end Go.Proofs.Qxb6600291a
