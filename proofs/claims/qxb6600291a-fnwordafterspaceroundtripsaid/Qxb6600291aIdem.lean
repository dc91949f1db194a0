import Derived.Test.Qxb6600291aZz
namespace Go.Proofs.Qxb6600291a
open Go.RowKit

/-- WHAT THE WALK IS TOLD OF A SLICE OF INTEGERS THAT CAME IN: it is nil; or it leads to a row of 'cap' cells, the numbers 'zs' (the first 'len' are its elements, the rest its spare room), each fitting its kind. -/
def IsRow (k : IntKind) (w : World) (a : Option Addr) (len cap : Nat) (zs : List Int) : Prop :=
  (a = none ∧ len = 0 ∧ cap = 0 ∧ zs = []) ∨
  ∃ x, a = some x ∧ len ≤ cap ∧ cap ≤ maxLen ∧ zs.length = cap ∧ (∀ i, i < zs.length → w.cell? (x.add i) = some (.int k (zs.getD i 0))) ∧ ∀ n ∈ zs, (Lit.int k n).wf = true

/-- Skipped once is skipped. -/
theorem twice {z : Nat → Int} {len off k k2 : Nat} (h : Stops z len off k) (h2 : Stops z len k k2) : k2 = k := by
  obtain ⟨a1, a2, a3, a4⟩ := h
  obtain ⟨b1, b2, b3, b4⟩ := h2
  by_cases e : k2 = k
  · exact e
  · exact absurd (b4 k (Nat.le_refl _) (by omega)) (a3 (by omega))

theorem idem_walk (a0 : Option Addr) (len0 cap0 : Nat) (z0 : List Int) (a1 : Int) (w : World) (w0 : IsRow .u8 w a0 len0 cap0 z0) (w1 : (Lit.int .i64 a1).wf = true) :
    Calls Try.prog 4 #[.slice a0 len0 cap0, .int .i64 a1] w fun e w' => e = .returned (.bool true) ∧ Below w.heap.size w w' := by
  by_cases hl : len0 ≤ 1048576
  case neg =>
    have hm : len0 ≤ maxLen := by rcases w0 with ⟨_, rfl, _⟩ | ⟨_, _, _, _, _⟩ <;> omega
    go_enter Try.func4, Try.ntmps4
    go_wp2_with (go_at_call 12; refine (bytes_any _ _ _ _ _ hm).mono ?_; rintro e w' ⟨rfl, rfl⟩)
    go_ret
    exact ⟨rfl, Below.refl _ _⟩
  have hm : len0 ≤ maxLen := by unfold maxLen; omega
  have hd : decide (len0 ≤ 1048576) = true := by simpa using hl
  by_cases h0 : a1 < 0
  · go_enter Try.func4, Try.ntmps4
    go_wp2_with (go_at_call 12; refine (bytes_any _ _ _ _ _ hm).mono ?_; rintro e w' ⟨rfl, rfl⟩)
    go_ret
    exact ⟨rfl, Below.refl _ _⟩
  have h1 : a1 ≤ 9223372036854775807 := (bounds_i64 w1).2
  obtain ⟨off, rfl⟩ := Int.eq_ofNat_of_zero_le (show 0 ≤ a1 by omega)
  clear w1 h0
  rcases w0 with ⟨rfl, rfl, rfl, rfl⟩ | ⟨x, rfl, hle, hcm, hzl, hcell, hwf⟩
  · have hB : Bytes w w.heap.size none 0 (fun _ => 0) := .inl rfl
    go_enter Try.func4, Try.ntmps4
    go_wp2_with (go_at_call 12; refine (bytes_any _ _ _ _ _ hm).mono ?_; rintro e w' ⟨rfl, rfl⟩)
    refine (zzspace_any none 0 0 off (fun _ => 0) _ (by omega) (by omega) hB).mono ?_
    rintro e w2 ⟨k, rfl, hs, hk, hb⟩
    have hok : off ≤ k := hs.1
    go_wp2_with fail
    refine (zzspace_any none 0 0 k (fun _ => 0) _ (by omega) (by omega) (.inl rfl)).mono ?_
    rintro e w3 ⟨k2, rfl, hs2, hk2, hb2⟩
    go_wp2
    go_ret
    exact ⟨by rw [twice hs hs2]; simp, hb.trans (hb2.mono hb.size)⟩
  · have hmk := run_make_row' (P := Try.prog) 22 5 (.int .u8 0) 1 Try.underlying22 info5 rfl .i64 .i64 len0 (by omega) (by omega)
    have hcp := clone_run w x len0 cap0 z0 (by omega) hcell
    have hB := copied w (n := len0) (z := z0) (by omega)
    clear hcell hwf
    generalize ((z0.take len0).map (Value.int .u8)).toArray = ca at hcp hB
    have H1 : Below w.heap.size w (w.alloc (.cells ca 5)) := (Below.refl _ _).alloc (Nat.le_refl _) _
    go_enter Try.func4, Try.ntmps4
    go_wp2_with (go_at_call 12; refine (bytes_any _ _ _ _ _ hm).mono ?_; rintro e w' ⟨rfl, rfl⟩)
    refine (zzspace_any _ len0 len0 off (fun k => z0.getD k 0) _ (by omega) (by omega) (by simpa using hB)).mono ?_
    rintro e w2 ⟨k, rfl, hs, hk, hb⟩
    have hok : off ≤ k := hs.1
    have hb' := hB.mono (by simpa using hb) (show w.heap.size + 1 ≤ w2.heap.size by simpa using hb.size)
    go_wp2_with fail
    refine (zzspace_any _ len0 len0 k (fun k => z0.getD k 0) _ (by omega) (by omega) hb').mono ?_
    rintro e w3 ⟨k2, rfl, hs2, hk2, hb2⟩
    go_wp2
    go_ret
    exact ⟨by rw [twice hs hs2]; simp, H1.trans ((hb.mono (by simp)).trans (hb2.mono (by have := hb.size; simp at this; omega)))⟩
end Go.Proofs.Qxb6600291a
