import Derived.Test.Qxb6600021aAdd
namespace Go.Proofs.Qxb6600021a
open Go.RowKit

/-- WHAT THE WALK IS TOLD OF A SLICE OF INTEGERS THAT CAME IN: it is nil; or it leads to a row of 'cap' cells, the numbers 'zs' (the first 'len' are its elements, the rest its spare room), each fitting its kind. -/
def IsRow (k : IntKind) (w : World) (a : Option Addr) (len cap : Nat) (zs : List Int) : Prop :=
  (a = none ∧ len = 0 ∧ cap = 0 ∧ zs = []) ∨
  ∃ x, a = some x ∧ len ≤ cap ∧ cap ≤ maxLen ∧ zs.length = cap ∧ (∀ i, i < zs.length → w.cell? (x.add i) = some (.int k (zs.getD i 0))) ∧ ∀ n ∈ zs, (Lit.int k n).wf = true

theorem IsRow.row {k : IntKind} {w : World} {a : Option Addr} {len cap : Nat} {zs : List Int} (h : IsRow k w a len cap zs) : Row k w w.heap.size a len (fun j => zs.getD j 0) ∧ (a = none → len = 0) ∧ len ≤ maxLen := by
  rcases h with ⟨rfl, rfl, rfl, rfl⟩ | ⟨x, rfl, h1, h2, h3, h4, h5⟩
  · exact ⟨.inl rfl, fun _ => rfl, by unfold maxLen; omega⟩
  · refine ⟨?_, fun e => (by cases e), by omega⟩
    rcases Nat.eq_zero_or_pos len with h0 | hpos
    · exact .inl h0
    obtain ⟨b, o, spot⟩ := x
    have hspot : spot = none := by simpa [Addr.add] using World.cell?_spot (h4 0 (by omega))
    subst hspot
    exact .inr ⟨b, o, rfl, World.block_lt_of_cell? _ _ (h4 0 (by omega)), fun j hj => by rw [← Addr.add_lit]; exact h4 j (by omega)⟩

theorem Row.nil {k : IntKind} {w : World} {B : Nat} {a : Option Addr} {len : Nat} {z : Nat → Int} (h : Row k w B a len z) : a = none → len = 0 := by
  intro e
  rcases h with h | ⟨b, o, h, _⟩
  · exact h
  · rw [e] at h; cases h

set_option maxHeartbeats 1000000 in
theorem never_walk (a0 : Option Addr) (len0 cap0 : Nat) (z0 : List Int) (a1 : Option Addr) (len1 cap1 : Nat) (z1 : List Int) (a2 : Option Addr) (len2 cap2 : Nat) (z2 : List Int) (w : World) (w0 : IsRow .u64 w a0 len0 cap0 z0) (w1 : IsRow .i64 w a1 len1 cap1 z1) (w2 : IsRow .u64 w a2 len2 cap2 z2) :
    Calls Try.prog 7 #[.slice a0 len0 cap0, .slice a1 len1 cap1, .slice a2 len2 cap2] w fun e w' => e = .returned (.bool true) ∧ Below w.heap.size w w' := by
  obtain ⟨r0, n0, m0⟩ := w0.row
  obtain ⟨r1, n1, m1⟩ := w1.row
  obtain ⟨r2, n2, m2⟩ := w2.row
  clear w0 w1 w2
  by_cases hT : len0 + len1 + len2 ≤ 1048576
  case neg =>
    go_enter Try.func7, Try.ntmps7
    go_wp2_with (go_at_call 34; refine (bytes_no _ _ _ _ _ _ _ _ _ _ m0 m1 m2 (by omega)).mono ?_; rintro e w' ⟨rfl, rfl⟩)
    go_ret
    exact ⟨rfl, Below.refl _ _⟩
  by_cases h0 : len0 ≤ 65536 ∧ len1 ≤ 65536 ∧ len2 ≤ 65536
  case neg =>
    go_enter Try.func7, Try.ntmps7
    go_wp2_with (go_at_call 34; refine (bytes_yes _ _ _ _ _ _ _ _ _ _ hT).mono ?_; rintro e w' ⟨rfl, rfl⟩)
    all_goals
      go_ret
      exact ⟨rfl, Below.refl _ _⟩
  obtain ⟨l0, l1, l2⟩ := h0
  by_cases h8 : 8 * (len0 + len1 + len2) ≤ 1048576
  case neg =>
    have i8 : (1048576 : Int) < 8 * ((len0 : Int) + len1 + len2) := by omega
    go_enter Try.func7, Try.ntmps7
    go_wp2_with (go_at_call 34; refine (bytes_yes _ _ _ _ _ _ _ _ _ _ hT).mono ?_; rintro e w' ⟨rfl, rfl⟩)
    go_ret
    exact ⟨rfl, Below.refl _ _⟩
  have i8 : 8 * ((len0 : Int) + len1 + len2) ≤ 1048576 := by omega
  generalize (fun j => z0.getD j 0) = Z0 at r0
  generalize (fun j => z1.getD j 0) = Z1 at r1
  generalize (fun j => z2.getD j 0) = Z2 at r2
  have R0 : Hid (Row .u64 w w.heap.size a0 len0 Z0) := r0
  have R1 : Hid (Row .i64 w w.heap.size a1 len1 Z1) := r1
  have R2 : Hid (Row .u64 w w.heap.size a2 len2 Z2) := r2
  clear r0 r1 r2 m0 m1 m2
  go_enter Try.func7, Try.ntmps7
  go_wp2_with (go_at_call 34; refine (bytes_yes _ _ _ _ _ _ _ _ _ _ hT).mono ?_; rintro e w' ⟨rfl, rfl⟩)
  refine (script_any _ _ _ _ _ _ _ (by omega) (by omega)).mono ?_
  rintro e w' ⟨n, rfl, hn1, hn2, rfl⟩
  go_wp2_with fail
  refine (range_any _ _ _ n Z1 _ (by omega) hn1 R1.out).mono ?_
  rintro e w' ⟨r, rfl, hr, rfl⟩
  cases r
  · go_wp2
    go_ret
    exact ⟨rfl, Below.refl _ _⟩
  have HR : Hid (∀ j, j < n → 0 ≤ Z1 j ∧ Z1 j ≤ 65536) := hr rfl
  clear hr
  go_wp2_with fail
  refine (cloneU64_any _ _ _ Z0 _ l0 n0 R0.out).mono ?_
  rintro e w1 ⟨b0, k0, rfl, s0, e1⟩
  have R1' := R1.out.mono e1 e1.size
  have R2' := R2.out.mono e1 e1.size
  have S0 : Hid (Row .u64 w1 w1.heap.size b0 len0 Z0) := s0
  clear s0
  go_wp2_with fail
  refine (cloneInts_any _ _ _ Z1 _ l1 n1 R1').mono ?_
  rintro e w2 ⟨b1, k1, rfl, s1, e2⟩
  have R2'' := R2'.mono e2 e2.size
  have S0' : Hid (Row .u64 w2 w2.heap.size b0 len0 Z0) := S0.out.mono e2 e2.size
  have S1 : Hid (Row .i64 w2 w2.heap.size b1 len1 Z1) := s1
  clear s1
  go_wp2_with fail
  refine (cloneU64_any _ _ _ Z2 _ l2 n2 R2'').mono ?_
  rintro e w3 ⟨b2, k2, rfl, s2, e3⟩
  have S0'' : Row .u64 w3 w3.heap.size b0 len0 Z0 := S0'.out.mono e3 e3.size
  have S1' : Hid (Row .i64 w3 w3.heap.size b1 len1 Z1) := S1.out.mono e3 e3.size
  have S2 : Hid (Row .u64 w3 w3.heap.size b2 len2 Z2) := s2
  have n0' := S0''.nil
  clear s2 R1' R2' R2'' R0 R1 R2 n0 n1 n2
  go_wp2_with fail
  refine (cloneU64_any _ _ _ Z0 _ l0 n0' S0'').mono ?_
  rintro e w4 ⟨b3, k3, rfl, s3, e4⟩
  have T0 : Hid (Row .u64 w4 w4.heap.size b0 len0 Z0) := S0''.mono e4 e4.size
  have T1 : Hid (Row .i64 w4 w4.heap.size b1 len1 Z1) := S1'.out.mono e4 e4.size
  have T2 : Hid (Row .u64 w4 w4.heap.size b2 len2 Z2) := S2.out.mono e4 e4.size
  have T3 : Hid (Row .u64 w4 w4.heap.size b3 len0 Z0) := s3
  have E4 : Hid (Below w.heap.size w w4) := e1.trans ((e2.mono e1.size).trans ((e3.mono (Nat.le_trans e1.size e2.size)).trans (e4.mono (Nat.le_trans e1.size (Nat.le_trans e2.size e3.size)))))
  have hsz : w.heap.size ≤ w4.heap.size := E4.out.size
  clear s3 S0 S0' S0'' S1 S1' S2 e1 e2 e3 e4 n0'
  go_wp2_with fail
  refine (newrun_any _ _ _ _).mono ?_
  rintro e w5 ⟨rfl, rfl⟩
  obtain ⟨R, hRR⟩ : ∃ R, R = w4.heap.size := ⟨_, rfl⟩
  rw [← hRR] at T0 T1 T2 T3
  go_wp2_with fail
  go_loopw [10] (fun c wr => ∃ k : Nat, k ≤ n ∧ c = .int .i64 k ∧ RunInv wr R b3 len0 k3 ∧ Below R w4 wr) (fun c _ => n - (intOf c).toNat)
  case atStart =>
    refine ⟨0, by omega, rfl, .inl ⟨none, 0, 0, fun _ => 0, fun _ => 0, by rw [hRR]; exact heap_alloc_new _ _, by omega, .inl ⟨rfl, rfl, rfl⟩, fun j h => by omega, fun j k _ h => by omega⟩, ?_⟩
    exact (Below.refl R w4).alloc (by omega) _
  case round =>
    obtain ⟨k, hk, rfl, hinv, hbel⟩ := hrel
    rw [← hRR]
    have HRR : Hid (R = w4.heap.size) := hRR
    clear hRR
    have HI : Hid (RunInv wr R b3 len0 k3) := hinv
    clear hinv
    by_cases hlt : k < n
    · obtain h0 | ⟨xb, xo, rfl, hxb, hxc⟩ := T1.out
      · omega
      obtain h0 | ⟨yb, yo, rfl, hyb, hyc⟩ := T2.out
      · omega
      have c1 := (hbel.cell (p := ⟨xb, xo + k, none⟩) hxb).trans (hxc k (by omega))
      have c2 := (hbel.cell (p := ⟨yb, yo + k, none⟩) hyb).trans (hyc k (by omega))
      have hb1 := HR.out k hlt
      have hZ3 : Row .u64 wr R b3 len0 Z0 := T3.out.mono hbel (Nat.le_refl _)
      have j1 : (k : Int) < (len1 : Int) := by omega
      have j2 : (k : Int) < (len2 : Int) := by omega
      have j3 : (k : Int) < (n : Int) := by omega
      clear hxc hyc
      go_wp2_with fail
      go_region_with (go_at_call 29; refine (runadd_any R _ _ _ b3 len0 k3 Z0 hb1.1 hb1.2 l0 ?_ ?_).mono ?_; exact hZ3; exact HI.out; rintro e w6 ⟨rfl, hinv6, hb6⟩)
      all_goals
        have hb7 : Below R w4 w6 := hbel.trans (show Below R wr w6 from ⟨hb6.os, hb6.tape, hb6.output, hb6.size, hb6.block⟩)
        clear hb6 hbel HI hZ3 c1 c2
        go_wp2
        go_roundw
        case rel => exact ⟨k + 1, by omega, by go_num, hinv6, hb7⟩
        case measure => simp [intOf]; omega
    · obtain rfl : k = n := by omega
      have HB : Hid (Below R w4 wr) := hbel
      clear hbel
      have hne : ((len0 : Int) != (len0 : Int)) = false := by simp
      go_wp2_with fail
      go_loopw [11] (fun c wx => ∃ t : Nat, t ≤ len0 ∧ c = .int .i64 t ∧ Below R w4 wx) (fun c _ => len0 - (intOf c).toNat)
      case atStart => exact ⟨0, by omega, rfl, HB.out⟩
      case round =>
        obtain ⟨t, ht, rfl, hbx⟩ := hrel
        by_cases htl : t < len0
        · obtain h0 | ⟨xb, xo, rfl, hxb, hxc⟩ := T0.out
          · omega
          obtain h0 | ⟨yb, yo, rfl, hyb, hyc⟩ := T3.out
          · omega
          have c1 := (hbx.cell (p := ⟨xb, xo + t, none⟩) hxb).trans (hxc t htl)
          have c2 := (hbx.cell (p := ⟨yb, yo + t, none⟩) hyb).trans (hyc t htl)
          have j1 : (t : Int) < (len0 : Int) := by omega
          have hzz : (Z0 t != Z0 t) = false := by simp
          clear hxc hyc
          go_wp2_with fail
          go_quiet (fail)
          go_wp2
          go_roundw
          case rel => exact ⟨t + 1, by omega, by go_num, below_drewN hbx _⟩
          case measure => simp [intOf]; omega
        · obtain rfl : t = len0 := by omega
          go_wp2
          go_ret
          exact ⟨rfl, E4.out.trans (hbx.mono (by have := HRR.out; omega))⟩
end Go.Proofs.Qxb6600021a
