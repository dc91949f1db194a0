import Derived.Test.Qxb6600021aRoomLaws
namespace Go.Proofs.Qxb6600021a
open Go.RowKit

set_option maxRecDepth 100000 in
set_option maxHeartbeats 2000000 in
theorem add_room (R ii : Nat) (bit sh : Int) (w : World) (sa : Option Addr) (sl sc : Nat) (Z : Nat → Int) (va : Option Addr) (n vc : Nat) (I Bt : Nat → Int) (k : Nat) (hi1 : ii ≤ 65536) (_hsl : sl ≤ 65536) (hZ : Row .u64 w R sa sl Z)
    (h : Shr w R sa sl sc va n vc I Bt) (hk : k ≤ n) (hlow : ∀ j, j < k → I j < ii) (hhigh : ∀ j, k ≤ j → j < n → ii < I j) (hsh : (ii < sl ∧ Z ii = sh) ∨ (sl ≤ ii ∧ 0 = sh)) (hand : (bits .and .u64 sh bit != 0) = false) (hn8 : n < 8) :
    Calls Try.prog 54 #[.pointer (some ⟨R, 0, none⟩), .int .i64 ii, .int .u64 bit] w fun e w' => e = .returned (.tuple #[]) ∧ (∃ va n vc I Bt, Shr w' R sa sl sc va n vc I Bt) ∧ Below R w w' := by
  obtain ⟨hR, hn, hC, hS⟩ := h
  obtain ⟨c0, c1, c2, f0, f1, f2⟩ := cells3 hR
  obtain ⟨xs, hrow, hxs⟩ := hC.row
  obtain ⟨i0, hi, hz0, hz1, hz2⟩ := info_parts info118
  have HL : Hid (∀ j, j < k → I j < ii) := hlow
  have HHI : Hid (∀ j, k ≤ j → j < n → ii < I j) := hhigh
  have HXS : Hid (∀ j, j < n → xs[j * 2]? = some (.int .i64 (I j)) ∧ xs[j * 2 + 1]? = some (.int .u64 (Bt j))) := hxs
  have HSR : Hid (Srt n I) := hS
  have hRlt := lt_of_block hR
  clear hS hlow hhigh hxs
  rcases hsh with ⟨hii, hsh⟩ | ⟨hii, rfl⟩
  case' inl =>
    obtain h0 | ⟨b, o, rfl, hb, hcells⟩ := hZ
    · omega
    have hcs := hcells ii hii
    rw [hsh] at hcs
    clear hcells hsh
  all_goals
    have i1 : (k : Int) ≤ (n : Int) := by omega
    go_enter Try.func54, Try.ntmps54
    go_wp2_with fail
    go_loop [6] (fun a => ∃ q : Nat, q ≤ k ∧ a = .int .i64 q) (fun a => k - (intOf a).toNat)
    case atStart => exact ⟨0, by omega, rfl⟩
    case round =>
      obtain ⟨q, hq, rfl⟩ := hrel
      by_cases hlt : q < k
      · obtain ⟨g', rfl, _, d0', _⟩ := hC.cell (show q < n by omega)
        have hql := HL.out q hlt
        have i2 : (q : Int) < (n : Int) := by omega
        go_wp2
        go_round
        case rel => exact ⟨q + 1, by omega, by go_num⟩
        case measure => simp [intOf]; omega
      · obtain rfl : q = k := by omega
        by_cases hkn : q < n
        case' pos =>
          obtain ⟨g', rfl, _, d0', _⟩ := hC.cell hkn
          have hqh := HHI.out q (Nat.le_refl _) hkn
          have hne : (I q == (ii : Int)) = false := beq_eq_false_iff_ne.2 (by omega)
        all_goals
          clear hC
          go_wp2_with (at_builtin; refine wpList_append_lies _ rfl (.tmp 121) (.tmp 123) 83 rfl (R + 1) 118 i0 (.agg #[.int .i64 0, .int .u64 0]) 2 16 Try.underlying83 hi hz0 hz1 hz2 rfl (by decide) _ n _ rfl (hrow.alloc _) ⟨w.heap.size, 0, none⟩ 1 1 [.int .i64 0, .int .u64 0] rfl rfl (World.news_of_block (heap_alloc_new _ _)) (fun u hu => by simp at hu; rcases hu with rfl | rfl <;> rfl) (by decide) (by unfold maxLen; omega) (by omega) (by simp; omega) (w.heap.size + 1) (by simp) ?_)
          intro g cap w1 hown hgrow hat hlt1
          have hR1 := grown_R hR (fun e => by have := own_far hrow e; omega) hgrow
          have hB1 : Below R w w1 := ((Below.refl R w).alloc (Nat.le_of_lt hRlt) _).grown hgrow (by simp; omega) (fun k hk => Nat.le_of_lt (own_far hrow hk))
          obtain ⟨hR2, cur, hM⟩ := room_mid hR1 (by simpa using hrow.1) HXS.out hown rfl
          have hB2 := hB1.setCell (p := ⟨R, 2, none⟩) (Nat.le_refl _) (.slice (some ⟨g, 0, none⟩) (n + 1) cap)
          obtain ⟨d0, d1, d2, e0, e1, e2⟩ := cells3 hR1
          have HM : Hid (Mid (w1.setCell ⟨R, 2, none⟩ (.slice (some ⟨g, 0, none⟩) (n + 1) cap)) R g n cap cur I Bt) := hM
          have HR2 := hR2
          clear hown hgrow hat hlt1 hR hrow hM hi hz0 hz1 hz2 c0 c1 c2 f0 f1 f2 hR2
          go_wp2_with fail
          clear d0 d1 d2 e0 e1 e2
          generalize (w1.setCell ⟨R, 2, none⟩ (.slice (some ⟨g, 0, none⟩) (n + 1) cap)) = w2 at HM HR2 hB2 ⊢
          obtain ⟨d0, d1, d2, e0, e1, e2⟩ := cells3 HR2
          obtain ⟨hg, hcs2, hnc, hcm, hRg, hpairs⟩ := HM.out
          have j1 : ((q : Int) + 1) ≤ (n : Int) + 1 := by omega
          have j2 : ((n : Int) + 1) ≤ (cap : Int) := by omega
          obtain ⟨cur3, w3, hcp, hg3, hs3, ho3, hb3, hlo3, hhi3⟩ := copy_shift HM.out q hk (fun v hv => by
            obtain ⟨t, ht⟩ := List.getElem?_of_mem hv
            rw [List.getElem?_take] at ht
            split at ht
            · rw [Array.getElem?_toList] at ht
              have hp := hpairs (t / 2) (by omega)
              rcases (show t = t / 2 * 2 ∨ t = t / 2 * 2 + 1 by omega) with e | e
              · rw [e, hp.1] at ht; simp at ht; rw [← ht]; rfl
              · rw [e, hp.2] at ht; simp at ht; rw [← ht]; rfl
            · cases ht)
          have HR3 : w3.heap[R]? = _ := (ho3 R (by omega)).trans HR2
          obtain ⟨p0, p1, p2, q0, q1, q2⟩ := cells3 HR3
          have hB3 := hB2.trans hb3
          have hx1 : w3.cell? ⟨g, q * 2, none⟩ = some cur3[q * 2] := (block_cell hg3 _).trans (Array.getElem?_eq_getElem (by omega))
          have hx2 : w3.cell? ⟨g, q * 2 + 1, none⟩ = some cur3[q * 2 + 1] := (block_cell hg3 _).trans (Array.getElem?_eq_getElem (by omega))
          have hy1 := block_free hg3 (q * 2)
          have hy2 := block_free hg3 (q * 2 + 1)
          have HE := fun y => room_end (I := I) (Bt := Bt) (x := ii) (y := y) hk hn8 hnc hcm hRg HR3 hg3 hs3 hlo3 hhi3 (ins_srt HSR.out hk (by omega) (by omega) HL.out HHI.out)
          have HEND := fun y => hB3.setCell (p := ⟨g, q * 2, none⟩) (Nat.le_of_lt hRg) (.int .i64 ii) |>.setCell (p := ⟨g, q * 2 + 1, none⟩) (Nat.le_of_lt hRg) (.int .u64 y)
          generalize cur3[q * 2] = x1 at hx1
          generalize cur3[q * 2 + 1] = x2 at hx2
          clear hg hcs2 hpairs hg3 hs3 ho3 hb3 hlo3 hhi3 HR3 HR2
          first
            | (have hcq := fun D => hcp D (fun h => absurd h hkn)
               clear hcp
               go_region)
            | (have hcq := hcp (some ⟨g, (q + 1) * 2, none⟩) (fun _ => rfl)
               clear hcp
               go_region)
          all_goals
            go_wp2
            all_goals
              go_returns
              exact ⟨rfl, ⟨_, _, _, _, _, HE _⟩, HEND _⟩
end Go.Proofs.Qxb6600021a
