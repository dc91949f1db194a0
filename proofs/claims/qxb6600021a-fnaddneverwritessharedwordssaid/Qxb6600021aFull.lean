import Derived.Test.Qxb6600021aFullLaws
namespace Go.Proofs.Qxb6600021a
open Go.RowKit

set_option maxRecDepth 100000 in
set_option maxHeartbeats 2000000 in
theorem add_full (R ii : Nat) (bit sh : Int) (w : World) (sa : Option Addr) (sl sc : Nat) (Z : Nat → Int) (va : Option Addr) (n vc : Nat) (I Bt : Nat → Int) (k : Nat) (hi1 : ii ≤ 65536) (hsl : sl ≤ 65536) (hZ : Row .u64 w R sa sl Z)
    (h : Shr w R sa sl sc va n vc I Bt) (hk : k ≤ n) (hlow : ∀ j, j < k → I j < ii) (hhigh : ∀ j, k ≤ j → j < n → ii < I j) (hsh : (ii < sl ∧ Z ii = sh) ∨ (sl ≤ ii ∧ 0 = sh)) (hand : (bits .and .u64 sh bit != 0) = false) (hn8 : 8 ≤ n) :
    Calls Try.prog 54 #[.pointer (some ⟨R, 0, none⟩), .int .i64 ii, .int .u64 bit] w fun e w' => e = .returned (.tuple #[]) ∧ (∃ g n cap cur, Owned w' R g n cap cur) ∧ Below R w w' := by
  have HH : Hid (Shr w R sa sl sc va n vc I Bt) := h
  have HZ : Hid (Row .u64 w R sa sl Z) := hZ
  obtain ⟨hR, hn, hC, hS⟩ := h
  obtain ⟨c0, c1, c2, f0, f1, f2⟩ := cells3 hR
  have HL : Hid (∀ j, j < k → I j < ii) := hlow
  have HHI : Hid (∀ j, k ≤ j → j < n → ii < I j) := hhigh
  have HSR : Hid (Srt n I) := hS
  have hRlt := lt_of_block hR
  obtain ⟨g, rfl, hRg, _⟩ := hC.cell (show 0 < n by omega)
  clear hS hlow hhigh hR
  rcases hsh with ⟨hii, hsh⟩ | ⟨hii, rfl⟩
  case' inl =>
    obtain h0 | ⟨b, o, rfl, hb, hcells⟩ := hZ
    · omega
    have hcs := hcells ii hii
    rw [hsh] at hcs
    clear hcells hsh
  all_goals
    have i1 : (k : Int) ≤ (n : Int) := by omega
    have i8 : (8 : Int) ≤ (n : Int) := by omega
    go_enter Try.func54, Try.ntmps54
    go_wp2_with fail
    go_loop [6] (fun a => ∃ q : Nat, q ≤ k ∧ a = .int .i64 q) (fun a => k - (intOf a).toNat)
    case atStart => exact ⟨0, by omega, rfl⟩
    case round =>
      obtain ⟨q, hq, rfl⟩ := hrel
      by_cases hlt : q < k
      · obtain ⟨g', hg', _, d0', _⟩ := hC.cell (show q < n by omega)
        obtain rfl : g = g' := by simpa using hg'
        have hql := HL.out q hlt
        have i2 : (q : Int) < (n : Int) := by omega
        clear hg'
        go_wp2
        go_round
        case rel => exact ⟨q + 1, by omega, by go_num⟩
        case measure => simp [intOf]; omega
      · obtain rfl : q = k := by omega
        by_cases hkn : q < n
        case' pos =>
          obtain ⟨g', hg', _, d0', _⟩ := hC.cell hkn
          obtain rfl : g = g' := by simpa using hg'
          have hqh := HHI.out q (Nat.le_refl _) hkn
          have hne : (I q == (ii : Int)) = false := beq_eq_false_iff_ne.2 (by omega)
          clear hg'
        all_goals
          clear hC
          go_wp2_with fail
          refine (len_any R w _ sl sc _ n vc I Bt hsl HH.out (by omega)).mono ?_
          rintro e w1 ⟨m, rfl, hm1, hm2, hm3, q1, rfl⟩
          have hShr : Shr (w.drewN q1) R _ sl sc (some ⟨g, 0, none⟩) n vc I Bt := HH.out
          have hRow : Row .u64 (w.drewN q1) R _ sl Z := HZ.out
          have hBW : Below R w (w.drewN q1) := below_drewN (Below.refl _ _) _
          generalize w.drewN q1 = W at hShr hRow hBW ⊢
          clear c0 c1 c2 f0 f1 f2
          obtain ⟨hR, _, hC, hS⟩ := hShr
          obtain ⟨c0, c1, c2, f0, f1, f2⟩ := cells3 hR
          have hRW := lt_of_block hR
          by_cases hmx : (m : Int) < (ii : Int) + 1
          case' pos =>
            obtain ⟨T, hT⟩ : ∃ T, T = ii + 1 := ⟨_, rfl⟩
            have hmk := make_T T ((ii : Int) + 1) (by omega) (by omega)
          case' neg =>
            obtain ⟨T, hT⟩ : ∃ T, T = m := ⟨_, rfl⟩
            have hmk := make_T T (m : Int) (by omega) (by omega)
          all_goals
            have hTs : sl ≤ T := by omega
            have hTi : ii < T := by omega
            have hTn : I (n - 1) < T := by omega
            have hTm : T ≤ 65537 := by omega
            obtain ⟨C0, hW0, hcp⟩ := copy_words W _ sl sc T Z R hRow (Nat.le_of_lt hRW) hTs
            have HC : Hid (Chg W R (some ⟨g, 0, none⟩) n vc I Bt) := hC
            have HRW : Hid (W.heap[R]? = _) := hR
            have a0 : ∀ o, (W.alloc o).cell? ⟨R, 0, none⟩ = _ := fun o => (World.cell?_alloc_lt _ _ _ hRW).trans c0
            have a2 : ∀ o, (W.alloc o).cell? ⟨R, 2, none⟩ = _ := fun o => (World.cell?_alloc_lt _ _ _ hRW).trans c2
            have HW0 : Hid (Words C0 T) := hW0
            clear hC hR hW0 hT hS hRow hm1 hm2 hm3
            go_wp2_with fail
            clear hmk hcp a0 a2 c0 c1 c2 f0 f1 f2 hmx hand
            obtain ⟨G, hGW⟩ : ∃ G, G = W.heap.size := ⟨_, rfl⟩
            have HGW : Hid (G = W.heap.size) := hGW
            go_loopw [169] (fun c wr => ∃ t : Nat, t ≤ n ∧ c = .int .i64 t ∧ ∃ C, wr.heap[G]? = some (.cells C 29 (0, 0)) ∧ Words C T ∧ Below G W wr) (fun c _ => n - (intOf c).toNat)
            case atStart => exact ⟨0, by omega, rfl, C0, by rw [hGW]; exact heap_alloc_new _ _, HW0.out, (Below.refl G W).alloc (by omega) _⟩
            case round =>
              obtain ⟨t, ht, rfl, C, hCG, hWC, hbel⟩ := hrel
              rw [← hGW]
              clear hGW
              have hGlt := lt_of_block hCG
              by_cases htn : t < n
              · obtain ⟨g', hg', _, e0, e1, _⟩ := HC.out.cell htn
                obtain rfl : g = g' := by simpa using hg'
                have hgG : g < G := by
                  have := World.block_lt_of_cell? _ _ e0
                  have := HGW.out
                  simp_all
                have e0' := (hbel.cell (p := ⟨g, t * 2, none⟩) hgG).trans e0
                have e1' := (hbel.cell (p := ⟨g, t * 2 + 1, none⟩) hgG).trans e1
                have hI := HSR.out.1 t htn
                have hIT : I t < T := by
                  rcases Nat.lt_or_ge t (n - 1) with d | d
                  · have := HSR.out.2 t (n - 1) d (by omega); omega
                  · rw [show t = n - 1 by omega]; exact hTn
                obtain ⟨x, hx⟩ := Int.eq_ofNat_of_zero_le hI.1
                rw [hx] at e0' hIT
                have hxT : x < T := by omega
                obtain ⟨qx, hqx⟩ := hWC.2 x hxT
                have hcx : ∀ ob, (wr.alloc ob).cell? ⟨G, x, none⟩ = some (.int .u64 qx) := fun ob => (World.cell?_alloc_lt _ _ _ hGlt).trans ((block_cell hCG x).trans hqx)
                have hfx : ∀ ob, (wr.alloc ob).frozen? ⟨G, x, none⟩ = false := fun ob => (((Below.refl wr.heap.size wr).alloc (Nat.le_refl _) ob).frozen (p := ⟨G, x, none⟩) hGlt).trans (block_free hCG x)
                have HF := fun ob => full_round (q := Bt t) (x := x) (o := ob) hCG hWC hbel
                have i3 : (t : Int) < (n : Int) := by omega
                clear hx hg' e0 e1 hI hCG hqx hWC
                go_wp2
                go_roundw
                case rel =>
                  obtain ⟨C', h1, h2, h3⟩ := HF _
                  exact ⟨t + 1, by omega, by go_num, C', h1, h2, h3⟩
                case measure => simp [intOf]; omega
              · obtain rfl : t = n := by omega
                have hRG : R < G := by have := HGW.out; omega
                have hR3 := (hbel.block R hRG).trans HRW.out
                obtain ⟨c0, c1, c2, f0, f1, f2⟩ := cells3 hR3
                obtain ⟨qx, hqx⟩ := hWC.2 ii hTi
                have hcx := (block_cell hCG ii).trans hqx
                have hfx := block_free hCG ii
                have i4 : (ii : Int) < (T : Int) := by omega
                have HE := fun q => full_end (w3 := wr.setCell ⟨G, ii, none⟩ (.int .u64 q)) (by rw [heap_other (by omega)]; exact hR3) (block_setCell hCG ii _) (hWC.set ii q) hRG hTm
                have HB := fun q => hBW.trans (((((hbel.mono (Nat.le_of_lt hRG)).setCell (p := ⟨G, ii, none⟩) (Nat.le_of_lt hRG) (.int .u64 q)).setCell (p := ⟨R, 0, none⟩) (Nat.le_refl R) (.slice (some ⟨G, 0, none⟩) T T)).setCell (p := ⟨R, 2, none⟩) (Nat.le_refl R) (.slice none 0 0)).setCell (p := ⟨R, 1, none⟩) (Nat.le_refl R) (.bool true))
                clear hCG hWC hqx hR3
                go_wp2
                go_returns
                exact ⟨rfl, ⟨_, _, _, _, HE _⟩, HB _⟩
end Go.Proofs.Qxb6600021a
