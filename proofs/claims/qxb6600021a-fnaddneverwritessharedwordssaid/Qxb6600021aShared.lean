import Derived.Test.Qxb6600021aCopy
import Derived.Deep.RegionLaw
namespace Go.Proofs.Qxb6600021a
open Go.RowKit

/-- The changed words of a run: n pairs in a row of its own; nil where there is none. -/
def Chg (w : World) (R : Nat) (va : Option Addr) (n vc : Nat) (I Bt : Nat → Int) : Prop :=
  (va = none ∧ n = 0 ∧ vc = 0) ∨ ∃ (g : Nat) (cur : Array Value), va = some ⟨g, 0, none⟩ ∧ R < g ∧ w.heap[g]? = some (.cells cur 118 (0, 0)) ∧ n ≤ vc ∧ vc ≤ maxLen ∧ cur.size = vc * 2 ∧
    ∀ j, j < n → cur[j * 2]? = some (.int .i64 (I j)) ∧ cur[j * 2 + 1]? = some (.int .u64 (Bt j))

def Srt (n : Nat) (I : Nat → Int) : Prop := (∀ j, j < n → 0 ≤ I j ∧ I j ≤ 65536) ∧ ∀ j k, j < k → k < n → I j < I k

/-- The state of a run that shares its words. -/
def Shr (w : World) (R : Nat) (sa : Option Addr) (sl sc : Nat) (va : Option Addr) (n vc : Nat) (I Bt : Nat → Int) : Prop :=
  w.heap[R]? = some (.cells #[.slice sa sl sc, .bool false, .slice va n vc] 87 (0, 0)) ∧ n ≤ 8 ∧ Chg w R va n vc I Bt ∧ Srt n I

theorem Chg.cell {w : World} {R : Nat} {va : Option Addr} {n vc : Nat} {I Bt : Nat → Int} (h : Chg w R va n vc I Bt) {j : Nat} (hj : j < n) :
    ∃ g, va = some ⟨g, 0, none⟩ ∧ R < g ∧ w.cell? ⟨g, j * 2, none⟩ = some (.int .i64 (I j)) ∧ w.cell? ⟨g, j * 2 + 1, none⟩ = some (.int .u64 (Bt j)) ∧ w.frozen? ⟨g, j * 2, none⟩ = false ∧ w.frozen? ⟨g, j * 2 + 1, none⟩ = false := by
  obtain ⟨_, h0, _⟩ | ⟨g, cur, h1, h2, h3, h4, h5, h6, h7⟩ := h
  · omega
  · exact ⟨g, h1, h2, (block_cell h3 _).trans (h7 j hj).1, (block_cell h3 _).trans (h7 j hj).2, block_free h3 _, block_free h3 _⟩

/-- 'changed[k].bits |= bit': the pairs stay pairs. -/
theorem shr_or {w : World} {R : Nat} {sa : Option Addr} {sl sc g n vc : Nat} {I Bt : Nat → Int} (h : Shr w R sa sl sc (some ⟨g, 0, none⟩) n vc I Bt) {k : Nat} (hk : k < n) (q : Int) :
    Shr (w.setCell ⟨g, k * 2 + 1, none⟩ (.int .u64 q)) R sa sl sc (some ⟨g, 0, none⟩) n vc I (fun j => if j = k then q else Bt j) := by
  obtain ⟨hR, hn, hC, hS⟩ := h
  obtain ⟨_, h0, _⟩ | ⟨g', cur, h1, h2, h3, h4, h5, h6, h7⟩ := hC
  · omega
  obtain rfl : g = g' := by simpa using h1
  refine ⟨by rw [heap_other (by omega)]; exact hR, hn, .inr ⟨g, _, rfl, h2, block_setCell h3 _ _, h4, h5, by simpa using h6, fun j hj => ⟨?_, ?_⟩⟩, hS⟩
  · rw [Array.getElem?_setIfInBounds, if_neg (by omega)]; exact (h7 j hj).1
  · rw [Array.getElem?_setIfInBounds]
    by_cases e : j = k
    · subst e; rw [if_pos rfl, if_pos (by omega)]; simp
    · rw [if_neg (by omega)]; simp only [e, if_false]; exact (h7 j hj).2

set_option maxRecDepth 100000 in
set_option maxHeartbeats 400000 in
theorem add_hit (R ii : Nat) (bit : Int) (w : World) (sa : Option Addr) (sl sc : Nat) (va : Option Addr) (n vc : Nat) (I Bt : Nat → Int) (k : Nat) (_hi1 : ii ≤ 65536)
    (h : Shr w R sa sl sc va n vc I Bt) (hk : k < n) (hlow : ∀ j, j < k → I j < ii) (heq : I k = ii) :
    Calls Try.prog 54 #[.pointer (some ⟨R, 0, none⟩), .int .i64 ii, .int .u64 bit] w fun e w' => e = .returned (.tuple #[]) ∧ (∃ va n vc I Bt, Shr w' R sa sl sc va n vc I Bt) ∧ Below R w w' := by
  have HH := h
  obtain ⟨hR, hn, hC, hS⟩ := h
  obtain ⟨c0, c1, c2, f0, f1, f2⟩ := cells3 hR
  obtain ⟨g, rfl, hRg, d0, d1, e0, e1⟩ := hC.cell hk
  rw [heq] at d0
  have HL : Hid (∀ j, j < k → I j < ii) := hlow
  have HE : Hid (I k = ii) := heq
  have i1 : (k : Int) < (n : Int) := by omega
  clear hS hR hlow heq
  go_enter Try.func54, Try.ntmps54
  go_wp2_with fail
  go_loop [6] (fun a => ∃ q : Nat, q ≤ k ∧ a = .int .i64 q) (fun a => k - (intOf a).toNat)
  case atStart => exact ⟨0, by omega, rfl⟩
  case round =>
    obtain ⟨q, hq, rfl⟩ := hrel
    by_cases hlt : q < k
    · obtain ⟨g', hg', _, d0', _⟩ := hC.cell (show q < n by omega)
      obtain rfl : g' = g := by simpa using hg'.symm
      have hql := HL.out q hlt
      have i2 : (q : Int) < (n : Int) := by omega
      clear hg'
      go_wp2
      go_round
      case rel => exact ⟨q + 1, by omega, by go_num⟩
      case measure => simp [intOf]; omega
    · obtain rfl : q = k := by omega
      clear hC
      go_wp2
      go_returns
      exact ⟨rfl, ⟨_, _, _, _, _, shr_or HH hk _⟩, (Below.refl _ _).setCell (by show R ≤ g; omega) _⟩

set_option maxRecDepth 100000 in
set_option maxHeartbeats 400000 in
theorem add_seen (R ii : Nat) (bit sh : Int) (w : World) (sa : Option Addr) (sl sc : Nat) (Z : Nat → Int) (va : Option Addr) (n vc : Nat) (I Bt : Nat → Int) (k : Nat) (_hi1 : ii ≤ 65536) (_hsl : sl ≤ 65536) (hZ : Row .u64 w R sa sl Z)
    (h : Shr w R sa sl sc va n vc I Bt) (hk : k ≤ n) (hlow : ∀ j, j < k → I j < ii) (hhigh : ∀ j, k ≤ j → j < n → ii < I j) (hsh : (ii < sl ∧ Z ii = sh) ∨ (sl ≤ ii ∧ 0 = sh)) (hand : (bits .and .u64 sh bit != 0) = true) :
    Calls Try.prog 54 #[.pointer (some ⟨R, 0, none⟩), .int .i64 ii, .int .u64 bit] w fun e w' => e = .returned (.tuple #[]) ∧ w = w' := by
  obtain ⟨hR, hn, hC, hS⟩ := h
  obtain ⟨c0, c1, c2, f0, f1, f2⟩ := cells3 hR
  have HL : Hid (∀ j, j < k → I j < ii) := hlow
  have HHI : Hid (∀ j, k ≤ j → j < n → ii < I j) := hhigh
  clear hS hR hlow hhigh
  rcases hsh with ⟨hii, hsh⟩ | ⟨hii, rfl⟩
  case' inl =>
    obtain h0 | ⟨b, o, rfl, hb, hcells⟩ := hZ
    · omega
    have hcs := hcells ii hii
    rw [hsh] at hcs
    clear hcells hsh
  all_goals
    have i1 : (k : Int) ≤ (n : Int) := by omega
    go_enter Try.func54, Try.ntmps54
    go_wp2_with fail
    go_loop [6] (fun a => ∃ q : Nat, q ≤ k ∧ a = .int .i64 q) (fun a => k - (intOf a).toNat)
    case atStart => exact ⟨0, by omega, rfl⟩
    case round =>
      obtain ⟨q, hq, rfl⟩ := hrel
      by_cases hlt : q < k
      · obtain ⟨g', rfl, _, d0', _⟩ := hC.cell (show q < n by omega)
        have hql := HL.out q hlt
        have i2 : (q : Int) < (n : Int) := by omega
        go_wp2
        go_round
        case rel => exact ⟨q + 1, by omega, by go_num⟩
        case measure => simp [intOf]; omega
      · obtain rfl : q = k := by omega
        by_cases hkn : q < n
        · obtain ⟨g', rfl, _, d0', _⟩ := hC.cell hkn
          have hqh := HHI.out q (Nat.le_refl _) hkn
          have hne : (I q == (ii : Int)) = false := beq_eq_false_iff_ne.2 (by omega)
          clear hC
          go_wp2
          go_returns
          exact ⟨rfl, rfl⟩
        · clear hC
          go_wp2
          go_returns
          exact ⟨rfl, rfl⟩
end Go.Proofs.Qxb6600021a
