import Derived.Test.Qxb6600399aSel
import Derived.Test.Qxb6600399aMap
import Derived.Test.Qxb6600399aHas
namespace Go.Proofs.Qxb6600399a
open Go.RowKit

/-- Does the label set meet the requirement? -/
def meets (L : ByteArray → ByteArray × Bool) (q : Rq) : Bool :=
  ((L q.key).2 && (q.v.a.isNone || hasB q.v.s q.v.n (L q.key).1)) == q.h

def allB (f : Nat → Bool) : Nat → Bool
  | 0 => true
  | n + 1 => allB f n && f n

theorem Sel.mono {w w' : World} {B B' : Nat} {ao : Option Addr} {len : Nat} {Q : Nat → Rq} (h : Sel w B ao len Q) (hb : Below B w w') (hB : B ≤ B') : Sel w' B' ao len Q := by
  refine ⟨?_, fun j hj => ⟨(h.2 j hj).1, (h.2 j hj).2.1, (h.2 j hj).2.2.mono hb hB⟩⟩
  rcases h.1 with h | ⟨b, h1, h2, h3⟩
  · exact .inl h
  · refine .inr ⟨b, h1, by omega, fun j hj => ?_⟩
    have := h3 j hj
    exact ⟨(hb.cell (p := ⟨b, j * 3, none⟩) h2).trans this.1, (hb.cell (p := ⟨b, j * 3 + 1, none⟩) h2).trans this.2.1, (hb.cell (p := ⟨b, j * 3 + 2, none⟩) h2).trans this.2.2⟩

def MatchPost (L : ByteArray → ByteArray × Bool) (len : Nat) (Q : Nat → Rq) (w : World) (e : Ending) (w' : World) : Prop :=
  e = .returned (.bool (allB (fun j => meets L (Q j)) len)) ∧ Below w.heap.size w w'

theorem allB_false {f : Nat → Bool} : ∀ {n k : Nat}, k < n → f k = false → allB f n = false
  | n + 1, k, h, e => by
    unfold allB
    by_cases hk : k = n
    · subst hk; rw [e]; simp
    · rw [allB_false (show k < n by omega) e]; rfl

set_option maxHeartbeats 1000000 in
theorem matches_any (ao : Option Addr) (len cap b : Nat) (Q : Nat → Rq) (L : ByteArray → ByteArray × Bool) (w : World) (hlen : len ≤ 2097152) (hS : Sel w w.heap.size ao len Q) (hM : MapIs w b L) (hbm : b < w.heap.size) :
    Calls Try.prog 28 #[.slice ao len cap, .map (some b)] w (MatchPost L len Q w) := by
  have HS : Hid (Sel w w.heap.size ao len Q) := hS
  have HM : Hid (MapIs w b L) := hM
  clear hM
  go_enter Try.func28, Try.ntmps28
  go_wp2
  go_loopw [12] (fun i wr => ∃ k : Nat, k ≤ len ∧ i = .int .i64 k ∧ allB (fun j => meets L (Q j)) k = true ∧ Below w.heap.size w wr) (fun i _ => len - (intOf i).toNat)
  case atStart => exact ⟨0, by omega, rfl, rfl, Below.refl _ _⟩
  case round =>
    obtain ⟨k, hk, rfl, hall, hbel⟩ := hrel
    have HA : Hid (allB (fun j => meets L (Q j)) k = true) := hall
    clear hall
    by_cases hlt : k < len
    · obtain h0 | ⟨g, rfl, hg, hcells⟩ := hS.1
      · omega
      obtain ⟨x0, x1, x2⟩ := hcells k hlt
      obtain ⟨q1, q2, q3⟩ := hS.2 k hlt
      have y0 := (hbel.cell (p := ⟨g, k * 3, none⟩) hg).trans x0
      have y1 := (hbel.cell (p := ⟨g, k * 3 + 1, none⟩) hg).trans x1
      have y2 := (hbel.cell (p := ⟨g, k * 3 + 2, none⟩) hg).trans x2
      have hrow := q3.mono hbel hbel.size
      have hlk : ∀ o, (Instr.lookup 42 (.map (some b)) (.string (Q k).key) true).run Try.prog (wr.alloc o) = .ok (.tuple #[.string (L (Q k).key).1, .bool (L (Q k).key).2]) (wr.alloc o) := fun o =>
        HM.out (wr.alloc o) ((Below.heap_alloc wr o b (Nat.lt_of_lt_of_le hbm hbel.size)).trans (hbel.block b hbm)) _ (by unfold maxLen; omega)
      have i1 : (k : Int) < (len : Int) := by omega
      clear hcells x0 x1 x2 hS q3 q1
      obtain ⟨q, hq⟩ : ∃ q, q = Q k := ⟨_, rfl⟩
      rw [← hq] at y0 y1 y2 hrow hlk q2
      have HQ : Hid (Q k = q) := hq.symm
      clear hq
      obtain ⟨key, ⟨va, vn, vc, vs⟩, hh⟩ := q
      simp only at y0 y1 y2 hrow hlk q2
      obtain ⟨s, hs⟩ : ∃ s, s = (L key).1 := ⟨_, rfl⟩
      obtain ⟨f, hf⟩ : ∃ f, f = (L key).2 := ⟨_, rfl⟩
      rw [← hs, ← hf] at hlk
      have HME : Hid (meets L (Q k) = ((f && (va.isNone || hasB vs vn s)) == hh)) := by rw [show Hid _ = _ from rfl, HQ.out, hs, hf]; rfl
      have HNX : Hid (meets L (Q k) = true → allB (fun j => meets L (Q j)) (k + 1) = true) := fun h => by unfold allB; rw [HA.out, h]; rfl
      have HNO : Hid (meets L (Q k) = false → allB (fun j => meets L (Q j)) len = false) := fun h => allB_false hlt h
      have hBA := fun o => hbel.alloc hbel.size o
      clear hs hf HQ
      have hq := fun W a n c => Lib.run_eql_slice_nil (P := Try.prog) W 24 9 a n c 0 0 Try.underlying24
      rcases f with _ | _
      · -- not found
        rcases hh with _ | _
        · have HY : Hid (allB (fun j => meets L (Q j)) (k + 1) = true) := HNX.out (by rw [HME.out]; rfl)
          clear HME HNX HNO HA HS HM hbel hrow
          go_wp2_with fail
          go_roundw
          case rel => exact ⟨k + 1, by omega, by go_num, HY.out, hBA _⟩
          case measure => simp [intOf]; omega
        · have HY : Hid (allB (fun j => meets L (Q j)) len = false) := HNO.out (by rw [HME.out]; rfl)
          clear HME HNX HNO HA HS HM hbel hrow
          go_wp2_with fail
          go_ret
          exact ⟨by rw [HY.out]; rfl, hBA _⟩
      · rcases va with _ | x
        · rcases hh with _ | _
          · have HY : Hid (allB (fun j => meets L (Q j)) len = false) := HNO.out (by rw [HME.out]; rfl)
            clear HME HNX HNO HA HS HM hbel hrow
            go_wp2_with fail
            go_ret
            exact ⟨by rw [HY.out]; rfl, hBA _⟩
          · have HY : Hid (allB (fun j => meets L (Q j)) (k + 1) = true) := HNX.out (by rw [HME.out]; rfl)
            clear HME HNX HNO HA HS HM hbel hrow
            go_wp2_with fail
            go_roundw
            case rel => exact ⟨k + 1, by omega, by go_num, HY.out, hBA _⟩
            case measure => simp [intOf]; omega
        · have hrA : ∀ o, Row (wr.alloc o) wr.heap.size (some x) vn (strV vs) := fun o => hrow.mono ((Below.refl wr.heap.size wr).alloc (Nat.le_refl _) o) (Nat.le_refl _)
          clear HA HS HM hbel hrow
          go_wp2_with fail
          refine (contains_any (some x) vn vc vs s _ wr.heap.size q2 (hrA _)).mono ?_
          rintro e w2 ⟨rfl, rfl⟩
          rcases hhas : hasB vs vn s with _ | _
          · rcases hh with _ | _
            · have HY : Hid (allB (fun j => meets L (Q j)) (k + 1) = true) := HNX.out (by rw [HME.out, hhas]; rfl)
              clear HME HNX HNO
              go_wp2_with fail
              go_roundw
              case rel => exact ⟨k + 1, by omega, by go_num, HY.out, hBA _⟩
              case measure => simp [intOf]; omega
            · have HY : Hid (allB (fun j => meets L (Q j)) len = false) := HNO.out (by rw [HME.out, hhas]; rfl)
              clear HME HNX HNO
              go_wp2_with fail
              go_ret
              exact ⟨by rw [HY.out]; rfl, hBA _⟩
          · rcases hh with _ | _
            · have HY : Hid (allB (fun j => meets L (Q j)) len = false) := HNO.out (by rw [HME.out, hhas]; rfl)
              clear HME HNX HNO
              go_wp2_with fail
              go_ret
              exact ⟨by rw [HY.out]; rfl, hBA _⟩
            · have HY : Hid (allB (fun j => meets L (Q j)) (k + 1) = true) := HNX.out (by rw [HME.out, hhas]; rfl)
              clear HME HNX HNO
              go_wp2_with fail
              go_roundw
              case rel => exact ⟨k + 1, by omega, by go_num, HY.out, hBA _⟩
              case measure => simp [intOf]; omega
    · obtain rfl : k = len := by omega
      go_wp2
      go_ret
      refine ⟨?_, hbel⟩
      rw [HA.out]
      rfl
end Go.Proofs.Qxb6600399a
