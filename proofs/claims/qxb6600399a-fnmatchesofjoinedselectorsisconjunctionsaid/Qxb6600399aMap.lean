import Derived.Test.Qxb6600399aVecs
import Derived.Maps.OwnSet
import Derived.Maps.StringElems
namespace Go.Proofs.Qxb6600399a
open Go.RowKit

theorem zero9 (w : World) : (zeroValue 9).run Try.prog w = .ok (.string ByteArray.empty) w := by
  obtain ⟨i, hi, hz, _⟩ := info_parts info9
  simp [zeroValue, typeInfo, hi, hz]

/-- What a look-up in the map at block b finds, in whatever world holds that block. -/
def MapIs (w : World) (b : Nat) (L : ByteArray → ByteArray × Bool) : Prop :=
  ∀ w' : World, w'.heap[b]? = w.heap[b]? → ∀ k : ByteArray, k.size ≤ maxLen → (Instr.lookup 42 (.map (some b)) (.string k) true).run Try.prog w' = .ok (.tuple #[.string (L k).1, .bool (L k).2]) w'

theorem MapIs.mono {w w' : World} {b B : Nat} {L : ByteArray → ByteArray × Bool} (h : MapIs w b L) (hb : Below B w w') (hB : b < B) : MapIs w' b L := fun w2 h2 k hk => h w2 (h2.trans (hb.block b hB)) k hk

abbrev Owns (w : World) (b n : Nat) (D : DataW Unit) : Prop := w.ownsMap Try.prog 9 (plainElem Try.prog 9) b n D

def strOf : DataW Unit → ByteArray
  | .lit (.string l) => ⟨l.toArray⟩
  | _ => ByteArray.empty

theorem owns_is {w : World} {b n : Nat} {D : DataW Unit} (h : Owns w b n D) : MapIs w b (fun k => (strOf (D.atKey (.string k.data.toList) (.lit (.string []))), Maps.has D (.string k.data.toList))) := by
  intro w' hw k hk
  have h' : Owns w' b n D := by
    obtain ⟨es, clock, hb, r⟩ := h
    exact ⟨es, clock, hw.trans hb, r⟩
  obtain ⟨v, ps, hrun, hv⟩ := h'.look_ok (t := 42) (e := 9) (Maps.string_keyed Try.underlying9) Try.underlying42 (zero9 w') (plainElem_string Try.underlying9 (by decide)) (WideMaps.keyOf_string_mk Try.underlying9 hk)
  obtain ⟨s, rfl, hz, _⟩ := plainElem_string_inv Try.underlying9 hv
  rw [hrun]
  have e : D.atKey (.string k.data.toList) (.lit (.string [])) = .lit (.string s.data.toList) := by simpa using congrArg Prod.fst hz
  show _ = Result.ok (Value.tuple #[.string (strOf (D.atKey (.string k.data.toList) (.lit (.string [])))), .bool (Maps.has D (.string k.data.toList))]) w'
  rw [e]
  rfl

def MapPost (w : World) (e : Ending) (w' : World) : Prop := ∃ b L, e = .returned (.map (some b)) ∧ b < w'.heap.size ∧ MapIs w' b L ∧ Below w.heap.size w w'

set_option maxHeartbeats 400000 in
theorem labelMap_any (ao bo : Option Addr) (len cap cap2 : Nat) (S T : Nat → ByteArray) (w : World) (hlen : len ≤ 1048576) (hS : ∀ j, j < len → (S j).size ≤ 1048576) (hT : ∀ j, j < len → (T j).size ≤ 1048576) (hz : Row w w.heap.size ao len (strV S)) (hy : Row w w.heap.size bo len (strV T)) :
    Calls Try.prog 26 #[.slice ao len cap, .slice bo len cap2] w (MapPost w) := by
  have HS : Hid (∀ j, j < len → (S j).size ≤ 1048576) := hS
  have HT : Hid (∀ j, j < len → (T j).size ≤ 1048576) := hT
  have hmm := @run_makeMap Try.prog
  obtain ⟨G, hG⟩ : ∃ G, G = w.heap.size := ⟨_, rfl⟩
  clear hS hT
  go_enter Try.func26, Try.ntmps26
  go_wp2
  go_loopw [6] (fun i wr => ∃ (k : Nat) (D : DataW Unit), k ≤ len ∧ i = .int .i64 k ∧ Owns wr G k D ∧ Below G w wr) (fun i _ => len - (intOf i).toNat)
  case atStart => exact ⟨0, .map [], by omega, rfl, by rw [hG]; exact World.ownsMap_made _ _ _ _, (Below.refl G w).alloc (by omega) _⟩
  case round =>
    obtain ⟨k, D, hk, rfl, ho, hbel⟩ := hrel
    rw [← hG]
    have HG : Hid (G = w.heap.size) := hG
    clear hG
    have HO : Hid (Owns wr G k D) := ho
    clear ho
    by_cases hlt : k < len
    · obtain h0 | ⟨b, o, rfl, hb, hcells⟩ := hz.2
      · omega
      obtain h0 | ⟨b2, o2, rfl, hb2, hcells2⟩ := hy.2
      · omega
      have hc : wr.cell? ⟨b, o + k, none⟩ = some (.string (S k)) := (hbel.cell (p := ⟨b, o + k, none⟩) (by rw [HG.out]; exact hb)).trans (hcells k hlt)
      have hc2 : wr.cell? ⟨b2, o2 + k, none⟩ = some (.string (T k)) := (hbel.cell (p := ⟨b2, o2 + k, none⟩) (by rw [HG.out]; exact hb2)).trans (hcells2 k hlt)
      have s1 := HS.out k hlt
      have s2 := HT.out k hlt
      obtain ⟨w1, hrun, hown1, hgrow1⟩ := World.ownsMap.update (w := wr.drew) (t := 42) (e := 9) HO.out.drew (Maps.string_keyed Try.underlying9) Try.underlying42 (by unfold maxLen; omega) (WideMaps.keyOf_string_mk Try.underlying9 (show (S k).size ≤ maxLen by unfold maxLen; omega)) (plainElem_string Try.underlying9 (show (T k).size ≤ maxLen by unfold maxLen; omega))
      have hGlt : G < wr.heap.size := HO.out.lt
      have hb1 : Below G w w1 := hbel.trans ((Below.refl G wr).drew.grown hgrow1 (Nat.le_of_lt hGlt) (fun k hk => by simp at hk; omega))
      have HB1 : Hid (Below G w w1) := hb1
      have HO1 : Hid (Owns w1 G (k + 1) _) := hown1
      have i1 : (k : Int) < (len : Int) := by omega
      clear hcells hcells2 hz hy hbel hb1 hown1 hgrow1
      go_wp2_with fail
      go_region
      all_goals
        go_wp2
        go_roundw
        case rel => exact ⟨k + 1, _, by omega, by go_num, HO1.out, HB1.out⟩
        case measure => simp [intOf]; omega
    · obtain rfl : k = len := by omega
      go_wp2
      go_ret
      exact ⟨G, _, rfl, HO.out.lt, owns_is HO.out, by rw [← HG.out]; exact hbel⟩
end Go.Proofs.Qxb6600399a
