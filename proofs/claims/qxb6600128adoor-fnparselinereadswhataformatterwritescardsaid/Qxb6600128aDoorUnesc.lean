import Derived.Test.Qxb6600128aDoorOct
import Derived.Test.Qxb6600128aDoorApp
namespace Go.Proofs.Qxb6600128aDoor
open Go.RowKit

def needs (c : UInt8) : Bool := c.toNat == 92 || !(decide (33 ≤ c.toNat ∧ c.toNat ≤ 126))
def escB (c : UInt8) : List UInt8 := if needs c then [92, UInt8.ofNat (48 + c.toNat / 64), UInt8.ofNat (48 + c.toNat / 8 % 8), UInt8.ofNat (48 + c.toNat % 8)] else [c]
def esc (t : List UInt8) : List UInt8 := t.flatMap escB

def UnescPost (t : List UInt8) (w : World) (e : Ending) (w' : World) : Prop := e = .returned (.string ⟨t.toArray⟩) ∧ Below w.heap.size w w'

def UInv (w wr : World) (B : Nat) (t1 : List UInt8) : Prop := Lib.IsBuilder 52 5 B B (Lib.byteCells t1) wr ∧ Below B w wr ∧ B ≤ wr.heap.size

theorem esc_cons (c : UInt8) (t : List UInt8) : esc (c :: t) = escB c ++ esc t := by simp [esc]

theorem rest_len (s : ByteArray) (k : Nat) : (rest s k).length = s.size - k := by simp [rest]

theorem esc_plain {s : ByteArray} {k : Nat} {c : UInt8} {t : List UInt8} (h : rest s k = esc (c :: t)) (hk : k < s.size) (hc : needs c = false) : s[k] = c ∧ rest s (k + 1) = esc t := by
  rw [esc_cons, escB, if_neg (by simp [hc]), rest_cons hk] at h
  simpa using h

theorem esc_oct {s : ByteArray} {k : Nat} {c : UInt8} {t : List UInt8} (h : rest s k = esc (c :: t)) (hk : k < s.size) (hc : needs c = true) :
    s[k] = 92 ∧ k + 4 ≤ s.size ∧ rest s (k + 4) = esc t ∧ (rest s (k + 1)).take 3 = [UInt8.ofNat (48 + c.toNat / 64), UInt8.ofNat (48 + c.toNat / 8 % 8), UInt8.ofNat (48 + c.toNat % 8)] := by
  rw [esc_cons, escB, if_pos hc] at h
  have hl := congrArg List.length h
  rw [rest_len] at hl
  simp at hl
  have h4 : rest s (k + 4) = (rest s k).drop 4 := by simp [rest]
  have h1 : rest s (k + 1) = (rest s k).drop 1 := by simp [rest]
  refine ⟨?_, by omega, ?_, ?_⟩
  · rw [rest_cons hk] at h; simpa using (List.cons.inj h).1
  · rw [h4, h]; rfl
  · rw [h1, h]; rfl

theorem start_inv {w : World} {B : Nat} (h : B = w.heap.size) : UInv w (w.alloc (.cells #[.pointer none, .slice none 0 0] 52)) B [] := by
  subst h
  refine ⟨.inl ⟨Nat.le_refl _, _, heap_alloc_new _ _, World.ownsRow_nil _ _ _ _, by simp [Value.ownBlock]⟩, (Below.refl _ _).alloc (Nat.le_refl _) _, by simp⟩

theorem builder_keep {w w' : World} {B b : Nat} {bs : List Value} (h : Lib.IsBuilder 52 5 B b bs w) (hb : Below w.heap.size w w') : Lib.IsBuilder 52 5 B b bs w' := by
  have one : ∀ p, Lib.BuilderAt 52 5 B b p bs w → Lib.BuilderAt 52 5 B b p bs w' := by
    rintro p ⟨h1, v, h2, h3, h4⟩
    refine ⟨h1, v, (hb.block b (lt_of_block h2)).trans h2, ⟨h3.1, ?_⟩, h4⟩
    rcases h3.2 with h | ⟨g, cap, cur, e1, e2, e3, e4⟩
    · exact .inl h
    · exact .inr ⟨g, cap, cur, e1, e2, (hb.block g (lt_of_block e3)).trans e3, e4⟩
  rcases h with h | h
  · exact .inl (one _ h)
  · exact .inr (one _ h)

theorem bytes_below (w : World) (t : ByteArray) : Below w.heap.size w (Lib.bytesWorld w 5 t) := by
  refine ⟨?_, ?_, ?_, ?_, fun k hk => Lib.bytesWorld_at_old w 5 t k hk⟩
  · simp [Lib.bytesWorld, World.freeze, World.alloc, World.drew, -World.alloc_eq, -World.drew_eq]
  · simp [Lib.bytesWorld, World.freeze, World.alloc, World.drew, -World.alloc_eq, -World.drew_eq]
  · simp [Lib.bytesWorld, World.freeze, World.alloc, World.drew, -World.alloc_eq, -World.drew_eq]
  · simp [Lib.bytesWorld, World.freeze, World.alloc, World.drew, -World.alloc_eq, -World.drew_eq]

theorem ext_rest (s : ByteArray) (k : Nat) : (s.extract (k + 1) (k + 4)).data.toList = (rest s (k + 1)).take 3 := by
  rw [ByteArray.data_extract, Array.toList_extract]
  simp [rest, List.extract]

theorem oct_of (c : UInt8) : Octal [UInt8.ofNat (48 + c.toNat / 64), UInt8.ofNat (48 + c.toNat / 8 % 8), UInt8.ofNat (48 + c.toNat % 8)] ∧ octN [UInt8.ofNat (48 + c.toNat / 64), UInt8.ofNat (48 + c.toNat / 8 % 8), UInt8.ofNat (48 + c.toNat % 8)] = c.toNat := by
  have hc : c.toNat < 256 := c.toNat_lt
  have e1 : (UInt8.ofNat (48 + c.toNat / 64)).toNat = 48 + c.toNat / 64 := by rw [UInt8.toNat_ofNat', Nat.mod_eq_of_lt (by omega)]
  have e2 : (UInt8.ofNat (48 + c.toNat / 8 % 8)).toNat = 48 + c.toNat / 8 % 8 := by rw [UInt8.toNat_ofNat', Nat.mod_eq_of_lt (by omega)]
  have e3 : (UInt8.ofNat (48 + c.toNat % 8)).toNat = 48 + c.toNat % 8 := by rw [UInt8.toNat_ofNat', Nat.mod_eq_of_lt (by omega)]
  generalize UInt8.ofNat (48 + c.toNat / 64) = x1 at *
  generalize UInt8.ofNat (48 + c.toNat / 8 % 8) = x2 at *
  generalize UInt8.ofNat (48 + c.toNat % 8) = x3 at *
  refine ⟨⟨by simp, ?_, ?_⟩, ?_⟩
  · intro k hk
    match k, hk with
    | 0, _ => simp; omega
    | 1, _ => simp; omega
    | 2, _ => simp; omega
  · intro k hk
    match k, hk with
    | 0, _ => simp [octN]
    | 1, _ => simp [octN]; omega
    | 2, _ => simp [octN]; omega
    | 3, _ => simp [octN]; omega
  · simp [octN]; omega

theorem bytes_more (t1 : List UInt8) (c : UInt8) : Lib.byteCells t1 ++ [Value.int .u8 (c.toNat : Int)] = Lib.byteCells (t1 ++ [c]) := by simp [Lib.byteCells]

set_option maxRecDepth 100000 in
set_option maxHeartbeats 4000000 in
theorem unescape_any (s : ByteArray) (t : List UInt8) (hs : s.data.toList = esc t) (hlen : s.size ≤ 8388608) (w : World) :
    Calls Tryd.prog 24 #[.string s] w (UnescPost t w) := by
  have HS : Hid (rest s 0 = esc t) := hs
  clear hs
  go_enter Tryd.func24, Tryd.ntmps24
  go_wp2_with fail
  obtain ⟨B, hB⟩ : ∃ B, B = w.heap.size := ⟨_, rfl⟩
  rw [← hB]
  have HB : Hid (B = w.heap.size) := hB
  clear hB
  go_loopw [4] (fun i wr => ∃ (k : Nat) (t1 t2 : List UInt8), i = .int .i64 k ∧ k ≤ s.size ∧ t1.length ≤ k ∧ Hid (rest s k = esc t2) ∧ Hid (t = t1 ++ t2) ∧ Hid (UInv w wr B t1)) (fun i _ => s.size - (intOf i).toNat)
  case atStart => exact ⟨0, [], t, rfl, by omega, by simp, HS, by simp [Hid], start_inv HB.out⟩
  case round =>
    obtain ⟨k, t1, t2, rfl, hk, hk1, hr, ht, hu⟩ := hrel
    clear HS
    obtain ⟨hbl, hbel, hsz⟩ := hu.out
    have HU : Hid (Lib.IsBuilder 52 5 B B (Lib.byteCells t1) wr) := hbl
    have HE : Hid (Below B w wr) := hbel
    have hll : (Lib.byteCells t1).length = t1.length := Lib.byteCells_length t1
    clear hbl hbel hu
    by_cases hlt : k < s.size
    · rcases t2 with _ | ⟨c, t3⟩
      · exfalso
        have := congrArg List.length hr.out
        rw [rest_len] at this
        simp [esc] at this
        omega
      rcases hc : needs c
      · obtain ⟨g1, g2⟩ := esc_plain hr.out hlt hc
        have h92 : ((s[k].toNat : Int) == 92) = false := by
          rw [g1]
          simp [needs] at hc
          simp
          omega
        have G2 : Hid (rest s (k + 1) = esc t3) := g2
        have G1 : Hid (s[k] = c) := g1
        clear g1 g2
        go_wp2_with fail
        refine (writeByte_any B B (Lib.byteCells t1) _ _ HU.out (by omega) hsz).mono ?_
        rintro e w' ⟨rfl, d1, d2⟩
        rw [G1.out, bytes_more] at d1
        have D1 : Hid (UInv w w' B (t1 ++ [c])) := ⟨.inr d1, HE.out.trans d2, Nat.le_trans hsz d2.size⟩
        clear d1 d2
        go_wp2
        go_roundw
        case rel => exact ⟨k + 1, t1 ++ [c], t3, by go_num, by omega, by simp; omega, G2, by rw [ht.out]; simp [Hid], D1⟩
        case measure => simp [intOf]; omega
      · obtain ⟨g1, g2, g3, g4⟩ := esc_oct hr.out hlt hc
        have h92 : s[k].toNat = 92 := by rw [g1]; rfl
        have G3 : Hid (rest s (k + 4) = esc t3) := g3
        have G4 : Hid ((rest s (k + 1)).take 3 = [UInt8.ofNat (48 + c.toNat / 64), UInt8.ofNat (48 + c.toNat / 8 % 8), UInt8.ofNat (48 + c.toNat % 8)]) := g4
        clear g1 g3 g4
        have hk4 : (k : Int) + 4 ≤ (s.size : Int) := by omega
        have o1 := (oct_of c).1
        have o2 := (oct_of c).2
        rw [← G4.out, ← ext_rest] at o1 o2
        have O1 : Hid (Octal (s.extract (k + 1) (k + 4)).data.toList) := o1
        have O2 : Hid (octN (s.extract (k + 1) (k + 4)).data.toList = c.toNat) := o2
        have hes : (s.extract (k + 1) (k + 4)).size ≤ 1048576 := by simp; omega
        clear o1 o2
        go_wp2_with fail
        refine (parse8_any _ O1.out hes _).mono ?_
        rintro e w1 ⟨rfl, hw1⟩
        rw [O2.out]
        have hbw : Below wr.heap.size wr w1 := by rw [hw1]; exact bytes_below _ _
        have HU1 : Hid (Lib.IsBuilder 52 5 B B (Lib.byteCells t1) w1) := builder_keep HU.out hbw
        have HE1 : Hid (Below B w w1) := HE.out.trans (hbw.mono hsz)
        have hsz1 : B ≤ w1.heap.size := Nat.le_trans hsz hbw.size
        clear hbw hw1 HU HE
        have hc256 : c.toNat < 256 := c.toNat_lt
        go_wp2_with fail
        refine (writeByte_any B B (Lib.byteCells t1) _ _ HU1.out (by omega) hsz1).mono ?_
        rintro e w' ⟨rfl, d1, d2⟩
        rw [bytes_more] at d1
        have D1 : Hid (UInv w w' B (t1 ++ [c])) := ⟨.inr d1, HE1.out.trans d2, Nat.le_trans hsz1 d2.size⟩
        clear d1 d2
        go_wp2
        go_roundw
        case rel => exact ⟨k + 4, t1 ++ [c], t3, by go_num, by omega, by simp; omega, G3, by rw [ht.out]; simp [Hid], D1⟩
        case measure => simp [intOf]; omega
    · have hte : t = t1 := by
        have h1 := ht.out
        have h2 := hr.out
        rcases t2 with _ | ⟨c, t3⟩
        · simpa using h1
        · exfalso
          have := congrArg List.length h2
          rw [rest_len, esc_cons] at this
          have h3 : 1 ≤ (escB c).length := by unfold escB; split <;> simp
          simp at this
          omega
      go_wp2_with fail
      refine (Tryd.Builder_String_any B B t1 _ HU.out hsz).mono ?_
      rintro e w' ⟨rfl, d2⟩
      have D := HE.out.trans d2
      rw [HB.out] at D
      go_wp2
      go_ret
      exact ⟨by rw [hte]; rfl, D⟩
end Go.Proofs.Qxb6600128aDoor
