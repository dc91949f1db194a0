import Derived.Test.Qxb6600128aDoorRow
import Derived.Test.Qxb6600128aDoorUnesc
namespace Go.Proofs.Qxb6600128aDoor
open Go.RowKit

set_option maxHeartbeats 400000 in
theorem needs_any (c : UInt8) (w : World) :
    Calls Tryd.prog 22 #[.int .u8 c.toNat, .bool true] w fun e w' => e = .returned (.bool (needs c)) ∧ w' = w := by
  by_cases h : c.toNat = 92
  · have e : needs c = true := by simp [needs, h]
    rw [e]
    go_enter Tryd.func22, Tryd.ntmps22
    go_wp2
    go_ret
    simp
  · have he : ((c.toNat : Int) == 92) = false := by simp; omega
    have e : needs c = !(decide (33 ≤ c.toNat ∧ c.toNat ≤ 126)) := by unfold needs; rw [beq_eq_false_iff_ne.2 h]; rfl
    rw [e]
    go_enter Tryd.func22, Tryd.ntmps22
    go_wp2_with fail
    refine (graphic_any _ _).mono ?_
    rintro e w' ⟨rfl, rfl⟩
    go_wp2
    go_ret
    simp

theorem oct1 (c : UInt8) : (48 + (c.toNat : Int) / 64) = ((UInt8.ofNat (48 + c.toNat / 64)).toNat : Int) := by
  have hc : c.toNat < 256 := c.toNat_lt
  rw [UInt8.toNat_ofNat', Nat.mod_eq_of_lt (by omega)]; omega
theorem oct2 (c : UInt8) : (48 + (c.toNat : Int) / 8 % 8) = ((UInt8.ofNat (48 + c.toNat / 8 % 8)).toNat : Int) := by
  have hc : c.toNat < 256 := c.toNat_lt
  rw [UInt8.toNat_ofNat', Nat.mod_eq_of_lt (by omega)]; omega
theorem oct3 (c : UInt8) : (48 + (c.toNat : Int) % 8) = ((UInt8.ofNat (48 + c.toNat % 8)).toNat : Int) := by
  have hc : c.toNat < 256 := c.toNat_lt
  rw [UInt8.toNat_ofNat', Nat.mod_eq_of_lt (by omega)]; omega

def EscPost (w : World) (B : Nat) (l : List UInt8) (e : Ending) (w' : World) : Prop := ∃ v', e = .returned v' ∧ Buf w' B v' l ∧ Below B w w'

theorem esc_more (s : ByteArray) (k : Nat) (h : k < s.size) : esc (s.data.toList.take (k + 1)) = esc (s.data.toList.take k) ++ escB s[k] := by
  rw [List.take_succ_eq_append_getElem (by simpa using h)]
  simp [esc]
  rfl

set_option maxRecDepth 100000 in
set_option maxHeartbeats 4000000 in
theorem appendEscaped_any (B : Nat) (v : Value) (l : List UInt8) (s : ByteArray) (w : World) (hl : l.length ≤ 4194304) (hs : s.size ≤ 1048576) (hbuf : Buf w B v l) (hB : B ≤ w.heap.size) :
    Calls Tryd.prog 12 #[v, .string s, .bool true] w (EscPost w B (l ++ esc s.data.toList)) := by
  go_enter Tryd.func12, Tryd.ntmps12
  go_wp2
  go_loopw [0, 7] (fun bb i wr => ∃ (k : Nat) (d : List UInt8), i = .int .i64 k ∧ k ≤ s.size ∧ d.length ≤ 4 * k ∧ B ≤ wr.heap.size ∧ Hid (d = esc (s.data.toList.take k)) ∧ Hid (Buf wr B bb (l ++ d)) ∧ Hid (Below B w wr)) (fun _ i _ => s.size - (intOf i).toNat)
  case atStart => exact ⟨0, [], rfl, by omega, by simp, hB, by simp [esc, Hid], by rw [List.append_nil]; exact hbuf, Below.refl _ _⟩
  case round =>
    obtain ⟨k, d, rfl, hk, hd, hB1, he, hv, hb⟩ := hrel
    by_cases hlt : k < s.size
    case neg =>
      go_wp2
      go_ret
      refine ⟨_, rfl, ?_, hb.out⟩
      have e1 : d = esc s.data.toList := by
        rw [he.out, List.take_of_length_le (by simp; omega)]
      rw [← e1]
      exact hv.out
    obtain ⟨c, hc⟩ : ∃ c, c = s[k] := ⟨_, rfl⟩
    have hmore : Hid (esc (s.data.toList.take (k + 1)) = d ++ escB c) := by rw [esc_more s k hlt, he.out, hc]; exact rfl
    have hc256 : c.toNat < 256 := c.toNat_lt
    clear hbuf
    by_cases hn : needs c = true
    case pos =>
      go_wp2_with fail
      rw [← hc]
      refine (needs_any c _).mono ?_
      rintro e w' ⟨rfl, rfl⟩
      rw [hn]
      clear hc he
      have h1 := oct1 c
      have h2 := oct2 c
      have h3 := oct3 c
      have HE : Hid (escB c = [92, UInt8.ofNat (48 + c.toNat / 64), UInt8.ofNat (48 + c.toNat / 8 % 8), UInt8.ofNat (48 + c.toNat % 8)]) := by unfold escB; rw [if_pos hn]; exact rfl
      generalize UInt8.ofNat (48 + c.toNat / 64) = x1 at h1 HE
      generalize UInt8.ofNat (48 + c.toNat / 8 % 8) = x2 at h2 HE
      generalize UInt8.ofNat (48 + c.toNat % 8) = x3 at h3 HE
      have H1 : Hid _ := h1
      have H2 : Hid _ := h2
      have H3 : Hid _ := h3
      clear h1 h2 h3
      go_wp2_with (at_builtin; refine app1 hv.out (by simp; omega) hB1 92 rfl _ _ rfl rfl rfl rfl ?_)
      intro v1 w1 g1 f1 _
      have G1 : Hid (Buf w1 B v1 (l ++ (d ++ [92]))) := g1
      clear g1
      go_wp2_with (at_builtin; refine app1 G1.out (by simp; omega) (Nat.le_trans hB1 f1.size) x1 rfl _ _ rfl rfl rfl H1.out ?_)
      intro v2 w2 g2 f2 _
      have G2 : Hid (Buf w2 B v2 (l ++ (d ++ [92, x1]))) := g2
      clear g2 G1
      have F2 : Hid (Below B w' w2) := f1.trans f2
      clear f1 f2
      go_wp2_with (at_builtin; refine app1 G2.out (by simp; omega) (Nat.le_trans hB1 F2.out.size) x2 rfl _ _ rfl rfl rfl H2.out ?_)
      intro v3 w3 g3 f3 _
      have G3 : Hid (Buf w3 B v3 (l ++ (d ++ [92, x1, x2]))) := g3
      clear g3 G2
      have F3 : Hid (Below B w' w3) := F2.out.trans f3
      clear f3
      go_wp2_with (at_builtin; refine app1 G3.out (by simp; omega) (Nat.le_trans hB1 F3.out.size) x3 rfl _ _ rfl rfl rfl H3.out ?_)
      intro v4 w4 g4 f4 _
      have G4 : Hid (Buf w4 B v4 (l ++ (d ++ [92, x1, x2, x3]))) := g4
      clear g4 G3
      have F4 : Hid (Below B w' w4) := F3.out.trans f4
      clear f4
      go_wp2
      go_roundw
      case rel => exact ⟨k + 1, d ++ [92, x1, x2, x3], by go_num, by omega, by simp; omega, Nat.le_trans hB1 F4.out.size, by rw [hmore.out, HE.out]; exact rfl, G4, hb.out.trans F4.out⟩
      case measure => simp [intOf]; omega
    case neg =>
      go_wp2_with fail
      rw [← hc]
      refine (needs_any c _).mono ?_
      rintro e w' ⟨rfl, rfl⟩
      have hn' : needs c = false := by simpa using hn
      rw [hn']
      have HC : Hid (c = s[k]) := hc
      clear hc he
      go_wp2_with (at_builtin; refine app1 hv.out (by simp; omega) hB1 c rfl _ _ rfl rfl rfl rfl ?_)
      intro v1 w1 g1 f1 _
      have HG : Hid (Buf w1 B v1 (l ++ (d ++ [c]))) := g1
      have HE : Hid (escB c = [c]) := by unfold escB; rw [if_neg hn]; exact rfl
      clear g1
      go_wp2
      go_roundw
      case rel => exact ⟨k + 1, d ++ [c], by go_num, by omega, by simp; omega, Nat.le_trans hB1 f1.size, by rw [hmore.out, HE.out]; exact rfl, HG, hb.out.trans f1⟩
      case measure => simp [intOf]; omega
end Go.Proofs.Qxb6600128aDoor
