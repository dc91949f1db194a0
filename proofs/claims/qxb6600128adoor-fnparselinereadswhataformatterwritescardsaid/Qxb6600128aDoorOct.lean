import Derived.Test.Qxb6600128aDoorDec
import Derived.Lib.Hide
import Derived.Laws.Closers25
import Derived.Laws.Closers25b
import Derived.BigCall
import Derived.BigGuard
namespace Go.Proofs.Qxb6600128aDoor
open Go.RowKit

/-- The number that octal digits spell. -/
def octN (l : List UInt8) : Nat := l.foldl (fun a c => a * 8 + (c.toNat - 48)) 0
theorem octN_next (l : List UInt8) (k : Nat) (h : k < l.length) : octN (l.take (k + 1)) = octN (l.take k) * 8 + (l[k].toNat - 48) := by
  unfold octN
  rw [List.take_succ_eq_append_getElem h, List.foldl_append]
  rfl

def Octal (l : List UInt8) : Prop := l ≠ [] ∧ (∀ k (h : k < l.length), 48 ≤ l[k].toNat ∧ l[k].toNat ≤ 55) ∧ ∀ k, k ≤ l.length → octN (l.take k) ≤ 255

set_option maxHeartbeats 32000000 in
set_option maxRecDepth 100000 in
/-- internal/strconv.ParseUint(s, 8, 8) at octal digits of a byte. -/
theorem parse8_in (t : ByteArray) (ho : Octal t.data.toList) (hmax : t.size ≤ 1048576) (w : World) :
    Calls Tryd.prog 32 #[.string t, .int .i64 8, .int .i64 8] w fun e w' => e = .returned (.tuple #[.int .u64 (octN t.data.toList), .nilIface]) ∧ w' = Lib.bytesWorld w 5 t := by
  have hne : t.size ≠ 0 := fun h => ho.1 (List.eq_nil_of_length_eq_zero (by simpa using h))
  have hemp : t.toList.isEmpty = false := by
    rw [← decide_eq_emptyBytes]
    exact decide_eq_false (fun h => hne (by rw [h]; rfl))
  have hcv := Lib.run_convert_string_bytes (P := Tryd.prog) w 9 26 5 t (u := .string) Tryd.underlying9 Tryd.underlying26 Tryd.underlying5
  have hB : ∀ j, j < t.size → (Lib.bytesWorld w 5 t).cell? ⟨w.heap.size, j, none⟩ = some (.int .u8 (t.data.toList.getD j 0).toNat) := fun j hj => Lib.bytesWorld_cell w 5 t j hj
  obtain ⟨W1, hW1⟩ : ∃ W1, W1 = Lib.bytesWorld w 5 t := ⟨_, rfl⟩
  rw [← hW1] at hcv hB ⊢
  clear hW1
  obtain ⟨bs, hL⟩ : ∃ bs, bs = t.data.toList := ⟨_, rfl⟩
  have hLn : bs.length = t.size := by rw [hL, Lib.size_eq]
  rw [← hL] at hB ho ⊢
  clear hL
  have hmv : IntKind.u64.wrap (IntKind.u64.wrap 256 - 1) = 255 := by
    rw [IntKind.wrap_u64, IntKind.wrap_u64]
    decide
  have HO : Hid (Octal bs) := ho
  clear ho
  go_enter Tryd.func32, Tryd.ntmps32
  go_wp2
  go_loop [12, 13, 101] (fun vu vn vi => ∃ (k : Nat) (a : Int), vu = .bool false ∧ vn = .int .u64 a ∧ vi = .int .i64 k ∧ k ≤ t.size ∧ Hid (a = (octN (bs.take k) : Int)))
    (fun _ _ vi => t.size - (intOf vi).toNat)
  case atStart => exact ⟨0, 0, rfl, rfl, rfl, by omega, rfl⟩
  case round =>
    obtain ⟨k, a, rfl, rfl, rfl, hk, hh⟩ := hrel
    have ha := hh.out
    have h255 := HO.out.2.2 k (by omega)
    have a0 : 0 ≤ a := by omega
    have a1 : a ≤ 255 := by omega
    by_cases hkn : k < t.size
    · have hc := hB k hkn
      have hget : bs.getD k 0 = bs[k]'(by omega) := by simp [List.getD, List.getElem?_eq_getElem (show k < bs.length by omega)]
      have hn := octN_next bs k (by omega)
      have hn255 := HO.out.2.2 (k + 1) (by omega)
      have hd := HO.out.2.1 k (by omega)
      rw [hget] at hc
      generalize bs[k]'(by omega) = c at hc hn hd
      have hd0 := hd.1
      have hd1 := hd.2
      have hN : Hid (a * 8 + ((c.toNat : Int) - 48) = (octN (bs.take (k + 1)) : Int)) := Lib.hid (by omega)
      have iov : a * 8 + ((c.toNat : Int) - 48) ≤ 255 := by omega
      clear hB hget hn hn255 hd ha h255 hh
      go_wp2
      refine ⟨⟨k + 1, a * 8 + ((c.toNat : Int) - 48), rfl, (by first | rfl | (congr 1; omega)), (by first | rfl | (congr 1; omega)), by omega, hN⟩, by simp [intOf]; omega⟩
    · have hkk : k = t.size := by omega
      subst hkk
      rw [List.take_of_length_le (by omega)] at ha
      subst ha
      clear a0 a1 h255 hh
      go_wp2
      go_ret2
      exact ⟨rfl, rfl⟩

set_option maxHeartbeats 1000000 in
/-- strconv.ParseUint(s, 8, 8) at octal digits of a byte. -/
theorem parse8_any (t : ByteArray) (ho : Octal t.data.toList) (hmax : t.size ≤ 1048576) (w : World) :
    Calls Tryd.prog 27 #[.string t, .int .i64 8, .int .i64 8] w fun e w' => e = .returned (.tuple #[.int .u64 (octN t.data.toList), .nilIface]) ∧ w' = Lib.bytesWorld w 5 t := by
  go_enter Tryd.func27, Tryd.ntmps27
  go_wp2_with fail
  refine (parse8_in t ho hmax _).mono ?_
  rintro e w' ⟨rfl, rfl⟩
  go_wp2
  go_ret2
  exact ⟨rfl, rfl⟩
end Go.Proofs.Qxb6600128aDoor
