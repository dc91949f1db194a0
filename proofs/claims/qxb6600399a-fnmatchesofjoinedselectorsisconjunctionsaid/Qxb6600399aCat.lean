import Derived.Test.Qxb6600399aVecs
namespace Go.Proofs.Qxb6600399a
open Go.RowKit

def catV {α : Type} (V : Nat → α) (n : Nat) (W : Nat → α) (j : Nat) : α := if j < n then V j else W (j - n)
theorem catV_left {α : Type} {V W : Nat → α} {n j : Nat} (h : j < n) : catV V n W j = V j := by unfold catV; rw [if_pos h]
theorem catV_right {α : Type} {V W : Nat → α} {n j : Nat} : catV V n W (n + j) = W j := by unfold catV; rw [if_neg (by omega), show n + j - n = j by omega]

set_option maxHeartbeats 1000000 in
theorem catStrs_any (ao bo : Option Addr) (la lb ca cb : Nat) (S T : Nat → ByteArray) (w : World) (hla : la ≤ 1048576) (hlb : lb ≤ 1048576) (hz : Row w w.heap.size ao la (strV S)) (hy : Row w w.heap.size bo lb (strV T)) :
    Calls Try.prog 31 #[.slice ao la ca, .slice bo lb cb] w (ClonePost (la + lb) (catV (strV S) la (strV T)) w) := by
  have hmk := run_make_row' (P := Try.prog) 24 9 (.string ByteArray.empty) 16 Try.underlying24 info9 rfl .i64 .i64 (la + lb) (by omega) (by omega)
  rw [part_zero (.string ByteArray.empty) (catV (strV S) la (strV T)) (la + lb), Int.natCast_add] at hmk
  go_enter Try.func31, Try.ntmps31
  go_wp2
  go_loopw [6] (fun i wr => ∃ k : Nat, k ≤ la ∧ i = .int .i64 k ∧ wr = w.alloc (.cells (part (.string ByteArray.empty) (catV (strV S) la (strV T)) (la + lb) k) 9)) (fun i _ => la - (intOf i).toNat)
  case atStart => exact ⟨0, by omega, rfl, rfl⟩
  case round =>
    obtain ⟨k, hk, rfl, rfl⟩ := hrel
    by_cases hlt : k < la
    · obtain h0 | ⟨b, o, rfl, hb, hcells⟩ := hz.2
      · omega
      have hc : (w.alloc (.cells (part (.string ByteArray.empty) (catV (strV S) la (strV T)) (la + lb) k) 9)).cell? ⟨b, o + k, none⟩ = some (.string (S k)) := (World.cell?_alloc_lt _ _ _ hb).trans (hcells k hlt)
      have hcn := part_cell_k w (.string ByteArray.empty) (catV (strV S) la (strV T)) (la + lb) k 9 (by omega)
      have hfn := part_free w (.string ByteArray.empty) (catV (strV S) la (strV T)) (la + lb) k k 9
      have hps : (part (.string ByteArray.empty) (catV (strV S) la (strV T)) (la + lb) k).setIfInBounds k (.string (S k)) = part (.string ByteArray.empty) (catV (strV S) la (strV T)) (la + lb) (k + 1) := (by rw [← show catV (strV S) la (strV T) k = .string (S k) from catV_left hlt]; exact part_succ (.string ByteArray.empty) (catV (strV S) la (strV T)) (la + lb) k)
      have i1 : (k : Int) < ((la + lb : Nat) : Int) := by omega
      clear hcells
      go_wp2
      go_roundw
      case rel => exact ⟨k + 1, by omega, by go_num, rfl⟩
      case measure => simp [intOf]; omega
    · obtain rfl : k = la := by omega
      clear hz
      go_wp2
      go_loopw [7] (fun i wr => ∃ t : Nat, t ≤ lb ∧ i = .int .i64 t ∧ wr = w.alloc (.cells (part (.string ByteArray.empty) (catV (strV S) k (strV T)) (k + lb) (k + t)) 9)) (fun i _ => lb - (intOf i).toNat)
      case atStart => exact ⟨0, by omega, rfl, rfl⟩
      case round =>
        obtain ⟨t, ht, rfl, rfl⟩ := hrel
        by_cases htl : t < lb
        · obtain h0 | ⟨b, o, rfl, hb, hcells⟩ := hy.2
          · omega
          have hc : (w.alloc (.cells (part (.string ByteArray.empty) (catV (strV S) k (strV T)) (k + lb) (k + t)) 9)).cell? ⟨b, o + t, none⟩ = some (.string (T t)) := (World.cell?_alloc_lt _ _ _ hb).trans (hcells t htl)
          have hcn := part_cell_k w (.string ByteArray.empty) (catV (strV S) k (strV T)) (k + lb) (k + t) 9 (by omega)
          have hfn := part_free w (.string ByteArray.empty) (catV (strV S) k (strV T)) (k + lb) (k + t) (k + t) 9
          have hps : (part (.string ByteArray.empty) (catV (strV S) k (strV T)) (k + lb) (k + t)).setIfInBounds (k + t) (.string (T t)) = part (.string ByteArray.empty) (catV (strV S) k (strV T)) (k + lb) (k + t + 1) := (by rw [← show catV (strV S) k (strV T) (k + t) = .string (T t) from catV_right]; exact part_succ (.string ByteArray.empty) (catV (strV S) k (strV T)) (k + lb) (k + t))
          have i2 : (k : Int) + (t : Int) < ((k + lb : Nat) : Int) := by omega
          clear hcells
          go_wp2
          go_roundw
          case rel => exact ⟨t + 1, by omega, by go_num, rfl⟩
          case measure => simp [intOf]; omega
        · obtain rfl : t = lb := by omega
          clear hy
          go_wp2
          go_ret
          exact clonePost_mk _ _ _ _ _

set_option maxHeartbeats 1000000 in
theorem catVecs_any (ao bo : Option Addr) (la lb ca cb : Nat) (S T : Nat → Vec) (w : World) (hla : la ≤ 1048576) (hlb : lb ≤ 1048576) (hz : Row w w.heap.size ao la (vecV S)) (hy : Row w w.heap.size bo lb (vecV T)) :
    Calls Try.prog 32 #[.slice ao la ca, .slice bo lb cb] w (ClonePost (la + lb) (catV (vecV S) la (vecV T)) w) := by
  have hmk := run_make_row' (P := Try.prog) 36 24 (.slice none 0 0) 24 Try.underlying36 info24 rfl .i64 .i64 (la + lb) (by omega) (by omega)
  rw [part_zero (.slice none 0 0) (catV (vecV S) la (vecV T)) (la + lb), Int.natCast_add] at hmk
  go_enter Try.func32, Try.ntmps32
  go_wp2
  go_loopw [6] (fun i wr => ∃ k : Nat, k ≤ la ∧ i = .int .i64 k ∧ wr = w.alloc (.cells (part (.slice none 0 0) (catV (vecV S) la (vecV T)) (la + lb) k) 24)) (fun i _ => la - (intOf i).toNat)
  case atStart => exact ⟨0, by omega, rfl, rfl⟩
  case round =>
    obtain ⟨k, hk, rfl, rfl⟩ := hrel
    by_cases hlt : k < la
    · obtain h0 | ⟨b, o, rfl, hb, hcells⟩ := hz.2
      · omega
      have hc : (w.alloc (.cells (part (.slice none 0 0) (catV (vecV S) la (vecV T)) (la + lb) k) 24)).cell? ⟨b, o + k, none⟩ = some (.slice (S k).a (S k).n (S k).c) := (World.cell?_alloc_lt _ _ _ hb).trans (hcells k hlt)
      have hcn := part_cell_k w (.slice none 0 0) (catV (vecV S) la (vecV T)) (la + lb) k 24 (by omega)
      have hfn := part_free w (.slice none 0 0) (catV (vecV S) la (vecV T)) (la + lb) k k 24
      have hps : (part (.slice none 0 0) (catV (vecV S) la (vecV T)) (la + lb) k).setIfInBounds k (.slice (S k).a (S k).n (S k).c) = part (.slice none 0 0) (catV (vecV S) la (vecV T)) (la + lb) (k + 1) := (by rw [← show catV (vecV S) la (vecV T) k = .slice (S k).a (S k).n (S k).c from catV_left hlt]; exact part_succ (.slice none 0 0) (catV (vecV S) la (vecV T)) (la + lb) k)
      have i1 : (k : Int) < ((la + lb : Nat) : Int) := by omega
      clear hcells
      go_wp2
      go_roundw
      case rel => exact ⟨k + 1, by omega, by go_num, rfl⟩
      case measure => simp [intOf]; omega
    · obtain rfl : k = la := by omega
      clear hz
      go_wp2
      go_loopw [7] (fun i wr => ∃ t : Nat, t ≤ lb ∧ i = .int .i64 t ∧ wr = w.alloc (.cells (part (.slice none 0 0) (catV (vecV S) k (vecV T)) (k + lb) (k + t)) 24)) (fun i _ => lb - (intOf i).toNat)
      case atStart => exact ⟨0, by omega, rfl, rfl⟩
      case round =>
        obtain ⟨t, ht, rfl, rfl⟩ := hrel
        by_cases htl : t < lb
        · obtain h0 | ⟨b, o, rfl, hb, hcells⟩ := hy.2
          · omega
          have hc : (w.alloc (.cells (part (.slice none 0 0) (catV (vecV S) k (vecV T)) (k + lb) (k + t)) 24)).cell? ⟨b, o + t, none⟩ = some (.slice (T t).a (T t).n (T t).c) := (World.cell?_alloc_lt _ _ _ hb).trans (hcells t htl)
          have hcn := part_cell_k w (.slice none 0 0) (catV (vecV S) k (vecV T)) (k + lb) (k + t) 24 (by omega)
          have hfn := part_free w (.slice none 0 0) (catV (vecV S) k (vecV T)) (k + lb) (k + t) (k + t) 24
          have hps : (part (.slice none 0 0) (catV (vecV S) k (vecV T)) (k + lb) (k + t)).setIfInBounds (k + t) (.slice (T t).a (T t).n (T t).c) = part (.slice none 0 0) (catV (vecV S) k (vecV T)) (k + lb) (k + t + 1) := (by rw [← show catV (vecV S) k (vecV T) (k + t) = .slice (T t).a (T t).n (T t).c from catV_right]; exact part_succ (.slice none 0 0) (catV (vecV S) k (vecV T)) (k + lb) (k + t))
          have i2 : (k : Int) + (t : Int) < ((k + lb : Nat) : Int) := by omega
          clear hcells
          go_wp2
          go_roundw
          case rel => exact ⟨t + 1, by omega, by go_num, rfl⟩
          case measure => simp [intOf]; omega
        · obtain rfl : t = lb := by omega
          clear hy
          go_wp2
          go_ret
          exact clonePost_mk _ _ _ _ _

set_option maxHeartbeats 1000000 in
theorem catBools_any (ao bo : Option Addr) (la lb ca cb : Nat) (S T : Nat → Bool) (w : World) (hla : la ≤ 1048576) (hlb : lb ≤ 1048576) (hz : Row w w.heap.size ao la (boolV S)) (hy : Row w w.heap.size bo lb (boolV T)) :
    Calls Try.prog 33 #[.slice ao la ca, .slice bo lb cb] w (ClonePost (la + lb) (catV (boolV S) la (boolV T)) w) := by
  have hmk := run_make_row' (P := Try.prog) 37 4 (.bool false) 1 Try.underlying37 info4 rfl .i64 .i64 (la + lb) (by omega) (by omega)
  rw [part_zero (.bool false) (catV (boolV S) la (boolV T)) (la + lb), Int.natCast_add] at hmk
  go_enter Try.func33, Try.ntmps33
  go_wp2
  go_loopw [6] (fun i wr => ∃ k : Nat, k ≤ la ∧ i = .int .i64 k ∧ wr = w.alloc (.cells (part (.bool false) (catV (boolV S) la (boolV T)) (la + lb) k) 4)) (fun i _ => la - (intOf i).toNat)
  case atStart => exact ⟨0, by omega, rfl, rfl⟩
  case round =>
    obtain ⟨k, hk, rfl, rfl⟩ := hrel
    by_cases hlt : k < la
    · obtain h0 | ⟨b, o, rfl, hb, hcells⟩ := hz.2
      · omega
      have hc : (w.alloc (.cells (part (.bool false) (catV (boolV S) la (boolV T)) (la + lb) k) 4)).cell? ⟨b, o + k, none⟩ = some (.bool (S k)) := (World.cell?_alloc_lt _ _ _ hb).trans (hcells k hlt)
      have hcn := part_cell_k w (.bool false) (catV (boolV S) la (boolV T)) (la + lb) k 4 (by omega)
      have hfn := part_free w (.bool false) (catV (boolV S) la (boolV T)) (la + lb) k k 4
      have hps : (part (.bool false) (catV (boolV S) la (boolV T)) (la + lb) k).setIfInBounds k (.bool (S k)) = part (.bool false) (catV (boolV S) la (boolV T)) (la + lb) (k + 1) := (by rw [← show catV (boolV S) la (boolV T) k = .bool (S k) from catV_left hlt]; exact part_succ (.bool false) (catV (boolV S) la (boolV T)) (la + lb) k)
      have i1 : (k : Int) < ((la + lb : Nat) : Int) := by omega
      clear hcells
      go_wp2
      go_roundw
      case rel => exact ⟨k + 1, by omega, by go_num, rfl⟩
      case measure => simp [intOf]; omega
    · obtain rfl : k = la := by omega
      clear hz
      go_wp2
      go_loopw [7] (fun i wr => ∃ t : Nat, t ≤ lb ∧ i = .int .i64 t ∧ wr = w.alloc (.cells (part (.bool false) (catV (boolV S) k (boolV T)) (k + lb) (k + t)) 4)) (fun i _ => lb - (intOf i).toNat)
      case atStart => exact ⟨0, by omega, rfl, rfl⟩
      case round =>
        obtain ⟨t, ht, rfl, rfl⟩ := hrel
        by_cases htl : t < lb
        · obtain h0 | ⟨b, o, rfl, hb, hcells⟩ := hy.2
          · omega
          have hc : (w.alloc (.cells (part (.bool false) (catV (boolV S) k (boolV T)) (k + lb) (k + t)) 4)).cell? ⟨b, o + t, none⟩ = some (.bool (T t)) := (World.cell?_alloc_lt _ _ _ hb).trans (hcells t htl)
          have hcn := part_cell_k w (.bool false) (catV (boolV S) k (boolV T)) (k + lb) (k + t) 4 (by omega)
          have hfn := part_free w (.bool false) (catV (boolV S) k (boolV T)) (k + lb) (k + t) (k + t) 4
          have hps : (part (.bool false) (catV (boolV S) k (boolV T)) (k + lb) (k + t)).setIfInBounds (k + t) (.bool (T t)) = part (.bool false) (catV (boolV S) k (boolV T)) (k + lb) (k + t + 1) := (by rw [← show catV (boolV S) k (boolV T) (k + t) = .bool (T t) from catV_right]; exact part_succ (.bool false) (catV (boolV S) k (boolV T)) (k + lb) (k + t))
          have i2 : (k : Int) + (t : Int) < ((k + lb : Nat) : Int) := by omega
          clear hcells
          go_wp2
          go_roundw
          case rel => exact ⟨t + 1, by omega, by go_num, rfl⟩
          case measure => simp [intOf]; omega
        · obtain rfl : t = lb := by omega
          clear hy
          go_wp2
          go_ret
          exact clonePost_mk _ _ _ _ _
end Go.Proofs.Qxb6600399a
