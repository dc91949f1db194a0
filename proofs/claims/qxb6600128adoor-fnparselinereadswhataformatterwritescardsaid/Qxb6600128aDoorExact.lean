import Derived.Test.Qxb6600128aDoorPlain
import Derived.Laws.IdiomStrings
namespace Go.Proofs.Qxb6600128aDoor
open Go.RowKit

/-- 'string(b)' of an owned row that is not empty. -/
theorem buf_string {w : World} {B : Nat} {v : Value} {l : List UInt8} (h : Buf w B v l) (hl : l ≠ []) : (convert 26 9 v).run Tryd.prog w = .ok (.string (bstr l)) w := by
  rcases h.2 with ⟨_, h0⟩ | ⟨g, cap, cur, rfl, _⟩
  · exact absurd (List.eq_nil_of_length_eq_zero h0) hl
  · refine run_convert_bytes_back w 26 9 5 ⟨g, 0, none⟩ cap l Tryd.underlying26 Tryd.underlying5 Tryd.underlying9 fun j hj => ?_
    have := World.ownsRow.cellAt h j (by omega)
    rw [Addr.add_lit, Nat.zero_add, this]
    simp [Lib.byteCells, hj]

theorem line_cases (r0 r1 : Lib.NumEnd Nat) (dev root point typ sup : List UInt8) : (∃ a b, r0 = .ok a ∧ r1 = .ok b) ∨ lineV r0 r1 dev root point typ sup = .tuple #[zeroMount, .bool false] := by
  cases r0 <;> cases r1
  case ok.ok a b => exact .inl ⟨a, b, rfl, rfl⟩
  all_goals exact .inr rfl

set_option maxRecDepth 100000 in
set_option maxHeartbeats 2000000 in
theorem parse13_any (s : ByteArray) (w : World) (f0 f1 f2 f5 root point typ src sup : List UInt8) (opts : List (List UInt8))
    (hF : Lib.fields s.data.toList = f0 :: f1 :: f2 :: esc root :: esc point :: f5 :: (opts ++ [[45], typ, src, sup]))
    (hs : s.size ≤ 8388608) (hascii : ∀ (j : Nat) b, s.data.toList[j]? = some b → b.toNat < 128)
    (hd0 : f0 ≠ [45]) (hd1 : f1 ≠ [45]) (hd2 : f2 ≠ [45]) (hd3 : esc root ≠ [45]) (hd4 : esc point ≠ [45]) (hd5 : f5 ≠ [45]) (hdo : ∀ x ∈ opts, x ≠ [45])
    (hl0 : f0.length ≤ 8388608) (hl1 : f1.length ≤ 8388608) (hl3 : (esc root).length ≤ 8388608) (hl4 : (esc point).length ≤ 8388608) (hlo : opts.length ≤ 8388608) (hv : Vars w) :
    Calls Tryd.prog 13 #[.string s] w fun e w' => e = .returned (lineV (Lib.parseUintB 64 f0) (Lib.parseUintB 64 f1) f2 root point typ sup) ∧ Below w.heap.size w w' := by
  obtain ⟨r0, hr0⟩ : ∃ r, r = Lib.parseUintB 64 f0 := ⟨_, rfl⟩
  obtain ⟨r1, hr1⟩ : ∃ r, r = Lib.parseUintB 64 f1 := ⟨_, rfl⟩
  have hb0 : Below w.heap.size w (w.alloc (.cells #[.int .u64 0, .int .u64 0, .string ⟨#[]⟩, .string ⟨#[]⟩, .string ⟨#[]⟩, .string ⟨#[]⟩, .string ⟨#[]⟩] 30)) := (Below.refl _ _).alloc (Nat.le_refl _) _
  have hz2 : (w.alloc (.cells #[.int .u64 0, .int .u64 0, .string ⟨#[]⟩, .string ⟨#[]⟩, .string ⟨#[]⟩, .string ⟨#[]⟩, .string ⟨#[]⟩] 30)).heap[w.heap.size]? = some (.cells zeroCells 30 (0, 0)) := heap_alloc_new _ _
  have HP : Hid (∀ wx, Vars wx → Calls Tryd.prog 23 #[.string s] wx fun e w' => e = .returned (lineV r0 r1 f2 root point typ sup) ∧ Below wx.heap.size wx w') := by
    intro wx hvx
    rw [hr0, hr1]
    exact parseLine_any s wx f0 f1 f2 f5 root point typ src sup opts hF hs hascii hd0 hd1 hd2 hd3 hd4 hd5 hdo hl0 hl1 hl3 hl4 hlo hvx
  rw [← hr0, ← hr1]
  clear hF hs hascii hd0 hd1 hd2 hd3 hd4 hd5 hdo hl0 hl1 hl3 hl4 hlo hr0 hr1
  have hv0 : Hid (Vars (w.alloc (.cells #[.int .u64 0, .int .u64 0, .string ⟨#[]⟩, .string ⟨#[]⟩, .string ⟨#[]⟩, .string ⟨#[]⟩, .string ⟨#[]⟩] 30))) := hv.keep hb0
  clear hv
  obtain ⟨W, hW⟩ : ∃ W, W = w.alloc (.cells #[.int .u64 0, .int .u64 0, .string ⟨#[]⟩, .string ⟨#[]⟩, .string ⟨#[]⟩, .string ⟨#[]⟩, .string ⟨#[]⟩] 30) := ⟨_, rfl⟩
  rw [← hW] at hb0 hz2 hv0
  have HW : Hid (W = w.alloc (.cells #[.int .u64 0, .int .u64 0, .string ⟨#[]⟩, .string ⟨#[]⟩, .string ⟨#[]⟩, .string ⟨#[]⟩, .string ⟨#[]⟩] 30)) := hW
  clear hW
  go_enter Tryd.func13, Tryd.ntmps13
  go_wp2_with fail
  rw [← HW.out]
  refine (HP.out W hv0.out).mono ?_
  rintro e w1 ⟨rfl, hb1⟩
  obtain ⟨R, hR⟩ : ∃ R, R = w.heap.size := ⟨_, rfl⟩
  have h1 : w1.heap[R]? = some (.cells zeroCells 30 (0, 0)) := by rw [hR]; exact (hb1.block _ (lt_of_block hz2)).trans hz2
  have h2 : Hid (Below R w w1) := by rw [hR]; exact hb0.trans (hb1.mono hb0.size)
  rw [← hR]
  have HR : Hid (R = w.heap.size) := hR
  clear hR hb1 hb0 hz2 hv0 HP HW
  obtain ⟨d, e⟩ := zero_cells h1
  obtain ⟨d0, d1, d2, d3, d4, d5, d6⟩ := d
  obtain ⟨e0, e1, e2, e3, e4, e5, e6⟩ := e
  clear h1
  rcases line_cases r0 r1 f2 root point typ sup with ⟨a, b, rfl, rfl⟩ | hz
  · rw [show lineV (.ok a) (.ok b) f2 root point typ sup = .tuple #[.agg #[.int .u64 a, .int .u64 b, .string (bstr f2), .string (bstr root), .string (bstr point), .string (bstr typ), .string (bstr sup)], .bool true] from rfl]
    go_wp2
    refine bodyPost_ret (v := .tuple #[mountV a b f2 root point typ sup, .bool true]) ?_ rfl ⟨rfl, ?_⟩
    · rw [results_cell_tmp rfl]
      go_simp
      rfl
    · exact zero_below HR.out h2.out _ _ _ _ _ _ _
  · have HZ : Hid (lineV r0 r1 f2 root point typ sup = .tuple #[zeroMount, .bool false]) := hz
    rw [hz, zeroMount]
    clear hz
    go_wp2
    refine bodyPost_ret (v := .tuple #[zeroMount, .bool false]) ?_ rfl ⟨by rw [HZ.out], ?_⟩
    · rw [results_cell_tmp rfl]
      go_simp
      rfl
    · exact zero_below HR.out h2.out _ _ _ _ _ _ _
end Go.Proofs.Qxb6600128aDoor
