import Derived.Test.Qxb6600128aDoorNum
import Derived.Deep.RegionHeld3
import Derived.Deep.RegionWith
import Derived.Laws.ResultCell
namespace Go.Proofs.Qxb6600128aDoor
open Go.RowKit

def bstr (l : List UInt8) : ByteArray := ⟨l.toArray⟩
theorem bstr_size (l : List UInt8) : (bstr l).size = l.length := by simp [bstr, ByteArray.size]
theorem bstr_list (l : List UInt8) : (bstr l).data.toList = l := by simp [bstr]
def mountV (a b : Nat) (dev root point typ sup : List UInt8) : Value := .agg #[.int .u64 a, .int .u64 b, .string (bstr dev), .string (bstr root), .string (bstr point), .string (bstr typ), .string (bstr sup)]
def zeroMount : Value := .agg #[.int .u64 0, .int .u64 0, .string ByteArray.empty, .string ByteArray.empty, .string ByteArray.empty, .string ByteArray.empty, .string ByteArray.empty]

/-- What 'parseLine' hands back. -/
def lineV (r0 r1 : Lib.NumEnd Nat) (dev root point typ sup : List UInt8) : Value :=
  match r0, r1 with
  | .ok a, .ok b => .tuple #[mountV a b dev root point typ sup, .bool true]
  | _, _ => .tuple #[zeroMount, .bool false]

def rowOf (fs : List (List UInt8)) : Array Value := (fs.map fun l => Value.string (bstr l)).toArray

def FieldsPost (fs : List (List UInt8)) (L : Nat) (w : World) (e : Ending) (w' : World) : Prop :=
  ∃ F, e = .returned (.slice (some ⟨F, 0, none⟩) L L) ∧ w.heap.size ≤ F ∧ w'.heap[F]? = some (.cells (rowOf fs) 9 (0, 0)) ∧ Below w.heap.size w w'

theorem fields_any (s : ByteArray) (w : World) (fs : List (List UInt8)) (L : Nat) (hF : Lib.fields s.data.toList = fs) (hL : fs.length = L) (hs : s.size ≤ 8388608) (hascii : ∀ (j : Nat) b, s.data.toList[j]? = some b → b.toNat < 128) (hv : Vars w) :
    Calls Tryd.prog 25 #[.string s] w (FieldsPost fs L w) := by
  refine (Tryd.strings_Fields s w (by omega) hascii hv.1).mono ?_
  rintro e w' ⟨rfl, rfl⟩
  rw [hF, hL]
  exact ⟨w.heap.size, rfl, Nat.le_refl _, heap_alloc_new _ _, (Below.refl _ _).alloc (Nat.le_refl _) _⟩

theorem row_cell {w : World} {F : Nat} {fs : List (List UInt8)} (h : w.heap[F]? = some (.cells (rowOf fs) 9 (0, 0))) (j : Nat) (l : List UInt8) (hj : fs[j]? = some l) : w.cell? ⟨F, j, none⟩ = some (.string (bstr l)) := by
  rw [block_cell h j]
  simp [rowOf, hj]

theorem idx_dash (fs : List (List UInt8)) (k : Nat) (hk : k < fs.length) (h1 : fs[k]? = some [45]) (h2 : ∀ (j : Nat) l, j < k → fs[j]? = some l → l ≠ [45]) : Lib.idxOfS (fs.map bstr) ⟨#[45]⟩ = (k : Int) := by
  unfold Lib.idxOfS
  rw [Lib.idxFromS_hit ⟨#[45]⟩ (fs.map bstr) k 0 (by simpa using hk) (by simp [List.getD, h1]; rfl)]
  · simp
  · intro j hj e
    obtain ⟨l, hl⟩ : ∃ l, fs[j]? = some l := ⟨_, List.getElem?_eq_getElem (by omega)⟩
    refine h2 j l hj hl ?_
    simp [List.getD, hl] at e
    have := congrArg (fun b => b.data.toList) e
    simpa [bstr] using this

def zeroCells : Array Value := #[.int .u64 0, .int .u64 0, .string ByteArray.empty, .string ByteArray.empty, .string ByteArray.empty, .string ByteArray.empty, .string ByteArray.empty]

/-- The worlds of the walk: the result's block, the fields' block, what stood before. -/
def Lines (w0 wx : World) (R F : Nat) (fs : List (List UInt8)) : Prop := wx.heap[R]? = some (.cells zeroCells 30 (0, 0)) ∧ wx.heap[F]? = some (.cells (rowOf fs) 9 (0, 0)) ∧ Below R w0 wx ∧ Vars wx

theorem Lines.keep {w0 wx wy : World} {R F : Nat} {fs : List (List UInt8)} (h : Lines w0 wx R F fs) (hb : Below wx.heap.size wx wy) : Lines w0 wy R F fs := by
  obtain ⟨h1, h2, h3, h4⟩ := h
  exact ⟨(hb.block R (lt_of_block h1)).trans h1, (hb.block F (lt_of_block h2)).trans h2, h3.trans (hb.mono (Nat.le_of_lt (lt_of_block h1))), h4.keep hb⟩

theorem zero_cells {w : World} {R : Nat} (h : w.heap[R]? = some (.cells zeroCells 30 (0, 0))) :
    (w.cell? ⟨R, 0, none⟩ = some (.int .u64 0) ∧ w.cell? ⟨R, 1, none⟩ = some (.int .u64 0) ∧ w.cell? ⟨R, 2, none⟩ = some (.string ByteArray.empty) ∧ w.cell? ⟨R, 3, none⟩ = some (.string ByteArray.empty) ∧ w.cell? ⟨R, 4, none⟩ = some (.string ByteArray.empty) ∧ w.cell? ⟨R, 5, none⟩ = some (.string ByteArray.empty) ∧ w.cell? ⟨R, 6, none⟩ = some (.string ByteArray.empty)) ∧
    (w.frozen? ⟨R, 0, none⟩ = false ∧ w.frozen? ⟨R, 1, none⟩ = false ∧ w.frozen? ⟨R, 2, none⟩ = false ∧ w.frozen? ⟨R, 3, none⟩ = false ∧ w.frozen? ⟨R, 4, none⟩ = false ∧ w.frozen? ⟨R, 5, none⟩ = false ∧ w.frozen? ⟨R, 6, none⟩ = false) := by
  refine ⟨⟨?_, ?_, ?_, ?_, ?_, ?_, ?_⟩, ?_, ?_, ?_, ?_, ?_, ?_, ?_⟩
  all_goals first | (rw [block_cell h]; rfl) | exact block_free h _

/-- What the cell holds, whatever it is. -/
def at7 (R i : Nat) (w : World) : Value := (w.cell? ⟨R, i, none⟩).getD undef

structure Held (w : World) (R F : Nat) (fs : List (List UInt8)) (wx : World) : Prop where
  all : ∃ C : Array Value, C.size = 7 ∧ wx.heap[R]? = some (.cells C 30 (0, 0)) ∧ wx.heap[F]? = some (.cells (rowOf fs) 9 (0, 0)) ∧ Below R w wx

theorem at7_eq {R i : Nat} {w : World} {C : Array Value} (h : w.heap[R]? = some (.cells C 30 (0, 0))) (hC : C.size = 7) (hi : i < 7) : w.cell? ⟨R, i, none⟩ = some (at7 R i w) := by
  unfold at7
  rw [block_cell h i, Array.getElem?_eq_getElem (by omega)]
  rfl

theorem held_S {w wx : World} {R F p : Nat} {fs : List (List UInt8)} {f0 f1 f2 root point typ sup : List UInt8} (h : Held w R F fs wx) (hk : (fs[0]? = some f0 ∧ fs[1]? = some f1 ∧ fs[2]? = some f2 ∧ fs[3]? = some (esc root) ∧ fs[4]? = some (esc point) ∧ fs[p + 1]? = some typ ∧ fs[p + 3]? = some sup)) :
    Hid (Held w R F fs wx) ∧ wx.cell? ⟨F, 2, none⟩ = some (.string (bstr f2)) ∧ wx.cell? ⟨F, 3, none⟩ = some (.string (bstr (esc root))) ∧ wx.cell? ⟨F, 4, none⟩ = some (.string (bstr (esc point))) ∧ wx.cell? ⟨F, p + 1, none⟩ = some (.string (bstr typ)) ∧ wx.cell? ⟨F, p + 3, none⟩ = some (.string (bstr sup)) ∧ wx.cell? ⟨R, 0, none⟩ = some (at7 R 0 wx) ∧ wx.cell? ⟨R, 1, none⟩ = some (at7 R 1 wx) ∧ wx.cell? ⟨R, 2, none⟩ = some (at7 R 2 wx) ∧ wx.cell? ⟨R, 3, none⟩ = some (at7 R 3 wx) ∧ wx.cell? ⟨R, 4, none⟩ = some (at7 R 4 wx) ∧ wx.cell? ⟨R, 5, none⟩ = some (at7 R 5 wx) ∧ wx.cell? ⟨R, 6, none⟩ = some (at7 R 6 wx) ∧ wx.frozen? ⟨R, 0, none⟩ = false ∧ wx.frozen? ⟨R, 1, none⟩ = false ∧ wx.frozen? ⟨R, 2, none⟩ = false ∧ wx.frozen? ⟨R, 3, none⟩ = false ∧ wx.frozen? ⟨R, 4, none⟩ = false ∧ wx.frozen? ⟨R, 5, none⟩ = false ∧ wx.frozen? ⟨R, 6, none⟩ = false := by
  obtain ⟨C, h1, h2, h3, h4⟩ := h.all
  refine ⟨⟨C, h1, h2, h3, h4⟩, row_cell h3 2 _ hk.2.2.1, row_cell h3 3 _ hk.2.2.2.1, row_cell h3 4 _ hk.2.2.2.2.1, row_cell h3 _ _ hk.2.2.2.2.2.1, row_cell h3 _ _ hk.2.2.2.2.2.2, ?_⟩
  refine ⟨?_, ?_, ?_, ?_, ?_, ?_, ?_, ?_, ?_, ?_, ?_, ?_, ?_, ?_⟩
  all_goals first | exact at7_eq h2 h1 (by omega) | exact block_free h2 _

theorem held_call {w wx wy : World} {R F : Nat} {fs : List (List UInt8)} {X : Prop} (hb : Below wx.heap.size wx wy) (h : Hid (Held w R F fs wx) ∧ X) : Held w R F fs wy := by
  obtain ⟨C, h1, h2, h3, h4⟩ := h.1.out.all
  exact ⟨C, h1, (hb.block R (lt_of_block h2)).trans h2, (hb.block F (lt_of_block h3)).trans h3, h4.trans (hb.mono (Nat.le_of_lt (lt_of_block h2)))⟩

theorem held_drew {w wx : World} {R F : Nat} {fs : List (List UInt8)} (h : Held w R F fs wx) : Held w R F fs wx.drew := by
  obtain ⟨C, h1, h2, h3, h4⟩ := h.all
  exact ⟨C, h1, h2, h3, h4.drew⟩

theorem held_set {w wx : World} {R F : Nat} {fs : List (List UInt8)} (hRF : R ≠ F) (h : Held w R F fs wx) (i : Nat) (x : Value) : Held w R F fs (wx.setCell ⟨R, i, none⟩ x) := by
  obtain ⟨C, h1, h2, h3, h4⟩ := h.all
  exact ⟨C.setIfInBounds i x, by simpa using h1, block_setCell h2 i x, (Below.heap_setCell _ _ _ _ (fun e => hRF e.symm)).trans h3, h4.setCell (Nat.le_refl _) _⟩

theorem held_store {w wx : World} {R F : Nat} {fs : List (List UInt8)} {X : Prop} (hRF : R ≠ F) (h : Hid (Held w R F fs wx) ∧ X) (x0 x1 x2 x3 x4 x5 x6 : Value) : Held w R F fs (((((((wx.setCell ⟨R, 0, none⟩ x0).setCell ⟨R, 1, none⟩ x1).setCell ⟨R, 2, none⟩ x2).setCell ⟨R, 3, none⟩ x3).setCell ⟨R, 4, none⟩ x4).setCell ⟨R, 5, none⟩ x5).setCell ⟨R, 6, none⟩ x6) :=
  held_set hRF (held_set hRF (held_set hRF (held_set hRF (held_set hRF (held_set hRF (held_set hRF h.1.out _ _) _ _) _ _) _ _) _ _) _ _) _ _

theorem seven {C : Array Value} (h : C.size = 7) (x0 x1 x2 x3 x4 x5 x6 : Value) : (((((((C.setIfInBounds 0 x0).setIfInBounds 1 x1).setIfInBounds 2 x2).setIfInBounds 3 x3).setIfInBounds 4 x4).setIfInBounds 5 x5).setIfInBounds 6 x6) = #[x0, x1, x2, x3, x4, x5, x6] := by
  obtain ⟨l⟩ := C
  have h' : l.length = 7 := by simpa using h
  rcases l with _ | ⟨c0, l⟩
  · simp at h'
  rcases l with _ | ⟨c1, l⟩
  · simp at h'
  rcases l with _ | ⟨c2, l⟩
  · simp at h'
  rcases l with _ | ⟨c3, l⟩
  · simp at h'
  rcases l with _ | ⟨c4, l⟩
  · simp at h'
  rcases l with _ | ⟨c5, l⟩
  · simp at h'
  rcases l with _ | ⟨c6, l⟩
  · simp at h'
  rcases l with _ | ⟨c7, l⟩
  · rfl
  · simp at h'

theorem store_back {w wx : World} {R F : Nat} {fs : List (List UInt8)} {X : Prop} (h : Hid (Held w R F fs wx) ∧ X) (x0 x1 x2 x3 x4 x5 x6 : Value) : Value.agg #[at7 R 0 (((((((wx.setCell ⟨R, 0, none⟩ x0).setCell ⟨R, 1, none⟩ x1).setCell ⟨R, 2, none⟩ x2).setCell ⟨R, 3, none⟩ x3).setCell ⟨R, 4, none⟩ x4).setCell ⟨R, 5, none⟩ x5).setCell ⟨R, 6, none⟩ x6), at7 R 1 (((((((wx.setCell ⟨R, 0, none⟩ x0).setCell ⟨R, 1, none⟩ x1).setCell ⟨R, 2, none⟩ x2).setCell ⟨R, 3, none⟩ x3).setCell ⟨R, 4, none⟩ x4).setCell ⟨R, 5, none⟩ x5).setCell ⟨R, 6, none⟩ x6), at7 R 2 (((((((wx.setCell ⟨R, 0, none⟩ x0).setCell ⟨R, 1, none⟩ x1).setCell ⟨R, 2, none⟩ x2).setCell ⟨R, 3, none⟩ x3).setCell ⟨R, 4, none⟩ x4).setCell ⟨R, 5, none⟩ x5).setCell ⟨R, 6, none⟩ x6), at7 R 3 (((((((wx.setCell ⟨R, 0, none⟩ x0).setCell ⟨R, 1, none⟩ x1).setCell ⟨R, 2, none⟩ x2).setCell ⟨R, 3, none⟩ x3).setCell ⟨R, 4, none⟩ x4).setCell ⟨R, 5, none⟩ x5).setCell ⟨R, 6, none⟩ x6), at7 R 4 (((((((wx.setCell ⟨R, 0, none⟩ x0).setCell ⟨R, 1, none⟩ x1).setCell ⟨R, 2, none⟩ x2).setCell ⟨R, 3, none⟩ x3).setCell ⟨R, 4, none⟩ x4).setCell ⟨R, 5, none⟩ x5).setCell ⟨R, 6, none⟩ x6), at7 R 5 (((((((wx.setCell ⟨R, 0, none⟩ x0).setCell ⟨R, 1, none⟩ x1).setCell ⟨R, 2, none⟩ x2).setCell ⟨R, 3, none⟩ x3).setCell ⟨R, 4, none⟩ x4).setCell ⟨R, 5, none⟩ x5).setCell ⟨R, 6, none⟩ x6), at7 R 6 (((((((wx.setCell ⟨R, 0, none⟩ x0).setCell ⟨R, 1, none⟩ x1).setCell ⟨R, 2, none⟩ x2).setCell ⟨R, 3, none⟩ x3).setCell ⟨R, 4, none⟩ x4).setCell ⟨R, 5, none⟩ x5).setCell ⟨R, 6, none⟩ x6)] = .agg #[x0, x1, x2, x3, x4, x5, x6] := by
  obtain ⟨C, h1, h2, h3, h4⟩ := h.1.out.all
  have hh := block_setCell (block_setCell (block_setCell (block_setCell (block_setCell (block_setCell (block_setCell h2 0 x0) 1 x1) 2 x2) 3 x3) 4 x4) 5 x5) 6 x6
  rw [seven h1] at hh
  have one : ∀ (i : Nat) (x : Value), (#[x0, x1, x2, x3, x4, x5, x6] : Array Value)[i]? = some x → at7 R i (((((((wx.setCell ⟨R, 0, none⟩ x0).setCell ⟨R, 1, none⟩ x1).setCell ⟨R, 2, none⟩ x2).setCell ⟨R, 3, none⟩ x3).setCell ⟨R, 4, none⟩ x4).setCell ⟨R, 5, none⟩ x5).setCell ⟨R, 6, none⟩ x6) = x := by
    intro i x hx
    unfold at7
    rw [block_cell hh i, hx]
    rfl
  rw [one 0 x0 rfl, one 1 x1 rfl, one 2 x2 rfl, one 3 x3 rfl, one 4 x4 rfl, one 5 x5 rfl, one 6 x6 rfl]

theorem held_below {w wx : World} {R F : Nat} {fs : List (List UInt8)} {X : Prop} (hR : R = w.heap.size) (h : Hid (Held w R F fs wx) ∧ X) : Below w.heap.size w wx := by
  obtain ⟨C, h1, h2, h3, h4⟩ := h.1.out.all
  rw [← hR]
  exact h4

theorem zero_below {w wx : World} {R : Nat} (hR : R = w.heap.size) (h : Below R w wx) (x0 x1 x2 x3 x4 x5 x6 : Value) : Below w.heap.size w (((((((wx.setCell ⟨R, 0, none⟩ x0).setCell ⟨R, 1, none⟩ x1).setCell ⟨R, 2, none⟩ x2).setCell ⟨R, 3, none⟩ x3).setCell ⟨R, 4, none⟩ x4).setCell ⟨R, 5, none⟩ x5).setCell ⟨R, 6, none⟩ x6) := by
  rw [← hR]
  exact ((((((h.setCell (Nat.le_refl _) _).setCell (Nat.le_refl _) _).setCell (Nat.le_refl _) _).setCell (Nat.le_refl _) _).setCell (Nat.le_refl _) _).setCell (Nat.le_refl _) _).setCell (Nat.le_refl _) _

theorem line_no0 {r0 r1 : Lib.NumEnd Nat} {dev root point typ sup : List UInt8} (h : ∀ n, r0 ≠ .ok n) : .returned (.tuple #[zeroMount, .bool false]) = Ending.returned (lineV r0 r1 dev root point typ sup) := by
  cases r0
  case ok n => exact absurd rfl (h n)
  all_goals rfl
theorem line_no1 {r0 r1 : Lib.NumEnd Nat} {dev root point typ sup : List UInt8} (h : ∀ n, r1 ≠ .ok n) : .returned (.tuple #[zeroMount, .bool false]) = Ending.returned (lineV r0 r1 dev root point typ sup) := by
  cases r0 <;> cases r1
  all_goals first | rfl | exact absurd rfl (h _)

set_option maxRecDepth 100000 in
set_option maxHeartbeats 4000000 in
theorem parseLine_any (s : ByteArray) (w : World) (f0 f1 f2 f5 root point typ src sup : List UInt8) (opts : List (List UInt8))
    (hF : Lib.fields s.data.toList = f0 :: f1 :: f2 :: esc root :: esc point :: f5 :: (opts ++ [[45], typ, src, sup]))
    (hs : s.size ≤ 8388608) (hascii : ∀ (j : Nat) b, s.data.toList[j]? = some b → b.toNat < 128)
    (hd0 : f0 ≠ [45]) (hd1 : f1 ≠ [45]) (hd2 : f2 ≠ [45]) (hd3 : esc root ≠ [45]) (hd4 : esc point ≠ [45]) (hd5 : f5 ≠ [45]) (hdo : ∀ x ∈ opts, x ≠ [45])
    (hl0 : f0.length ≤ 8388608) (hl1 : f1.length ≤ 8388608) (hl3 : (esc root).length ≤ 8388608) (hl4 : (esc point).length ≤ 8388608) (hlo : opts.length ≤ 8388608) (hv : Vars w) :
    Calls Tryd.prog 23 #[.string s] w fun e w' => e = .returned (lineV (Lib.parseUintB 64 f0) (Lib.parseUintB 64 f1) f2 root point typ sup) ∧ Below w.heap.size w w' := by
  obtain ⟨fs, hfs⟩ : ∃ fs, fs = f0 :: f1 :: f2 :: esc root :: esc point :: f5 :: (opts ++ [[45], typ, src, sup]) := ⟨_, rfl⟩
  obtain ⟨m, hm⟩ : ∃ m, m = opts.length := ⟨_, rfl⟩
  have hL : fs.length = m + 10 := by rw [hfs, hm]; simp
  have k0 : fs[0]? = some f0 := by rw [hfs]; rfl
  have k1 : fs[1]? = some f1 := by rw [hfs]; rfl
  have k2 : fs[2]? = some f2 := by rw [hfs]; rfl
  have k3 : fs[3]? = some (esc root) := by rw [hfs]; rfl
  have k4 : fs[4]? = some (esc point) := by rw [hfs]; rfl
  have k6 : fs[m + 6]? = some [45] := by rw [hfs, hm]; simp
  have k7 : fs[m + 6 + 1]? = some typ := by rw [hfs, hm]; simp
  have k9 : fs[m + 6 + 3]? = some sup := by rw [hfs, hm]; simp
  have hidx : Lib.idxOfS (fs.map bstr) ⟨#[45]⟩ = ((m + 6 : Nat) : Int) := by
    refine idx_dash fs (m + 6) (by omega) k6 ?_
    intro j l hj hl
    rw [hfs] at hl
    match j, hl with
    | 0, hl => simp at hl; rw [← hl]; exact hd0
    | 1, hl => simp at hl; rw [← hl]; exact hd1
    | 2, hl => simp at hl; rw [← hl]; exact hd2
    | 3, hl => simp at hl; rw [← hl]; exact hd3
    | 4, hl => simp at hl; rw [← hl]; exact hd4
    | 5, hl => simp at hl; rw [← hl]; exact hd5
    | j + 6, hl =>
      simp at hl
      rw [List.getElem?_append_left (by omega)] at hl
      exact hdo l (List.mem_of_getElem? hl)
  have hm8 : m ≤ 8388608 := by omega
  obtain ⟨L, hLL⟩ : ∃ L, L = m + 10 := ⟨_, rfl⟩
  obtain ⟨p, hp⟩ : ∃ p, p = m + 6 := ⟨_, rfl⟩
  rw [← hLL] at hL
  rw [← hp] at k7 k9 hidx
  have hLp1 : p + 4 ≤ L := by omega
  have hLp2 : L ≤ p + 4 := by omega
  have hp6 : 6 ≤ p := by omega
  have hp8 : p ≤ 8388614 := by omega
  clear hp hLL hm8
  rw [← hfs] at hF
  have HF : Hid (Lib.fields s.data.toList = fs) := hF
  have HA : Hid (∀ (j : Nat) b, s.data.toList[j]? = some b → b.toNat < 128) := hascii
  have HV : Hid (Vars w) := hv
  have HK : Hid (fs[0]? = some f0 ∧ fs[1]? = some f1 ∧ fs[2]? = some f2 ∧ fs[3]? = some (esc root) ∧ fs[4]? = some (esc point) ∧ fs[p + 1]? = some typ ∧ fs[p + 3]? = some sup) := ⟨k0, k1, k2, k3, k4, k7, k9⟩
  have HI : Hid (Lib.idxOfS (fs.map bstr) ⟨#[45]⟩ = (p : Int)) := hidx
  clear hF hascii hv hd0 hd1 hd2 hd3 hd4 hd5 hdo hfs hm hlo k0 k1 k2 k3 k4 k6 k7 k9 hidx
  go_enter Tryd.func23, Tryd.ntmps23
  go_wp2_with fail
  have hz : Below w.heap.size w (w.alloc (.cells #[.int .u64 0, .int .u64 0, .string ⟨#[]⟩, .string ⟨#[]⟩, .string ⟨#[]⟩, .string ⟨#[]⟩, .string ⟨#[]⟩] 30)) := (Below.refl _ _).alloc (Nat.le_refl _) _
  have hz2 : (w.alloc (.cells #[.int .u64 0, .int .u64 0, .string ⟨#[]⟩, .string ⟨#[]⟩, .string ⟨#[]⟩, .string ⟨#[]⟩, .string ⟨#[]⟩] 30)).heap[w.heap.size]? = some (.cells zeroCells 30 (0, 0)) := heap_alloc_new _ _
  have hz3 := HV.out.keep hz
  generalize w.alloc (.cells #[.int .u64 0, .int .u64 0, .string ⟨#[]⟩, .string ⟨#[]⟩, .string ⟨#[]⟩, .string ⟨#[]⟩, .string ⟨#[]⟩] 30) = w0 at hz hz2 hz3 ⊢
  refine (fields_any s w0 fs L HF.out hL hs HA.out hz3).mono ?_
  rintro e w1 ⟨F, rfl, hF1, hF2, hb1⟩
  have HL : Hid (Lines w w1 w.heap.size F fs) := ⟨(hb1.block _ (lt_of_block hz2)).trans hz2, hF2, hz.trans (hb1.mono hz.size), hz3.keep hb1⟩
  have hRF : w.heap.size ≠ F := by have := lt_of_block hz2; omega
  clear hz hz2 hz3 hF1 hF2 hb1 HV HA HF
  obtain ⟨R, hR⟩ : ∃ R, R = w.heap.size := ⟨_, rfl⟩
  rw [← hR] at HL hRF ⊢
  have HR : Hid (R = w.heap.size) := hR
  clear hR
  go_wp2_with fail
  refine (Tryd.slices_Index_string F 0 L L (fs.map bstr) ⟨#[45]⟩ _ (by simp [hL]) (by omega) ?_).mono ?_
  · intro j hj
    have hj' : j < fs.length := by simpa using hj
    rw [Nat.zero_add, row_cell HL.out.2.1 j fs[j] (List.getElem?_eq_getElem hj')]
    simp [List.getD, List.getElem?_eq_getElem hj']
  rw [List.take_of_length_le (by simp [hL])]
  rw [HI.out]
  rintro e w' ⟨rfl, rfl⟩
  have c0 := row_cell HL.out.2.1 0 f0 HK.out.1
  have i2 : (2 : Int) < (L : Int) := by omega
  have i3 : (3 : Int) < (L : Int) := by omega
  have i4 : (4 : Int) < (L : Int) := by omega
  have i7 : (p : Int) + 1 < (L : Int) := by omega
  have i9 : (p : Int) + 3 < (L : Int) := by omega
  have i10 : ¬ (L : Int) < (p : Int) + 4 := by omega
  have i11 : ¬ (p : Int) < 6 := by omega
  go_wp2_with fail
  refine (parse10_any (bstr f0) _ (by rw [bstr_size]; exact hl0) HL.out.2.2.2).mono ?_
  rintro e w2 ⟨hb2, hc0⟩
  have HL2 : Hid (Lines w w2 R F fs) := HL.out.keep hb2
  have c1 := row_cell HL2.out.2.1 1 f1 HK.out.2.1
  clear hb2 HL c0
  rcases hc0 with ⟨n0, h0, rfl⟩ | ⟨hno0, z0, te0, pe0, rfl⟩
  · go_wp2_with fail
    refine (parse10_any (bstr f1) _ (by rw [bstr_size]; exact hl1) HL2.out.2.2.2).mono ?_
    rintro e w3 ⟨hb3, hc1⟩
    have HL3 : Hid (Lines w w3 R F fs) := HL2.out.keep hb3
    clear hb3 HL2 c1
    rcases hc1 with ⟨n1, h1, rfl⟩ | ⟨hno1, z1, te1, pe1, rfl⟩
    · have H0 : Held w R F fs w3 := ⟨zeroCells, rfl, HL3.out.1, HL3.out.2.1, HL3.out.2.2.1⟩
      have HH : Hid (Held w R F fs w3) := H0
      clear H0 HL3 hs hl0 hl1
      go_wp2_with fail
      have w7 : IntKind.i64.wrap ((p : Int) + 1) = (p : Int) + 1 := by rw [IntKind.wrap_i64]; omega
      have w9 : IntKind.i64.wrap ((p : Int) + 3) = (p : Int) + 3 := by rw [IntKind.wrap_i64]; omega
      have t7 : ((p : Int) + 1).toNat = p + 1 := by omega
      have t9 : ((p : Int) + 3).toNat = p + 3 := by omega
      have z7 : (0 : Int) ≤ (p : Int) + 1 := by omega
      have z9 : (0 : Int) ≤ (p : Int) + 3 := by omega
      have H01 : Hid (Lib.parseUintB 64 (bstr f0).data.toList = .ok n0 ∧ Lib.parseUintB 64 (bstr f1).data.toList = .ok n1) := ⟨h0, h1⟩
      clear h0 h1 i10 i11 hLp1 hLp2 hp6 hp8
      go_region_held3 (fun wx => Hid (Held w R F fs wx) ∧ wx.cell? ⟨F, 2, none⟩ = some (.string (bstr f2)) ∧ wx.cell? ⟨F, 3, none⟩ = some (.string (bstr (esc root))) ∧ wx.cell? ⟨F, 4, none⟩ = some (.string (bstr (esc point))) ∧ wx.cell? ⟨F, p + 1, none⟩ = some (.string (bstr typ)) ∧ wx.cell? ⟨F, p + 3, none⟩ = some (.string (bstr sup)) ∧ wx.cell? ⟨R, 0, none⟩ = some (at7 R 0 wx) ∧ wx.cell? ⟨R, 1, none⟩ = some (at7 R 1 wx) ∧ wx.cell? ⟨R, 2, none⟩ = some (at7 R 2 wx) ∧ wx.cell? ⟨R, 3, none⟩ = some (at7 R 3 wx) ∧ wx.cell? ⟨R, 4, none⟩ = some (at7 R 4 wx) ∧ wx.cell? ⟨R, 5, none⟩ = some (at7 R 5 wx) ∧ wx.cell? ⟨R, 6, none⟩ = some (at7 R 6 wx) ∧ wx.frozen? ⟨R, 0, none⟩ = false ∧ wx.frozen? ⟨R, 1, none⟩ = false ∧ wx.frozen? ⟨R, 2, none⟩ = false ∧ wx.frozen? ⟨R, 3, none⟩ = false ∧ wx.frozen? ⟨R, 4, none⟩ = false ∧ wx.frozen? ⟨R, 5, none⟩ = false ∧ wx.frozen? ⟨R, 6, none⟩ = false)
        (first | (with_reducible refine held_S ?_ HK.out; first | with_reducible exact held_drew HH.out | with_reducible exact held_call (by assumption) (by assumption) | with_reducible exact held_store hRF (by assumption) _ _ _ _ _ _ _))
        (first
          | (go_at_call_of 24 (Value.string (bstr (esc root))); refine (unescape_any (bstr (esc root)) root (bstr_list _) (by rw [bstr_size]; exact hl3) _).mono ?_; rintro e wy1 ⟨rfl, hby1⟩)
          | (go_at_call_of 24 (Value.string (bstr (esc point))); refine (unescape_any (bstr (esc point)) point (bstr_list _) (by rw [bstr_size]; exact hl4) _).mono ?_; rintro e wy2 ⟨rfl, hby2⟩))
      have hH1 : Held w R F fs wy1 := held_call (X := True) hby1 ⟨held_drew HH.out, trivial⟩
      have hH2 : Hid (Held w R F fs wy2) := held_call (X := True) hby2 ⟨hH1, trivial⟩
      go_wp2
      (try simp only [Exit.inBlock, Exit.then])
      refine bodyPost_ret (v := .tuple #[mountV n0 n1 f2 root point typ sup, .bool true]) ?_ rfl ⟨?_, ?_⟩
      · rw [results_cell_tmp rfl]
        go_simp
        exact (store_back (X := True) ⟨hH2.out, trivial⟩ _ _ _ _ _ _ _).trans rfl
      · have := H01.out
        rw [bstr_list, bstr_list] at this
        rw [this.1, this.2]
        rfl
      · exact held_below (X := True) HR.out ⟨held_store (X := True) hRF ⟨hH2.out, trivial⟩ _ _ _ _ _ _ _, trivial⟩
    · have HN : Hid (∀ n, Lib.parseUintB 64 (bstr f1).data.toList ≠ .ok n) := hno1
      clear hno1
      obtain ⟨d, e⟩ := zero_cells HL3.out.1
      obtain ⟨d0, d1, d2, d3, d4, d5, d6⟩ := d
      obtain ⟨e0, e1, e2, e3, e4, e5, e6⟩ := e
      go_wp2
      refine bodyPost_ret (v := .tuple #[zeroMount, .bool false]) ?_ rfl ⟨?_, ?_⟩
      · rw [results_cell_tmp rfl]
        go_simp
        rfl
      · have := HN.out
        rw [bstr_list] at this
        exact line_no1 this
      · exact zero_below HR.out HL3.out.2.2.1 _ _ _ _ _ _ _
  · go_wp2_with fail
    refine (parse10_any (bstr f1) _ (by rw [bstr_size]; exact hl1) HL2.out.2.2.2).mono ?_
    rintro e w3 ⟨hb3, hc1⟩
    have HL3 : Hid (Lines w w3 R F fs) := HL2.out.keep hb3
    clear hb3 HL2 c1
    have HN : Hid (∀ n, Lib.parseUintB 64 (bstr f0).data.toList ≠ .ok n) := hno0
    clear hno0
    obtain ⟨d, e⟩ := zero_cells HL3.out.1
    obtain ⟨d0, d1, d2, d3, d4, d5, d6⟩ := d
    obtain ⟨e0, e1, e2, e3, e4, e5, e6⟩ := e
    rcases hc1 with ⟨n1, h1, rfl⟩ | ⟨hno1, z1, te1, pe1, rfl⟩
    all_goals
      go_wp2
      refine bodyPost_ret (v := .tuple #[zeroMount, .bool false]) ?_ rfl ⟨?_, ?_⟩
      · rw [results_cell_tmp rfl]
        go_simp
        rfl
      · have := HN.out
        rw [bstr_list] at this
        exact line_no0 this
      · exact zero_below HR.out HL3.out.2.2.1 _ _ _ _ _ _ _
end Go.Proofs.Qxb6600128aDoor
