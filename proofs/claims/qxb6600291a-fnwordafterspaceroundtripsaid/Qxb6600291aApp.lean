import Derived.Test.Qxb6600291aZzw
namespace Go.Proofs.Qxb6600291a
open Go.RowKit

theorem setCells_alloc (w : World) : ∀ (vs : List Value) (o : Nat) (cs : Array Value), o + vs.length ≤ cs.size →
    ∃ cs' : Array Value, (w.alloc (.cells cs 5)).setCells w.heap.size o vs = w.alloc (.cells cs' 5) ∧ cs'.size = cs.size ∧ (∀ j, j < o → cs'[j]? = cs[j]?) ∧ (∀ j v, vs[j]? = some v → cs'[o + j]? = some v)
  | [], o, cs, _ => ⟨cs, rfl, rfl, fun _ _ => rfl, fun j v h => by simp at h⟩
  | v :: vs, o, cs, h => by
    obtain ⟨cs', h1, h2, h3, h4⟩ := setCells_alloc w vs (o + 1) (cs.setIfInBounds o v) (by simp at h ⊢; omega)
    refine ⟨cs', ?_, by simpa using h2, fun j hj => ?_, fun j u hj => ?_⟩
    · rw [← h1]
      show ((w.alloc (.cells cs 5)).setCell ⟨w.heap.size, o, none⟩ v).setCells w.heap.size (o + 1) vs = _
      rw [World.setCell_alloc_at _ _ _ _ _ rfl]
    · rw [h3 j (by omega), Array.getElem?_setIfInBounds, if_neg (by omega)]
    · cases j with
      | zero =>
        simp at hj h
        subst hj
        rw [Nat.add_zero, h3 o (by omega), Array.getElem?_setIfInBounds, if_pos rfl, if_pos (by omega)]
      | succ j =>
        have := h4 j u (by simpa using hj)
        rw [show o + (j + 1) = o + 1 + j by omega]
        exact this

/-- The row of a '[]byte' that is being filled: its first cells are the bytes Z. -/
def Filled (cs : Array Value) (T : Nat) (Z : List Int) : Prop := cs.size = T ∧ ∀ (j : Nat) (n : Int), Z[j]? = some n → cs[j]? = some (Value.int .u8 n)

/-- 'b = append(b, x...)' where there is room. -/
theorem app_run (w : World) (cs : Array Value) (T : Nat) (Z : List Int) (tx : TypeId) (x : Value) (m : Nat) (ns : List Int) (hF : Filled cs T Z) (hs : Src Try.prog 1 tx x m (ns.map (Value.int .u8)) (w.alloc (.cells cs 5))) (hfit : Z.length + m ≤ T) :
    ∃ cs' : Array Value, Filled cs' T (Z ++ ns) ∧ (Builtin.append_ #[22, tx] 22 #[.slice (some ⟨w.heap.size, 0, none⟩) Z.length T, x]).run Try.prog (w.alloc (.cells cs 5)) =
      .ok (.slice (some ⟨w.heap.size, 0, none⟩) (Z.length + m) T) (w.alloc (.cells cs' 5)) := by
  obtain ⟨i, hi, _, hsz, _⟩ := info_parts info5
  have hl : (ns.map (Value.int .u8)).length = m := by simpa using hs.newsLen
  obtain ⟨cs', h1, h2, h3, h4⟩ := setCells_alloc w (ns.map (Value.int .u8)) Z.length cs (by rw [hl, hF.1]; exact hfit)
  refine ⟨cs', ⟨h2.trans hF.1, fun j n hj => ?_⟩, ?_⟩
  · by_cases hlt : j < Z.length
    · rw [List.getElem?_append_left hlt] at hj
      rw [h3 j hlt]; exact hF.2 j n hj
    · rw [List.getElem?_append_right (by omega)] at hj
      have := h4 (j - Z.length) (.int .u8 n) (by rw [List.getElem?_map, hj]; rfl)
      rwa [show Z.length + (j - Z.length) = j by omega] at this
  · have hcell : ∀ j, j < (ns.map (Value.int .u8)).length → ((w.alloc (.cells cs 5)).cell? ⟨w.heap.size, 0 + Z.length * i.size + j, none⟩).isSome = true := by
      intro j hj
      rw [hsz]
      simp only [World.cell?, heap_alloc_new]
      have := hF.1
      simp
      omega
    have hfr : ∀ j, j < (ns.map (Value.int .u8)).length → (w.alloc (.cells cs 5)).frozen? ⟨w.heap.size, 0 + Z.length * i.size + j, none⟩ = false := by
      intro j hj
      simp only [World.frozen?, heap_alloc_new]
      simp
    have h := run_append_room_src (P := Try.prog) (w.alloc (.cells cs 5)) 22 tx 22 5 i Try.underlying22 hi w.heap.size 0 Z.length T x m (ns.map (Value.int .u8)) (by rw [hsz]; exact hs) hfit hcell hfr
    rw [h, hsz, ← h1]
    simp

def nums (s : ByteArray) : List Int := s.data.toList.map fun b => (b.toNat : Int)
theorem nums_length (s : ByteArray) : (nums s).length = s.size := by unfold nums; rw [List.length_map, Array.length_toList]; rfl
theorem nums_cells (s : ByteArray) : (nums s).map (Value.int .u8) = byteCells s := by simp [nums, byteCells]
theorem nums_at (s : ByteArray) (i : Nat) (h : i < s.size) : (nums s)[i]? = some (s[i].toNat : Int) := by
  unfold nums
  rw [List.getElem?_map, Array.getElem?_toList, Array.getElem?_eq_getElem (by simpa using h)]
  rfl

/-- The three appends, one behind the other. -/
theorem three (W : World) (s t : ByteArray) (x : Value) (m : Nat) (ns : List Int) (T : Nat) (hT : T = s.size + t.size + m) (hm : ns.length = m) (hx : ∀ cs, Src Try.prog 1 22 x m (ns.map (Value.int .u8)) (W.alloc (.cells cs 5))) :
    ∃ c1 c2 c3 : Array Value,
      (Builtin.append_ #[22, 9] 22 #[.slice (some ⟨W.heap.size, 0, none⟩) 0 T, .string s]).run Try.prog (W.alloc (.cells (madeCells #[.int .u8 0] T) 5)) = .ok (.slice (some ⟨W.heap.size, 0, none⟩) s.size T) (W.alloc (.cells c1 5)) ∧
      (Builtin.append_ #[22, 9] 22 #[.slice (some ⟨W.heap.size, 0, none⟩) s.size T, .string t]).run Try.prog (W.alloc (.cells c1 5)) = .ok (.slice (some ⟨W.heap.size, 0, none⟩) (s.size + t.size) T) (W.alloc (.cells c2 5)) ∧
      (Builtin.append_ #[22, 22] 22 #[.slice (some ⟨W.heap.size, 0, none⟩) (s.size + t.size) T, x]).run Try.prog (W.alloc (.cells c2 5)) = .ok (.slice (some ⟨W.heap.size, 0, none⟩) T T) (W.alloc (.cells c3 5)) ∧
      Filled c3 T (nums s ++ nums t ++ ns) := by
  obtain ⟨c1, f1, r1⟩ := app_run W (madeCells #[.int .u8 0] T) T [] 9 (.string s) s.size (nums s) ⟨size_madeCells _ _, fun j n h => by simp at h⟩ (by rw [nums_cells]; exact Src.ofString _ Try.underlying9 s) (by simp; omega)
  obtain ⟨c2, f2, r2⟩ := app_run W c1 T (nums s) 9 (.string t) t.size (nums t) (by simpa using f1) (by rw [nums_cells]; exact Src.ofString _ Try.underlying9 t) (by rw [nums_length]; omega)
  obtain ⟨c3, f3, r3⟩ := app_run W c2 T (nums s ++ nums t) 22 x m ns f2 (hx _) (by rw [List.length_append, nums_length, nums_length]; omega)
  simp only [List.length_append, nums_length, List.length_nil, Nat.zero_add] at r1 r2 r3
  exact ⟨c1, c2, c3, r1, r2, by rw [r3, hT], f3⟩

/-- Byte k of the text. -/
def zOf (s t : ByteArray) (ns : List Int) (k : Nat) : Int := (nums s ++ nums t ++ ns).getD k 0

theorem zOf_left (s t : ByteArray) (ns : List Int) (k : Nat) (h : k < s.size) : zOf s t ns k = (s[k].toNat : Int) := by
  unfold zOf
  rw [List.getD_eq_getElem?_getD, List.append_assoc, List.getElem?_append_left (by rw [nums_length]; exact h), nums_at s k h]
  rfl

theorem zOf_mid (s t : ByteArray) (ns : List Int) (i : Nat) (h : i < t.size) : zOf s t ns (s.size + i) = (t[i].toNat : Int) := by
  unfold zOf
  rw [List.getD_eq_getElem?_getD, List.append_assoc, List.getElem?_append_right (by rw [nums_length]; omega), nums_length, List.getElem?_append_left (by rw [nums_length]; omega), show s.size + i - s.size = i by omega, nums_at t i h]
  rfl

theorem zOf_cells (W : World) (c3 : Array Value) (s t : ByteArray) (ns : List Int) (T : Nat) (hT : T = s.size + t.size + ns.length) (hF : Filled c3 T (nums s ++ nums t ++ ns)) (k : Nat) (hk : k < T) :
    (W.alloc (.cells c3 5)).cell? ⟨W.heap.size, 0 + k, none⟩ = some (.int .u8 (zOf s t ns k)) := by
  have hl : k < (nums s ++ nums t ++ ns).length := by rw [List.length_append, List.length_append, nums_length, nums_length]; omega
  have := hF.2 k _ (List.getElem?_eq_getElem hl)
  simp only [World.cell?, heap_alloc_new]
  rw [if_neg (by simp), Nat.zero_add, this]
  unfold zOf
  rw [List.getD_eq_getElem?_getD, List.getElem?_eq_getElem hl]
  rfl

theorem zOf_stops (s t : ByteArray) (ns : List Int) (T : Nat) (hT : T = s.size + t.size + ns.length) (hsp : ∀ j (h : j < s.size), j < s.size → isSp (s[j].toNat : Int)) (h1 : 0 < t.size) (hn : ¬ isSp (t[0].toNat : Int)) (k : Nat) (h : Stops (zOf s t ns) T 0 k) : k = s.size := by
  obtain ⟨_, h2, h3, h4⟩ := h
  have e0 := zOf_mid s t ns 0 h1
  rcases Nat.lt_trichotomy k s.size with hlt | he | hgt
  · exact absurd (by rw [zOf_left s t ns k hlt]; exact hsp k hlt hlt) (h3 (by omega))
  · exact he
  · have := h4 s.size (Nat.zero_le _) hgt
    rw [Nat.add_zero] at e0
    rw [e0] at this
    exact absurd this hn

end Go.Proofs.Qxb6600291a
