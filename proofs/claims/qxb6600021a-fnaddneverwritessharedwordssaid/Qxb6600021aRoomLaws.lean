import Derived.Test.Qxb6600021aShared
namespace Go.Proofs.Qxb6600021a
open Go.RowKit

theorem info118 : (Try.prog.info? 118).map (fun i => (i.zero, i.size, i.bytes)) = some (some (.agg #[.int .i64 0, .int .u64 0]), 2, 16) := by kernel_rfl
theorem size118 : (Try.prog.info? 118).map (·.size) = some 2 := by kernel_rfl

theorem Chg.row {w : World} {R : Nat} {va : Option Addr} {n vc : Nat} {I Bt : Nat → Int} (h : Chg w R va n vc I Bt) : ∃ xs, w.ownsRow (R + 1) 118 2 (.slice va n vc) n xs ∧ ∀ j, j < n → xs[j * 2]? = some (.int .i64 (I j)) ∧ xs[j * 2 + 1]? = some (.int .u64 (Bt j)) := by
  obtain ⟨rfl, rfl, rfl⟩ | ⟨g, cur, rfl, h2, h3, h4, h5, h6, h7⟩ := h
  · exact ⟨[], ⟨rfl, .inl ⟨rfl, rfl⟩⟩, fun j hj => by omega⟩
  · refine ⟨cur.toList.take (n * 2), ⟨by simp; omega, .inr ⟨g, vc, cur, rfl, h2, h3, h4, h5, h6, rfl⟩⟩, fun j hj => ⟨?_, ?_⟩⟩
    · rw [List.getElem?_take, if_pos (by omega), Array.getElem?_toList]; exact (h7 j hj).1
    · rw [List.getElem?_take, if_pos (by omega), Array.getElem?_toList]; exact (h7 j hj).2

theorem own_far {w : World} {R : Nat} {e : TypeId} {size : Nat} {v : Value} {n : Nat} {xs : List Value} (h : w.ownsRow (R + 1) e size v n xs) {k : Nat} (hk : v.ownBlock = some k) : R < k := by
  obtain ⟨_, ⟨e1, _⟩ | ⟨g1, c1, cu1, e1, e2, _⟩⟩ := h
  · rw [e1] at hk; simp [Value.ownBlock] at hk
  · rw [e1] at hk; simp [Value.ownBlock] at hk; omega

/-- The row of pairs in which one more is to be laid: n pairs, one to come. -/
def Mid (w2 : World) (R g n cap : Nat) (cur : Array Value) (I Bt : Nat → Int) : Prop :=
  w2.heap[g]? = some (.cells cur 118 (0, 0)) ∧ cur.size = cap * 2 ∧ n + 1 ≤ cap ∧ cap ≤ maxLen ∧ R < g ∧ ∀ j, j < n → cur[j * 2]? = some (.int .i64 (I j)) ∧ cur[j * 2 + 1]? = some (.int .u64 (Bt j))

theorem room_mid {w1 : World} {R g n cap : Nat} {v c : Value} {sa : Option Addr} {sl sc : Nat} {I Bt : Nat → Int} {xs : List Value} {ob : Bool} (hR : w1.heap[R]? = some (.cells #[.slice sa sl sc, .bool ob, v] 87 (0, 0))) (hl : xs.length = n * 2)
    (hxs : ∀ j, j < n → xs[j * 2]? = some (.int .i64 (I j)) ∧ xs[j * 2 + 1]? = some (.int .u64 (Bt j)))
    (hown : w1.ownsRow (R + 1) 118 2 (.slice (some ⟨g, 0, none⟩) (n + 1) cap) (n + 1) (xs ++ [.int .i64 0, .int .u64 0])) (hc : c = .slice (some ⟨g, 0, none⟩) (n + 1) cap) :
    (w1.setCell ⟨R, 2, none⟩ c).heap[R]? = some (.cells #[.slice sa sl sc, .bool ob, .slice (some ⟨g, 0, none⟩) (n + 1) cap] 87 (0, 0)) ∧ ∃ cur, Mid (w1.setCell ⟨R, 2, none⟩ c) R g n cap cur I Bt := by
  subst hc
  refine ⟨by rw [block_setCell hR 2]; simp, ?_⟩
  obtain ⟨_, ⟨h, _⟩ | ⟨g', cap', cur, hv, hg, hh, h1, h2, h3, h4⟩⟩ := hown
  · cases h
  · simp at hv
    obtain ⟨rfl, rfl⟩ := hv
    have e : ∀ j, j < (n + 1) * 2 → cur[j]? = (xs ++ [Value.int .i64 0, Value.int .u64 0])[j]? := fun j hj => by
      rw [← h4, List.getElem?_take, if_pos (by omega), Array.getElem?_toList]
    refine ⟨cur, by rw [heap_other (by omega)]; exact hh, h3, h1, h2, by omega, fun j hj => ⟨?_, ?_⟩⟩
    · rw [e _ (by omega), List.getElem?_append_left (by omega)]; exact (hxs j hj).1
    · rw [e _ (by omega), List.getElem?_append_left (by omega)]; exact (hxs j hj).2

/-- 'copy(changed[k+1:], changed[k:])': the pairs from k on stand one place on. -/
theorem copy_shift {w2 : World} {R g n cap : Nat} {cur : Array Value} {I Bt : Nat → Int} (hM : Mid w2 R g n cap cur I Bt) (k : Nat) (hk : k ≤ n) (h1c : ∀ v ∈ cur.toList.take (n * 2), v.oneCell' = true) :
    ∃ (cur3 : Array Value) (w3 : World), (∀ D, (k < n → D = some ⟨g, (k + 1) * 2, none⟩) → (Builtin.copy_ #[83, 83] 3 #[.slice D (n - k) (cap - (k + 1)), .slice (some ⟨g, k * 2, none⟩) (n + 1 - k) (cap - k)]).run Try.prog w2.drew = .ok (goInt ((n - k : Nat) : Int)) w3) ∧
      w3.heap[g]? = some (.cells cur3 118 (0, 0)) ∧ cur3.size = cap * 2 ∧ (∀ b, b ≠ g → w3.heap[b]? = w2.heap[b]?) ∧ Below R w2 w3 ∧
      (∀ j, j < k → cur3[j * 2]? = some (.int .i64 (I j)) ∧ cur3[j * 2 + 1]? = some (.int .u64 (Bt j))) ∧
      (∀ j, k ≤ j → j < n → cur3[(j + 1) * 2]? = some (.int .i64 (I j)) ∧ cur3[(j + 1) * 2 + 1]? = some (.int .u64 (Bt j))) := by
  obtain ⟨hg, hsz, hnc, hcm, hRg, hp⟩ := hM
  rcases Nat.lt_or_ge k n with hlt | hge
  · have hcl : ((cur.toList.drop (k * 2)).take ((n - k) * 2)).length = (n - k) * 2 := by simp; omega
    have hmin : Nat.min (n + 1 - k) (n - k) = n - k := Nat.min_eq_right (by omega)
    have hg2 : w2.drew.heap[g]? = some (.cells cur 118 (0, 0)) := hg
    have hrun := run_copy_sz (P := Try.prog) w2.drew 83 83 3 118 2 g ((k + 1) * 2) (n - k) (cap - (k + 1)) ⟨g, k * 2, none⟩ (n + 1 - k) (cap - k) cur 118 ((cur.toList.drop (k * 2)).take ((n - k) * 2)) Try.underlying83 size118 hg2 (by rw [hcl, hmin])
      (fun j v hj => by
        rw [Addr.add_lit, block_cell hg2]
        rw [List.getElem?_take] at hj
        split at hj
        · rw [List.getElem?_drop, Array.getElem?_toList] at hj; exact hj
        · cases hj) (by rw [hcl]; omega)
      (fun v hv => h1c v (by
        obtain ⟨j, hj⟩ := List.getElem?_of_mem hv
        rw [List.getElem?_take] at hj
        split at hj
        · rw [List.getElem?_drop] at hj
          refine List.mem_iff_getElem?.2 ⟨k * 2 + j, ?_⟩
          rw [List.getElem?_take, if_pos (by omega)]; exact hj
        · cases hj))
    rw [hmin] at hrun
    have hl3 : (cur.toList.take ((k + 1) * 2) ++ (cur.toList.drop (k * 2)).take ((n - k) * 2) ++ cur.toList.drop ((k + 1) * 2 + ((cur.toList.drop (k * 2)).take ((n - k) * 2)).length)).toArray.size = cap * 2 := by
      rw [List.size_toArray, List.length_append, List.length_append, hcl, List.length_take, List.length_drop, Array.length_toList, hsz]; omega
    refine ⟨_, _, fun D hD => by rw [hD hlt]; exact hrun, setRow_heap _ g _ _ 118 _ hg2, hl3, fun b hb => setRow_other _ _ _ _ hb, below_setRow (Below.refl R w2).drew (Nat.le_of_lt hRg) _, fun j hj => ?_, fun j h1 h2 => ?_⟩
    · have e : ∀ t, t < (k + 1) * 2 → (cur.toList.take ((k + 1) * 2) ++ (cur.toList.drop (k * 2)).take ((n - k) * 2) ++ cur.toList.drop ((k + 1) * 2 + ((cur.toList.drop (k * 2)).take ((n - k) * 2)).length)).toArray[t]? = cur[t]? := fun t ht => by
        rw [List.getElem?_toArray, List.append_assoc, List.getElem?_append_left (by simp; omega), List.getElem?_take, if_pos ht, Array.getElem?_toList]
      exact ⟨by rw [e _ (by omega)]; exact (hp j (by omega)).1, by rw [e _ (by omega)]; exact (hp j (by omega)).2⟩
    · have e : ∀ t, (k + 1) * 2 ≤ t → t < (n + 1) * 2 → (cur.toList.take ((k + 1) * 2) ++ (cur.toList.drop (k * 2)).take ((n - k) * 2) ++ cur.toList.drop ((k + 1) * 2 + ((cur.toList.drop (k * 2)).take ((n - k) * 2)).length)).toArray[t]? = cur[t - 2]? := fun t ht1 ht2 => by
        have hl1 : (cur.toList.take ((k + 1) * 2)).length = (k + 1) * 2 := by simp; omega
        rw [List.getElem?_toArray, List.append_assoc, List.getElem?_append_right (by omega), hl1, List.getElem?_append_left (by omega), List.getElem?_take, if_pos (by omega), List.getElem?_drop, Array.getElem?_toList, show k * 2 + (t - (k + 1) * 2) = t - 2 by omega]
      exact ⟨by rw [e _ (by omega) (by omega), show (j + 1) * 2 - 2 = j * 2 by omega]; exact (hp j h2).1, by rw [e _ (by omega) (by omega), show (j + 1) * 2 + 1 - 2 = j * 2 + 1 by omega]; exact (hp j h2).2⟩
  · obtain rfl : k = n := by omega
    refine ⟨cur, w2.drew, fun D _ => ?_, hg, hsz, fun _ _ => rfl, (Below.refl R w2).drew, hp, fun j h1 h2 => by omega⟩
    have := run_copy_zero (P := Try.prog) w2.drew 83 83 3 118 2 D (some ⟨g, k * 2, none⟩) (k - k) (cap - (k + 1)) (k + 1 - k) (cap - k) Try.underlying83 size118 (by simp)
    rw [this]
    simp

def ins (f : Nat → Int) (k : Nat) (x : Int) (j : Nat) : Int := if j < k then f j else if j = k then x else f (j - 1)

theorem ins_srt {n : Nat} {I : Nat → Int} {k : Nat} {x : Int} (h : Srt n I) (hk : k ≤ n) (hx0 : 0 ≤ x) (hx1 : x ≤ 65536) (hlow : ∀ j, j < k → I j < x) (hhigh : ∀ j, k ≤ j → j < n → x < I j) : Srt (n + 1) (ins I k x) := by
  obtain ⟨h1, h2⟩ := h
  refine ⟨fun j hj => ?_, fun j l hjl hl => ?_⟩
  · unfold ins
    split
    · exact h1 j (by omega)
    · split
      · exact ⟨hx0, hx1⟩
      · exact h1 (j - 1) (by omega)
  · unfold ins
    by_cases a : l < k
    · rw [if_pos (by omega), if_pos a]; exact h2 j l hjl (by omega)
    · by_cases b : l = k
      · rw [if_pos (by omega), if_neg a, if_pos b]; exact hlow j (by omega)
      · rw [if_neg a, if_neg b]
        by_cases c : j < k
        · rw [if_pos c]
          rcases Nat.lt_or_ge j (l - 1) with d | d
          · exact h2 j (l - 1) d (by omega)
          · omega
        · by_cases d : j = k
          · rw [if_neg c, if_pos d]; exact hhigh (l - 1) (by omega) (by omega)
          · rw [if_neg c, if_neg d]; exact h2 (j - 1) (l - 1) (by omega) (by omega)

/-- The new pair laid: the run shares its words still, with one changed word more. -/
theorem room_end {w3 : World} {R g n cap : Nat} {cur3 : Array Value} {I Bt : Nat → Int} {k : Nat} {x y : Int} {sa : Option Addr} {sl sc : Nat} (hk : k ≤ n) (hn : n < 8) (hnc : n + 1 ≤ cap) (hcm : cap ≤ maxLen) (hRg : R < g)
    (hR : w3.heap[R]? = some (.cells #[.slice sa sl sc, .bool false, .slice (some ⟨g, 0, none⟩) (n + 1) cap] 87 (0, 0))) (hg : w3.heap[g]? = some (.cells cur3 118 (0, 0))) (hsz : cur3.size = cap * 2)
    (h1 : ∀ j, j < k → cur3[j * 2]? = some (.int .i64 (I j)) ∧ cur3[j * 2 + 1]? = some (.int .u64 (Bt j))) (h2 : ∀ j, k ≤ j → j < n → cur3[(j + 1) * 2]? = some (.int .i64 (I j)) ∧ cur3[(j + 1) * 2 + 1]? = some (.int .u64 (Bt j)))
    (hS : Srt (n + 1) (ins I k x)) : Shr ((w3.setCell ⟨g, k * 2, none⟩ (.int .i64 x)).setCell ⟨g, k * 2 + 1, none⟩ (.int .u64 y)) R sa sl sc (some ⟨g, 0, none⟩) (n + 1) cap (ins I k x) (ins Bt k y) := by
  refine ⟨by rw [heap_other (by omega), heap_other (by omega)]; exact hR, by omega, .inr ⟨g, _, rfl, hRg, block_setCell (block_setCell hg _ _) _ _, hnc, hcm, by simpa using hsz, fun j hj => ?_⟩, hS⟩
  have e0 : ((cur3.setIfInBounds (k * 2) (Value.int .i64 x)).setIfInBounds (k * 2 + 1) (Value.int .u64 y))[k * 2]? = some (Value.int .i64 x) := by
    rw [Array.getElem?_setIfInBounds, if_neg (by omega), Array.getElem?_setIfInBounds, if_pos rfl, if_pos (by omega)]
  have e1 : ((cur3.setIfInBounds (k * 2) (Value.int .i64 x)).setIfInBounds (k * 2 + 1) (Value.int .u64 y))[k * 2 + 1]? = some (Value.int .u64 y) := by
    rw [Array.getElem?_setIfInBounds, if_pos rfl, if_pos (by simp; omega)]
  have e2 : ∀ t, t ≠ k * 2 → t ≠ k * 2 + 1 → ((cur3.setIfInBounds (k * 2) (Value.int .i64 x)).setIfInBounds (k * 2 + 1) (Value.int .u64 y))[t]? = cur3[t]? := fun t h1 h2 => by
    rw [Array.getElem?_setIfInBounds, if_neg (Ne.symm h2), Array.getElem?_setIfInBounds, if_neg (Ne.symm h1)]
  unfold ins
  rcases Nat.lt_trichotomy j k with a | a | a
  · rw [e2 _ (by omega) (by omega), e2 _ (by omega) (by omega)]
    simp only [a, if_true]
    exact h1 j a
  · subst a
    rw [e0, e1]
    simp
  · rw [e2 _ (by omega) (by omega), e2 _ (by omega) (by omega)]
    have := h2 (j - 1) (by omega) (by omega)
    rw [show j - 1 + 1 = j by omega] at this
    simp only [show ¬ j < k by omega, show ¬ j = k by omega, if_false]
    exact this

end Go.Proofs.Qxb6600021a
