import Derived.Test.Qxb6600128aDoorDec
namespace Go.Proofs.Qxb6600128aDoor
open Go.RowKit

/-- A '[]byte' of the call's own (its block, if any, from B on) that holds the bytes l. -/
def Buf (w : World) (B : Nat) (v : Value) (l : List UInt8) : Prop := w.ownsRow B 5 1 v l.length (Lib.byteCells l)

theorem buf_nil (w : World) (B : Nat) : Buf w B (.slice none 0 0) [] := World.ownsRow_nil w B 5 1

theorem Buf.keep {w w' : World} {B : Nat} {v : Value} {l : List UInt8} (h : Buf w B v l) (hb : Below w.heap.size w w') : Buf w' B v l := by
  refine ⟨h.1, ?_⟩
  rcases h.2 with h | ⟨g, cap, cur, h1, h2, h3, h4⟩
  · exact .inl h
  · exact .inr ⟨g, cap, cur, h1, h2, (hb.block g (lt_of_block h3)).trans h3, h4⟩

/-- Every block that stood is as it was, but for the row of v. -/
def Kept (w w' : World) (v : Value) : Prop := ∀ k, k < w.heap.size → v.ownBlock ≠ some k → w'.heap[k]? = w.heap[k]?

theorem Buf.other {w : World} {B G : Nat} {v : Value} {l : List UInt8} {C : Array Value} {t : TypeId} (h : Buf w B v l) (hG : w.heap[G]? = some (.cells C t (0, 0))) (ht : t ≠ 5) : v.ownBlock ≠ some G := by
  intro e
  rcases h.2 with ⟨h, _⟩ | ⟨g, cap, cur, h1, h2, h3, h4⟩
  · subst h; cases e
  · subst h1
    simp [Value.ownBlock] at e
    subst e
    rw [h3] at hG
    simp at hG
    exact ht hG.2.symm

/-- 'append(b, c)'. -/
theorem app1 {ops : Array Oper} {rest : List Oper} {o : Oper} {a : Act} {Q : Exit → Act → World → Prop} {w : World} {B : Nat} {v : Value} {l : List UInt8} {z : Int} (hown : Buf w B v l) (hl : l.length < 140737488355328) (hB : B ≤ w.heap.size) (c : UInt8) (hgd : o.guard = none) (s x : Operand)
    (ho : o.op = .call { callee := .builtin .append, args := #[s, x], argTypes := #[26, 26] }) (hs : a.eval s = v)
    (hx : a.eval x = .slice (some ⟨w.heap.size, 0, none⟩) 1 1) (hz : z = c.toNat)
    (h : ∀ v' w', Buf w' B v' (l ++ [c]) → Below B w w' → Kept w w' v → wpList Tryd.prog ops Q rest (a.put o.dst v') w') : wpList Tryd.prog ops Q (o :: rest) a (w.alloc (.cells #[.int .u8 z] 5)) := by
  subst hz
  obtain ⟨i0, hi, hz0, hz1, hz2⟩ := info_parts info5
  refine wpList_append_own _ hgd s x 26 ho B 5 i0 (.int .u8 0) 1 1 Tryd.underlying26 hi hz0 hz1 hz2 rfl (by decide) v l.length (Lib.byteCells l) hs (World.ownsRow.alloc hown _) ⟨w.heap.size, 0, none⟩ 1 1 [.int .u8 c.toNat] hx rfl ?c1 ?c2 ?c3 ?c4 ?c5 ?_
  case c1 =>
    intro j u hj
    match j, hj with
    | 0, hj => simp at hj; subst hj; simp [Addr.add]
  case c2 => intro u hu; simp at hu; subst hu; rfl
  case c3 => unfold maxLen; omega
  case c4 => omega
  case c5 => simp; omega
  intro v' w2 hown' hgrow _
  refine h v' w2 (by simpa [Buf, Lib.byteCells] using hown') ?_ ?_
  · exact ((Below.refl B w).alloc hB _).grown hgrow (by simp; omega) (fun k hk => (World.ownsRow.lt hown k hk).1)
  · intro k hk hv
    rw [hgrow.block k (by simp; omega) (fun e => hv e.symm), Lib.alloc_old w _ k hk]

/-- 'append(b, s...)', s a string. -/
theorem appS {ops : Array Oper} {rest : List Oper} {o : Oper} {a : Act} {Q : Exit → Act → World → Prop} {w : World} {B : Nat} {v : Value} {l : List UInt8} (hown : Buf w B v l) (s : ByteArray) (hl : l.length + s.size < 140737488355328) (hB : B ≤ w.heap.size) (hgd : o.guard = none) (sl x : Operand)
    (ho : o.op = .call { callee := .builtin .append, args := #[sl, x], argTypes := #[26, 9] }) (hs : a.eval sl = v) (hx : a.eval x = .string s)
    (h : ∀ v' w', Buf w' B v' (l ++ s.data.toList) → Below B w w' → Kept w w' v → wpList Tryd.prog ops Q rest (a.put o.dst v') w') : wpList Tryd.prog ops Q (o :: rest) a w := by
  obtain ⟨i0, hi, hz0, hz1, hz2⟩ := info_parts info5
  refine Lib.wpList_append_own_string _ hgd sl x 26 9 ho B 5 i0 Tryd.underlying26 Tryd.underlying9 hi hz0 hz1 hz2 v l.length (Lib.byteCells l) hs hown s hx ?c3 ?c4 ?c5 ?_
  case c3 => unfold maxLen; omega
  case c4 => omega
  case c5 => omega
  intro v' w2 hown' hgrow _
  refine h v' w2 ?_ ((Below.refl B w).grown hgrow hB (fun k hk => (World.ownsRow.lt hown k hk).1)) (fun k hk hv => hgrow.block k hk (fun e => hv e.symm))
  have e1 : (l ++ s.data.toList).length = l.length + s.size := by simp
  have e2 : Lib.byteCells (l ++ s.data.toList) = Lib.byteCells l ++ Lib.strCells s := by simp [Lib.byteCells, Lib.strCells]
  unfold Buf
  rw [e1, e2]
  exact hown'

/-- The decimal digits of v, the highest first; none of 0. -/
def rdF : Nat → Nat → List UInt8
  | 0, _ => []
  | f + 1, v => if v = 0 then [] else rdF f (v / 10) ++ [UInt8.ofNat (48 + v % 10)]
def rd (v : Nat) : List UInt8 := rdF v v
def decs (v : Nat) : List UInt8 := if v = 0 then [48] else rd v

theorem rdF_same : ∀ (f g v : Nat), v ≤ f → v ≤ g → rdF f v = rdF g v
  | 0, 0, _, _, _ => rfl
  | 0, g + 1, v, h, _ => by
    obtain rfl : v = 0 := by omega
    simp [rdF]
  | f + 1, 0, v, _, h => by
    obtain rfl : v = 0 := by omega
    simp [rdF]
  | f + 1, g + 1, v, h1, h2 => by
    unfold rdF
    by_cases hv : v = 0
    · rw [if_pos hv, if_pos hv]
    · rw [if_neg hv, if_neg hv, rdF_same f g (v / 10) (by omega) (by omega)]

theorem rd_zero : rd 0 = [] := rfl
theorem rd_step {v : Nat} (h : v ≠ 0) : rd v = rd (v / 10) ++ [UInt8.ofNat (48 + v % 10)] := by
  obtain ⟨f, rfl⟩ : ∃ f, v = f + 1 := ⟨v - 1, by omega⟩
  unfold rd
  rw [rdF, if_neg h, rdF_same f ((f + 1) / 10) ((f + 1) / 10) (by omega) (Nat.le_refl _)]

/-- The array's first k digits, the last written first. -/
def tl (x : Nat → UInt8) : Nat → List UInt8
  | 0 => []
  | k + 1 => x k :: tl x k

theorem tl_congr {x y : Nat → UInt8} : ∀ {k : Nat}, (∀ j, j < k → x j = y j) → tl x k = tl y k
  | 0, _ => rfl
  | k + 1, h => by unfold tl; rw [tl_congr (k := k) (fun j hj => h j (by omega)), h k (by omega)]

def put (x : Nat → UInt8) (k : Nat) (c : UInt8) (j : Nat) : UInt8 := if j = k then c else x j

def Dig (C : Array Value) (x : Nat → UInt8) : Prop := C.size = 20 ∧ ∀ j, j < 20 → C[j]? = some (.int .u8 (x j).toNat)

theorem Dig.put {C : Array Value} {x : Nat → UInt8} (h : Dig C x) (k : Nat) (c : UInt8) : Dig (C.setIfInBounds k (.int .u8 c.toNat)) (put x k c) := by
  refine ⟨by simpa using h.1, fun j hj => ?_⟩
  rw [Array.getElem?_setIfInBounds]
  unfold Qxb6600128aDoor.put
  by_cases e : k = j
  · subst e; rw [if_pos rfl, if_pos (by rw [h.1]; exact hj), if_pos rfl]
  · rw [if_neg e, if_neg (fun e' => e e'.symm)]; exact h.2 j hj

theorem rd_next {n m k : Nat} {x : Nat → UInt8} (h : rd n = rd m ++ tl x k) (hm : m ≠ 0) : rd n = rd (m / 10) ++ tl (put x k (UInt8.ofNat (48 + m % 10))) (k + 1) := by
  rw [h, rd_step hm, List.append_assoc]
  congr 1
  rw [show tl (put x k (UInt8.ofNat (48 + m % 10))) (k + 1) = put x k (UInt8.ofNat (48 + m % 10)) k :: tl (put x k (UInt8.ofNat (48 + m % 10))) k from rfl]
  rw [show put x k (UInt8.ofNat (48 + m % 10)) k = UInt8.ofNat (48 + m % 10) by simp [put], tl_congr (fun j hj => show put x k (UInt8.ofNat (48 + m % 10)) j = x j by simp [put]; omega)]
  rfl

theorem k_lt {n m k : Nat} (hn : n ≤ 18446744073709551615) (h : m * 10 ^ k ≤ n) (hm : m ≠ 0) : k < 20 := by
  rcases Nat.lt_or_ge k 20 with h' | h'
  · exact h'
  · have h1 : 10 ^ 20 ≤ 10 ^ k := Nat.pow_le_pow_right (by omega) h'
    have h2 : 10 ^ k ≤ m * 10 ^ k := Nat.le_mul_of_pos_left _ (by omega)
    omega

theorem ten_next {n m k : Nat} (h : m * 10 ^ k ≤ n) : m / 10 * 10 ^ (k + 1) ≤ n := by
  have h1 : m / 10 * 10 ≤ m := Nat.div_mul_le_self m 10
  have h2 : m / 10 * 10 ^ (k + 1) = m / 10 * 10 * 10 ^ k := by rw [Nat.pow_succ, Nat.mul_comm (10 ^ k) 10, Nat.mul_assoc]
  rw [h2]
  exact Nat.le_trans (Nat.mul_le_mul_right _ h1) h

def Work (w wr : World) (G : Nat) (x : Nat → UInt8) : Prop := ∃ C, wr.heap[G]? = some (.cells C 41 (0, 0)) ∧ Dig C x ∧ Below G w wr ∧ wr.heap.size = G + 1

theorem work_start {w : World} {G : Nat} (h : G = w.heap.size) : Work w (w.alloc (.cells #[.int .u8 0, .int .u8 0, .int .u8 0, .int .u8 0, .int .u8 0, .int .u8 0, .int .u8 0, .int .u8 0, .int .u8 0, .int .u8 0, .int .u8 0, .int .u8 0, .int .u8 0, .int .u8 0, .int .u8 0, .int .u8 0, .int .u8 0, .int .u8 0, .int .u8 0, .int .u8 0] 41)) G (fun _ => 0) := by
  refine ⟨_, by rw [h]; exact heap_alloc_new _ _, ⟨rfl, fun j hj => ?_⟩, (Below.refl _ _).alloc (by omega) _, by simp [h]⟩
  match j, hj with
  | 0, _ | 1, _ | 2, _ | 3, _ | 4, _ | 5, _ | 6, _ | 7, _ | 8, _ | 9, _ | 10, _ | 11, _ | 12, _ | 13, _ | 14, _ | 15, _ | 16, _ | 17, _ | 18, _ | 19, _ => rfl
  | n + 20, h => omega

theorem block_cell {w : World} {g : Nat} {cs : Array Value} {t : TypeId} (h : w.heap[g]? = some (.cells cs t (0, 0))) (j : Nat) : w.cell? ⟨g, j, none⟩ = cs[j]? := by simp [World.cell?, h]
theorem block_free {w : World} {g : Nat} {cs : Array Value} {t : TypeId} (h : w.heap[g]? = some (.cells cs t (0, 0))) (j : Nat) : w.frozen? ⟨g, j, none⟩ = false := by simp [World.frozen?, h]
theorem block_setCell {w : World} {R : Nat} {cs : Array Value} {t : TypeId} (h : w.heap[R]? = some (.cells cs t (0, 0))) (i : Nat) (u : Value) :
    (w.setCell ⟨R, i, none⟩ u).heap[R]? = some (.cells (cs.setIfInBounds i u) t (0, 0)) := by
  have hlt := lt_of_block h
  have h' : w.heap[R] = .cells cs t (0, 0) := by simpa [Array.getElem?_eq_getElem hlt] using h
  show (w.heap.modify R _)[R]? = _
  rw [Array.getElem?_eq_getElem (by simpa using hlt), Array.getElem_modify_self, h']
  rfl

theorem work_put {w wr : World} {G m : Nat} {x : Nat → UInt8} (h : Work w wr G x) (k : Nat) : Work w (wr.setCell ⟨G, k, none⟩ (.int .u8 (48 + (m : Int) % 10))) G (put x k (UInt8.ofNat (48 + m % 10))) := by
  obtain ⟨C, h1, h2, h3, h4⟩ := h
  have e : (48 + (m : Int) % 10) = ((UInt8.ofNat (48 + m % 10)).toNat : Int) := by
    rw [UInt8.toNat_ofNat', Nat.mod_eq_of_lt (by omega)]
    omega
  rw [e]
  refine ⟨_, block_setCell h1 k _, h2.put k _, h3.setCell (Nat.le_refl _) _, ?_⟩
  rw [← h4]
  simp [World.setCell]

set_option maxRecDepth 100000 in
set_option maxHeartbeats 1000000 in
theorem appendUint_any (B : Nat) (v : Value) (l : List UInt8) (n : Nat) (w : World) (hn : n ≤ 18446744073709551615) (hl : l.length ≤ 4194304) (hbuf : Buf w B v l) (hB : B ≤ w.heap.size) :
    Calls Tryd.prog 11 #[v, .int .u64 n] w fun e w' => ∃ v', e = .returned v' ∧ Buf w' B v' (l ++ decs n) ∧ Below B w w' := by
  by_cases h0 : n = 0
  · subst h0
    go_enter Tryd.func11, Tryd.ntmps11
    go_wp2_with (at_builtin; refine app1 hbuf (by omega) hB 48 rfl _ _ rfl rfl rfl rfl ?_)
    intro v' w' h1 h2 _
    go_wp2
    go_ret
    exact ⟨_, rfl, h1, h2⟩
  have he : ((n : Int) == 0) = false := by simpa using h0
  go_enter Tryd.func11, Tryd.ntmps11
  go_wp2
  obtain ⟨G, hG⟩ : ∃ G, G = w.heap.size := ⟨_, rfl⟩
  rw [← hG]
  have HG : Hid (G = w.heap.size) := hG
  clear hG
  go_loopw [1, 6] (fun vv nn wr => ∃ (m k : Nat) (x : Nat → UInt8), vv = .int .u64 m ∧ nn = .int .i64 k ∧ m * 10 ^ k ≤ n ∧ k ≤ 20 ∧ Hid (rd n = rd m ++ tl x k) ∧ Hid (Work w wr G x)) (fun vv _ _ => (intOf vv).toNat)
  case atStart =>
    exact ⟨n, 0, fun _ => 0, rfl, rfl, by simp, by omega, by simp [tl, Hid], work_start HG.out⟩
  case round =>
    obtain ⟨m, k, x, rfl, rfl, hm, hk, hrd, hwork⟩ := hrel
    obtain ⟨C, hC, hdig, hbel, hsz⟩ := hwork.out
    by_cases h1 : m = 0
    · subst h1
      have hrd2 : rd n = tl x k := by have := hrd.out; rw [rd_zero] at this; exact this
      have hdec : Hid (decs n = tl x k) := by unfold decs; rw [if_neg h0, hrd2]; exact rfl
      have HC : Hid (wr.heap[G]? = some (.cells C 41 (0, 0))) := hC
      have HD : Hid (Dig C x) := hdig
      have HB : Hid (Below B w wr) := hbel.mono (by rw [HG.out]; exact hB)
      have HV : Hid (Buf wr B v l) := hbuf.keep (by rw [← HG.out]; exact hbel)
      have hB2 : B ≤ wr.heap.size := by have := HG.out; omega
      have hGl : G < wr.heap.size := by omega
      clear hC hdig hbel hwork hrd hm hrd2 hsz hbuf
      rw [show ((0 : Nat) : Int) = 0 from rfl]
      go_wp2
      go_loopw [0, 6] (fun bb nn wr2 => ∃ (k2 : Nat) (done : List UInt8), nn = .int .i64 k2 ∧ done.length + k2 = k ∧ B ≤ wr2.heap.size ∧ Hid (tl x k = done ++ tl x k2) ∧ Hid (Buf wr2 B bb (l ++ done)) ∧ Hid (wr2.heap[G]? = some (.cells C 41 (0, 0))) ∧ Hid (Below B w wr2)) (fun _ nn _ => (intOf nn).toNat)
      case atStart => exact ⟨k, [], rfl, by simp, hB2, by simp [Hid], by rw [List.append_nil]; exact HV, HC, HB⟩
      case round =>
        obtain ⟨k2, done, rfl, hlen, hB3, ht, hv, hC2, hb2⟩ := hrel
        clear HC HV HB
        rcases k2 with _ | k2
        · go_wp2
          go_ret
          refine ⟨_, rfl, ?_, hb2.out⟩
          rw [hdec.out, ht.out]
          simpa [tl] using hv.out
        · have hc := (block_cell hC2.out k2).trans (HD.out.2 k2 (by omega))
          go_wp2_with (at_builtin; refine app1 hv.out (by simp; omega) hB3 (x k2) rfl _ _ rfl rfl rfl rfl ?_)
          intro v' w' g1 g2 g3
          go_wp2
          go_roundw
          case rel =>
            refine ⟨k2, done ++ [x k2], by go_num, by simp; omega, Nat.le_trans hB3 g2.size, ?_, g1, ?_, hb2.out.trans g2⟩
            · have := ht.out
              rw [this, List.append_assoc]; rfl
            · exact (g3 G (lt_of_block hC2.out) (hv.out.other hC2.out (by decide))).trans hC2.out
          case measure => simp [intOf]
    · have hk20 := k_lt hn hm h1
      have hmn : m ≤ 18446744073709551615 := Nat.le_trans (Nat.le_trans (Nat.le_mul_of_pos_right m (Nat.pow_pos (by omega))) hm) hn
      have hc := (block_cell hC k).trans (hdig.2 k hk20)
      have hf := block_free hC k
      have HC : Hid (wr.heap[G]? = some (.cells C 41 (0, 0))) := hC
      have HD : Hid (Dig C x) := hdig
      have HB : Hid (Below G w wr) := hbel
      clear hC hdig hbel
      go_wp2
      go_roundw
      case rel =>
        exact ⟨m / 10, k + 1, put x k (UInt8.ofNat (48 + m % 10)), by go_num, by go_num, ten_next hm, by omega, rd_next hrd.out h1, work_put hwork.out k⟩
      case measure => simp [intOf]; omega
end Go.Proofs.Qxb6600128aDoor
