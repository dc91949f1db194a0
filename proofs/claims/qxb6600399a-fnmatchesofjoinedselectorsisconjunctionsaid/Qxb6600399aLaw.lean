import Derived.Test.Qxb6600399aBytes
import Derived.Test.Qxb6600399aSizes
import Derived.Test.Qxb6600399aMatch
import Derived.Test.Qxb6600399aCat
namespace Go.Proofs.Qxb6600399a
open Go.RowKit

theorem seqB {w v v' : World} (T : Below w.heap.size w v) (hb : Below v.heap.size v v') : Below w.heap.size w v' := T.trans (hb.mono T.size)

/-- What the walk holds of memory behind the clones and the map. -/
def Env (w : World) (B : Nat) (b0 b1 b2 b3 b4 b5 : Option Addr) (l m : Nat) (K K' : Nat → ByteArray) (Y Y' : Nat → Vec) (H H' : Nat → Bool) (b : Nat) (L : ByteArray → ByteArray × Bool) : Prop :=
  Row w B b0 l (strV K) ∧ Vecs w B b1 l Y ∧ Row w B b2 l (boolV H) ∧ Row w B b3 m (strV K') ∧ Vecs w B b4 m Y' ∧ Row w B b5 m (boolV H') ∧ b < B ∧ MapIs w b L

theorem Env.next {w w' : World} {b0 b1 b2 b3 b4 b5 : Option Addr} {l m : Nat} {K K' : Nat → ByteArray} {Y Y' : Nat → Vec} {H H' : Nat → Bool} {b : Nat} {L : ByteArray → ByteArray × Bool} (h : Env w w.heap.size b0 b1 b2 b3 b4 b5 l m K K' Y Y' H H' b L) (hb : Below w.heap.size w w') :
    Env w' w'.heap.size b0 b1 b2 b3 b4 b5 l m K K' Y Y' H H' b L := by
  obtain ⟨h0, h1, h2, h3, h4, h5, h6, h7⟩ := h
  exact ⟨h0.mono hb hb.size, h1.mono hb hb.size, h2.mono hb hb.size, h3.mono hb hb.size, h4.mono hb hb.size, h5.mono hb hb.size, Nat.lt_of_lt_of_le h6 hb.size, h7.mono hb h6⟩

theorem cat_str (S T : Nat → ByteArray) (n : Nat) : catV (strV S) n (strV T) = strV (catV S n T) := by
  funext j; by_cases h : j < n <;> simp [catV, strV, h]
theorem cat_bool (S T : Nat → Bool) (n : Nat) : catV (boolV S) n (boolV T) = boolV (catV S n T) := by
  funext j; by_cases h : j < n <;> simp [catV, boolV, h]
theorem cat_vec (S T : Nat → Vec) (n : Nat) : catV (vecV S) n (vecV T) = vecV (catV S n T) := by
  funext j; by_cases h : j < n <;> simp [catV, vecV, h]

theorem vecs_cat {w : World} {B : Nat} {ao a1 a2 : Option Addr} {l m : Nat} {Y Y' : Nat → Vec} (h : Row w B ao (l + m) (catV (vecV Y) l (vecV Y'))) (h1 : Vecs w B a1 l Y) (h2 : Vecs w B a2 m Y') : Vecs w B ao (l + m) (catV Y l Y') := by
  refine ⟨by rw [← cat_vec]; exact h, fun j hj => ?_⟩
  rcases Nat.lt_or_ge j l with d | d
  · rw [catV_left d]; exact h1.2 j d
  · have : catV Y l Y' j = Y' (j - l) := by unfold catV; rw [if_neg (by omega)]
    rw [this]; exact h2.2 (j - l) (by omega)

theorem size_cat {S T : Nat → ByteArray} {l m : Nat} (h1 : ∀ j, j < l → (S j).size ≤ 1048576) (h2 : ∀ j, j < m → (T j).size ≤ 1048576) : ∀ j, j < l + m → (catV S l T j).size ≤ 1048576 := by
  intro j hj
  rcases Nat.lt_or_ge j l with d | d
  · rw [catV_left d]; exact h1 j d
  · have : catV S l T j = T (j - l) := by unfold catV; rw [if_neg (by omega)]
    rw [this]; exact h2 (j - l) (by omega)

theorem allB_congr {f g : Nat → Bool} : ∀ {n : Nat}, (∀ j, j < n → f j = g j) → allB f n = allB g n
  | 0, _ => rfl
  | n + 1, h => by unfold allB; rw [allB_congr (n := n) (fun j hj => h j (by omega)), h n (by omega)]

theorem allB_add (f : Nat → Bool) (n : Nat) : ∀ m, allB f (n + m) = (allB f n && allB (fun j => f (n + j)) m)
  | 0 => by simp [allB]
  | m + 1 => by
    rw [show n + (m + 1) = (n + m) + 1 by omega]
    simp only [allB]
    rw [allB_add f n m, Bool.and_assoc]

/-- The selector A followed by B meets exactly when both do. -/
theorem all_cat (L : ByteArray → ByteArray × Bool) (K K' : Nat → ByteArray) (Y Y' : Nat → Vec) (H H' : Nat → Bool) (l m : Nat) :
    allB (fun j => meets L (rqOf (catV K l K') (catV Y l Y') (catV H l H') j)) (l + m) = (allB (fun j => meets L (rqOf K Y H j)) l && allB (fun j => meets L (rqOf K' Y' H' j)) m) := by
  rw [allB_add]
  congr 1
  · exact allB_congr fun j hj => by simp only [rqOf, catV_left hj]
  · exact allB_congr fun j hj => by simp only [rqOf, catV_right]
end Go.Proofs.Qxb6600399a
