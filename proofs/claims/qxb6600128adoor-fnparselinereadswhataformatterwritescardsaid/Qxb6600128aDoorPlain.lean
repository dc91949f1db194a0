import Derived.Test.Qxb6600128aDoorLine
namespace Go.Proofs.Qxb6600128aDoor
open Go.RowKit

/-! ### numbers -/
theorem digit_nat (n : Nat) : (UInt8.ofNat (48 + n % 10)).toNat = 48 + n % 10 := by rw [UInt8.toNat_ofNat', Nat.mod_eq_of_lt (by omega)]

theorem parse_rd (n : Nat) : n ≤ 18446744073709551615 → ∀ r, Lib.parseUintM 18446744073709551615 0 (rd n ++ r) = Lib.parseUintM 18446744073709551615 n r := by
  induction n using Nat.strongRecOn with
  | _ n ih =>
    intro hn r
    by_cases h : n = 0
    · subst h; rw [rd_zero]; rfl
    · rw [rd_step h, List.append_assoc, ih (n / 10) (by omega) (by omega), List.singleton_append, pu_on (by rw [digit_nat]; omega) (by rw [digit_nat]; omega), digit_nat]
      congr 1
      omega

theorem rd_ne {n : Nat} (h : n ≠ 0) : rd n ≠ [] := by rw [rd_step h]; simp

theorem decs_ne (n : Nat) : decs n ≠ [] := by
  unfold decs
  split
  · simp
  · rename_i h; exact rd_ne h

theorem parse_decs (n : Nat) (hn : n ≤ 18446744073709551615) : Lib.parseUintB 64 (decs n) = .ok n := by
  unfold Lib.parseUintB
  rw [if_neg (decs_ne n)]
  show Lib.parseUintM 18446744073709551615 0 (decs n) = .ok n
  unfold decs
  split
  · rename_i h; subst h; rfl
  · have := parse_rd n hn []
    rw [List.append_nil] at this
    rw [this]
    rfl

theorem rd_digits (n : Nat) : ∀ b ∈ rd n, 48 ≤ b.toNat ∧ b.toNat ≤ 57 := by
  induction n using Nat.strongRecOn with
  | _ n ih =>
    by_cases h : n = 0
    · subst h; rw [rd_zero]; intro b hb; cases hb
    · rw [rd_step h]
      intro b hb
      rcases List.mem_append.1 hb with hb | hb
      · exact ih (n / 10) (by omega) b hb
      · rw [List.mem_singleton.1 hb, digit_nat]; omega

theorem decs_digits (n : Nat) : ∀ b ∈ decs n, 48 ≤ b.toNat ∧ b.toNat ≤ 57 := by
  unfold decs
  split
  · intro b hb; rw [List.mem_singleton.1 hb]; decide
  · exact rd_digits n

theorem rd_len (n : Nat) : ∀ k, n < 10 ^ k → (rd n).length ≤ k := by
  induction n using Nat.strongRecOn with
  | _ n ih =>
    intro k hk
    by_cases h : n = 0
    · subst h; rw [rd_zero]; simp
    · rcases k with _ | k
      · simp at hk; omega
      · rw [rd_step h]
        have := ih (n / 10) (by omega) k (by rw [Nat.pow_succ] at hk; omega)
        simp; omega

theorem decs_len (n : Nat) (hn : n ≤ 18446744073709551615) : (decs n).length ≤ 20 := by
  unfold decs
  split
  · simp
  · exact rd_len n 20 (by omega)

/-! ### fields -/
/-- A word: not empty, printable. -/
def Word (l : List UInt8) : Prop := l ≠ [] ∧ ∀ b ∈ l, 33 ≤ b.toNat ∧ b.toNat ≤ 126

theorem sp_no {b : UInt8} (h : 33 ≤ b.toNat) : Lib.isSp b = false := by
  have ne : ∀ k : UInt8, k.toNat < 33 → (b == k) = false := fun k hk => by
    simp only [beq_eq_false_iff_ne, ne_eq]
    intro e
    subst e
    omega
  unfold Lib.isSp
  rw [ne 9 (by decide), ne 10 (by decide), ne 11 (by decide), ne 12 (by decide), ne 13 (by decide), ne 32 (by decide)]
  rfl

theorem go_word : ∀ (t cur r : List UInt8), (∀ b ∈ t, 33 ≤ b.toNat ∧ b.toNat ≤ 126) → Lib.fieldsGo cur (t ++ r) = Lib.fieldsGo (cur ++ t) r
  | [], cur, r, _ => by simp
  | b :: t, cur, r, h => by
    rw [List.cons_append, Lib.fieldsGo_more _ _ _ (sp_no (h b (by simp)).1), go_word t (cur ++ [b]) r (fun x hx => h x (by simp [hx]))]
    simp

theorem go_next {t r : List UInt8} (h : Word t) (c : UInt8) (hc : Lib.isSp c = true) : Lib.fieldsGo [] (t ++ c :: r) = t :: Lib.fieldsGo [] r := by
  rw [go_word t [] _ h.2, List.nil_append, Lib.fieldsGo_end _ _ _ hc h.1]

theorem go_last {t : List UInt8} (h : Word t) : Lib.fieldsGo [] t = [t] := by
  have := go_word t [] [] h.2
  rw [List.append_nil, List.nil_append] at this
  rw [this]
  unfold Lib.fieldsGo
  have : t.isEmpty = false := by cases t with
    | nil => exact absurd rfl h.1
    | cons _ _ => rfl
  rw [this]
  rfl

theorem word_decs (n : Nat) : Word (decs n) := ⟨decs_ne n, fun b hb => by have := decs_digits n b hb; omega⟩
theorem word_tok {s : ByteArray} (h : Tok s) : Word s.data.toList := by
  refine ⟨fun e => ?_, fun b hb => ?_⟩
  · have h1 := h.1
    have : s.data.toList.length = s.size := by simp
    rw [e] at this
    simp at this
    omega
  · obtain ⟨i, hi, rfl⟩ := List.getElem_of_mem hb
    have hi' : i < s.size := by simpa using hi
    exact h.2 i hi'
theorem decs_dash (n : Nat) : decs n ≠ [45] := by
  intro e
  have := decs_digits n 45 (by rw [e]; simp)
  simp at this
theorem tok_dash {s : ByteArray} (h : s ≠ dash) : s.data.toList ≠ [45] := by
  intro e
  apply h
  cases s with
  | mk d =>
    have : d = #[45] := Array.ext' e
    rw [this]
    rfl
end Go.Proofs.Qxb6600128aDoor
