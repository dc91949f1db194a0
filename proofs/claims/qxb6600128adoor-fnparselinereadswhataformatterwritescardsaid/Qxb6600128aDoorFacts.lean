import Derived.Test.Qxb6600128aDoorRows
import Derived.WalkKit
import Derived.ProofKit
import Derived.JoinedOf
/- The row's closed facts, one lemma each. Three of them look at the dump's head word by word; the kernel's own run of that look outgrows the memory, so the head's first three words are fetched by a law on words. -/
namespace Go.Proofs.Qxb6600128aDoor
set_option maxRecDepth 100000

theorem words_one : ∀ (a r : List Char), (∀ c ∈ a, c ≠ ' ') → wordsSigns (a ++ ' ' :: r) = a :: wordsSigns r
  | [], r, _ => by simp [wordsSigns]
  | c :: a, r, h => by
    have ih := words_one a r (fun x hx => h x (by simp [hx]))
    have hc : c ≠ ' ' := h c (by simp)
    rw [List.cons_append, wordsSigns]
    · rw [ih]
    · exact hc

theorem words_three (a b c r : List Char) (ha : ∀ x ∈ a, x ≠ ' ') (hb : ∀ x ∈ b, x ≠ ' ') (hc : ∀ x ∈ c, x ≠ ' ') : wordsSigns (a ++ ' ' :: (b ++ ' ' :: (c ++ ' ' :: r))) = a :: b :: c :: wordsSigns r := by
  rw [words_one _ _ ha, words_one _ _ hb, words_one _ _ hc]

theorem behind_main (b : List Char) (R : List (List Char)) (hb : isSumSigns b = true) : behindMainWord (['h', 'a', 'r', 'n', 'e', 's', 's'] :: b :: R) = R := by
  simp only [behindMainWord]
  rw [hb]
  rfl

theorem strip_cut (rest : List (List Char)) : stripLifts liftWords (['c', 'u', 't'] :: rest) = ([], ['c', 'u', 't'] :: rest) := by rfl

theorem headLifts_of {P : Program} {rest : List (List Char)} (h : behindMainWord (wordsSigns P.initOrder.toList) = ['c', 'u', 't'] :: rest) : P.headLifts = [] := by
  unfold Program.headLifts
  rw [h, strip_cut]
  simp

theorem mayEnter_of {P : Program} {rest : List (List Char)} (h : behindMainWord (wordsSigns P.initOrder.toList) = ['c', 'u', 't'] :: rest) (h1 : P.laysLater = false) (h2 : P.bearsReflect = false) (h3 : P.doorFits [] = true) : P.mayEnter = true := by
  unfold Program.mayEnter
  rw [h]
  simp only [strip_cut, h1, h2, h3]
  simp

theorem liftsFinal_of {P : Program} {rest : List (List Char)} (h : behindMainWord (wordsSigns P.initOrder.toList) = ['c', 'u', 't'] :: rest) : P.liftsFinal = false := by
  unfold Program.liftsFinal
  rw [h, headLifts_of h]
  simp

theorem make_of {P : Program} {rest : List (List Char)} (h : behindMainWord (wordsSigns P.initOrder.toList) = ['c', 'u', 't'] :: rest) : P.make = some .cut := by
  unfold Program.make
  rw [h]
  simp
/-- The head's words behind the harness' sum: 'cut', and what follows. -/
theorem cut_words : ∃ rest, behindMainWord (wordsSigns Tryd.prog.initOrder.toList) = ['c', 'u', 't'] :: rest := by
  have e : Tryd.prog.initOrder = Tryd.progTables.initOrder := rfl
  rw [e]
  unfold Tryd.progTables
  dsimp only
  rw [String.toList_ofList]
  exact ⟨_, (congrArg behindMainWord (words_three ['h', 'a', 'r', 'n', 'e', 's', 's'] ['3', '5', '7', '4', '5', '0', '0', '7', '0', 'a', 'b', '3', '4', '4', 'c', 'c', 'f', 'f', 'a', '7', 'e', 'c', '8', '5', 'c', '1', '1', 'e', 'd', '9', '1', 'e', 'b', 'e', '6', '5', 'e', 'a', '5', 'c', '9', 'f', '8', '1', 'b', 'e', '6', '7', 'a', 'b', '0', '3', '1', 'a', '7', '5', '6', '6', '5', 'e', 'd', 'e', 'c', '2'] ['c', 'u', 't'] _ (by decide) (by decide) (by decide))).trans (behind_main _ _ (by decide))⟩

theorem mayEnter_yes : Tryd.prog.mayEnter = true := by
  obtain ⟨rest, h⟩ := cut_words
  exact mayEnter_of h (by kernel_rfl) (by kernel_rfl) (by kernel_rfl)
theorem liftsFinal_no : Tryd.prog.liftsFinal = false := by
  obtain ⟨rest, h⟩ := cut_words
  exact liftsFinal_of h
theorem make_cut : Tryd.prog.make = some .cut := by
  obtain ⟨rest, h⟩ := cut_words
  exact make_of h

set_option maxHeartbeats 0 in
theorem closed_facts4 : joinedFacts Tryd.prog 4 Tryd.f4 Rows.fnParseLineNumberFieldExactSpec Rows.fnParseLineNumberFieldExactRow = true := by
  unfold joinedFacts
  simp only [Bool.and_eq_true]
  refine ⟨⟨⟨⟨⟨⟨⟨⟨⟨⟨⟨⟨⟨⟨⟨⟨⟨⟨⟨⟨⟨⟨⟨⟨⟨⟨⟨⟨⟨⟨⟨?k1, ?k2⟩, ?k3⟩, ?k4⟩, ?k5⟩, ?k6⟩, ?k7⟩, ?k8⟩, ?k9⟩, ?k10⟩, ?k11⟩, ?k12⟩, ?k13⟩, ?k14⟩, ?k15⟩, ?k16⟩, ?k17⟩, ?k17b⟩, ?k18⟩, ?k19⟩, ?k20⟩, ?k21⟩, ?k22⟩, ?k23⟩, ?k23b⟩, ?k24⟩, ?k24b⟩, ?k24c⟩, ?k25⟩, ?k26⟩, ?k27⟩, ?k28⟩
  case k1 => as_aux_lemma => kernel_rfl
  case k2 => as_aux_lemma => kernel_rfl
  case k3 => as_aux_lemma => kernel_rfl
  case k4 => as_aux_lemma => kernel_rfl
  case k5 => as_aux_lemma => kernel_rfl
  case k6 => as_aux_lemma => kernel_rfl
  case k7 => as_aux_lemma => kernel_rfl
  case k8 => as_aux_lemma => kernel_rfl
  case k9 => as_aux_lemma => kernel_rfl
  case k10 => as_aux_lemma => kernel_rfl
  case k11 => as_aux_lemma => kernel_rfl
  case k12 => as_aux_lemma => kernel_rfl
  case k13 => as_aux_lemma => kernel_rfl
  case k14 => as_aux_lemma => kernel_rfl
  case k15 => as_aux_lemma => kernel_rfl
  case k16 => as_aux_lemma => kernel_rfl
  case k17 => as_aux_lemma => kernel_rfl
  case k17b => as_aux_lemma => kernel_rfl
  case k18 => as_aux_lemma => kernel_rfl
  case k19 => as_aux_lemma => kernel_rfl
  case k20 => as_aux_lemma => kernel_rfl
  case k21 => as_aux_lemma => kernel_rfl
  case k22 => as_aux_lemma => kernel_rfl
  case k23 => as_aux_lemma => kernel_rfl
  case k23b => as_aux_lemma => kernel_rfl
  case k24 => exact mayEnter_yes
  case k24b => exact beq_iff_eq.2 liftsFinal_no.symm
  case k24c => exact beq_iff_eq.2 make_cut
  case k25 => as_aux_lemma => kernel_rfl
  case k26 => as_aux_lemma => kernel_rfl
  case k27 => as_aux_lemma => kernel_rfl
  case k28 => as_aux_lemma => kernel_rfl

theorem named4 : Tryd.prog.funcNamed Rows.fnParseLineNumberFieldExactRow.func = some 4 := by kernel_rfl
theorem inst4 : Tryd.f4.isInstance Tryd.prog Rows.fnParseLineNumberFieldExactRow.origin Rows.fnParseLineNumberFieldExactRow.targs := of_decide_eq_true (by kernel_rfl)
theorem wrap4 : Tryd.f4.isWrapper Tryd.prog Rows.fnParseLineNumberFieldExactRow.wrapper Rows.fnParseLineNumberFieldExactRow.mainSum := by unfold Func.isWrapper; first | (rw [if_pos (by decide +kernel)]; kernel_rfl) | (rw [if_neg (by decide +kernel)]; exact ⟨rfl, rfl⟩)
end Go.Proofs.Qxb6600128aDoor
