import Derived.Test.Qxb6600128aDoorFacts
/- The closed facts of the row of function 3. -/
namespace Go.Proofs.Qxb6600128aDoor
set_option maxRecDepth 100000

set_option maxHeartbeats 0 in
theorem closed_facts3 : joinedFacts Tryd.prog 3 Tryd.f3 Rows.fnParseLineReadsWhatAFormatterWritesSpec Rows.fnParseLineReadsWhatAFormatterWritesRow = true := by
  unfold joinedFacts
  simp only [Bool.and_eq_true]
  refine ⟨⟨⟨⟨⟨⟨⟨⟨⟨⟨⟨⟨⟨⟨⟨⟨⟨⟨⟨⟨⟨⟨⟨⟨⟨⟨⟨⟨⟨⟨⟨?k1, ?k2⟩, ?k3⟩, ?k4⟩, ?k5⟩, ?k6⟩, ?k7⟩, ?k8⟩, ?k9⟩, ?k10⟩, ?k11⟩, ?k12⟩, ?k13⟩, ?k14⟩, ?k15⟩, ?k16⟩, ?k17⟩, ?k17b⟩, ?k18⟩, ?k19⟩, ?k20⟩, ?k21⟩, ?k22⟩, ?k23⟩, ?k23b⟩, ?k24⟩, ?k24b⟩, ?k24c⟩, ?k25⟩, ?k26⟩, ?k27⟩, ?k28⟩
  case k1 => as_aux_lemma => kernel_rfl
  case k2 => as_aux_lemma => kernel_rfl
  case k3 => as_aux_lemma => kernel_rfl
  case k4 => as_aux_lemma => kernel_rfl
  case k5 => as_aux_lemma => kernel_rfl
  case k6 => as_aux_lemma => kernel_rfl
  case k7 => as_aux_lemma => kernel_rfl
  case k8 => as_aux_lemma => kernel_rfl
  case k9 => as_aux_lemma => kernel_rfl
  case k10 => as_aux_lemma => kernel_rfl
  case k11 => as_aux_lemma => kernel_rfl
  case k12 => as_aux_lemma => kernel_rfl
  case k13 => as_aux_lemma => kernel_rfl
  case k14 => as_aux_lemma => kernel_rfl
  case k15 => as_aux_lemma => kernel_rfl
  case k16 => as_aux_lemma => kernel_rfl
  case k17 => as_aux_lemma => kernel_rfl
  case k17b => as_aux_lemma => kernel_rfl
  case k18 => as_aux_lemma => kernel_rfl
  case k19 => as_aux_lemma => kernel_rfl
  case k20 => as_aux_lemma => kernel_rfl
  case k21 => as_aux_lemma => kernel_rfl
  case k22 => as_aux_lemma => kernel_rfl
  case k23 => as_aux_lemma => kernel_rfl
  case k23b => as_aux_lemma => kernel_rfl
  case k24 => exact mayEnter_yes
  case k24b => exact beq_iff_eq.2 liftsFinal_no.symm
  case k24c => exact beq_iff_eq.2 make_cut
  case k25 => as_aux_lemma => kernel_rfl
  case k26 => as_aux_lemma => kernel_rfl
  case k27 => as_aux_lemma => kernel_rfl
  case k28 => as_aux_lemma => kernel_rfl

theorem named3 : Tryd.prog.funcNamed Rows.fnParseLineReadsWhatAFormatterWritesRow.func = some 3 := by kernel_rfl
theorem inst3 : Tryd.f3.isInstance Tryd.prog Rows.fnParseLineReadsWhatAFormatterWritesRow.origin Rows.fnParseLineReadsWhatAFormatterWritesRow.targs := of_decide_eq_true (by kernel_rfl)
theorem wrap3 : Tryd.f3.isWrapper Tryd.prog Rows.fnParseLineReadsWhatAFormatterWritesRow.wrapper Rows.fnParseLineReadsWhatAFormatterWritesRow.mainSum := by unfold Func.isWrapper; first | (rw [if_pos (by decide +kernel)]; kernel_rfl) | (rw [if_neg (by decide +kernel)]; exact ⟨rfl, rfl⟩)
end Go.Proofs.Qxb6600128aDoor
