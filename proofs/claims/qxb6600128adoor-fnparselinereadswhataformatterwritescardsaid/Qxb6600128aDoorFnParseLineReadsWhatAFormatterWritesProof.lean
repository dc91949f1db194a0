/- The proof of 'Rows.FnParseLineReadsWhatAFormatterWritesCardSaid': the row's step after the guide's ToyasProofs, BesupProofs; the walk is 'three_walk'; the card by the builder's one call. -/
import Derived.Test.Qxb6600128aDoorRows
import Derived.Test.Qxb6600128aDoorTie
import Derived.Test.Qxb6600128aDoorCards
import Derived.Test.Qxb6600128aDoorThree
import Derived.Test.Qxb6600128aDoorOpen
import Derived.Test.Qxb6600128aDoorLaid
import Derived.Test.Qxb6600128aDoorFactsR
import Derived.WalkKit
import Derived.ProofKit
import Derived.OpenShut
import Derived.ShutString
import Derived.ChangeOld
import Derived.Below
import Derived.SevenTiedAt
namespace Go.Proofs.Qxb6600128aDoor.fnParseLineReadsWhatAFormatterWrites
open Go.ChangeShapes Go.WideShapes Go.ChangeAt Go.RowKit
open Go.ChangeMaps (open_string shut_string)
set_option linter.unusedVariables false

theorem laidOut : laidOutB Tryd.prog = true := by kernel_rfl
theorem own : ownKnob Tryd.prog.godebug = none := by kernel_rfl

set_option maxRecDepth 100000 in
theorem lifted (os : Os) (started : os.Started) (H : Type) (enc : TypeId × Value → H) :
    ReturnsInHanded {} Tryd.checked os 3 .any (fun w args => (Rows.fnParseLineReadsWhatAFormatterWritesSpec.pre enc Tryd.prog Tryd.f3 Rows.fnParseLineReadsWhatAFormatterWritesRow.domain false w args ∧ laidMetH Tryd.prog laidL w) ∧ sizedMet enc Tryd.prog Tryd.f3 (OpenSpec.ofChange Rows.fnParseLineReadsWhatAFormatterWritesSpec) false w args)
      (Rows.fnParseLineReadsWhatAFormatterWritesSpec.post enc Tryd.prog Tryd.f3 false true false false) := by
  refine returnsInHanded_of_change_and (C := Tryd.checked) (X := fun w _ => laidMetH Tryd.prog laidL w) (fun _ _ _ hh h => h.of_heap hh) own started (by kernel_rfl) Tryd.func3
    (ChangeSpec.witness_shaped (enc := enc) (C := Tryd.checked) (os := os) (X := fun w _ => laidMetH Tryd.prog laidL w) false (World.laidAll Tryd.prog os laidL) #[.int .u64 0, .int .u64 0, .string ByteArray.empty, .string ByteArray.empty, .string ByteArray.empty, .string ByteArray.empty, .slice none 0 0, .string ByteArray.empty, .string ByteArray.empty, .string ByteArray.empty, .bool false] 8 (World.laidAll_os _ _ _)
      (World.shaped_of_ZipB (by kernel_rfl) (by kernel_rfl)) (by kernel_rfl) (by kernel_rfl) (by kernel_rfl)
      (by rw [MakeChecks.laidMetH_plain _ _ _ laid_plain]; exact laidMet_laidAll _ (by kernel_rfl) (by kernel_rfl))) ?_
  intro W base args ds gs before hval0 hW hc _ hL _
  have hval : ∀ (j : Nat) t v, Tryd.f3.params[j]? = some t → args[j]? = some v → Value.okWide Tryd.prog W .any base t v := hval0
  have hW' := hW
  obtain ⟨p, q, hA0, hV, rfl, hfz, hnd⟩ := hW
  have hA : DataW.TrodAll enc Tryd.prog W 0 (fun _ => true) true Tryd.f3.params.toList args.toList ds p := hA0
  rw [Tryd.params3] at hA hval
  obtain ⟨v0, vs0, d0, ds0, p0, q0, hargs, rfl, rfl, h0, r0⟩ := trodAll_cons hA
  obtain ⟨v1, vs1, d1, ds1, p1, q1, rfl, rfl, rfl, h1, r1⟩ := trodAll_cons r0
  obtain ⟨v2, vs2, d2, ds2, p2, q2, rfl, rfl, rfl, h2, r2⟩ := trodAll_cons r1
  obtain ⟨v3, vs3, d3, ds3, p3, q3, rfl, rfl, rfl, h3, r3⟩ := trodAll_cons r2
  obtain ⟨v4, vs4, d4, ds4, p4, q4, rfl, rfl, rfl, h4, r4⟩ := trodAll_cons r3
  obtain ⟨v5, vs5, d5, ds5, p5, q5, rfl, rfl, rfl, h5, r5⟩ := trodAll_cons r4
  obtain ⟨v6, vs6, d6, ds6, p6, q6, rfl, rfl, rfl, h6, r6⟩ := trodAll_cons r5
  obtain ⟨v7, vs7, d7, ds7, p7, q7, rfl, rfl, rfl, h7, r7⟩ := trodAll_cons r6
  obtain ⟨v8, vs8, d8, ds8, p8, q8, rfl, rfl, rfl, h8, r8⟩ := trodAll_cons r7
  obtain ⟨v9, vs9, d9, ds9, p9, q9, rfl, rfl, rfl, h9, r9⟩ := trodAll_cons r8
  obtain ⟨v10, vs10, d10, ds10, p10, q10, rfl, rfl, rfl, h10, r10⟩ := trodAll_cons r9
  obtain ⟨rfl, rfl, rfl⟩ := trodAll_nil r10
  obtain rfl : args = #[v0, v1, v2, v3, v4, v5, v6, v7, v8, v9, v10] := by cases args; simp_all
  obtain ⟨rfl, rfl⟩ := trodVars_none hV
  obtain ⟨n0, rfl, rfl, rfl, hn0⟩ := open_int Tryd.underlying22 (hval 0 22 v0 rfl rfl) h0
  obtain ⟨n1, rfl, rfl, rfl, hn1⟩ := open_int Tryd.underlying22 (hval 1 22 v1 rfl rfl) h1
  obtain ⟨s2, rfl, rfl, rfl, hs2⟩ := open_string Tryd.underlying9 (hval 2 9 v2 rfl rfl) h2
  obtain ⟨s3, rfl, rfl, rfl, hs3⟩ := open_string Tryd.underlying9 (hval 3 9 v3 rfl rfl) h3
  obtain ⟨s4, rfl, rfl, rfl, hs4⟩ := open_string Tryd.underlying9 (hval 4 9 v4 rfl rfl) h4
  obtain ⟨s5, rfl, rfl, rfl, hs5⟩ := open_string Tryd.underlying9 (hval 5 9 v5 rfl rfl) h5
  obtain ⟨s7, rfl, rfl, rfl, hs7⟩ := open_string Tryd.underlying9 (hval 7 9 v7 rfl rfl) h7
  obtain ⟨s8, rfl, rfl, rfl, hs8⟩ := open_string Tryd.underlying9 (hval 8 9 v8 rfl rfl) h8
  obtain ⟨s9, rfl, rfl, rfl, hs9⟩ := open_string Tryd.underlying9 (hval 9 9 v9 rfl rfl) h9
  obtain ⟨bb, rfl, rfl, rfl⟩ := open_bool Tryd.underlying4 (hval 10 4 v10 rfl rfl) h10
  obtain ⟨a6, len6, cap6, rfl⟩ := okWide_slice Tryd.underlying23 (hval 6 23 v6 rfl rfl)
  have k6 := h6
  have lt6 : ∀ x ∈ p6, x.block < W.heap.size := by obtain ⟨m, hm⟩ := k6; exact DataW.trod_lt m _ _ _ hm
  obtain ⟨z6, w6⟩ : ∃ S, Row W W.heap.size a6 len6 (strV S) := by
    obtain ⟨fuel, hf⟩ := h6
    exact row_strs hf
  have hm0 : 0 ≤ n0 ∧ n0 ≤ 18446744073709551615 := by
    have hn' := hn0
    simp [Lit.wf, IntKind.min, IntKind.max, IntKind.signed, IntKind.bits] at hn'
    omega
  obtain ⟨m0, rfl⟩ : ∃ m : Nat, n0 = m := ⟨n0.toNat, by omega⟩
  have hm1 : 0 ≤ n1 ∧ n1 ≤ 18446744073709551615 := by
    have hn' := hn1
    simp [Lit.wf, IntKind.min, IntKind.max, IntKind.signed, IntKind.bits] at hn'
    omega
  obtain ⟨m1, rfl⟩ : ∃ m : Nat, n1 = m := ⟨n1.toNat, by omega⟩
  clear hA0 hval0
  refine (three_walk m0 m1 s2 s3 s4 s5 s7 s8 s9 bb a6 len6 cap6 z6 W (by omega) (by omega) w6 (vars_of_laid hL)).mono fun e W' ⟨he, bel⟩ => ?_
  subst he
  exact ⟨_, rfl, _, _, _, [], _, [], hW', trodAll_mk1 (shut_bool Tryd.underlying4 _), (trodAll_cons_mk (shut_int Tryd.underlying22 hn0) (trodAll_cons_mk (shut_int Tryd.underlying22 hn1) (trodAll_cons_mk (shut_string Tryd.underlying9 hs2) (trodAll_cons_mk (shut_string Tryd.underlying9 hs3) (trodAll_cons_mk (shut_string Tryd.underlying9 hs4) (trodAll_cons_mk (shut_string Tryd.underlying9 hs5) (trodAll_cons_mk (Below.trod laidOut (by kernel_rfl) (of_decide_eq_true (by kernel_rfl)) k6 bel lt6) (trodAll_cons_mk (shut_string Tryd.underlying9 hs7) (trodAll_cons_mk (shut_string Tryd.underlying9 hs8) (trodAll_cons_mk (shut_string Tryd.underlying9 hs9) (trodAll_cons_mk (shut_bool Tryd.underlying4 _) trodAll_mk0))))))))))), rfl, bel.frame _, fun h => by cases h⟩

theorem row_holds : Rows.FnParseLineReadsWhatAFormatterWritesSaid :=
  OpenClaim.holds_of_wide 3 Tryd.f3 rfl rfl rfl rfl rfl rfl rfl ⟨rfl, rfl, rfl, rfl, rfl⟩ rfl rfl rfl rfl rfl named3 Tryd.func3 closed_facts3 inst3 wrap3
    (fun os started H enc _ => lifted os started H enc)

theorem card_holds : Rows.FnParseLineReadsWhatAFormatterWritesCardSaid :=
  Claim7.holds_tied_plain_at .later [] [.data, .data, .data, .sentinel, .sentinel, .listed, .data] true (true, "357450070ab344ccffa7ec85c11ed91ebe65ea5c9f81be67ab031a75665edec2") true
    row_holds (fun _ h => by cases h) (by kernel_rfl) (fun _ h => by cases h) fnParseLineReadsWhatAFormatterWrites_row_tie rfl ⟨rfl, rfl⟩ (by kernel_rfl) rfl
    (fun f fn hf hfn => by
      obtain rfl : f = 3 := (Option.some.inj (named3.symm.trans hf)).symm
      obtain rfl : fn = Tryd.f3 := (Option.some.inj (Tryd.func3.symm.trans hfn)).symm
      exact ⟨by kernel_rfl, fun j t ht => by
        rw [Tryd.params3] at ht
        have h3 : t = 9 ∨ t = 22 ∨ t = 4 ∨ t = 23 := by
          rcases j with _ | _ | _ | _ | _ | _ | _ | _ | _ | _ | _ | j
          · exact .inr (.inl (by simpa using ht.symm))
          · exact .inr (.inl (by simpa using ht.symm))
          · exact .inl (by simpa using ht.symm)
          · exact .inl (by simpa using ht.symm)
          · exact .inl (by simpa using ht.symm)
          · exact .inl (by simpa using ht.symm)
          · exact .inr (.inr (.inr (by simpa using ht.symm)))
          · exact .inl (by simpa using ht.symm)
          · exact .inl (by simpa using ht.symm)
          · exact .inl (by simpa using ht.symm)
          · exact .inr (.inr (.inl (by simpa using ht.symm)))
          · simp at ht
        rcases h3 with rfl | rfl | rfl | rfl
        · exact (show Tryd.prog.wantsStandIn 9 = false by kernel_rfl)
        · exact (show Tryd.prog.wantsStandIn 22 = false by kernel_rfl)
        · exact (show Tryd.prog.wantsStandIn 4 = false by kernel_rfl)
        · exact (show Tryd.prog.wantsStandIn 23 = false by kernel_rfl)⟩)
    (by kernel_rfl)
end Go.Proofs.Qxb6600128aDoor.fnParseLineReadsWhatAFormatterWrites
namespace Go.Proofs.Qxb6600128aDoor
theorem fnParseLineReadsWhatAFormatterWrites_holds : Rows.FnParseLineReadsWhatAFormatterWritesCardSaid := fnParseLineReadsWhatAFormatterWrites.card_holds
end Go.Proofs.Qxb6600128aDoor
