import Derived.Test.Qxb6600399aLaw
namespace Go.Proofs.Qxb6600399a
open Go.RowKit

/-- The eight slices, as they came in or as cloned. -/
def Eight (w : World) (B : Nat) (a0 a1 a2 a3 a4 a5 a6 a7 : Option Addr) (l m n : Nat) (K K' : Nat → ByteArray) (Y Y' : Nat → Vec) (H H' : Nat → Bool) (P Q : Nat → ByteArray) : Prop :=
  Row w B a0 l (strV K) ∧ Vecs w B a1 l Y ∧ Row w B a2 l (boolV H) ∧ Row w B a3 m (strV K') ∧ Vecs w B a4 m Y' ∧ Row w B a5 m (boolV H') ∧ Row w B a6 n (strV P) ∧ Row w B a7 n (strV Q)

theorem Eight.next {w w' : World} {a0 a1 a2 a3 a4 a5 a6 a7 : Option Addr} {l m n : Nat} {K K' : Nat → ByteArray} {Y Y' : Nat → Vec} {H H' : Nat → Bool} {P Q : Nat → ByteArray} (h : Eight w w.heap.size a0 a1 a2 a3 a4 a5 a6 a7 l m n K K' Y Y' H H' P Q) (hb : Below w.heap.size w w') :
    Eight w' w'.heap.size a0 a1 a2 a3 a4 a5 a6 a7 l m n K K' Y Y' H H' P Q := by
  obtain ⟨h0, h1, h2, h3, h4, h5, h6, h7⟩ := h
  exact ⟨h0.mono hb hb.size, h1.mono hb hb.size, h2.mono hb hb.size, h3.mono hb hb.size, h4.mono hb hb.size, h5.mono hb hb.size, h6.mono hb hb.size, h7.mono hb hb.size⟩

/-- No requirement: nothing to meet. -/
theorem size_none (K : Nat → ByteArray) : ∀ j, j < 0 → (K j).size ≤ 1048576 := fun j h => by omega
theorem Row.none (w : World) (B : Nat) (V : Nat → Value) : Row w B none 0 V := ⟨fun _ => rfl, .inl rfl⟩

set_option maxRecDepth 100000 in
set_option maxHeartbeats 4000000 in
theorem conj_walk (a0 a1 a2 a3 a4 a5 a6 a7 : Option Addr) (l0 c0 l1 c1 l2 c2 l3 c3 l4 c4 l5 c5 l6 c6 l7 c7 : Nat) (K0 K3 K6 K7 : Nat → ByteArray) (X1 X4 : Nat → Vec) (H2 H5 : Nat → Bool) (w : World)
    (r0 : Row w w.heap.size a0 l0 (strV K0)) (r1 : VecsRaw w w.heap.size a1 l1 X1) (r2 : Row w w.heap.size a2 l2 (boolV H2)) (r3 : Row w w.heap.size a3 l3 (strV K3)) (r4 : VecsRaw w w.heap.size a4 l4 X4) (r5 : Row w w.heap.size a5 l5 (boolV H5)) (r6 : Row w w.heap.size a6 l6 (strV K6)) (r7 : Row w w.heap.size a7 l7 (strV K7)) :
    Calls Try.prog 8 #[.slice a0 l0 c0, .slice a1 l1 c1, .slice a2 l2 c2, .slice a3 l3 c3, .slice a4 l4 c4, .slice a5 l5 c5, .slice a6 l6 c6, .slice a7 l7 c7] w fun e w' => e = .returned (.bool true) ∧ Below w.heap.size w w' := by
  have R0 : Hid (Row w w.heap.size a0 l0 (strV K0)) := r0
  have R1 : Hid (VecsRaw w w.heap.size a1 l1 X1) := r1
  have R2 : Hid (Row w w.heap.size a2 l2 (boolV H2)) := r2
  have R3 : Hid (Row w w.heap.size a3 l3 (strV K3)) := r3
  have R4 : Hid (VecsRaw w w.heap.size a4 l4 X4) := r4
  have R5 : Hid (Row w w.heap.size a5 l5 (boolV H5)) := r5
  have R6 : Hid (Row w w.heap.size a6 l6 (strV K6)) := r6
  have R7 : Hid (Row w w.heap.size a7 l7 (strV K7)) := r7
  clear r0 r1 r2 r3 r4 r5 r6 r7
  go_enter Try.func8, Try.ntmps8
  go_wp2_with fail
  refine (bytes_any _ _ _ _ _ _ _ _ _ _ _ _ _ _ _ _ _ _ _ _ _ _ _ _ K0 K3 K6 K7 X1 X4 _ w.heap.size R0.out R1.out R3.out R4.out R6.out R7.out).mono ?_
  rintro e w' ⟨r, rfl, rfl, hr⟩
  cases r
  · go_wp2
    go_ret
    exact ⟨rfl, Below.refl _ _⟩
  obtain ⟨b0, s0, b1, s1, b2, b3, s3, b4, s4, b5, b6, s6, b7, s7⟩ := hr rfl
  have S0 : Hid (StrOk K0 l0) := s0
  have S1 : Hid (VecOk X1 l1) := s1
  have S3 : Hid (StrOk K3 l3) := s3
  have S4 : Hid (VecOk X4 l4) := s4
  have S6 : Hid (StrOk K6 l6) := s6
  have S7 : Hid (StrOk K7 l7) := s7
  clear s0 s1 s3 s4 s6 s7 hr
  go_wp2_with fail
  refine (strsBytes_any _ _ _ K0 _ w.heap.size b0 S0.out R0.out).mono ?_
  rintro e w' ⟨m1, rfl, hm1, rfl⟩
  go_wp2_with fail
  refine (vecsBytes_any _ _ _ X1 _ w.heap.size b1 S1.out R1.out.1 R1.out.2).mono ?_
  rintro e w' ⟨m2, rfl, hm2, rfl⟩
  go_wp2_with fail
  refine (strsBytes_any _ _ _ K3 _ w.heap.size b3 S3.out R3.out).mono ?_
  rintro e w' ⟨m3, rfl, hm3, rfl⟩
  go_wp2_with fail
  refine (vecsBytes_any _ _ _ X4 _ w.heap.size b4 S4.out R4.out.1 R4.out.2).mono ?_
  rintro e w' ⟨m4, rfl, hm4, rfl⟩
  go_wp2_with fail
  refine (strsBytes_any _ _ _ K6 _ w.heap.size b6 S6.out R6.out).mono ?_
  rintro e w' ⟨m5, rfl, hm5, rfl⟩
  go_wp2_with fail
  refine (strsBytes_any _ _ _ K7 _ w.heap.size b7 S7.out R7.out).mono ?_
  rintro e w' ⟨m6, rfl, hm6, rfl⟩
  by_cases hS : m1 + m2 + l2 + m3 + m4 + l5 + m5 + m6 ≤ 1048576
  case neg =>
    go_wp2
    go_ret
    exact ⟨rfl, Below.refl _ _⟩
  by_cases e1 : l0 = l1
  case neg =>
    go_wp2
    all_goals
      go_ret
      exact ⟨rfl, Below.refl _ _⟩
  by_cases e2 : l0 = l2
  case neg =>
    go_wp2
    all_goals
      go_ret
      exact ⟨rfl, Below.refl _ _⟩
  by_cases e3 : l3 = l4
  case neg =>
    go_wp2
    all_goals
      go_ret
      exact ⟨rfl, Below.refl _ _⟩
  by_cases e4 : l3 = l5
  case neg =>
    go_wp2
    all_goals
      go_ret
      exact ⟨rfl, Below.refl _ _⟩
  by_cases e5 : l6 = l7
  case neg =>
    go_wp2
    all_goals
      go_ret
      exact ⟨rfl, Below.refl _ _⟩
  subst e1 e2 e3 e4 e5
  have E0 : Hid (Eight w w.heap.size a0 a1 a2 a3 a4 a5 a6 a7 l0 l3 l6 K0 K3 X1 X4 H2 H5 K6 K7) := ⟨R0.out, ⟨R1.out.1, fun j hj => ⟨(S1.out j hj).1, R1.out.2 j hj⟩⟩, R2.out, R3.out, ⟨R4.out.1, fun j hj => ⟨(S4.out j hj).1, R4.out.2 j hj⟩⟩, R5.out, R6.out, R7.out⟩
  clear R0 R1 R2 R3 R4 R5 R6 R7 S1 S4 hm1 hm2 hm3 hm4 hm5 hm6 b1 b2 b4 b5 b7
  have T0 : Hid (Below w.heap.size w w) := Below.refl _ _
  go_wp2_with fail
  refine (cloneStrs_any _ _ _ K0 _ b0 E0.out.1).mono ?_
  rintro e w1 ⟨d0, g0, rfl, t, f, -⟩
  have T1 : Hid (Below w.heap.size w w1) := seqB T0.out f
  obtain ⟨q0, q1, q2, q3, q4, q5, q6, q7⟩ := E0.out.next f
  have E1 : Hid (Eight w1 w1.heap.size d0 a1 a2 a3 a4 a5 a6 a7 l0 l3 l6 K0 K3 X1 X4 H2 H5 K6 K7) := ⟨t, q1, q2, q3, q4, q5, q6, q7⟩
  clear q0 q1 q2 q3 q4 q5 q6 q7 t f E0 T0
  go_wp2_with fail
  refine (cloneVecs_any _ _ _ X1 _ b0 E1.out.2.1).mono ?_
  rintro e w2 ⟨d1, g1, Z1, rfl, t, f⟩
  have T2 : Hid (Below w.heap.size w w2) := seqB T1.out f
  obtain ⟨q0, q1, q2, q3, q4, q5, q6, q7⟩ := E1.out.next f
  have E2 : Hid (Eight w2 w2.heap.size d0 d1 a2 a3 a4 a5 a6 a7 l0 l3 l6 K0 K3 Z1 X4 H2 H5 K6 K7) := ⟨q0, t, q2, q3, q4, q5, q6, q7⟩
  clear q0 q1 q2 q3 q4 q5 q6 q7 t f E1 T1
  go_wp2_with fail
  refine (cloneBools_any _ _ _ H2 _ b0 E2.out.2.2.1).mono ?_
  rintro e w3 ⟨d2, g2, rfl, t, f, -⟩
  have T3 : Hid (Below w.heap.size w w3) := seqB T2.out f
  obtain ⟨q0, q1, q2, q3, q4, q5, q6, q7⟩ := E2.out.next f
  have E3 : Hid (Eight w3 w3.heap.size d0 d1 d2 a3 a4 a5 a6 a7 l0 l3 l6 K0 K3 Z1 X4 H2 H5 K6 K7) := ⟨q0, q1, t, q3, q4, q5, q6, q7⟩
  clear q0 q1 q2 q3 q4 q5 q6 q7 t f E2 T2
  go_wp2_with fail
  refine (cloneStrs_any _ _ _ K3 _ b3 E3.out.2.2.2.1).mono ?_
  rintro e w4 ⟨d3, g3, rfl, t, f, -⟩
  have T4 : Hid (Below w.heap.size w w4) := seqB T3.out f
  obtain ⟨q0, q1, q2, q3, q4, q5, q6, q7⟩ := E3.out.next f
  have E4 : Hid (Eight w4 w4.heap.size d0 d1 d2 d3 a4 a5 a6 a7 l0 l3 l6 K0 K3 Z1 X4 H2 H5 K6 K7) := ⟨q0, q1, q2, t, q4, q5, q6, q7⟩
  clear q0 q1 q2 q3 q4 q5 q6 q7 t f E3 T3
  go_wp2_with fail
  refine (cloneVecs_any _ _ _ X4 _ b3 E4.out.2.2.2.2.1).mono ?_
  rintro e w5 ⟨d4, g4, Z4, rfl, t, f⟩
  have T5 : Hid (Below w.heap.size w w5) := seqB T4.out f
  obtain ⟨q0, q1, q2, q3, q4, q5, q6, q7⟩ := E4.out.next f
  have E5 : Hid (Eight w5 w5.heap.size d0 d1 d2 d3 d4 a5 a6 a7 l0 l3 l6 K0 K3 Z1 Z4 H2 H5 K6 K7) := ⟨q0, q1, q2, q3, t, q5, q6, q7⟩
  clear q0 q1 q2 q3 q4 q5 q6 q7 t f E4 T4
  go_wp2_with fail
  refine (cloneBools_any _ _ _ H5 _ b3 E5.out.2.2.2.2.2.1).mono ?_
  rintro e w6 ⟨d5, g5, rfl, t, f, -⟩
  have T6 : Hid (Below w.heap.size w w6) := seqB T5.out f
  obtain ⟨q0, q1, q2, q3, q4, q5, q6, q7⟩ := E5.out.next f
  have E6 : Hid (Eight w6 w6.heap.size d0 d1 d2 d3 d4 d5 a6 a7 l0 l3 l6 K0 K3 Z1 Z4 H2 H5 K6 K7) := ⟨q0, q1, q2, q3, q4, t, q6, q7⟩
  clear q0 q1 q2 q3 q4 q5 q6 q7 t f E5 T5
  go_wp2_with fail
  refine (cloneStrs_any _ _ _ K6 _ b6 E6.out.2.2.2.2.2.2.1).mono ?_
  rintro e w7 ⟨d6, g6, rfl, t, f, -⟩
  have T7 : Hid (Below w.heap.size w w7) := seqB T6.out f
  obtain ⟨q0, q1, q2, q3, q4, q5, q6, q7⟩ := E6.out.next f
  have E7 : Hid (Eight w7 w7.heap.size d0 d1 d2 d3 d4 d5 d6 a7 l0 l3 l6 K0 K3 Z1 Z4 H2 H5 K6 K7) := ⟨q0, q1, q2, q3, q4, q5, t, q7⟩
  clear q0 q1 q2 q3 q4 q5 q6 q7 t f E6 T6
  go_wp2_with fail
  refine (cloneStrs_any _ _ _ K7 _ b6 E7.out.2.2.2.2.2.2.2).mono ?_
  rintro e w8 ⟨d7, g7, rfl, t, f, -⟩
  have T8 : Hid (Below w.heap.size w w8) := seqB T7.out f
  obtain ⟨q0, q1, q2, q3, q4, q5, q6, q7⟩ := E7.out.next f
  have E8 : Hid (Eight w8 w8.heap.size d0 d1 d2 d3 d4 d5 d6 d7 l0 l3 l6 K0 K3 Z1 Z4 H2 H5 K6 K7) := ⟨q0, q1, q2, q3, q4, q5, q6, t⟩
  clear q0 q1 q2 q3 q4 q5 q6 q7 t f E7 T7
  go_wp2_with fail
  refine (labelMap_any _ _ _ _ _ K6 K7 _ b6 S6.out S7.out E8.out.2.2.2.2.2.2.1 E8.out.2.2.2.2.2.2.2).mono ?_
  rintro e w9 ⟨b, M, rfl, t1, t2, f⟩
  obtain ⟨q0, q1, q2, q3, q4, q5, -, -⟩ := E8.out.next f
  have T : Hid (Below w.heap.size w w9) := seqB T8.out f
  have N : Hid (Env w9 w9.heap.size d0 d1 d2 d3 d4 d5 l0 l3 K0 K3 Z1 Z4 H2 H5 b M) := ⟨q0, q1, q2, q3, q4, q5, t1, t2⟩
  clear q0 q1 q2 q3 q4 q5 t1 t2 f E8 T8 S6 S7 b6
  go_wp2_with fail
  refine (sel_any none none none 0 0 0 0 K0 Z1 H2 _ (by omega) (size_none K0) (Row.none _ _ _) ⟨Row.none _ _ _, fun j h => by omega⟩ (Row.none _ _ _)).mono ?_
  rintro e w10 ⟨h1, g10, rfl, t, f⟩
  have T' : Hid (Below w.heap.size w w10) := seqB T.out f
  have N' : Hid (Env w10 w10.heap.size d0 d1 d2 d3 d4 d5 l0 l3 K0 K3 Z1 Z4 H2 H5 b M) := N.out.next f
  have U : Hid (Sel w10 w10.heap.size h1 0 (rqOf K0 Z1 H2)) := t
  clear t
  clear T N f
  have T := T'
  have N := N'
  clear T' N'
  go_wp2_with fail
  refine (matches_any _ _ _ _ _ M _ (by omega) U.out N.out.2.2.2.2.2.2.2 N.out.2.2.2.2.2.2.1).mono ?_
  rintro e w11 ⟨rfl, f⟩
  have T' : Hid (Below w.heap.size w w11) := seqB T.out f
  have N' : Hid (Env w11 w11.heap.size d0 d1 d2 d3 d4 d5 l0 l3 K0 K3 Z1 Z4 H2 H5 b M) := N.out.next f
  clear U
  clear T N f
  have T := T'
  have N := N'
  clear T' N'
  simp only [allB]
  go_wp2_with fail
  refine (sel_any _ _ _ _ _ _ _ K0 Z1 H2 _ (by omega) S0.out N.out.1 N.out.2.1 N.out.2.2.1).mono ?_
  rintro e w12 ⟨h2, g11, rfl, t, f⟩
  have T' : Hid (Below w.heap.size w w12) := seqB T.out f
  have N' : Hid (Env w12 w12.heap.size d0 d1 d2 d3 d4 d5 l0 l3 K0 K3 Z1 Z4 H2 H5 b M) := N.out.next f
  have U : Hid (Sel w12 w12.heap.size h2 l0 (rqOf K0 Z1 H2)) := t
  clear t
  clear T N f
  have T := T'
  have N := N'
  clear T' N'
  go_wp2_with fail
  refine (matches_any _ _ _ _ _ M _ (by omega) U.out N.out.2.2.2.2.2.2.2 N.out.2.2.2.2.2.2.1).mono ?_
  rintro e w13 ⟨rfl, f⟩
  have T' : Hid (Below w.heap.size w w13) := seqB T.out f
  have N' : Hid (Env w13 w13.heap.size d0 d1 d2 d3 d4 d5 l0 l3 K0 K3 Z1 Z4 H2 H5 b M) := N.out.next f
  clear U
  clear T N f
  have T := T'
  have N := N'
  clear T' N'
  obtain ⟨A, hA⟩ : ∃ A, A = allB (fun j => meets M (rqOf K0 Z1 H2 j)) l0 := ⟨_, rfl⟩
  rw [← hA]
  have HA : Hid (A = allB (fun j => meets M (rqOf K0 Z1 H2 j)) l0) := hA
  clear hA
  go_wp2_with fail
  refine (sel_any _ _ _ _ _ _ _ K3 Z4 H5 _ (by omega) S3.out N.out.2.2.2.1 N.out.2.2.2.2.1 N.out.2.2.2.2.2.1).mono ?_
  rintro e w14 ⟨h3, g12, rfl, t, f⟩
  have T' : Hid (Below w.heap.size w w14) := seqB T.out f
  have N' : Hid (Env w14 w14.heap.size d0 d1 d2 d3 d4 d5 l0 l3 K0 K3 Z1 Z4 H2 H5 b M) := N.out.next f
  have U : Hid (Sel w14 w14.heap.size h3 l3 (rqOf K3 Z4 H5)) := t
  clear t
  clear T N f
  have T := T'
  have N := N'
  clear T' N'
  go_wp2_with fail
  refine (matches_any _ _ _ _ _ M _ (by omega) U.out N.out.2.2.2.2.2.2.2 N.out.2.2.2.2.2.2.1).mono ?_
  rintro e w15 ⟨rfl, f⟩
  have T' : Hid (Below w.heap.size w w15) := seqB T.out f
  have N' : Hid (Env w15 w15.heap.size d0 d1 d2 d3 d4 d5 l0 l3 K0 K3 Z1 Z4 H2 H5 b M) := N.out.next f
  clear U
  clear T N f
  have T := T'
  have N := N'
  clear T' N'
  obtain ⟨B, hB⟩ : ∃ B, B = allB (fun j => meets M (rqOf K3 Z4 H5 j)) l3 := ⟨_, rfl⟩
  rw [← hB]
  have HB : Hid (B = allB (fun j => meets M (rqOf K3 Z4 H5 j)) l3) := hB
  clear hB
  go_wp2_with fail
  refine (catStrs_any _ _ _ _ _ _ K0 K3 _ b0 b3 N.out.1 N.out.2.2.2.1).mono ?_
  rintro e w16 ⟨x0, xg0, rfl, t, f, -⟩
  have T' : Hid (Below w.heap.size w w16) := seqB T.out f
  have N' : Hid (Env w16 w16.heap.size d0 d1 d2 d3 d4 d5 l0 l3 K0 K3 Z1 Z4 H2 H5 b M) := N.out.next f
  have U0 : Hid (Row w16 w16.heap.size x0 (l0 + l3) (strV (catV K0 l0 K3))) := by rw [← cat_str]; exact t
  clear t
  clear T N f
  have T := T'
  have N := N'
  clear T' N'
  go_wp2_with fail
  refine (catVecs_any _ _ _ _ _ _ Z1 Z4 _ b0 b3 N.out.2.1.1 N.out.2.2.2.2.1.1).mono ?_
  rintro e w17 ⟨x1, xg1, rfl, t, f, -⟩
  have T' : Hid (Below w.heap.size w w17) := seqB T.out f
  have N' : Hid (Env w17 w17.heap.size d0 d1 d2 d3 d4 d5 l0 l3 K0 K3 Z1 Z4 H2 H5 b M) := N.out.next f
  have U1 : Hid (Vecs w17 w17.heap.size x1 (l0 + l3) (catV Z1 l0 Z4)) := vecs_cat t N'.out.2.1 N'.out.2.2.2.2.1
  have U0' : Hid (Row w17 w17.heap.size x0 (l0 + l3) (strV (catV K0 l0 K3))) := U0.out.mono f f.size
  clear t U0
  clear T N f
  have T := T'
  have N := N'
  clear T' N'
  go_wp2_with fail
  refine (catBools_any _ _ _ _ _ _ H2 H5 _ b0 b3 N.out.2.2.1 N.out.2.2.2.2.2.1).mono ?_
  rintro e w18 ⟨x2, xg2, rfl, t, f, -⟩
  have T' : Hid (Below w.heap.size w w18) := seqB T.out f
  have N' : Hid (Env w18 w18.heap.size d0 d1 d2 d3 d4 d5 l0 l3 K0 K3 Z1 Z4 H2 H5 b M) := N.out.next f
  have U2 : Row w18 w18.heap.size x2 (l0 + l3) (boolV (catV H2 l0 H5)) := by rw [← cat_bool]; exact t
  have U0 := U0'.out.mono f f.size
  have U1' := U1.out.mono f f.size
  have G : Hid (Row w18 w18.heap.size x0 (l0 + l3) (strV (catV K0 l0 K3)) ∧ Vecs w18 w18.heap.size x1 (l0 + l3) (catV Z1 l0 Z4) ∧ Row w18 w18.heap.size x2 (l0 + l3) (boolV (catV H2 l0 H5))) := ⟨U0, U1', U2⟩
  clear t U0' U1 U0 U1' U2
  clear T N f
  have T := T'
  have N := N'
  clear T' N'
  go_wp2_with fail
  refine (sel_any _ _ _ (l0 + l3) _ _ _ (catV K0 l0 K3) (catV Z1 l0 Z4) (catV H2 l0 H5) _ (by omega) (size_cat S0.out S3.out) G.out.1 G.out.2.1 G.out.2.2).mono ?_
  rintro e w19 ⟨x3, xg3, rfl, t, f⟩
  have T' : Hid (Below w.heap.size w w19) := seqB T.out f
  have N' : Hid (Env w19 w19.heap.size d0 d1 d2 d3 d4 d5 l0 l3 K0 K3 Z1 Z4 H2 H5 b M) := N.out.next f
  have U : Hid (Sel w19 w19.heap.size x3 (l0 + l3) (rqOf (catV K0 l0 K3) (catV Z1 l0 Z4) (catV H2 l0 H5))) := t
  clear t G
  clear T N f
  have T := T'
  have N := N'
  clear T' N'
  go_wp2_with fail
  refine (matches_any _ (l0 + l3) _ _ _ M _ (by omega) U.out N.out.2.2.2.2.2.2.2 N.out.2.2.2.2.2.2.1).mono ?_
  rintro e w20 ⟨rfl, f⟩
  have T' : Hid (Below w.heap.size w w20) := seqB T.out f
  have N' : Hid (Env w20 w20.heap.size d0 d1 d2 d3 d4 d5 l0 l3 K0 K3 Z1 Z4 H2 H5 b M) := N.out.next f
  clear U
  clear T N f
  have T := T'
  have N := N'
  clear T' N'
  rw [all_cat, ← HA.out, ← HB.out]
  go_wp2_with fail
  refine (catStrs_any _ _ _ _ _ _ K3 K0 _ b3 b0 N.out.2.2.2.1 N.out.1).mono ?_
  rintro e w21 ⟨y0, yg0, rfl, t, f, -⟩
  have T' : Hid (Below w.heap.size w w21) := seqB T.out f
  have N' : Hid (Env w21 w21.heap.size d0 d1 d2 d3 d4 d5 l0 l3 K0 K3 Z1 Z4 H2 H5 b M) := N.out.next f
  have U0 : Hid (Row w21 w21.heap.size y0 (l3 + l0) (strV (catV K3 l3 K0))) := by rw [← cat_str]; exact t
  clear t
  clear T N f
  have T := T'
  have N := N'
  clear T' N'
  go_wp2_with fail
  refine (catVecs_any _ _ _ _ _ _ Z4 Z1 _ b3 b0 N.out.2.2.2.2.1.1 N.out.2.1.1).mono ?_
  rintro e w22 ⟨y1, yg1, rfl, t, f, -⟩
  have T' : Hid (Below w.heap.size w w22) := seqB T.out f
  have N' : Hid (Env w22 w22.heap.size d0 d1 d2 d3 d4 d5 l0 l3 K0 K3 Z1 Z4 H2 H5 b M) := N.out.next f
  have U1 : Hid (Vecs w22 w22.heap.size y1 (l3 + l0) (catV Z4 l3 Z1)) := vecs_cat t N'.out.2.2.2.2.1 N'.out.2.1
  have U0' : Hid (Row w22 w22.heap.size y0 (l3 + l0) (strV (catV K3 l3 K0))) := U0.out.mono f f.size
  clear t U0
  clear T N f
  have T := T'
  have N := N'
  clear T' N'
  go_wp2_with fail
  refine (catBools_any _ _ _ _ _ _ H5 H2 _ b3 b0 N.out.2.2.2.2.2.1 N.out.2.2.1).mono ?_
  rintro e w23 ⟨y2, yg2, rfl, t, f, -⟩
  have T' : Hid (Below w.heap.size w w23) := seqB T.out f
  have N' : Hid (Env w23 w23.heap.size d0 d1 d2 d3 d4 d5 l0 l3 K0 K3 Z1 Z4 H2 H5 b M) := N.out.next f
  have U2 : Row w23 w23.heap.size y2 (l3 + l0) (boolV (catV H5 l3 H2)) := by rw [← cat_bool]; exact t
  have U0 := U0'.out.mono f f.size
  have U1' := U1.out.mono f f.size
  have G : Hid (Row w23 w23.heap.size y0 (l3 + l0) (strV (catV K3 l3 K0)) ∧ Vecs w23 w23.heap.size y1 (l3 + l0) (catV Z4 l3 Z1) ∧ Row w23 w23.heap.size y2 (l3 + l0) (boolV (catV H5 l3 H2))) := ⟨U0, U1', U2⟩
  clear t U0' U1 U0 U1' U2
  clear T N f
  have T := T'
  have N := N'
  clear T' N'
  go_wp2_with fail
  refine (sel_any _ _ _ (l3 + l0) _ _ _ (catV K3 l3 K0) (catV Z4 l3 Z1) (catV H5 l3 H2) _ (by omega) (size_cat S3.out S0.out) G.out.1 G.out.2.1 G.out.2.2).mono ?_
  rintro e w24 ⟨y3, yg3, rfl, t, f⟩
  have T' : Hid (Below w.heap.size w w24) := seqB T.out f
  have N' : Hid (Env w24 w24.heap.size d0 d1 d2 d3 d4 d5 l0 l3 K0 K3 Z1 Z4 H2 H5 b M) := N.out.next f
  have U : Hid (Sel w24 w24.heap.size y3 (l3 + l0) (rqOf (catV K3 l3 K0) (catV Z4 l3 Z1) (catV H5 l3 H2))) := t
  clear t G
  clear T N f
  have T := T'
  have N := N'
  clear T' N'
  go_wp2_with fail
  refine (matches_any _ (l3 + l0) _ _ _ M _ (by omega) U.out N.out.2.2.2.2.2.2.2 N.out.2.2.2.2.2.2.1).mono ?_
  rintro e w25 ⟨rfl, f⟩
  have T' : Hid (Below w.heap.size w w25) := seqB T.out f
  have N' : Hid (Env w25 w25.heap.size d0 d1 d2 d3 d4 d5 l0 l3 K0 K3 Z1 Z4 H2 H5 b M) := N.out.next f
  clear U
  clear T N f
  have T := T'
  have N := N'
  clear T' N'
  rw [all_cat, ← HA.out, ← HB.out]
  have F := T.out
  clear T N HA HB S0 S3
  cases A <;> cases B
  all_goals
    go_wp2
    go_ret
    exact ⟨rfl, F⟩
end Go.Proofs.Qxb6600399a
