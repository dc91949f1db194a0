import Derived.Test.Qxb6600128aDoorEsc
import Derived.Test.Qxb6600128aDoorJoin
import Derived.Deep.DeepCutAuto
namespace Go.Proofs.Qxb6600128aDoor
open Go.RowKit

/-- The buffer, and that the rest stands. -/
def At (w0 wx : World) (B : Nat) (v : Value) (l : List UInt8) : Prop := Buf wx B v l ∧ Below B w0 wx

theorem tot_next {S : Nat → ByteArray} {k : Nat} (h : ∀ j, j < k → (S j).size ≤ 65536) (h1 : (S k).size ≤ 65536) : ∀ j, j < k + 1 → (S j).size ≤ 65536 := by
  intro j hj
  by_cases e : j = k
  · subst e; exact h1
  · exact h j (by omega)
theorem tok_next {S : Nat → ByteArray} {k : Nat} (h : ∀ j, j < k → Tok (S j) ∧ S j ≠ dash) (h1 : Tok (S k) ∧ S k ≠ dash) : ∀ j, j < k + 1 → Tok (S j) ∧ S j ≠ dash := by
  intro j hj
  by_cases e : j = k
  · subst e; exact h1
  · exact h j (by omega)

theorem ne_nil {s : ByteArray} (h : s.toList.isEmpty = false) : s.data.toList ≠ [] := by
  intro e
  obtain rfl : s = ByteArray.empty := ByteArray.ext (Array.ext' e)
  rw [show ByteArray.empty.toList = [] by kernel_rfl] at h
  cases h
theorem ne_dash {s : ByteArray} (h : (s.toList == [45]) = false) : s.data.toList ≠ [45] := by
  intro e
  obtain rfl : s = dash := ByteArray.ext (Array.ext' e)
  rw [dash_list] at h
  cases h

set_option maxRecDepth 100000 in
set_option maxHeartbeats 8000000 in
theorem three_walk (a b : Nat) (dev root point opt typ src sup : ByteArray) (nl : Bool) (ao : Option Addr) (len cap : Nat) (S : Nat → ByteArray) (w : World) (ha : a ≤ 18446744073709551615) (hb : b ≤ 18446744073709551615) (hz : Row w w.heap.size ao len (strV S)) (hv : Vars w) :
    Calls Tryd.prog 3 #[.int .u64 a, .int .u64 b, .string dev, .string root, .string point, .string opt, .slice ao len cap, .string typ, .string src, .string sup, .bool nl] w fun e w' => e = .returned (.bool true) ∧ Below w.heap.size w w' := by
  have HV : Hid (Vars w) := hv
  have HZ : Hid (Row w w.heap.size ao len (strV S)) := hz
  clear hv hz
  go_enter Tryd.func3, Tryd.ntmps3
  go_wp2_with fail
  refine (bytes8_any _ _ dev root point opt typ src sup _ ao len cap S w w.heap.size HZ.out).mono ?_
  rintro e w' ⟨r, rfl, rfl⟩
  cases r
  case false =>
    as_aux_lemma =>
      go_wp2
      go_ret
      exact ⟨rfl, Below.refl _ _⟩
  by_cases s0 : dev.size ≤ 65536
  case neg =>
    as_aux_lemma =>
      go_wp2
      go_ret
      exact ⟨rfl, Below.refl _ _⟩
  by_cases s1 : root.size ≤ 65536
  case neg =>
    as_aux_lemma =>
      go_wp2
      go_ret
      exact ⟨rfl, Below.refl _ _⟩
  by_cases s2 : point.size ≤ 65536
  case neg =>
    as_aux_lemma =>
      go_wp2
      go_ret
      exact ⟨rfl, Below.refl _ _⟩
  by_cases s3 : opt.size ≤ 65536
  case neg =>
    as_aux_lemma =>
      go_wp2
      go_ret
      exact ⟨rfl, Below.refl _ _⟩
  by_cases s4 : typ.size ≤ 65536
  case neg =>
    as_aux_lemma =>
      go_wp2
      go_ret
      exact ⟨rfl, Below.refl _ _⟩
  by_cases s5 : src.size ≤ 65536
  case neg =>
    as_aux_lemma =>
      go_wp2
      go_ret
      exact ⟨rfl, Below.refl _ _⟩
  by_cases s6 : sup.size ≤ 65536
  case neg =>
    as_aux_lemma =>
      go_wp2
      go_ret
      exact ⟨rfl, Below.refl _ _⟩
  by_cases s7 : len ≤ 4096
  case neg =>
    as_aux_lemma =>
      go_wp2
      go_ret
      exact ⟨rfl, Below.refl _ _⟩
  go_wp2
  go_loop [23, 24] (fun tt i => ∃ k m q : Nat, k ≤ len ∧ tt = .int .i64 m ∧ i = .int .i64 k ∧ q ≤ m ∧ m ≤ 458752 + k * 65552 ∧ Hid (q = (optB (osK S k)).length) ∧ Hid (∀ j, j < k → (S j).size ≤ 65536)) (fun _ i => len - (intOf i).toNat)
  case atStart => exact ⟨0, dev.size + root.size + point.size + opt.size + typ.size + src.size + sup.size, 0, by omega, by go_num, rfl, by omega, by omega, rfl, fun j h => by omega⟩
  case round =>
    obtain ⟨k, m, q, hk, rfl, rfl, hq, hm, he, hs⟩ := hrel
    by_cases t1 : k < len
    case pos =>
      obtain h0 | ⟨b1, o1, rfl, hb1, hcells⟩ := HZ.out.2
      · omega
      have hc := hcells k t1
      simp only [strV] at hc
      clear hcells
      by_cases t2 : (S k).size ≤ 65536
      case neg =>
        as_aux_lemma =>
          go_wp2
          go_ret
          exact ⟨rfl, Below.refl _ _⟩
      as_aux_lemma =>
        have HX : Hid (∀ j, j < k + 1 → (S j).size ≤ 65536) := tot_next hs.out t2
        have HE : Hid (q + 1 + (S k).size = (optB (osK S (k + 1))).length) := by rw [he.out]; exact (optB_length S k).symm
        clear he hs
        go_wp2
        go_round
        case rel => exact ⟨k + 1, m + ((S k).size + 16), q + 1 + (S k).size, by omega, by go_num, by go_num, by omega, by omega, HE, HX⟩
        case measure => simp [intOf]; omega
    obtain rfl : k = len := by omega
    by_cases t3 : m ≤ 1048576
    case neg =>
      as_aux_lemma =>
        go_wp2
        go_ret
        exact ⟨rfl, Below.refl _ _⟩
    as_aux_lemma =>
      have hq2 : (optB (osK S k)).length ≤ 1048576 := by have := he.out; omega
      have HQ : Hid ((optB (osK S k)).length ≤ 1048576) := hq2
      clear he hq2
      go_wp2_with fail
      refine (field_any dev _ (by omega)).mono ?_
      rintro e w' ⟨r, rfl, rfl, hr⟩
      cases r
      case false =>
        as_aux_lemma =>
          go_wp2
          go_ret
          exact ⟨rfl, Below.refl _ _⟩
      have Hdev : Hid (Tok dev ∧ dev ≠ dash) := hr rfl
      clear hr
      go_wp2_with fail
      refine (field_any opt _ (by omega)).mono ?_
      rintro e w' ⟨r, rfl, rfl, hr⟩
      cases r
      case false =>
        as_aux_lemma =>
          go_wp2
          go_ret
          exact ⟨rfl, Below.refl _ _⟩
      have Hopt : Hid (Tok opt ∧ opt ≠ dash) := hr rfl
      clear hr
      go_wp2
      go_loop [25] (fun i => ∃ k2 : Nat, k2 ≤ k ∧ i = .int .i64 k2 ∧ Hid (∀ j, j < k2 → Tok (S j) ∧ S j ≠ dash)) (fun i => k - (intOf i).toNat)
      case atStart => exact ⟨0, by omega, rfl, fun j h => by omega⟩
      case round =>
        obtain ⟨k2, hk2, rfl, ht⟩ := hrel
        by_cases t1 : k2 < k
        case pos =>
          obtain h0 | ⟨b1, o1, rfl, hb1, hcells⟩ := HZ.out.2
          · omega
          have hc := hcells k2 t1
          simp only [strV] at hc
          clear hcells
          as_aux_lemma =>
            have hsk := hs.out k2 t1
            go_wp2_with fail
            refine (field_any (S k2) _ (by omega)).mono ?_
            rintro e w' ⟨r, rfl, rfl, hr⟩
            cases r
            case false =>
              as_aux_lemma =>
                go_wp2
                go_ret
                exact ⟨rfl, Below.refl _ _⟩
            have HX : Hid (∀ j, j < k2 + 1 → Tok (S j) ∧ S j ≠ dash) := tok_next ht.out (hr rfl)
            clear hr ht
            go_wp2
            go_round
            case rel => exact ⟨k2 + 1, by omega, by go_num, HX⟩
            case measure => simp [intOf]; omega
        obtain rfl : k2 = k := by omega
        as_aux_lemma =>
          clear hs
          go_wp2_with fail
          refine (token_any typ _ (by omega)).mono ?_
          rintro e w' ⟨r, rfl, rfl, hr⟩
          cases r
          case false =>
            as_aux_lemma =>
              go_wp2
              go_ret
              exact ⟨rfl, Below.refl _ _⟩
          have Htyp : Hid (Tok typ) := hr rfl
          clear hr
          go_wp2_with fail
          refine (token_any src _ (by omega)).mono ?_
          rintro e w' ⟨r, rfl, rfl, hr⟩
          cases r
          case false =>
            as_aux_lemma =>
              go_wp2
              go_ret
              exact ⟨rfl, Below.refl _ _⟩
          have Hsrc : Hid (Tok src) := hr rfl
          clear hr
          go_wp2_with fail
          refine (token_any sup _ (by omega)).mono ?_
          rintro e w' ⟨r, rfl, rfl, hr⟩
          cases r
          case false =>
            as_aux_lemma =>
              go_wp2
              go_ret
              exact ⟨rfl, Below.refl _ _⟩
          have Hsup : Hid (Tok sup) := hr rfl
          clear hr
          rcases n0 : root.toList.isEmpty
          case true =>
            as_aux_lemma =>
              go_wp2
              go_ret
              exact ⟨rfl, Below.refl _ _⟩
          rcases m0 : (root.toList == [45])
          case true =>
            as_aux_lemma =>
              go_wp2
              go_ret
              exact ⟨rfl, Below.refl _ _⟩
          have Hroot : Hid (root.data.toList ≠ [] ∧ root.data.toList ≠ [45]) := ⟨ne_nil n0, ne_dash m0⟩
          rcases n1 : point.toList.isEmpty
          case true =>
            as_aux_lemma =>
              go_wp2
              go_ret
              exact ⟨rfl, Below.refl _ _⟩
          rcases m1 : (point.toList == [45])
          case true =>
            as_aux_lemma =>
              go_wp2
              go_ret
              exact ⟨rfl, Below.refl _ _⟩
          have Hpoint : Hid (point.data.toList ≠ [] ∧ point.data.toList ≠ [45]) := ⟨ne_nil n1, ne_dash m1⟩
          as_aux_lemma =>
            have hq := fun W => Lib.run_eql_slice_nil (P := Tryd.prog) W 23 9 ao k2 cap 0 0 Tryd.underlying23
            go_upto_if 169 with fail
            go_cut [6] (fun oo wc => ∃ ao' cap', oo = .slice ao' k2 cap' ∧ Hid (Row wc wc.heap.size ao' k2 (strV S)) ∧ Hid (Below w.heap.size w wc))
            case first =>
              as_aux_lemma =>
                clear hq
                rcases ao with _ | x
                case none =>
                  go_wp2_with fail
                  go_meet
                  exact ⟨none, cap, rfl, HZ, Below.refl _ _⟩
                have hmk := run_make_row' (P := Tryd.prog) 23 9 (.string ByteArray.empty) 16 Tryd.underlying23 info9 rfl .i64 .i64 k2 (by omega) (by omega)
                rw [part_zero (.string ByteArray.empty) (strV S) k2] at hmk
                clear HQ hm Hdev Hopt Htyp Hsrc Hsup Hroot Hpoint ht
                go_wp2_with fail
                go_loopw [27] (fun i wr => ∃ k3 : Nat, k3 ≤ k2 ∧ i = .int .i64 k3 ∧ wr = w.alloc (.cells (part (.string ByteArray.empty) (strV S) k2 k3) 9)) (fun i _ => k2 - (intOf i).toNat)
                case atStart => exact ⟨0, by omega, rfl, rfl⟩
                case round =>
                  obtain ⟨k3, hk3, rfl, rfl⟩ := hrel
                  by_cases hlt : k3 < k2
                  case pos =>
                    as_aux_lemma =>
                      obtain h0 | ⟨b1, o1, hx, hb1, hcells⟩ := HZ.out.2
                      · omega
                      obtain rfl : x = ⟨b1, o1, none⟩ := by simpa using hx
                      have hc : (w.alloc (.cells (part (.string ByteArray.empty) (strV S) k2 k3) 9)).cell? ⟨b1, o1 + k3, none⟩ = some (.string (S k3)) := (World.cell?_alloc_lt _ _ _ hb1).trans (hcells k3 hlt)
                      have hcn := part_cell_k w (.string ByteArray.empty) (strV S) k2 k3 9 hlt
                      have hfn := part_free w (.string ByteArray.empty) (strV S) k2 k3 k3 9
                      have hps : (part (.string ByteArray.empty) (strV S) k2 k3).setIfInBounds k3 (.string (S k3)) = _ := part_succ (.string ByteArray.empty) (strV S) k2 k3
                      clear hcells hx
                      go_wp2
                      go_roundw
                      case rel => exact ⟨k3 + 1, by omega, by go_num, rfl⟩
                      case measure => simp [intOf]; omega
                  obtain rfl : k3 = k2 := by omega
                  go_wp2_with fail
                  go_meet
                  exact ⟨some ⟨w.heap.size, 0, none⟩, k3, rfl, by have := part_row w (.string ByteArray.empty) (strV S) k3 9; simpa [Hid] using this, (Below.refl _ _).alloc (Nat.le_refl _) _⟩
            case rest =>
              as_aux_lemma =>
                obtain ⟨ao', cap', rfl, hrow, hbel⟩ := hcut
                have HV2 : Hid (Vars wc) := HV.out.keep hbel.out
                have HP : Hid (Parts dev root point opt typ src sup S k2) := ⟨Hdev.out, Hopt.out, ht.out, Htyp.out, Hsrc.out, Hsup.out, Hroot.out, Hpoint.out⟩
                clear hq HV HZ n0 m0 n1 m1 Hdev Hopt Htyp Hsrc Hsup Hroot Hpoint ht hm
                obtain ⟨W0, rfl⟩ : ∃ W0, W0 = wc := ⟨_, rfl⟩
                obtain ⟨B, hB⟩ : ∃ B, B = W0.heap.size := ⟨_, rfl⟩
                have HR : Hid (Row W0 B ao' k2 (strV S)) := by rw [hB]; exact hrow
                have HB : Hid (B = W0.heap.size) := hB
                have hBl : B ≤ W0.heap.size := by omega
                have HDA : Hid ((decs a).length ≤ 20) := decs_len a ha
                have HDB : Hid ((decs b).length ≤ 20) := decs_len b hb
                have HER : Hid ((esc root.data.toList).length ≤ 262144) := by have := (esc_len root.data.toList).2; simp at this; exact Nat.le_trans this (by omega)
                have HEP : Hid ((esc point.data.toList).length ≤ 262144) := by have := (esc_len point.data.toList).2; simp at this; exact Nat.le_trans this (by omega)
                clear hB hrow
                go_wp2_with fail
                refine (appendUint_any B _ [] a _ ha (by simp) (buf_nil _ _) hBl).mono ?_
                rintro e w1 ⟨v1, rfl, g1, f1⟩
                obtain ⟨l1, E1, n1, A1⟩ : ∃ l, Hid (l = decs a) ∧ l.length ≤ 20 ∧ Hid (At W0 w1 B v1 l) := ⟨decs a, rfl, by have := HDA.out; simp; omega, g1, f1⟩
                clear g1 f1
                go_wp2_with (at_builtin; refine app1 A1.out.1 (by omega) (Nat.le_trans hBl A1.out.2.size) 32 rfl _ _ rfl rfl rfl rfl ?_)
                intro v2 w2 g2 f2 _
                obtain ⟨l2, E2, n2, A2⟩ : ∃ l, Hid (l = l1 ++ [32]) ∧ l.length ≤ 21 ∧ Hid (At W0 w2 B v2 l) := ⟨l1 ++ [32], rfl, by simp; omega, g2, A1.out.2.trans f2⟩
                clear g2 f2 A1
                go_wp2_with fail
                refine (appendUint_any B _ _ b _ hb (by omega) A2.out.1 (Nat.le_trans hBl A2.out.2.size)).mono ?_
                rintro e w3 ⟨v3, rfl, g3, f3⟩
                obtain ⟨l3, E3, n3, A3⟩ : ∃ l, Hid (l = l2 ++ decs b) ∧ l.length ≤ 41 ∧ Hid (At W0 w3 B v3 l) := ⟨l2 ++ decs b, rfl, by have := HDB.out; simp; omega, g3, A2.out.2.trans f3⟩
                clear g3 f3 A2
                go_wp2_with (at_builtin; refine app1 A3.out.1 (by omega) (Nat.le_trans hBl A3.out.2.size) 32 rfl _ _ rfl rfl rfl rfl ?_)
                intro v4 w4 g4 f4 _
                obtain ⟨l4, E4, n4, A4⟩ : ∃ l, Hid (l = l3 ++ [32]) ∧ l.length ≤ 42 ∧ Hid (At W0 w4 B v4 l) := ⟨l3 ++ [32], rfl, by simp; omega, g4, A3.out.2.trans f4⟩
                clear g4 f4 A3
                as_aux_lemma =>
                  go_wp2_with (at_builtin; refine appS A4.out.1 dev (by omega) (Nat.le_trans hBl A4.out.2.size) rfl _ _ rfl rfl rfl ?_)
                  intro v5 w5 g5 f5 _
                  obtain ⟨l5, E5, n5, A5⟩ : ∃ l, Hid (l = l4 ++ dev.data.toList) ∧ l.length ≤ 65578 ∧ Hid (At W0 w5 B v5 l) := ⟨l4 ++ dev.data.toList, rfl, by simp; omega, g5, A4.out.2.trans f5⟩
                  clear g5 f5 A4
                  go_wp2_with (at_builtin; refine app1 A5.out.1 (by omega) (Nat.le_trans hBl A5.out.2.size) 32 rfl _ _ rfl rfl rfl rfl ?_)
                  intro v6 w6 g6 f6 _
                  obtain ⟨l6, E6, n6, A6⟩ : ∃ l, Hid (l = l5 ++ [32]) ∧ l.length ≤ 65579 ∧ Hid (At W0 w6 B v6 l) := ⟨l5 ++ [32], rfl, by simp; omega, g6, A5.out.2.trans f6⟩
                  clear g6 f6 A5
                  go_wp2_with fail
                  refine (appendEscaped_any B _ _ root _ (by omega) (by omega) A6.out.1 (Nat.le_trans hBl A6.out.2.size)).mono ?_
                  rintro e w7 ⟨v7, rfl, g7, f7⟩
                  obtain ⟨l7, E7, n7, A7⟩ : ∃ l, Hid (l = l6 ++ esc root.data.toList) ∧ l.length ≤ 327723 ∧ Hid (At W0 w7 B v7 l) := ⟨l6 ++ esc root.data.toList, rfl, by have := HER.out; simp; omega, g7, A6.out.2.trans f7⟩
                  clear g7 f7 A6
                  go_wp2_with (at_builtin; refine app1 A7.out.1 (by omega) (Nat.le_trans hBl A7.out.2.size) 32 rfl _ _ rfl rfl rfl rfl ?_)
                  intro v8 w8 g8 f8 _
                  obtain ⟨l8, E8, n8, A8⟩ : ∃ l, Hid (l = l7 ++ [32]) ∧ l.length ≤ 327724 ∧ Hid (At W0 w8 B v8 l) := ⟨l7 ++ [32], rfl, by simp; omega, g8, A7.out.2.trans f8⟩
                  clear g8 f8 A7
                  as_aux_lemma =>
                    go_wp2_with fail
                    refine (appendEscaped_any B _ _ point _ (by omega) (by omega) A8.out.1 (Nat.le_trans hBl A8.out.2.size)).mono ?_
                    rintro e w9 ⟨v9, rfl, g9, f9⟩
                    obtain ⟨l9, E9, n9, A9⟩ : ∃ l, Hid (l = l8 ++ esc point.data.toList) ∧ l.length ≤ 589868 ∧ Hid (At W0 w9 B v9 l) := ⟨l8 ++ esc point.data.toList, rfl, by have := HEP.out; simp; omega, g9, A8.out.2.trans f9⟩
                    clear g9 f9 A8
                    go_wp2_with (at_builtin; refine app1 A9.out.1 (by omega) (Nat.le_trans hBl A9.out.2.size) 32 rfl _ _ rfl rfl rfl rfl ?_)
                    intro v10 w10 g10 f10 _
                    obtain ⟨l10, E10, n10, A10⟩ : ∃ l, Hid (l = l9 ++ [32]) ∧ l.length ≤ 589869 ∧ Hid (At W0 w10 B v10 l) := ⟨l9 ++ [32], rfl, by simp; omega, g10, A9.out.2.trans f10⟩
                    clear g10 f10 A9
                    go_wp2_with (at_builtin; refine appS A10.out.1 opt (by omega) (Nat.le_trans hBl A10.out.2.size) rfl _ _ rfl rfl rfl ?_)
                    intro v11 w11 g11 f11 _
                    obtain ⟨l11, E11, n11, A11⟩ : ∃ l, Hid (l = l10 ++ opt.data.toList) ∧ l.length ≤ 655405 ∧ Hid (At W0 w11 B v11 l) := ⟨l10 ++ opt.data.toList, rfl, by simp; omega, g11, A10.out.2.trans f11⟩
                    clear g11 f11 A10
                    as_aux_lemma =>
                      go_wp2_with fail
                      go_loopw [28, 29] (fun bb i wr => ∃ k3 : Nat, i = .int .i64 k3 ∧ k3 ≤ k2 ∧ Hid (At W0 wr B bb (l11 ++ optB (osK S k3)))) (fun _ i _ => k2 - (intOf i).toNat)
                      case atStart => exact ⟨0, rfl, by omega, by rw [show optB (osK S 0) = [] from rfl, List.append_nil]; exact A11⟩
                      case round =>
                        obtain ⟨k3, rfl, hk3, AL⟩ := hrel
                        clear A11
                        have hle := Nat.le_trans (optB_le S k3 k2 hk3) HQ.out
                        obtain ⟨d, ED, hd, AD⟩ : ∃ d, Hid (d = l11 ++ optB (osK S k3)) ∧ d.length ≤ 1703981 ∧ Hid (At W0 wr B u28 d) := ⟨l11 ++ optB (osK S k3), rfl, by simp; omega, AL⟩
                        clear hle AL
                        by_cases hlt : k3 < k2
                        case pos =>
                          as_aux_lemma =>
                            have hsz : (S k3).size ≤ 1048576 := by have h1 := Nat.le_trans (optB_le S (k3 + 1) k2 (by omega)) HQ.out; rw [optB_length] at h1; omega
                            obtain h0 | ⟨b1, o1, rfl, hb1, hcells⟩ := HR.out.2
                            · omega
                            have hcs := hcells k3 hlt
                            have HCS : Hid (W0.cell? ⟨b1, o1 + k3, none⟩ = some (.string (S k3))) := hcs
                            clear hcells hcs
                            go_wp2_with (at_builtin; refine app1 AD.out.1 (by omega) (Nat.le_trans hBl AD.out.2.size) 32 rfl _ _ rfl rfl rfl rfl ?_)
                            intro v1 w1 g1 f1 _
                            have F1 : Hid (Below B W0 w1) := AD.out.2.trans f1
                            have G1 : Hid (Buf w1 B v1 (d ++ [32])) := g1
                            have hc : w1.cell? ⟨b1, o1 + k3, none⟩ = some (.string (S k3)) := (F1.out.cell (p := ⟨b1, o1 + k3, none⟩) hb1).trans HCS.out
                            clear g1 f1 AD
                            go_wp2_with (at_builtin; refine appS G1.out (S k3) (by simp; omega) (Nat.le_trans hBl F1.out.size) rfl _ _ rfl rfl rfl ?_)
                            intro v2 w2 g2 f2 _
                            have A2 : Hid (At W0 w2 B v2 (l11 ++ optB (osK S (k3 + 1)))) := by
                              refine ⟨?_, F1.out.trans f2⟩
                              rw [optB_succ, ← List.append_assoc, ← ED.out]
                              simpa using g2
                            clear g2 f2 G1 hc
                            go_wp2
                            go_roundw
                            case rel => exact ⟨k3 + 1, by go_num, by omega, A2⟩
                            case measure => simp [intOf]; omega
                        obtain rfl : k3 = k2 := by omega
                        as_aux_lemma =>
                          obtain ⟨l12, E12, n12, A12⟩ : ∃ l, Hid (l = l11 ++ optB (osK S k3)) ∧ l.length ≤ 1703981 ∧ Hid (At W0 wr B u28 l) := ⟨d, ED, hd, AD⟩
                          clear ED hd AD
                          go_wp2_with (at_builtin; refine appS A12.out.1 ⟨#[32, 45, 32]⟩ (by have : (⟨#[32, 45, 32]⟩ : ByteArray).size = 3 := rfl; omega) (Nat.le_trans hBl A12.out.2.size) rfl _ _ rfl rfl rfl ?_)
                          intro v13 w13 g13 f13 _
                          obtain ⟨l13, E13, n13, A13⟩ : ∃ l, Hid (l = l12 ++ [32, 45, 32]) ∧ l.length ≤ 1703984 ∧ Hid (At W0 w13 B v13 l) := ⟨l12 ++ [32, 45, 32], rfl, by simp; omega, g13, A12.out.2.trans f13⟩
                          clear g13 f13 A12
                          go_wp2_with (at_builtin; refine appS A13.out.1 typ (by omega) (Nat.le_trans hBl A13.out.2.size) rfl _ _ rfl rfl rfl ?_)
                          intro v14 w14 g14 f14 _
                          obtain ⟨l14, E14, n14, A14⟩ : ∃ l, Hid (l = l13 ++ typ.data.toList) ∧ l.length ≤ 1769520 ∧ Hid (At W0 w14 B v14 l) := ⟨l13 ++ typ.data.toList, rfl, by simp; omega, g14, A13.out.2.trans f14⟩
                          clear g14 f14 A13
                          go_wp2_with (at_builtin; refine app1 A14.out.1 (by omega) (Nat.le_trans hBl A14.out.2.size) 32 rfl _ _ rfl rfl rfl rfl ?_)
                          intro v15 w15 g15 f15 _
                          obtain ⟨l15, E15, n15, A15⟩ : ∃ l, Hid (l = l14 ++ [32]) ∧ l.length ≤ 1769521 ∧ Hid (At W0 w15 B v15 l) := ⟨l14 ++ [32], rfl, by simp; omega, g15, A14.out.2.trans f15⟩
                          clear g15 f15 A14
                          as_aux_lemma =>
                            go_wp2_with (at_builtin; refine appS A15.out.1 src (by omega) (Nat.le_trans hBl A15.out.2.size) rfl _ _ rfl rfl rfl ?_)
                            intro v16 w16 g16 f16 _
                            obtain ⟨l16, E16, n16, A16⟩ : ∃ l, Hid (l = l15 ++ src.data.toList) ∧ l.length ≤ 1835057 ∧ Hid (At W0 w16 B v16 l) := ⟨l15 ++ src.data.toList, rfl, by simp; omega, g16, A15.out.2.trans f16⟩
                            clear g16 f16 A15
                            go_wp2_with (at_builtin; refine app1 A16.out.1 (by omega) (Nat.le_trans hBl A16.out.2.size) 32 rfl _ _ rfl rfl rfl rfl ?_)
                            intro v17 w17 g17 f17 _
                            obtain ⟨l17, E17, n17, A17⟩ : ∃ l, Hid (l = l16 ++ [32]) ∧ l.length ≤ 1835058 ∧ Hid (At W0 w17 B v17 l) := ⟨l16 ++ [32], rfl, by simp; omega, g17, A16.out.2.trans f17⟩
                            clear g17 f17 A16
                            go_wp2_with (at_builtin; refine appS A17.out.1 sup (by omega) (Nat.le_trans hBl A17.out.2.size) rfl _ _ rfl rfl rfl ?_)
                            intro v18 w18 g18 f18 _
                            obtain ⟨l18, E18, n18, A18⟩ : ∃ l, Hid (l = l17 ++ sup.data.toList) ∧ l.length ≤ 1900594 ∧ Hid (At W0 w18 B v18 l) := ⟨l17 ++ sup.data.toList, rfl, by simp; omega, g18, A17.out.2.trans f18⟩
                            clear g18 f18 A17
                            as_aux_lemma =>
                              go_upto_if 252 with fail
                              go_cut [28] (fun bb wx => Hid (At W0 wx B bb (l18 ++ endB nl)))
                              case first =>
                                as_aux_lemma =>
                                  cases nl
                                  case false =>
                                    go_wp2_with fail
                                    go_meet
                                    rw [show endB false = [] from rfl, List.append_nil]
                                    exact A18
                                  go_wp2_with (at_builtin; refine app1 A18.out.1 (by omega) (Nat.le_trans hBl A18.out.2.size) 10 rfl _ _ rfl rfl rfl rfl ?_)
                                  intro v19 w19 g19 f19 _
                                  have A19 : Hid (At W0 w19 B v19 (l18 ++ endB true)) := ⟨g19, A18.out.2.trans f19⟩
                                  clear g19 f19
                                  go_wp2_with fail
                                  go_meet
                                  exact A19
                              case rest =>
                                as_aux_lemma =>
                                  obtain ⟨g19, f19⟩ := hcut
                                  obtain ⟨ln, hln⟩ : ∃ ln, ln = l18 ++ endB nl := ⟨_, rfl⟩
                                  rw [← hln] at g19
                                  have HLn : Hid (ln = lineB (decs a) (decs b) dev.data.toList (esc root.data.toList) (esc point.data.toList) opt.data.toList (osK S k3) typ.data.toList src.data.toList sup.data.toList nl) := by
                                    rw [hln, E18.out, E17.out, E16.out, E15.out, E14.out, E13.out, E12.out, E11.out, E10.out, E9.out, E8.out, E7.out, E6.out, E5.out, E4.out, E3.out, E2.out, E1.out]
                                    simp [lineB, lastB, Hid]
                                  have hne : ln ≠ [] := by rw [HLn.out]; simp [lineB]
                                  have hcv := buf_string g19 hne
                                  have F19 : Hid (Below w.heap.size w wc) := seqB' hbel.out (by rw [← HB.out]; exact f19)
                                  have HV3 : Hid (Vars wc) := HV2.out.keep (by rw [← HB.out]; exact f19)
                                  clear g19 f19 hln hne A18 HV2 hbel E1 E2 E3 E4 E5 E6 E7 E8 E9 E10 E11 E12 E13 E14 E15 E16 E17 E18 HDA HDB HER HEP HR HB hBl
                                  go_wp2_with fail
                                  rw [HLn.out]
                                  refine (parse_line3 a b dev root point opt typ src sup nl S k3 _ ha hb HP.out s0 s1 s2 s3 s4 s5 s6 s7 HQ.out HV3.out).mono ?_
                                  rintro e w5 ⟨rfl, f5⟩
                                  as_aux_lemma =>
                                    have F5 : Hid (Below w.heap.size w w5) := seqB' F19.out f5
                                    clear f5 F19 HV3 hcv HLn
                                    go_wp2_with fail
                                    go_ret
                                    exact ⟨rfl, F5.out.alloc F5.out.size _⟩
end Go.Proofs.Qxb6600128aDoor
