import Derived.Test.Qxb6600128aDoorExact
namespace Go.Proofs.Qxb6600128aDoor
open Go.RowKit

/-- The fixed end of the line. -/
def tailB : List UInt8 := [32, 56, 58, 49, 32, 47, 32, 47, 109, 110, 116, 32, 114, 119, 32, 115, 104, 97, 114, 101, 100, 58, 49, 32, 45, 32, 101, 120, 116, 52, 32, 47, 100, 101, 118, 47, 115, 100, 97, 49, 32, 114, 119, 44, 114, 101, 108, 97, 116, 105, 109, 101, 10]
theorem tail_fields : Lib.fieldsGo [] (tailB.drop 1) = [[56, 58, 49], esc [47], esc [47, 109, 110, 116], [114, 119], [115, 104, 97, 114, 101, 100, 58, 49], [45], [101, 120, 116, 52], [47, 100, 101, 118, 47, 115, 100, 97, 49], [114, 119, 44, 114, 101, 108, 97, 116, 105, 109, 101]] := by kernel_rfl

theorem line_fields {a b : List UInt8} (ha : Word a) (hb : Word b) : Lib.fields (a ++ 32 :: b ++ tailB) = a :: b :: [56, 58, 49] :: esc [47] :: esc [47, 109, 110, 116] :: [114, 119] :: ([[115, 104, 97, 114, 101, 100, 58, 49]] ++ [[45], [101, 120, 116, 52], [47, 100, 101, 118, 47, 115, 100, 97, 49], [114, 119, 44, 114, 101, 108, 97, 116, 105, 109, 101]]) := by
  unfold Lib.fields
  rw [List.append_assoc, List.cons_append, go_next ha 32 rfl]
  rw [show tailB = 32 :: tailB.drop 1 from rfl, go_next hb 32 rfl, tail_fields]
  rfl

theorem ascii_word {a : List UInt8} (h : Word a) : ∀ b ∈ a, b.toNat < 128 := fun b hb => by have := h.2 b hb; omega

theorem line_ascii {a b : List UInt8} (ha : Word a) (hb : Word b) : ∀ (j : Nat) c, (a ++ 32 :: b ++ tailB)[j]? = some c → c.toNat < 128 := by
  intro j c hj
  have hm := List.mem_of_getElem? hj
  rcases List.mem_append.1 hm with h | h
  · rcases List.mem_append.1 h with h | h
    · exact ascii_word ha c h
    · rcases List.mem_cons.1 h with h | h
      · rw [h]; decide
      · exact ascii_word hb c h
  · have : ∀ c ∈ tailB, c.toNat < 128 := by decide
    exact this c h

/-- ZZparseLine at the law's line. -/
theorem parse_line4 (a b : List UInt8) (w : World) (ha : Word a) (hb : Word b) (hda : a ≠ [45]) (hdb : b ≠ [45]) (hla : a.length ≤ 65536) (hlb : b.length ≤ 65536) (hv : Vars w) :
    Calls Tryd.prog 13 #[.string (bstr (a ++ 32 :: b ++ tailB))] w fun e w' => e = .returned (lineV (Lib.parseUintB 64 a) (Lib.parseUintB 64 b) [56, 58, 49] [47] [47, 109, 110, 116] [101, 120, 116, 52] [114, 119, 44, 114, 101, 108, 97, 116, 105, 109, 101]) ∧ Below w.heap.size w w' := by
  have hlen : (a ++ 32 :: b ++ tailB).length ≤ 200000 := by
    have : tailB.length = 53 := rfl
    simp; omega
  refine parse13_any (bstr (a ++ 32 :: b ++ tailB)) w a b [56, 58, 49] [114, 119] [47] [47, 109, 110, 116] [101, 120, 116, 52] [47, 100, 101, 118, 47, 115, 100, 97, 49] [114, 119, 44, 114, 101, 108, 97, 116, 105, 109, 101] [[115, 104, 97, 114, 101, 100, 58, 49]] ?_ (by rw [bstr_size]; omega) ?_ hda hdb (by decide) (by decide) (by decide) (by decide) (by decide) (by omega) (by omega) (by decide) (by decide) (by decide) hv
  · rw [bstr_list]; exact line_fields ha hb
  · rw [bstr_list]; exact line_ascii ha hb

theorem line_z0 {r0 r1 : Lib.NumEnd Nat} {dev root point typ sup : List UInt8} (h : ∀ n, r0 ≠ .ok n) : lineV r0 r1 dev root point typ sup = .tuple #[.agg #[.int .u64 0, .int .u64 0, .string ⟨#[]⟩, .string ⟨#[]⟩, .string ⟨#[]⟩, .string ⟨#[]⟩, .string ⟨#[]⟩], .bool false] := by
  cases r0
  case ok n => exact absurd rfl (h n)
  all_goals rfl
theorem line_z1 {r0 r1 : Lib.NumEnd Nat} {dev root point typ sup : List UInt8} (h : ∀ n, r1 ≠ .ok n) : lineV r0 r1 dev root point typ sup = .tuple #[.agg #[.int .u64 0, .int .u64 0, .string ⟨#[]⟩, .string ⟨#[]⟩, .string ⟨#[]⟩, .string ⟨#[]⟩, .string ⟨#[]⟩], .bool false] := by
  cases r0 <;> cases r1
  all_goals first | rfl | exact absurd rfl (h _)
theorem dec_z {r : Lib.NumEnd Nat} (h : ∀ n, r ≠ .ok n) : decV r = .tuple #[.int .u64 0, .bool false] := by
  cases r
  case ok n => exact absurd rfl (h n)
  all_goals rfl

theorem seqB' {w v v' : World} (T : Below w.heap.size w v) (hb : Below v.heap.size v v') : Below w.heap.size w v' := T.trans (hb.mono T.size)

theorem buf_mono {w w' : World} {B : Nat} {v : Value} {l : List UInt8} (h : Buf w B v l) (hb : Below w.heap.size w w') : Buf w' B v l := h.keep hb

set_option maxRecDepth 100000 in
set_option maxHeartbeats 4000000 in
theorem four_walk (tok : ByteArray) (n : Nat) (inP : Bool) (w : World) (hn : n ≤ 18446744073709551615) (hv : Vars w) :
    Calls Tryd.prog 4 #[.string tok, .int .u64 n, .bool inP] w fun e w' => e = .returned (.bool true) ∧ Below w.heap.size w w' := by
  have HV : Hid (Vars w) := hv
  clear hv
  go_enter Tryd.func4, Tryd.ntmps4
  go_wp2_with fail
  refine (bytes14_any tok _ _ _).mono ?_
  rintro e w' ⟨r, rfl, rfl, hr⟩
  cases r
  · go_wp2
    go_ret
    exact ⟨rfl, Below.refl _ _⟩
  have hsz := hr rfl
  clear hr
  by_cases h16 : tok.size ≤ 65536
  case neg =>
    go_wp2_with fail
    go_ret
    exact ⟨rfl, Below.refl _ _⟩
  go_wp2_with fail
  refine (field_any tok _ hsz).mono ?_
  rintro e w' ⟨r, rfl, rfl, hr⟩
  cases r
  · go_wp2
    go_ret
    exact ⟨rfl, Below.refl _ _⟩
  have HT : Hid (Tok tok ∧ tok ≠ dash) := hr rfl
  clear hr
  cases inP
  · go_wp2_with (at_builtin; refine appS (buf_nil w w.heap.size) tok (by simp; omega) (Nat.le_refl _) rfl _ _ rfl rfl rfl ?_)
    intro v1 w1 g1 f1 _
    go_wp2_with (at_builtin; refine app1 g1 (by simp; omega) f1.size 32 rfl _ _ rfl rfl rfl rfl ?_)
    intro v2 w2 g2 f2 _
    go_wp2_with fail
    refine (appendUint_any w.heap.size _ _ n _ hn ?_ g2 (Nat.le_trans f1.size f2.size)).mono ?_
    · simp; omega
    rintro e w3 ⟨v3, rfl, g3, f3⟩
    have g3' : Buf w3 w.heap.size v3 (tok.data.toList ++ 32 :: decs n) := by simpa using g3
    clear g1 g2 g3
    go_wp2_with (at_builtin; refine appS g3' (bstr tailB) (by have := decs_len n hn; rw [bstr_size]; simp [tailB]; omega) (Nat.le_trans (Nat.le_trans f1.size f2.size) f3.size) rfl _ _ rfl rfl rfl ?_)
    intro v4 w4 g4 f4 _
    rw [bstr_list] at g4
    have F4 : Hid (Below w.heap.size w w4) := ((f1.trans f2).trans f3).trans f4
    have HV4 : Hid (Vars w4) := HV.out.keep F4.out
    obtain ⟨ln, hln⟩ : ∃ ln, ln = tok.data.toList ++ 32 :: decs n ++ tailB := ⟨_, rfl⟩
    have g5 : Buf w4 w.heap.size v4 ln := by rw [hln]; simpa using g4
    have hcv := buf_string g5 (by rw [hln]; simp)
    have HLn : Hid (ln = tok.data.toList ++ 32 :: decs n ++ tailB) := hln
    clear g3' f1 f2 f3 f4 g4 g5 HV hln
    go_wp2_with fail
    rw [HLn.out]
    refine (parse_line4 (tok.data.toList) (decs n) _ (word_tok HT.out.1) (word_decs n) (tok_dash HT.out.2) (decs_dash n) (by simpa using h16) (by have := decs_len n hn; omega) HV4.out).mono ?_
    rintro e w5 ⟨rfl, f5⟩
    rw [parse_decs n hn]
    have F5 : Hid (Below w.heap.size w w5) := seqB' F4.out f5
    clear f5 F4 HV4 hcv
    by_cases hex : ∃ u, Lib.parseUintB 64 tok.data.toList = .ok u
    · obtain ⟨u, hrr⟩ := hex
      rw [hrr, show lineV (.ok u) (.ok n) [56, 58, 49] [47] [47, 109, 110, 116] [101, 120, 116, 52] [114, 119, 44, 114, 101, 108, 97, 116, 105, 109, 101] = .tuple #[.agg #[.int .u64 u, .int .u64 n, .string ⟨#[56, 58, 49]⟩, .string ⟨#[47]⟩, .string ⟨#[47, 109, 110, 116]⟩, .string ⟨#[101, 120, 116, 52]⟩, .string ⟨#[114, 119, 44, 114, 101, 108, 97, 116, 105, 109, 101]⟩], .bool true] from rfl]
      have HR : Hid (Lib.parseUintB 64 tok.data.toList = .ok u) := hrr
      clear hrr
      go_wp2_with fail
      refine (decimal_any tok _ hsz).mono ?_
      rw [HR.out]
      rintro e w6 ⟨rfl, rfl⟩
      simp only [decV]
      go_wp2_with fail
      go_ret
      exact ⟨rfl, F5.out.alloc F5.out.size _⟩
    · have HB : Hid (∀ u, Lib.parseUintB 64 tok.data.toList ≠ .ok u) := fun u hu => hex ⟨u, hu⟩
      clear hex
      rw [line_z0 HB.out]
      go_wp2_with fail
      refine (decimal_any tok _ hsz).mono ?_
      rw [dec_z HB.out]
      rintro e w6 ⟨rfl, rfl⟩
      go_wp2_with fail
      go_ret
      exact ⟨rfl, F5.out.alloc F5.out.size _⟩
  · go_wp2_with fail
    refine (appendUint_any w.heap.size _ [] n _ hn (by simp) (buf_nil _ _) (Nat.le_refl _)).mono ?_
    rintro e w1 ⟨v1, rfl, g1, f1⟩
    go_wp2_with (at_builtin; refine app1 g1 (by simp; have := decs_len n hn; omega) f1.size 32 rfl _ _ rfl rfl rfl rfl ?_)
    intro v2 w2 g2 f2 _
    go_wp2_with (at_builtin; refine appS g2 tok (by simp; have := decs_len n hn; omega) (Nat.le_trans f1.size f2.size) rfl _ _ rfl rfl rfl ?_)
    intro v3 w3 g3 f3 _
    have g3' : Buf w3 w.heap.size v3 (decs n ++ 32 :: tok.data.toList) := by simpa using g3
    clear g1 g2 g3
    go_wp2_with (at_builtin; refine appS g3' (bstr tailB) (by have := decs_len n hn; rw [bstr_size]; simp [tailB]; omega) (Nat.le_trans (Nat.le_trans f1.size f2.size) f3.size) rfl _ _ rfl rfl rfl ?_)
    intro v4 w4 g4 f4 _
    rw [bstr_list] at g4
    have F4 : Hid (Below w.heap.size w w4) := ((f1.trans f2).trans f3).trans f4
    have HV4 : Hid (Vars w4) := HV.out.keep F4.out
    obtain ⟨ln, hln⟩ : ∃ ln, ln = decs n ++ 32 :: tok.data.toList ++ tailB := ⟨_, rfl⟩
    have g5 : Buf w4 w.heap.size v4 ln := by rw [hln]; simpa using g4
    have hcv := buf_string g5 (by rw [hln]; simp)
    have HLn : Hid (ln = decs n ++ 32 :: tok.data.toList ++ tailB) := hln
    clear g3' f1 f2 f3 f4 g4 g5 HV hln
    go_wp2_with fail
    rw [HLn.out]
    refine (parse_line4 (decs n) (tok.data.toList) _ (word_decs n) (word_tok HT.out.1) (decs_dash n) (tok_dash HT.out.2) (by have := decs_len n hn; omega) (by simpa using h16) HV4.out).mono ?_
    rintro e w5 ⟨rfl, f5⟩
    rw [parse_decs n hn]
    have F5 : Hid (Below w.heap.size w w5) := seqB' F4.out f5
    clear f5 F4 HV4 hcv
    by_cases hex : ∃ u, Lib.parseUintB 64 tok.data.toList = .ok u
    · obtain ⟨u, hrr⟩ := hex
      rw [hrr, show lineV (.ok n) (.ok u) [56, 58, 49] [47] [47, 109, 110, 116] [101, 120, 116, 52] [114, 119, 44, 114, 101, 108, 97, 116, 105, 109, 101] = .tuple #[.agg #[.int .u64 n, .int .u64 u, .string ⟨#[56, 58, 49]⟩, .string ⟨#[47]⟩, .string ⟨#[47, 109, 110, 116]⟩, .string ⟨#[101, 120, 116, 52]⟩, .string ⟨#[114, 119, 44, 114, 101, 108, 97, 116, 105, 109, 101]⟩], .bool true] from rfl]
      have HR : Hid (Lib.parseUintB 64 tok.data.toList = .ok u) := hrr
      clear hrr
      go_wp2_with fail
      refine (decimal_any tok _ hsz).mono ?_
      rw [HR.out]
      rintro e w6 ⟨rfl, rfl⟩
      simp only [decV]
      go_wp2_with fail
      go_ret
      exact ⟨rfl, F5.out.alloc F5.out.size _⟩
    · have HB : Hid (∀ u, Lib.parseUintB 64 tok.data.toList ≠ .ok u) := fun u hu => hex ⟨u, hu⟩
      clear hex
      rw [line_z1 HB.out]
      go_wp2_with fail
      refine (decimal_any tok _ hsz).mono ?_
      rw [dec_z HB.out]
      rintro e w6 ⟨rfl, rfl⟩
      go_wp2_with fail
      go_ret
      exact ⟨rfl, F5.out.alloc F5.out.size _⟩
end Go.Proofs.Qxb6600128aDoor
