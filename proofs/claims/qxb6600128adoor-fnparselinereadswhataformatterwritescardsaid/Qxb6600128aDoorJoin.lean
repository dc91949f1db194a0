import Derived.Test.Qxb6600128aDoorFour
namespace Go.Proofs.Qxb6600128aDoor
open Go.RowKit

/-- A space and a word, for each of the optional fields. -/
def optB (os : List (List UInt8)) : List UInt8 := os.flatMap fun o => 32 :: o
def endB (nl : Bool) : List UInt8 := if nl then [10] else []

/-- What stands behind the optional fields. -/
def lastB (typ src sup : List UInt8) (nl : Bool) : List UInt8 := typ ++ 32 :: (src ++ 32 :: (sup ++ endB nl))

/-- The line that the law writes. -/
def lineB (a b dev root point opt : List UInt8) (os : List (List UInt8)) (typ src sup : List UInt8) (nl : Bool) : List UInt8 :=
  a ++ 32 :: (b ++ 32 :: (dev ++ 32 :: (root ++ 32 :: (point ++ 32 :: (opt ++ (optB os ++ (32 :: 45 :: 32 :: lastB typ src sup nl)))))))

theorem word_dash : Word [45] := ⟨by simp, fun b hb => by rw [List.mem_singleton.1 hb]; decide⟩

theorem opts_fields : ∀ (os : List (List UInt8)) (opt r : List UInt8), Word opt → (∀ o ∈ os, Word o) → Lib.fieldsGo [] (opt ++ (optB os ++ 32 :: r)) = opt :: (os ++ Lib.fieldsGo [] r)
  | [], opt, r, h, _ => by
    rw [show optB [] = [] from rfl, List.nil_append, go_next h 32 rfl]
    rfl
  | o :: os, opt, r, h, ho => by
    have e : opt ++ (optB (o :: os) ++ 32 :: r) = opt ++ 32 :: (o ++ (optB os ++ 32 :: r)) := by simp [optB]
    rw [e, go_next h 32 rfl, opts_fields os o r (ho o (by simp)) (fun x hx => ho x (by simp [hx]))]
    rfl

theorem last_fields {typ src sup : List UInt8} {nl : Bool} (ht : Word typ) (hs : Word src) (hp : Word sup) : Lib.fieldsGo [] (lastB typ src sup nl) = [typ, src, sup] := by
  unfold lastB
  rw [go_next ht 32 rfl, go_next hs 32 rfl]
  cases nl
  · rw [show endB false = [] from rfl, List.append_nil, go_last hp]
  · rw [show endB true = 10 :: [] from rfl, go_next hp 10 rfl]
    rfl

theorem lineB_fields {a b dev root point opt typ src sup : List UInt8} {os : List (List UInt8)} {nl : Bool} (ha : Word a) (hb : Word b) (hd : Word dev) (hr : Word root) (hp : Word point) (ho : Word opt) (hos : ∀ o ∈ os, Word o) (ht : Word typ) (hs : Word src) (hu : Word sup) :
    Lib.fields (lineB a b dev root point opt os typ src sup nl) = a :: b :: dev :: root :: point :: opt :: (os ++ [[45], typ, src, sup]) := by
  unfold Lib.fields lineB
  rw [go_next ha 32 rfl, go_next hb 32 rfl, go_next hd 32 rfl, go_next hr 32 rfl, go_next hp 32 rfl, opts_fields os opt _ ho hos]
  rw [show (45 :: 32 :: lastB typ src sup nl) = [45] ++ 32 :: lastB typ src sup nl from rfl, go_next word_dash 32 rfl, last_fields ht hs hu]

def Asc (l : List UInt8) : Prop := ∀ b ∈ l, b.toNat < 128
theorem asc_app {l m : List UInt8} (h : Asc l) (g : Asc m) : Asc (l ++ m) := fun b hb => by
  rcases List.mem_append.1 hb with hb | hb
  · exact h b hb
  · exact g b hb
theorem asc_cons {c : UInt8} {l : List UInt8} (h : c.toNat < 128) (g : Asc l) : Asc (c :: l) := fun b hb => by
  rcases List.mem_cons.1 hb with hb | hb
  · rw [hb]; exact h
  · exact g b hb
theorem asc_opts {os : List (List UInt8)} (h : ∀ o ∈ os, Word o) : Asc (optB os) := by
  intro b hb
  obtain ⟨o, ho, hbo⟩ := List.mem_flatMap.1 hb
  rcases List.mem_cons.1 hbo with e | e
  · rw [e]; decide
  · exact ascii_word (h o ho) b e
theorem asc_end (nl : Bool) : Asc (endB nl) := by
  cases nl
  · intro b hb; cases hb
  · intro b hb; rw [List.mem_singleton.1 hb]; decide

theorem lineB_ascii {a b dev root point opt typ src sup : List UInt8} {os : List (List UInt8)} {nl : Bool} (ha : Word a) (hb : Word b) (hd : Word dev) (hr : Word root) (hp : Word point) (ho : Word opt) (hos : ∀ o ∈ os, Word o) (ht : Word typ) (hs : Word src) (hu : Word sup) :
    ∀ (j : Nat) c, (lineB a b dev root point opt os typ src sup nl)[j]? = some c → c.toNat < 128 := by
  have h32 : (32 : UInt8).toNat < 128 := by decide
  have h45 : (45 : UInt8).toNat < 128 := by decide
  have : Asc (lineB a b dev root point opt os typ src sup nl) := asc_app (ascii_word ha) (asc_cons h32 (asc_app (ascii_word hb) (asc_cons h32 (asc_app (ascii_word hd) (asc_cons h32 (asc_app (ascii_word hr) (asc_cons h32 (asc_app (ascii_word hp) (asc_cons h32 (asc_app (ascii_word ho) (asc_app (asc_opts hos) (asc_cons h32 (asc_cons h45 (asc_cons h32 (asc_app (ascii_word ht) (asc_cons h32 (asc_app (ascii_word hs) (asc_cons h32 (asc_app (ascii_word hu) (asc_end nl))))))))))))))))))))
  intro j c hj
  exact this c (List.mem_of_getElem? hj)

/-! ### the escape -/
theorem escB_len (c : UInt8) : 1 ≤ (escB c).length ∧ (escB c).length ≤ 4 := by unfold escB; split <;> simp

theorem esc_len : ∀ t : List UInt8, t.length ≤ (esc t).length ∧ (esc t).length ≤ 4 * t.length
  | [] => by simp [esc]
  | c :: t => by
    have h1 := escB_len c
    have h2 := esc_len t
    rw [esc_cons]
    simp
    omega

theorem escB_word (c : UInt8) : ∀ b ∈ escB c, 33 ≤ b.toNat ∧ b.toNat ≤ 126 := by
  have hc : c.toNat < 256 := c.toNat_lt
  intro b hb
  unfold escB at hb
  split at hb
  · have e1 : (UInt8.ofNat (48 + c.toNat / 64)).toNat = 48 + c.toNat / 64 := by rw [UInt8.toNat_ofNat', Nat.mod_eq_of_lt (by omega)]
    have e2 : (UInt8.ofNat (48 + c.toNat / 8 % 8)).toNat = 48 + c.toNat / 8 % 8 := by rw [UInt8.toNat_ofNat', Nat.mod_eq_of_lt (by omega)]
    have e3 : (UInt8.ofNat (48 + c.toNat % 8)).toNat = 48 + c.toNat % 8 := by rw [UInt8.toNat_ofNat', Nat.mod_eq_of_lt (by omega)]
    simp only [List.mem_cons, List.not_mem_nil, or_false] at hb
    rcases hb with rfl | rfl | rfl | rfl
    · decide
    · rw [e1]; omega
    · rw [e2]; omega
    · rw [e3]; omega
  · rename_i hn
    rw [List.mem_singleton.1 hb]
    simp [needs] at hn
    omega

theorem esc_word {t : List UInt8} (h : t ≠ []) : Word (esc t) := by
  refine ⟨fun e => ?_, fun b hb => ?_⟩
  · have := (esc_len t).1
    rw [e] at this
    simp at this
    exact h this
  · obtain ⟨c, _, hc⟩ := List.mem_flatMap.1 hb
    exact escB_word c b hc

theorem esc_dash {t : List UInt8} (h : t ≠ [45]) : esc t ≠ [45] := by
  intro e
  rcases t with _ | ⟨c, _ | ⟨d, t⟩⟩
  · simp [esc] at e
  · rw [esc_cons, show esc [] = [] from rfl, List.append_nil] at e
    unfold escB at e
    split at e
    · simp at e
    · simp at e
      exact h (by rw [e])
  · have h1 := (esc_len (c :: d :: t)).1
    rw [e] at h1
    simp at h1

/-! ### the optional fields -/
def osK (S : Nat → ByteArray) (k : Nat) : List (List UInt8) := (List.range k).map fun j => (S j).data.toList
theorem osK_succ (S : Nat → ByteArray) (k : Nat) : osK S (k + 1) = osK S k ++ [(S k).data.toList] := by simp [osK, List.range_succ]
theorem osK_length (S : Nat → ByteArray) (k : Nat) : (osK S k).length = k := by simp [osK]
theorem optB_succ (S : Nat → ByteArray) (k : Nat) : optB (osK S (k + 1)) = optB (osK S k) ++ 32 :: (S k).data.toList := by rw [osK_succ]; simp [optB]
theorem optB_length (S : Nat → ByteArray) (k : Nat) : (optB (osK S (k + 1))).length = (optB (osK S k)).length + 1 + (S k).size := by rw [optB_succ]; simp; omega
theorem osK_mem {S : Nat → ByteArray} {k : Nat} {o : List UInt8} (h : o ∈ osK S k) : ∃ j, j < k ∧ o = (S j).data.toList := by
  obtain ⟨j, hj, rfl⟩ := List.mem_map.1 h
  exact ⟨j, List.mem_range.1 hj, rfl⟩
theorem optB_le (S : Nat → ByteArray) (k : Nat) : ∀ n, k ≤ n → (optB (osK S k)).length ≤ (optB (osK S n)).length
  | 0, h => by obtain rfl : k = 0 := by omega
               exact Nat.le_refl _
  | n + 1, h => by
    by_cases e : k = n + 1
    · rw [e]; exact Nat.le_refl _
    · have := optB_le S k n (by omega)
      rw [optB_length]
      omega
theorem bstr_back (s : ByteArray) : bstr s.data.toList = s := rfl

/-- What the law asks of the parts of the line. -/
structure Parts (dev root point opt typ src sup : ByteArray) (S : Nat → ByteArray) (len : Nat) : Prop where
  dev : Tok dev ∧ dev ≠ dash
  opt : Tok opt ∧ opt ≠ dash
  os : ∀ j, j < len → Tok (S j) ∧ S j ≠ dash
  typ : Tok typ
  src : Tok src
  sup : Tok sup
  root : root.data.toList ≠ [] ∧ root.data.toList ≠ [45]
  point : point.data.toList ≠ [] ∧ point.data.toList ≠ [45]

theorem end_len (nl : Bool) : (endB nl).length ≤ 1 := by cases nl <;> decide

theorem lineB_len {a b dev root point opt typ src sup : List UInt8} {os : List (List UInt8)} {nl : Bool} :
    (lineB a b dev root point opt os typ src sup nl).length = a.length + b.length + dev.length + root.length + point.length + opt.length + (optB os).length + typ.length + src.length + sup.length + (endB nl).length + 10 := by
  simp [lineB, lastB]
  omega

/-- ZZparseLine at the law's line. -/
theorem parse_line3 (a b : Nat) (dev root point opt typ src sup : ByteArray) (nl : Bool) (S : Nat → ByteArray) (len : Nat) (w : World) (ha : a ≤ 18446744073709551615) (hb : b ≤ 18446744073709551615)
    (hp : Parts dev root point opt typ src sup S len) (h0 : dev.size ≤ 65536) (h1 : root.size ≤ 65536) (h2 : point.size ≤ 65536) (h3 : opt.size ≤ 65536) (h4 : typ.size ≤ 65536) (h5 : src.size ≤ 65536) (h6 : sup.size ≤ 65536) (h7 : len ≤ 4096) (h8 : (optB (osK S len)).length ≤ 1048576) (hv : Vars w) :
    Calls Tryd.prog 13 #[.string (bstr (lineB (decs a) (decs b) dev.data.toList (esc root.data.toList) (esc point.data.toList) opt.data.toList (osK S len) typ.data.toList src.data.toList sup.data.toList nl))] w
      fun e w' => e = .returned (.tuple #[.agg #[.int .u64 a, .int .u64 b, .string dev, .string root, .string point, .string typ, .string sup], .bool true]) ∧ Below w.heap.size w w' := by
  have la := decs_len a ha
  have lb := decs_len b hb
  have lr : (esc root.data.toList).length ≤ 262144 := by have := (esc_len root.data.toList).2; simp at this; omega
  have lp : (esc point.data.toList).length ≤ 262144 := by have := (esc_len point.data.toList).2; simp at this; omega
  have ln : (lineB (decs a) (decs b) dev.data.toList (esc root.data.toList) (esc point.data.toList) opt.data.toList (osK S len) typ.data.toList src.data.toList sup.data.toList nl).length ≤ 8388608 := by
    rw [lineB_len]
    have := end_len nl
    simp
    omega
  have hos : ∀ o ∈ osK S len, Word o := fun o ho => by
    obtain ⟨j, hj, rfl⟩ := osK_mem ho
    exact word_tok (hp.os j hj).1
  refine (parse13_any _ w (decs a) (decs b) dev.data.toList opt.data.toList root.data.toList point.data.toList typ.data.toList src.data.toList sup.data.toList (osK S len) ?_ (by rw [bstr_size]; exact ln) ?_ (decs_dash a) (decs_dash b) (tok_dash hp.dev.2) (esc_dash hp.root.2) (esc_dash hp.point.2) (tok_dash hp.opt.2) ?_ (by omega) (by omega) (by omega) (by omega) (by rw [osK_length]; omega) hv).mono ?_
  · rw [bstr_list]
    exact lineB_fields (word_decs a) (word_decs b) (word_tok hp.dev.1) (esc_word hp.root.1) (esc_word hp.point.1) (word_tok hp.opt.1) hos (word_tok hp.typ) (word_tok hp.src) (word_tok hp.sup)
  · rw [bstr_list]
    exact lineB_ascii (word_decs a) (word_decs b) (word_tok hp.dev.1) (esc_word hp.root.1) (esc_word hp.point.1) (word_tok hp.opt.1) hos (word_tok hp.typ) (word_tok hp.src) (word_tok hp.sup)
  · intro x hx
    obtain ⟨j, hj, rfl⟩ := osK_mem hx
    exact tok_dash (hp.os j hj).2
  · rintro e w' ⟨rfl, h⟩
    refine ⟨?_, h⟩
    rw [parse_decs a ha, parse_decs b hb]
    rfl
end Go.Proofs.Qxb6600128aDoor
