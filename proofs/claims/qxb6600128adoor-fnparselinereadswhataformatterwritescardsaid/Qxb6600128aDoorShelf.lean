/- The shelf's contracts that this seat's walks call, laid at this dump: the kit's plain text, cut to what is used; the laying of WriteByte by hand (the tool could not read two numbers off the bodies). -/
import Derived.Shelf.Strings.Builder1
import Derived.Shelf.Strings.BuilderF
import Derived.Shelf.Strings.BuilderK
import Derived.Shelf.Strconv.Itoa0
import Derived.Shelf.Strconv.Itoa1
import Derived.Shelf.LaysM
import Derived.Shelf.Strconv.Itoa2
import Derived.Shelf.Strconv.Itoa3
import Derived.Shelf.Strconv.Clone
import Derived.Shelf.Strconv.SyntaxError
import Derived.Shelf.LaysC
import Derived.Shelf.Strconv.ToError
import Derived.Shelf.Strconv.Lower
import Derived.Shelf.Strconv.ParseUint10
import Derived.Shelf.Strconv.RangeError
import Derived.Shelf.Strconv.ToErrorRange
import Derived.Shelf.Strconv.ParseUintEmpty
import Derived.Shelf.Strconv.ParseUint10b64
import Derived.Shelf.Strconv.ParseUint10b32
import Derived.Shelf.Strconv.ParseUint10b16
import Derived.Shelf.Strconv.ParseUint10b8
import Derived.Shelf.Strconv.ParseUint10At
import Derived.Ground.MpProg
import Derived.Shelf.Pu.ParseUintPublic10
import Derived.Shelf.Pu.ErrVarParseUint
import Derived.Shelf.Strings.Fields
import Derived.Shelf.Strings.SplitShaped
import Derived.Shelf.Unicode.Latin
import Derived.Shelf.Unicode.Is16White
import Derived.Shelf.Unicode.IsSpaceAny
import Derived.Shelf.Unicode.Is16WhiteD
import Derived.Shelf.Unicode.IsSpaceAnyD
import Derived.Shelf.Strings.FieldsAny
import Derived.Shelf.Strings.FieldsFuncAny
import Derived.Shelf.Unicode.Is16Any
import Derived.Shelf.Unicode.Is32Any
import Derived.Shelf.Unicode.ExclAny
import Derived.Shelf.Slices.Turned
import Derived.Test.Qxb6600128aDoorProg
namespace Go.Proofs
open Go.Shelf Go.RowKit Go.Lib
def Tryd.lays169_ren : Go.Shelf.Ren := ⟨fun | 169 => 29 | n => n, fun | 70 => 50 | 9 => 9 | 0 => 0 | 72 => 52 | 37 => 26 | 127 => 59 | 3 => 3 | 5 => 5 | n => n, fun | n => n⟩
theorem Tryd.lays169 : Go.Proofs.Lays.n169 Tryd.prog Tryd.lays169_ren := {
  mixed := by kernel_rfl
  f169 := Tryd.func29.trans (congrArg some (by kernel_rfl))
  t0 := Tryd.underlying0
  a0 := Tryd.isAgg0
  z0 := Tryd.sizeOf0
  v0 := Tryd.zeroValue0
  t3 := Tryd.underlying3
  a3 := Tryd.isAgg3
  z3 := Tryd.sizeOf3
  v3 := Tryd.zeroValue3
  t9 := Tryd.underlying9
  a9 := Tryd.isAgg9
  z9 := Tryd.sizeOf9
  v9 := Tryd.zeroValue9
  t37 := Tryd.underlying26
  a37 := Tryd.isAgg26
  z37 := Tryd.sizeOf26
  v37 := Tryd.zeroValue26
  t70 := Tryd.underlying50
  a70 := Tryd.isAgg50
  z70 := Tryd.sizeOf50
  v70 := Tryd.zeroValue50
  t72 := Tryd.underlying52
  a72 := Tryd.isAgg52
  z72 := Tryd.sizeOf52
  v72 := Tryd.zeroValue52
  t127 := Tryd.underlying59
  a127 := Tryd.isAgg59
  z127 := Tryd.sizeOf59
  v127 := Tryd.zeroValue59 }
theorem Tryd.Builder_Extra_169 : Builder.Extra Tryd.prog Tryd.lays169_ren := {
  sizeBuilder := by kernel_rfl
  liesBuilder := by kernel_rfl
  t5 := Tryd.underlying5
  a5 := Tryd.isAgg5
  z5 := Tryd.sizeOf5
  v5 := Tryd.zeroValue5
  infoByte := by kernel_rfl
  cellsByte := by kernel_rfl
  sizeByte := by kernel_rfl
  neB5 := by decide }
theorem Tryd.Builder_String_any (B b : Nat) (l : List UInt8) (w : World) (h : Lib.IsBuilder 52 5 B b (Lib.byteCells l) w) (hBw : B ≤ w.heap.size) :
    Calls Tryd.prog 29 #[.pointer (some ⟨b, 0, none⟩)] w fun e w' => e = .returned (.string ⟨l.toArray⟩) ∧ Below B w w' := Any.Builder_String_any Tryd.lays169 Tryd.Builder_Extra_169 B b l w h hBw
def Tryd.laysPu14_ren : Go.Shelf.Ren := ⟨fun | 14 => 27 | 16 => 32 | 17 => 33 | 19 => 36 | 20 => 37 | 21 => 38 | 22 => 39 | 23 => 40 | 24 => 41 | 25 => 45 | 27 => 47 | 26 => 46 | 28 => 48 | 29 => 49 | 30 => 50 | 31 => 51 | 32 => 52 | 33 => 53 | 35 => 55 | 34 => 54 | 36 => 56 | 37 => 57 | 38 => 58 | 39 => 59 | 40 => 60 | n => n, fun | 9 => 9 | 3 => 3 | 22 => 22 | 24 => 47 | 25 => 48 | 4 => 4 | 34 => 66 | 5 => 5 | 36 => 43 | 37 => 26 | 0 => 0 | 39 => 68 | 21 => 21 | 44 => 85 | 47 => 59 | 50 => 92 | 48 => 90 | 2 => 2 | 52 => 94 | 55 => 97 | 59 => 101 | 60 => 63 | 20 => 20 | 61 => 102 | 65 => 106 | 66 => 107 | 67 => 54 | n => n, fun | 0 => 2 | 1 => 3 | 2 => 4 | 3 => 5 | 4 => 6 | n => n⟩
theorem Tryd.laysPu14 : Go.Proofs.LaysPu.n14 Tryd.prog Tryd.laysPu14_ren := {
  mixed := by kernel_rfl
  f14 := Tryd.func27.trans (congrArg some (by kernel_rfl))
  f16 := Tryd.func32.trans (congrArg some (by kernel_rfl))
  f17 := Tryd.func33.trans (congrArg some (by kernel_rfl))
  f19 := Tryd.func36.trans (congrArg some (by kernel_rfl))
  f20 := Tryd.func37.trans (congrArg some (by kernel_rfl))
  f21 := Tryd.func38.trans (congrArg some (by kernel_rfl))
  f22 := Tryd.func39.trans (congrArg some (by kernel_rfl))
  f23 := Tryd.func40.trans (congrArg some (by kernel_rfl))
  f24 := Tryd.func41.trans (congrArg some (by kernel_rfl))
  f25 := Tryd.func45.trans (congrArg some (by kernel_rfl))
  f26 := Tryd.func46.trans (congrArg some (by kernel_rfl))
  f27 := Tryd.func47.trans (congrArg some (by kernel_rfl))
  f28 := Tryd.func48.trans (congrArg some (by kernel_rfl))
  f29 := Tryd.func49.trans (congrArg some (by kernel_rfl))
  f30 := Tryd.func50.trans (congrArg some (by kernel_rfl))
  f31 := Tryd.func51.trans (congrArg some (by kernel_rfl))
  f32 := Tryd.func52.trans (congrArg some (by kernel_rfl))
  f33 := Tryd.func53.trans (congrArg some (by kernel_rfl))
  f34 := Tryd.func54.trans (congrArg some (by kernel_rfl))
  f35 := Tryd.func55.trans (congrArg some (by kernel_rfl))
  f36 := Tryd.func56.trans (congrArg some (by kernel_rfl))
  f37 := Tryd.func57.trans (congrArg some (by kernel_rfl))
  f38 := Tryd.func58.trans (congrArg some (by kernel_rfl))
  f39 := Tryd.func59.trans (congrArg some (by kernel_rfl))
  f40 := Tryd.func60.trans (congrArg some (by kernel_rfl))
  t0 := Tryd.underlying0
  a0 := Tryd.isAgg0
  z0 := Tryd.sizeOf0
  v0 := Tryd.zeroValue0
  i0 := by kernel_rfl
  t2 := Tryd.underlying2
  a2 := Tryd.isAgg2
  z2 := Tryd.sizeOf2
  v2 := Tryd.zeroValue2
  i2 := by kernel_rfl
  t3 := Tryd.underlying3
  a3 := Tryd.isAgg3
  z3 := Tryd.sizeOf3
  v3 := Tryd.zeroValue3
  i3 := by kernel_rfl
  t4 := Tryd.underlying4
  a4 := Tryd.isAgg4
  z4 := Tryd.sizeOf4
  v4 := Tryd.zeroValue4
  i4 := by kernel_rfl
  t5 := Tryd.underlying5
  a5 := Tryd.isAgg5
  z5 := Tryd.sizeOf5
  v5 := Tryd.zeroValue5
  i5 := by kernel_rfl
  t9 := Tryd.underlying9
  a9 := Tryd.isAgg9
  z9 := Tryd.sizeOf9
  v9 := Tryd.zeroValue9
  i9 := by kernel_rfl
  t20 := Tryd.underlying20
  a20 := Tryd.isAgg20
  z20 := Tryd.sizeOf20
  v20 := Tryd.zeroValue20
  i20 := by kernel_rfl
  t21 := Tryd.underlying21
  a21 := Tryd.isAgg21
  z21 := Tryd.sizeOf21
  v21 := Tryd.zeroValue21
  i21 := by kernel_rfl
  t22 := Tryd.underlying22
  a22 := Tryd.isAgg22
  z22 := Tryd.sizeOf22
  v22 := Tryd.zeroValue22
  i22 := by kernel_rfl
  t24 := Tryd.underlying47
  a24 := Tryd.isAgg47
  z24 := Tryd.sizeOf47
  v24 := Tryd.zeroValue47
  i24 := by kernel_rfl
  t25 := Tryd.underlying48
  a25 := Tryd.isAgg48
  z25 := Tryd.sizeOf48
  v25 := Tryd.zeroValue48
  i25 := by kernel_rfl
  t34 := Tryd.underlying66
  a34 := Tryd.isAgg66
  z34 := Tryd.sizeOf66
  v34 := Tryd.zeroValue66
  i34 := by kernel_rfl
  c34 := by kernel_rfl
  t36 := Tryd.underlying43
  a36 := Tryd.isAgg43
  z36 := Tryd.sizeOf43
  v36 := Tryd.zeroValue43
  i36 := by kernel_rfl
  t37 := Tryd.underlying26
  a37 := Tryd.isAgg26
  z37 := Tryd.sizeOf26
  v37 := Tryd.zeroValue26
  i37 := by kernel_rfl
  t39 := Tryd.underlying68
  a39 := Tryd.isAgg68
  z39 := Tryd.sizeOf68
  v39 := Tryd.zeroValue68
  i39 := by kernel_rfl
  t44 := Tryd.underlying85
  a44 := Tryd.isAgg85
  z44 := Tryd.sizeOf85
  v44 := Tryd.zeroValue85
  i44 := by kernel_rfl
  t47 := Tryd.underlying59
  a47 := Tryd.isAgg59
  z47 := Tryd.sizeOf59
  v47 := Tryd.zeroValue59
  i47 := by kernel_rfl
  t48 := Tryd.underlying90
  a48 := Tryd.isAgg90
  z48 := Tryd.sizeOf90
  v48 := Tryd.zeroValue90
  i48 := by kernel_rfl
  t50 := Tryd.underlying92
  a50 := Tryd.isAgg92
  z50 := Tryd.sizeOf92
  v50 := Tryd.zeroValue92
  i50 := by kernel_rfl
  t52 := Tryd.underlying94
  a52 := Tryd.isAgg94
  z52 := Tryd.sizeOf94
  v52 := Tryd.zeroValue94
  i52 := by kernel_rfl
  t55 := Tryd.underlying97
  a55 := Tryd.isAgg97
  z55 := Tryd.sizeOf97
  v55 := Tryd.zeroValue97
  i55 := by kernel_rfl
  t59 := Tryd.underlying101
  a59 := Tryd.isAgg101
  z59 := Tryd.sizeOf101
  v59 := Tryd.zeroValue101
  i59 := by kernel_rfl
  t60 := Tryd.underlying63
  a60 := Tryd.isAgg63
  z60 := Tryd.sizeOf63
  v60 := Tryd.zeroValue63
  i60 := by kernel_rfl
  t61 := Tryd.underlying102
  a61 := Tryd.isAgg102
  z61 := Tryd.sizeOf102
  t65 := Tryd.underlying106
  a65 := Tryd.isAgg106
  z65 := Tryd.sizeOf106
  v65 := Tryd.zeroValue106
  i65 := by kernel_rfl
  t66 := Tryd.underlying107
  a66 := Tryd.isAgg107
  z66 := Tryd.sizeOf107
  v66 := Tryd.zeroValue107
  i66 := by kernel_rfl
  t67 := Tryd.underlying54
  a67 := Tryd.isAgg54
  z67 := Tryd.sizeOf54
  v67 := Tryd.zeroValue54
  i67 := by kernel_rfl
  g0 := by kernel_rfl
  m0 := by kernel_rfl
  g1 := by kernel_rfl
  m1 := by kernel_rfl
  g2 := by kernel_rfl
  m2 := by kernel_rfl
  g3 := by kernel_rfl
  m3 := by kernel_rfl
  g4 := by kernel_rfl
  m4 := by kernel_rfl }
theorem Tryd.strconv_ParseUint_10_at64_ok (s : ByteArray) (hmax : s.size ≤ 9223372036854775806) (u : Nat) (h : Lib.parseUintB 64 s.data.toList = .ok u) (w : World) :
    Calls Tryd.prog 27 #[.string s, .int .i64 10, .int .i64 64] w fun e w' => e = .returned (.tuple #[.int .u64 u, .nilIface]) ∧ (w' = w ∨ w' = Lib.bytesWorld w 5 s) := Any.strconv_ParseUint_10_at64_ok Tryd.laysPu14 s hmax u h w
theorem Tryd.strconv_ParseUint_10_at64_bad (s : ByteArray) (hlim : s.size ≤ 281474976710656) (h : Lib.parseUintB 64 s.data.toList = Lib.parseUintB 64 []) (ev : Value) (w : World) (hv : w.cell? ⟨2, 0, none⟩ = some ev) (hev : ev = .nilIface ∨ ∃ te pe, ev = .iface te pe) :
    Calls Tryd.prog 27 #[.string s, .int .i64 10, .int .i64 64] w fun e w' => ∃ N, e = .returned (.tuple #[.int .u64 0, .iface 68 (.pointer (some ⟨N, 0, none⟩))]) ∧ w.heap.size ≤ N ∧ w'.heap[N]? = some (.cells #[.string ⟨#[80, 97, 114, 115, 101, 85, 105, 110, 116]⟩, .string s, ev] 85 (0, 0)) ∧ Below w.heap.size w w' := Any.strconv_ParseUint_10_at64_syntax Tryd.laysPu14 s hlim h ev w hv hev
theorem Tryd.strconv_ParseUint_10_at64_range (s : ByteArray) (hlim : s.size ≤ 281474976710656) (h : Lib.parseUintB 64 s.data.toList = .range) (ev : Value) (w : World) (hv : w.cell? ⟨3, 0, none⟩ = some ev) (hev : ev = .nilIface ∨ ∃ te pe, ev = .iface te pe) :
    Calls Tryd.prog 27 #[.string s, .int .i64 10, .int .i64 64] w fun e w' => ∃ N, e = .returned (.tuple #[.int .u64 18446744073709551615, .iface 68 (.pointer (some ⟨N, 0, none⟩))]) ∧ w.heap.size ≤ N ∧ w'.heap[N]? = some (.cells #[.string ⟨#[80, 97, 114, 115, 101, 85, 105, 110, 116]⟩, .string s, ev] 85 (0, 0)) ∧ Below w.heap.size w w' := Any.strconv_ParseUint_10_at64_range Tryd.laysPu14 s hlim h ev w hv hev
def Tryd.lays157_ren : Go.Shelf.Ren := ⟨fun | 157 => 25 | 229 => 30 | 199 => 31 | 261 => 35 | 311 => 43 | 312 => 44 | n => n, fun | 9 => 9 | 31 => 23 | 3 => 3 | 5 => 5 | 4 => 4 | 119 => 55 | 0 => 0 | 40 => 57 | 152 => 60 | 21 => 21 | 154 => 62 | 51 => 63 | 141 => 65 | 196 => 76 | 193 => 73 | 198 => 79 | 49 => 77 | 194 => 74 | 201 => 82 | 226 => 88 | 46 => 43 | 227 => 89 | n => n, fun | 0 => 0 | 6 => 1 | n => n⟩
theorem Tryd.lays157 : Go.Proofs.Lays.n157 Tryd.prog Tryd.lays157_ren := {
  mixed := by kernel_rfl
  f157 := Tryd.func25.trans (congrArg some (by kernel_rfl))
  f199 := Tryd.func31.trans (congrArg some (by kernel_rfl))
  f229 := Tryd.func30.trans (congrArg some (by kernel_rfl))
  f261 := Tryd.func35.trans (congrArg some (by kernel_rfl))
  f311 := Tryd.func43.trans (congrArg some (by kernel_rfl))
  f312 := Tryd.func44.trans (congrArg some (by kernel_rfl))
  t0 := Tryd.underlying0
  a0 := Tryd.isAgg0
  z0 := Tryd.sizeOf0
  v0 := Tryd.zeroValue0
  t3 := Tryd.underlying3
  a3 := Tryd.isAgg3
  z3 := Tryd.sizeOf3
  v3 := Tryd.zeroValue3
  t4 := Tryd.underlying4
  a4 := Tryd.isAgg4
  z4 := Tryd.sizeOf4
  v4 := Tryd.zeroValue4
  t5 := Tryd.underlying5
  a5 := Tryd.isAgg5
  z5 := Tryd.sizeOf5
  v5 := Tryd.zeroValue5
  t9 := Tryd.underlying9
  a9 := Tryd.isAgg9
  z9 := Tryd.sizeOf9
  v9 := Tryd.zeroValue9
  t21 := Tryd.underlying21
  a21 := Tryd.isAgg21
  z21 := Tryd.sizeOf21
  v21 := Tryd.zeroValue21
  t31 := Tryd.underlying23
  a31 := Tryd.isAgg23
  z31 := Tryd.sizeOf23
  v31 := Tryd.zeroValue23
  t40 := Tryd.underlying57
  a40 := Tryd.isAgg57
  z40 := Tryd.sizeOf57
  v40 := Tryd.zeroValue57
  t46 := Tryd.underlying43
  a46 := Tryd.isAgg43
  z46 := Tryd.sizeOf43
  v46 := Tryd.zeroValue43
  t49 := Tryd.underlying77
  a49 := Tryd.isAgg77
  z49 := Tryd.sizeOf77
  v49 := Tryd.zeroValue77
  t51 := Tryd.underlying63
  a51 := Tryd.isAgg63
  z51 := Tryd.sizeOf63
  v51 := Tryd.zeroValue63
  t119 := Tryd.underlying55
  a119 := Tryd.isAgg55
  z119 := Tryd.sizeOf55
  t141 := Tryd.underlying65
  a141 := Tryd.isAgg65
  z141 := Tryd.sizeOf65
  v141 := Tryd.zeroValue65
  t152 := Tryd.underlying60
  a152 := Tryd.isAgg60
  z152 := Tryd.sizeOf60
  v152 := Tryd.zeroValue60
  t154 := Tryd.underlying62
  a154 := Tryd.isAgg62
  z154 := Tryd.sizeOf62
  v154 := Tryd.zeroValue62
  t193 := Tryd.underlying73
  a193 := Tryd.isAgg73
  z193 := Tryd.sizeOf73
  v193 := Tryd.zeroValue73
  t194 := Tryd.underlying74
  a194 := Tryd.isAgg74
  z194 := Tryd.sizeOf74
  v194 := Tryd.zeroValue74
  t196 := Tryd.underlying76
  a196 := Tryd.isAgg76
  z196 := Tryd.sizeOf76
  v196 := Tryd.zeroValue76
  t198 := Tryd.underlying79
  a198 := Tryd.isAgg79
  z198 := Tryd.sizeOf79
  v198 := Tryd.zeroValue79
  t201 := Tryd.underlying82
  a201 := Tryd.isAgg82
  z201 := Tryd.sizeOf82
  v201 := Tryd.zeroValue82
  t226 := Tryd.underlying88
  a226 := Tryd.isAgg88
  z226 := Tryd.sizeOf88
  v226 := Tryd.zeroValue88
  t227 := Tryd.underlying89
  a227 := Tryd.isAgg89
  z227 := Tryd.sizeOf89
  v227 := Tryd.zeroValue89
  g0 := by kernel_rfl
  g6 := by kernel_rfl }
theorem Tryd.strings_Fields (s : ByteArray) (w : World) (hs : s.size < 4294967281) (hascii : ∀ (j : Nat) b, s.data.toList[j]? = some b → b.toNat < 128) (htab : Lib.TabIs Tryd.prog w "strings.asciiSpace" .u8 Lib.asciiSpaceTab) :
    Calls Tryd.prog 25 #[.string s] w fun e w' =>
      e = .returned (.slice (some ⟨w.heap.size, 0, none⟩) (Lib.fields s.data.toList).length (Lib.fields s.data.toList).length) ∧ w' = w.alloc (.cells ((Lib.fields s.data.toList).map fun l => Value.string ⟨l.toArray⟩).toArray 9) := Any.strings_Fields Tryd.lays157 (by kernel_rfl) (by kernel_rfl) s w hs hascii htab
def Tryd.lays109_ren : Go.Shelf.Ren := ⟨fun | 109 => 26 | n => n, fun | 31 => 23 | 9 => 9 | 3 => 3 | 0 => 0 | 4 => 4 | n => n, fun | n => n⟩
theorem Tryd.lays109 : Go.Proofs.Lays.n109 Tryd.prog Tryd.lays109_ren := {
  mixed := by kernel_rfl
  f109 := Tryd.func26.trans (congrArg some (by kernel_rfl))
  t0 := Tryd.underlying0
  a0 := Tryd.isAgg0
  z0 := Tryd.sizeOf0
  v0 := Tryd.zeroValue0
  t3 := Tryd.underlying3
  a3 := Tryd.isAgg3
  z3 := Tryd.sizeOf3
  v3 := Tryd.zeroValue3
  t4 := Tryd.underlying4
  a4 := Tryd.isAgg4
  z4 := Tryd.sizeOf4
  v4 := Tryd.zeroValue4
  t9 := Tryd.underlying9
  a9 := Tryd.isAgg9
  z9 := Tryd.sizeOf9
  v9 := Tryd.zeroValue9
  t31 := Tryd.underlying23
  a31 := Tryd.isAgg23
  z31 := Tryd.sizeOf23
  v31 := Tryd.zeroValue23 }
theorem Tryd.slices_Index_string (b off n c : Nat) (zs : List ByteArray) (x : ByteArray) (w : World) (hz : n ≤ zs.length) (hbig : n ≤ 9223372036854775807) (hc : ∀ j, j < zs.length → w.cell? ⟨b, off + j, none⟩ = some (.string (zs.getD j ByteArray.empty))) :
    Calls Tryd.prog 26 #[.slice (some ⟨b, off, none⟩) n c, .string x] w fun e w' => e = .returned (.int .i64 (Lib.idxOfS (zs.take n) x)) ∧ w' = w := Any.slices_Index_string Tryd.lays109 b off n c zs x w hz hbig hc
def Tryd.lays167_ren : Go.Shelf.Ren := ⟨fun | 167 => 28 | 240 => 34 | 276 => 42 | n => n, fun | 70 => 50 | 72 => 52 | 37 => 26 | 164 => 71 | 75 => 47 | 80 => 54 | n => n, fun | n => n⟩
theorem Tryd.lays167 : Go.Proofs.Lays.n167 Tryd.prog Tryd.lays167_ren := {
  mixed := by kernel_rfl
  f167 := Tryd.func28.trans (congrArg some (by kernel_rfl))
  f240 := Tryd.func34.trans (congrArg some (by kernel_rfl))
  f276 := Tryd.func42.trans (congrArg some (by kernel_rfl))
  t0 := Tryd.underlying0
  a0 := Tryd.isAgg0
  z0 := Tryd.sizeOf0
  v0 := Tryd.zeroValue0
  t4 := Tryd.underlying4
  a4 := Tryd.isAgg4
  z4 := Tryd.sizeOf4
  v4 := Tryd.zeroValue4
  t5 := Tryd.underlying5
  a5 := Tryd.isAgg5
  z5 := Tryd.sizeOf5
  v5 := Tryd.zeroValue5
  t9 := Tryd.underlying9
  a9 := Tryd.isAgg9
  z9 := Tryd.sizeOf9
  v9 := Tryd.zeroValue9
  t20 := Tryd.underlying20
  a20 := Tryd.isAgg20
  z20 := Tryd.sizeOf20
  v20 := Tryd.zeroValue20
  t37 := Tryd.underlying26
  a37 := Tryd.isAgg26
  z37 := Tryd.sizeOf26
  v37 := Tryd.zeroValue26
  t70 := Tryd.underlying50
  a70 := Tryd.isAgg50
  z70 := Tryd.sizeOf50
  v70 := Tryd.zeroValue50
  t72 := Tryd.underlying52
  a72 := Tryd.isAgg52
  z72 := Tryd.sizeOf52
  v72 := Tryd.zeroValue52
  t75 := Tryd.underlying47
  a75 := Tryd.isAgg47
  z75 := Tryd.sizeOf47
  v75 := Tryd.zeroValue47
  t164 := Tryd.underlying71
  a164 := Tryd.isAgg71
  z164 := Tryd.sizeOf71
  v164 := Tryd.zeroValue71 }
theorem Tryd.Builder_Extra_167 : Builder.Extra Tryd.prog Tryd.lays167_ren := {
  sizeBuilder := by kernel_rfl
  liesBuilder := by kernel_rfl
  t5 := Tryd.underlying5
  a5 := Tryd.isAgg5
  z5 := Tryd.sizeOf5
  v5 := Tryd.zeroValue5
  infoByte := by kernel_rfl
  cellsByte := by kernel_rfl
  sizeByte := by kernel_rfl
  neB5 := by decide }
theorem Tryd.Builder_WriteByte (B b : Nat) (bs : List Value) (c : Int) (w : World) (h : Lib.IsBuilder 52 5 B b bs w) (hlen : bs.length + 1 ≤ 140737488355328) (hBw : B ≤ w.heap.size) :
    Calls Tryd.prog 28 #[.pointer (some ⟨b, 0, none⟩), .int .u8 c] w fun e w' => e = .returned .nilIface ∧ (Lib.BuilderAt 52 5 B b (.pointer (some ⟨b, 0, none⟩)) (bs ++ [.int .u8 c]) w' ∧ Below B w w') := Any.Builder_WriteByte Tryd.lays167 Tryd.Builder_Extra_167 B b bs c w h hlen hBw
end Go.Proofs
