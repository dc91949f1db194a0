import Derived.Test.Qxb6600128aDoorUnesc
import Derived.Lib.SmallJoins
namespace Go.Proofs.Qxb6600128aDoor
open Go.RowKit

/-- What the walk is told of the package-level variables: the table of white space; the two sentinels of strconv hold errors. -/
def Vars (w : World) : Prop :=
  Lib.TabIs Tryd.prog w "strings.asciiSpace" .u8 Lib.asciiSpaceTab ∧ (∃ te pe, w.cell? ⟨2, 0, none⟩ = some (.iface te pe)) ∧ ∃ te pe, w.cell? ⟨3, 0, none⟩ = some (.iface te pe)

theorem space_no : Tryd.prog.globalNamed "strings.asciiSpace" = some 0 := by kernel_rfl

theorem Vars.keep {w w' : World} (h : Vars w) (hb : Below w.heap.size w w') : Vars w' := by
  obtain ⟨h1, ⟨te, pe, h2⟩, te', pe', h3⟩ := h
  refine ⟨Joins.var_stays space_no h1 hb (Nat.le_refl _), ⟨te, pe, ?_⟩, te', pe', ?_⟩
  · exact (hb.cell (World.block_lt_of_cell? _ _ h2)).trans h2
  · exact (hb.cell (World.block_lt_of_cell? _ _ h3)).trans h3

/-- What ParseUint(s, 10, 64) hands back: the number and no error; or some number and an error. -/
def NumPost (r : Lib.NumEnd Nat) (w : World) (e : Ending) (w' : World) : Prop :=
  Below w.heap.size w w' ∧ ((∃ n : Nat, r = .ok n ∧ e = .returned (.tuple #[.int .u64 n, .nilIface])) ∨ ((∀ n, r ≠ .ok n) ∧ ∃ (z : Int) (te : TypeId) (pe : Value), e = .returned (.tuple #[.int .u64 z, .iface te pe])))

theorem parse10_any (s : ByteArray) (w : World) (hs : s.size ≤ 8388608) (hv : Vars w) :
    Calls Tryd.prog 27 #[.string s, .int .i64 10, .int .i64 64] w (NumPost (Lib.parseUintB 64 s.data.toList) w) := by
  obtain ⟨_, ⟨te, pe, h2⟩, te', pe', h3⟩ := hv
  cases hr : Lib.parseUintB 64 s.data.toList
  case ok n =>
    refine (Tryd.strconv_ParseUint_10_at64_ok s (by omega) n hr w).mono ?_
    rintro e w' ⟨rfl, hw⟩
    refine ⟨?_, .inl ⟨n, rfl, rfl⟩⟩
    rcases hw with rfl | rfl
    · exact Below.refl _ _
    · exact bytes_below _ _
  case range =>
    refine (Tryd.strconv_ParseUint_10_at64_range s (by omega) hr _ w h3 (.inr ⟨_, _, rfl⟩)).mono ?_
    rintro e w' ⟨N, rfl, _, _, hb⟩
    exact ⟨hb, .inr ⟨fun n h => by simp at h, _, _, _, rfl⟩⟩
  · refine (Tryd.strconv_ParseUint_10_at64_bad s (by omega) hr _ w h2 (.inr ⟨_, _, rfl⟩)).mono ?_
    rintro e w' ⟨N, rfl, _, _, hb⟩
    exact ⟨hb, .inr ⟨fun n h => by simp at h, _, _, _, rfl⟩⟩
end Go.Proofs.Qxb6600128aDoor
