import Derived.Test.Qxb6600128aDoorRows
import Derived.Test.Qxb6600128aDoorNum
import Derived.LaidLaws
import Derived.MakeChecks
import Derived.Lib.LaidU8
import Derived.Lib.LaidTab
import Derived.Stop.Joined
import Derived.Lay
namespace Go.Proofs.Qxb6600128aDoor

/-- The list of the two rows. -/
def laidL : List (String × DataW Unit) := Rows.fnParseLineNumberFieldExactRow.laid
theorem laid3 : Rows.fnParseLineReadsWhatAFormatterWritesRow.laid = laidL := rfl
theorem laid_plain : (laidL.all fun x => x.2.handleName?.isNone) = true := by kernel_rfl

theorem space_data : (Rows.laid_strings_asciiSpace : DataW Unit) = Lib.tabData .u8 Lib.asciiSpaceTab := by kernel_rfl

theorem err_cell {W : World} {n : String} {g : Nat} {nm : String} {d : DataW Unit} (hg : Tryd.prog.globalNamed n = some g) (ht : (Tryd.prog.globals[g]?).map (·.type) = some 47) (h : Lib.VarReads Tryd.prog W n (.iface nm d)) : ∃ te pe, W.cell? ⟨g, 0, none⟩ = some (.iface te pe) := by
  obtain ⟨g', t', cs, fuel, p, hg', ht', hvar, hd⟩ := h
  obtain rfl := Option.some.inj (hg.symm.trans hg')
  obtain rfl := Option.some.inj (ht.symm.trans ht')
  obtain ⟨f1, u, v, hcs, _, _⟩ := iface_of_trod Tryd.underlying47 hd
  refine ⟨u, v, ?_⟩
  have := World.var?_cell hg hvar 0
  rw [this]
  have e : cs = #[.iface u v] := Array.ext' hcs
  rw [e]
  rfl

theorem vars_of_laid {W : World} (h : laidMetH Tryd.prog laidL W) : Vars W := by
  rw [MakeChecks.laidMetH_plain _ _ _ laid_plain] at h
  refine ⟨?_, ?_, ?_⟩
  · have hr := Lib.laidMet.reads h (n := "strings.asciiSpace") (d := Rows.laid_strings_asciiSpace) (by unfold laidL; exact .tail _ (.tail _ (.tail _ (.tail _ (.tail _ (.tail _ (.head _)))))))
    obtain ⟨g', t', cs, fuel, p, hg', ht', hvar, hd⟩ := hr
    obtain rfl := Option.some.inj (space_no.symm.trans hg')
    obtain rfl := Option.some.inj ((show (Tryd.prog.globals[0]?).map (·.type) = some 55 by kernel_rfl).symm.trans ht')
    rw [space_data] at hd
    unfold Lib.TabIs
    rw [hvar, ← Lib.cells_of_tab (n := 256) (e := 5) Tryd.underlying55 Tryd.underlying5 (by kernel_rfl) (by kernel_rfl) hd]
  · exact err_cell (n := "strconv.ErrSyntax") (by kernel_rfl) (by kernel_rfl) (Lib.laidMet.reads h (d := Rows.laid_strconv_ErrSyntax) (by unfold laidL; exact .tail _ (.tail _ (.tail _ (.tail _ (.head _))))))
  · exact err_cell (n := "strconv.ErrRange") (by kernel_rfl) (by kernel_rfl) (Lib.laidMet.reads h (d := Rows.laid_strconv_ErrRange) (by unfold laidL; exact .tail _ (.tail _ (.tail _ (.head _)))))
end Go.Proofs.Qxb6600128aDoor
