import Derived.Test.Qxb6603950aDoorOwn
import Derived.Test.Qxb6603950aDoorTie
import Derived.Test.Qxb6603950aDoorCards
import Derived.Lib.LaidU8
import Derived.ProofKit
import Derived.OpenShut
import Derived.ShutString
import Derived.LaidMore
import Derived.Lay
import Derived.SevenTiedAt
import Derived.Stop.Joined
namespace Go.Proofs.Qxb6603950aDoor
open Go.ChangeShapes Go.WideShapes Go.ChangeAt Go.RowKit
open Go.ChangeMaps (open_string shut_string)

theorem own : ownKnob Tryd.prog.godebug = none := by kernel_rfl
/-- what the rows list. -/
def laid4 : List (String × DataW Unit) := Rows.fnSplitOutsideMatchesModelRow.laid
theorem accept_eq : (Rows.laid_unicode_utf8_acceptRanges : DataW Unit) = Lib.acceptData := by kernel_rfl
theorem white_eq : (Rows.laid_unicode_White_Space : DataW Unit) = Lib.whiteData := by kernel_rfl
theorem ascii_eq : (Rows.laid_strings_asciiSpace : DataW Unit) = Lib.tabData .u8 Lib.asciiSpaceTab := by kernel_rfl
theorem first_eq : Rows.laid_unicode_utf8_first = Lib.firstData := by kernel_rfl

/-- the listed variables give what strings.TrimSpace's contract asks. -/
theorem tabs_of_laid {W : World} (h : laidMetH Tryd.prog laid4 W) : Tabs W := by
  rw [MakeChecks.laidMetH_plain _ _ _ (by kernel_rfl)] at h
  have r1 := Lib.laidMet.reads h (d := Rows.laid_unicode_utf8_acceptRanges) (.head _)
  have r2 := Lib.laidMet.reads h (d := Rows.laid_unicode_White_Space) (.tail _ (.head _))
  have r3 := Lib.laidMet.reads h (d := Rows.laid_strings_asciiSpace) (.tail _ (.tail _ (.head _)))
  have r4 := Lib.laidMet.reads h (d := Rows.laid_unicode_utf8_first) (.tail _ (.tail _ (.tail _ (.head _))))
  rw [accept_eq] at r1
  rw [white_eq] at r2
  rw [ascii_eq] at r3
  rw [first_eq] at r4
  refine ⟨?_, ?_, ?_⟩
  · obtain ⟨g, t, cs, fuel, p, hg, hty, hvar, hd⟩ := r3
    obtain rfl := Option.some.inj (Tryd.Space_Extra_163.gNamed.symm.trans hg)
    obtain rfl := Option.some.inj ((show (Tryd.prog.globals[0]?).map (·.type) = some 39 by kernel_rfl).symm.trans hty)
    have hcs := Lib.cells_of_tab Tryd.underlying39 Tryd.underlying5 (by kernel_rfl) (by kernel_rfl) hd
    unfold Lib.TabIs
    rw [hvar, ← hcs]
  · exact utf8Tabs_of_reads (ρ := Tryd.lays163_ren) { Tryd.lays163 with } ⟨by kernel_rfl, by kernel_rfl, by kernel_rfl, by kernel_rfl, by kernel_rfl, by kernel_rfl, by kernel_rfl⟩ r4 r1
  · exact whiteTab_of_reads (ρ := Tryd.lays163_ren) { Tryd.lays163 with } ⟨by kernel_rfl, by kernel_rfl, by kernel_rfl, by kernel_rfl, by kernel_rfl, by kernel_rfl, by kernel_rfl, by kernel_rfl⟩ r2
/-- a byte that came in. -/
theorem byte_of_wf {x : Int} (h : (Lit.int .u8 x).wf = true) : ∃ c : UInt8, x = (c.toNat : Int) := by
  have hb : 0 ≤ x ∧ x ≤ 255 := bounds_u8 h
  refine ⟨UInt8.ofNat x.toNat, ?_⟩
  have : (UInt8.ofNat x.toNat).toNat = x.toNat := by simp [UInt8.toNat_ofNat']; omega
  rw [this]; omega
end Go.Proofs.Qxb6603950aDoor
