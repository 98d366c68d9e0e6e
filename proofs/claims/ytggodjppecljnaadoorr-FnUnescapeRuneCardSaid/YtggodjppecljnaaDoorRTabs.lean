/- The two tables of unicode/utf8 out of the condition on the listed variables. -/
import Derived.Test.YtggodjppecljnaaDoorRRune
import Derived.Lib.LaidU8T
import Derived.PinnedBridge
import Derived.Test.YtggodjppecljnaaDoorRRows
namespace Go.Proofs.YtggodjppecljnaaDoorR
open Go.RowKit

def renU8 : Go.Shelf.Ren := ⟨fun n => n, fun | 119 => 56 | 138 => 58 | 139 => 59 | n => n, fun | 3 => 0 | 4 => 1 | n => n⟩

theorem u8Types : U8Types Tryd.prog renU8 := ⟨by kernel_rfl, by kernel_rfl, by kernel_rfl, by kernel_rfl⟩
theorem u8Extra : U8Extra Tryd.prog renU8 := ⟨by kernel_rfl, by kernel_rfl, by kernel_rfl, by kernel_rfl, by kernel_rfl, by kernel_rfl, by kernel_rfl⟩

theorem tab_of_laid {W : World} (h : laidMetH Tryd.prog [("unicode/utf8.acceptRanges", Rows.laid_unicode_utf8_acceptRanges), ("unicode/utf8.first", Rows.laid_unicode_utf8_first)] W) : Tabs W := by
  rw [MakeChecks.laidMetH_plain _ _ _ (by kernel_rfl)] at h
  have h3 := Lib.laidMet.reads h (.tail _ (.head _))
  have h4 := Lib.laidMet.reads h (.head _)
  rw [show Rows.laid_unicode_utf8_first = Lib.firstData from Pinned.utf8First_eq] at h3
  rw [show (Rows.laid_unicode_utf8_acceptRanges : DataW Unit) = Lib.acceptData from by kernel_rfl] at h4
  exact utf8Tabs_of_readsT u8Types u8Extra h3 h4
end Go.Proofs.YtggodjppecljnaaDoorR
