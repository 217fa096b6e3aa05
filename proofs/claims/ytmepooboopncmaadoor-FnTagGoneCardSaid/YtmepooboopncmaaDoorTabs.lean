/- What the listed tables of unicode/utf8 say of the world in which the call begins. -/
import Derived.Test.YtmepooboopncmaaDoorRows
import Derived.Test.YtmepooboopncmaaDoorShelf
import Derived.Lib.LaidU8
import Derived.PinnedBridge
import Derived.ProofKit
import Derived.LaidMore
import Derived.Stop.Joined
namespace Go.Proofs.YtmepooboopncmaaDoor
open Go.RowKit
set_option linter.unusedVariables false

set_option maxRecDepth 100000 in
theorem acc_eq : (Rows.laid_unicode_utf8_acceptRanges : DataW Unit) = Lib.acceptData := by kernel_rfl
theorem first_eq : Rows.laid_unicode_utf8_first = Lib.firstData := Pinned.utf8First_eq
theorem u8x : U8Extra Tryd.prog Tryd.lays260_ren := ⟨by kernel_rfl, by kernel_rfl, by kernel_rfl, by kernel_rfl, by kernel_rfl, by kernel_rfl, by kernel_rfl⟩
theorem tabs_of {l : List (String × DataW Unit)} {W : World} (hp : (l.all fun x => x.2.handleName?.isNone) = true) (h3 : ("unicode/utf8.first", Rows.laid_unicode_utf8_first) ∈ l) (h4 : ("unicode/utf8.acceptRanges", (Rows.laid_unicode_utf8_acceptRanges : DataW Unit)) ∈ l) (h : laidMetH Tryd.prog l W) : Lib.Utf8Tabs 4 5 W := by
  rw [MakeChecks.laidMetH_plain _ _ _ hp] at h
  rw [first_eq] at h3
  rw [acc_eq] at h4
  exact utf8Tabs_of_reads (ρ := Tryd.lays260_ren) Tryd.lays260 u8x (Lib.laidMet.reads h h3) (Lib.laidMet.reads h h4)
theorem tabs_of_fnModules {W : World} (h : laidMetH Tryd.prog Rows.fnModulesRow.laid W) : Lib.Utf8Tabs 4 5 W := tabs_of (by kernel_rfl) (.tail _ (.head _)) (.head _) h
end Go.Proofs.YtmepooboopncmaaDoor
