/-
  THE ROW: laws.FnQuoted returns true at every input, as a told row: from the walk, and a start in which the listed variables hold what they hold.
-/
import Derived.Test.YtmfbgoikekmdkaaGreatFmtFq
import Derived.Test.YtmfbgoikekmdkaaGreatFmtCards
import Derived.ProofKit
import Derived.OpenShut
import Derived.Lay
import Derived.Carry
import Derived.Stop.Joined
import Derived.Stop.JoinedTold
import Derived.Deep.DeepWitnessRef
import Derived.Lib.LaidU8
namespace Go.Proofs.YtmfbgoikekmdkaaGreatFmt
open Go.ChangeShapes Go.WideShapes Go.ChangeAt Go.RowKit Go.Lib Go.Shelf
open Go.ChangeMaps (open_string shut_string)

/-- The walk, whole. -/
theorem fnQuoted_any (text : ByteArray) (asc mini back : Bool) (w : World) (hT : Lib.Utf8Tabs 0 1 w) :
    Calls Tryz.prog 3 #[.string text, .bool asc, .bool mini, .bool back] w fun e w' => e = .returned (.bool true) ∧ Below w.heap.size w w' := by
  by_cases h1 : 2147483647 < text.size
  · exact fn_long text asc mini back w h1
  cases hv : Lib.validD text.data.toList with
  | false => exact fn_not text asc mini back w hT (by omega) (.inl hv)
  | true =>
    by_cases h2 : 16384 < text.size
    · exact fn_not text asc mini back w hT (by omega) (.inr h2)
    · exact fn_main text asc mini back w hT (by omega) hv

theorem own : ownKnob Tryz.prog.godebug = none := by kernel_rfl
theorem first_eq : Rows.laid_unicode_utf8_first = Lib.firstData := by kernel_rfl
theorem accept_eq : (Rows.laid_unicode_utf8_acceptRanges : DataW Unit) = Lib.acceptData := by kernel_rfl
theorem tabs_of_laid {W : World} (h : laidMet Tryz.prog Rows.fnQuotedRow.laid W) : Lib.Utf8Tabs 0 1 W :=
  utf8Tabs_of_reads (ρ := Tryz.lays197_ren) { Tryz.lays197 with } ⟨by kernel_rfl, by kernel_rfl, by kernel_rfl, by kernel_rfl, by kernel_rfl, by kernel_rfl, by kernel_rfl⟩
    (Lib.laidMet.reads h (List.mem_of_getElem? (i := 15) (by rw [← first_eq]; rfl))) (Lib.laidMet.reads h (List.mem_of_getElem? (i := 9) (by rw [← accept_eq]; rfl)))
end Go.Proofs.YtmfbgoikekmdkaaGreatFmt
