/-
  A START THAT FITS THE ROW: the listed variables laid in new blocks ('World.laidAll').
-/
import Derived.Test.YtmfbgoikekmdkaaGreatFmtRow
namespace Go.Proofs.YtmfbgoikekmdkaaGreatFmt
open Go.ChangeShapes Go.WideShapes Go.ChangeAt Go.RowKit Go.Lib Go.Shelf

set_option maxRecDepth 1000000 in
theorem laid_fits (os : Os) : (World.holding Tryz.prog os ⟨#[], #[], []⟩).layFits Tryz.prog Rows.fnQuotedRow.laid [] = true := by kernel_rfl
set_option maxRecDepth 1000000 in
theorem laid_ifaces (os : Os) : (World.holding Tryz.prog os ⟨#[], #[], []⟩).layIfaces Tryz.prog Rows.fnQuotedRow.laid (World.laidAll Tryz.prog os Rows.fnQuotedRow.laid) = true := by kernel_rfl
theorem laid_met (os : Os) (args : Array Value) : laidMet Tryz.prog Rows.fnQuotedRow.laid ((World.laidAll Tryz.prog os Rows.fnQuotedRow.laid).forCall (fun _ _ => 0) ⟨#[], args, []⟩).memory :=
  laidMet_laidAll args (laid_fits os) (laid_ifaces os)
set_option maxRecDepth 1000000 in
theorem shaped (os : Os) : ((World.laidAll Tryz.prog os Rows.fnQuotedRow.laid).forCall (fun _ _ => 0) ⟨#[], #[.string ⟨#[]⟩, .bool false, .bool false, .bool false], []⟩).Shaped Tryz.prog :=
  World.shaped_of_ZipB (by kernel_rfl) (by kernel_rfl)
end Go.Proofs.YtmfbgoikekmdkaaGreatFmt
