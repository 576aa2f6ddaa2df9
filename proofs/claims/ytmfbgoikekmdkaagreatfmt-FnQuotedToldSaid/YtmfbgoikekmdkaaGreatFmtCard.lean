/-
  laws.FnQuoted returns true whatever its text and its three options are, and its arguments read behind the call as they read before: a text of the first plane, written by the printer as a string or a template, is read back as that very text, and within ASCII alone no other byte is written.
  CONDITIONS: the package-level variables that the row lists hold, when the call begins, what the program's text lays (the card ties them); fmt's texts are told by the authors' own function (the road that is walked here comes to none of them); the cards tie the variables to the pruned copy of the project.
-/
import Derived.Test.YtmfbgoikekmdkaaGreatFmtLift
import Derived.Test.YtmfbgoikekmdkaaGreatFmtTie
namespace Go.Proofs.YtmfbgoikekmdkaaGreatFmt
open Go.Extern.Stop Go.Stop Go.Extern

theorem stops_eq : Tryz.pinned.checked.prog.stops = ["fmt.Sprintf"] := by kernel_rfl
theorem stopKnobs_eq : Tryz.pinned.checked.prog.stopKnobs = [] := by kernel_rfl
theorem quiet_all (os : Os) : Stop.quiet Tryz.pinned.checked.prog os := by
  intro k hk
  rw [stopKnobs_eq] at hk
  cases hk

theorem fnQuoted_holds : Rows.FnQuotedToldSaid :=
  Claim7.holds_of_told_tied_any_at .later 3 Tryz.f3 "fmt.Sprintf" [] [] _ _ _ _ _ (by kernel_rfl) rfl rfl rfl (by kernel_rfl) (by kernel_rfl) rfl ⟨rfl, rfl, rfl, rfl, rfl, rfl, rfl⟩ rfl rfl (by kernel_rfl) (by kernel_rfl) Tryz.func3 (by kernel_rfl)
    (of_decide_eq_true (by kernel_rfl)) (of_decide_eq_true (by kernel_rfl)) stops_eq.symm rfl stopKnobs_eq.symm (by kernel_rfl)
    (by kernel_rfl) (by kernel_rfl) (by kernel_rfl) (by kernel_rfl) (by kernel_rfl) (by kernel_rfl) (by kernel_rfl) (by kernel_rfl) (by kernel_rfl) rfl (by kernel_rfl) rfl rfl
    rfl rfl
    rfl (by kernel_rfl) (by kernel_rfl) (by kernel_rfl) (by decide) (by kernel_rfl) fnQuoted_row_tie
    (OpenClaim.moreEntering_of (by kernel_rfl) (by kernel_rfl) (by kernel_rfl) (by kernel_rfl) (by kernel_rfl) (by kernel_rfl) (by kernel_rfl) (by kernel_rfl) (by kernel_rfl) (by kernel_rfl))
    ⟨_, WideRow.started_initial, quiet_all _⟩
    (fun os started _ H enc _ => lifted os started H enc)
end Go.Proofs.YtmfbgoikekmdkaaGreatFmt
