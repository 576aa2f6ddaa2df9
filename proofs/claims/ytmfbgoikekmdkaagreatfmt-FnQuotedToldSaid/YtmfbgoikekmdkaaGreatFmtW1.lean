/-
  WALKS: the small functions: spec.isLetter, spec.isDigit, compat's Has, internal/strconv.lower.
-/
import Derived.Test.YtmfbgoikekmdkaaGreatFmtRows
import Derived.WalkKit
import Derived.WalkSpells
import Derived.WalkLawsBesides
namespace Go.Proofs.YtmfbgoikekmdkaaGreatFmt
open Go.RowKit

set_option maxHeartbeats 400000 in
theorem isDigit_no (c : Int) (w : World) (h0 : 0 ≤ c) (h1 : c ≤ 255) (h : c < 48 ∨ 57 < c) :
    Calls Tryz.prog 20 #[.int .u8 c] w fun e w' => e = .returned (.bool false) ∧ w = w' := by
  by_cases hc : 48 ≤ c
  · have hc2 : ¬ c ≤ 57 := by omega
    clear h
    go_enter Tryz.func20, Tryz.ntmps20
    go_wp2
    go_ret
    exact ⟨rfl, rfl⟩
  · clear h
    go_enter Tryz.func20, Tryz.ntmps20
    go_wp2
    go_ret
    exact ⟨rfl, rfl⟩

set_option maxHeartbeats 400000 in
theorem isLetter_q (c : Int) (w : World) (h : c = 34 ∨ c = 39 ∨ c = 96) :
    Calls Tryz.prog 18 #[.int .u8 c] w fun e w' => e = .returned (.bool false) ∧ w = w' := by
  rcases h with rfl | rfl | rfl
  all_goals
    go_enter Tryz.func18, Tryz.ntmps18
    go_wp2
    go_ret
    exact ⟨rfl, rfl⟩

set_option maxHeartbeats 400000 in
theorem has_zero (f : Int) (w : World) (h0 : 0 ≤ f) (h1 : f ≤ 18446744073709551615) :
    Calls Tryz.prog 14 #[.int .u64 0, .int .u64 f] w fun e w' => e = .returned (.bool false) ∧ w = w' := by
  go_enter Tryz.func14, Tryz.ntmps14
  go_wp2
  go_ret
  refine ⟨?_, rfl⟩
  show Ending.returned (.bool (bits .and .u64 0 f != 0)) = _
  rw [u64_and 0 f (by omega) (by omega) h0 (by omega)]
  simp
end Go.Proofs.YtmfbgoikekmdkaaGreatFmt
