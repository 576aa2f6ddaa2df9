/-
  spec.TextOf on a literal.
-/
import Derived.Test.YtmfbgoikekmdkaaGreatFmtLx1
namespace Go.Proofs.YtmfbgoikekmdkaaGreatFmt
open Go.RowKit Go.Lib Go.FQ

set_option maxRecDepth 1000000 in
set_option maxHeartbeats 4000000 in
theorem textOf_q (q : Nat) (hq : IsQ q) (s : ByteArray) (m R : List UInt8) (w : World) (hs : s.size ≤ 1000000000) (hT : Lib.Utf8Tabs 0 1 w)
    (hR : s.data.toList = UInt8.ofNat q :: R) (hRd : Reads q R m) (hv : Lib.validD s.data.toList = true) :
    Calls Tryz.prog 6 #[.string s] w fun e w' => e = .returned (.tuple #[.string ⟨m.toArray⟩, .bool true]) ∧ Below w.heap.size w w' := by
  have HX := Lib.hid (lex_q q hq s m R w hs hT hR hRd hv)
  clear hR hRd hv hT hq
  go_enter Tryz.func6, Tryz.ntmps6
  go_wp2_with (first
    | (go_at_call 9; refine HX.out.mono ?_; rintro e w1 ⟨T, cap, xs, K, hK, rfl, hO, hx0, hx1, hx8, hB⟩; have c0 : w1.cell? ⟨T, 0, none⟩ = some (.int .i64 K) := (hO.cellAt 0 (by omega)).trans hx0; have c1 : w1.cell? ⟨T, 1, none⟩ = some (.string ⟨m.toArray⟩) := (hO.cellAt 1 (by omega)).trans hx1; have c8 : w1.cell? ⟨T, 8, none⟩ = some (.int .i64 (s.size : Int)) := (hO.cellAt 8 (by omega)).trans hx8; clear hO hx0 hx1 hx8; rcases hK with rfl | rfl))
  all_goals
    go_wp2
    go_ret2
    exact ⟨rfl, hB⟩
end Go.Proofs.YtmfbgoikekmdkaaGreatFmt
