/-
  (*lexer).space where no blank stands; (*lexer).token where a literal stands.
-/
import Derived.Test.YtmfbgoikekmdkaaGreatFmtTx4
namespace Go.Proofs.YtmfbgoikekmdkaaGreatFmt
open Go.RowKit Go.Lib Go.FQ

/-- Nothing has turned but the draws. -/
def Drew (w w' : World) : Prop := ∃ n, w' = w.drewN n

set_option maxRecDepth 1000000 in
set_option maxHeartbeats 4000000 in
theorem space_end (b : Nat) (s : ByteArray) (out : Value) (w : World) (hL : LexAt b s s.size out w) :
    Calls Tryz.prog 12 #[.pointer (some ⟨b, 0, none⟩)] w fun e w' => e = .returned (.tuple #[.bool false, .bool true]) ∧ Drew w w' := by
  have g0 := hL.c0
  have g1 := hL.c1
  clear hL
  have z1 : ¬ (s.size : Int) < (s.size : Int) := by omega
  go_enter Tryz.func12, Tryz.ntmps12
  go_wp2_with fail
  refine wp_loop_once ?_
  go_wp2_with fail
  go_quiet (fail)
  go_wp2
  go_ret2
  exact ⟨rfl, _, rfl⟩

set_option maxRecDepth 1000000 in
set_option maxHeartbeats 4000000 in
theorem space_q (b : Nat) (s : ByteArray) (q : Nat) (hq : q = 34 ∨ q = 39 ∨ q = 96) (out : Value) (w : World) (hL : LexAt b s 0 out w) (h1 : 0 < s.size) (hq0 : (s[0]'h1).toNat = q) :
    Calls Tryz.prog 12 #[.pointer (some ⟨b, 0, none⟩)] w fun e w' => e = .returned (.tuple #[.bool false, .bool true]) ∧ Drew w w' := by
  have g0 := hL.c0
  have g1 : w.cell? ⟨b, 1, none⟩ = some (.int .i64 0) := hL.c1
  have hix0 := str_index s 0 _ h1 rfl
  rw [hq0] at hix0
  have z1 : (0 : Int) < (s.size : Int) := by omega
  clear hL hq0
  rcases hq with rfl | rfl | rfl
  · have hix : ∀ w, (Instr.index 9 (.string s) (.int .i64 0)).run Tryz.prog w = .ok (.int .u8 34) w := hix0
    clear hix0
    go_enter Tryz.func12, Tryz.ntmps12
    go_wp2_with fail
    refine wp_loop_once ?_
    go_wp2_with fail
    go_quiet (fail)
    go_wp2_with fail
    go_quiet (fail)
    go_wp2_with fail
    go_quiet (fail)
    go_wp2_with fail
    go_quiet (fail)
    go_wp2
    go_ret2
    exact ⟨rfl, _, by rw [World.drewN_drewN, World.drewN_drewN]⟩
  · have hix : ∀ w, (Instr.index 9 (.string s) (.int .i64 0)).run Tryz.prog w = .ok (.int .u8 39) w := hix0
    clear hix0
    go_enter Tryz.func12, Tryz.ntmps12
    go_wp2_with fail
    refine wp_loop_once ?_
    go_wp2_with fail
    go_quiet (fail)
    go_wp2_with fail
    go_quiet (fail)
    go_wp2_with fail
    go_quiet (fail)
    go_wp2_with fail
    go_quiet (fail)
    go_wp2
    go_ret2
    exact ⟨rfl, _, by rw [World.drewN_drewN, World.drewN_drewN]⟩
  · have hix : ∀ w, (Instr.index 9 (.string s) (.int .i64 0)).run Tryz.prog w = .ok (.int .u8 96) w := hix0
    clear hix0
    go_enter Tryz.func12, Tryz.ntmps12
    go_wp2_with fail
    refine wp_loop_once ?_
    go_wp2_with fail
    go_quiet (fail)
    go_wp2_with fail
    go_quiet (fail)
    go_wp2_with fail
    go_quiet (fail)
    go_wp2_with fail
    go_quiet (fail)
    go_wp2
    go_ret2
    exact ⟨rfl, _, by rw [World.drewN_drewN, World.drewN_drewN]⟩
end Go.Proofs.YtmfbgoikekmdkaaGreatFmt
