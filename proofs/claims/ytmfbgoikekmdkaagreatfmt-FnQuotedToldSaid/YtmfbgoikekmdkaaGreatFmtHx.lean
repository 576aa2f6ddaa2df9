/-
  WALK: the closure 'hex' of (*lexer).escape.
-/
import Derived.Test.YtmfbgoikekmdkaaGreatFmtRn
import Derived.Test.YtmfbgoikekmdkaaGreatFmtPu
import Derived.BigQuiet
import Derived.Deep.QuietTactic
namespace Go.Proofs.YtmfbgoikekmdkaaGreatFmt
open Go.RowKit Go.Lib Go.FQ

theorem Utf8Tabs_drewN {w : World} (h : Lib.Utf8Tabs 0 1 w) (n : Nat) : Lib.Utf8Tabs 0 1 (w.drewN n) := Utf8Tabs_below h (below_drewN (Below.refl _ _) n)

/-- The digits at a place, cut out. -/
theorem cut_data (s : ByteArray) (p : Nat) (D R : List UInt8) (h : s.data.toList.drop p = D ++ R) : (s.extract p (p + D.length)).data.toList = D := by
  rw [ByteArray.data_extract, Array.toList_extract, List.extract_eq_take_drop, h]
  rw [show p + D.length - p = D.length by omega, List.take_left]

set_option maxRecDepth 1000000 in
set_option maxHeartbeats 4000000 in
theorem hex_any (b lb : Nat) (s : ByteArray) (p n : Nat) (out : Value) (xs : List Nat) (R : List UInt8) (w : World) (hL : LexAt b s p out w) (hbox : w.cell? ⟨lb, 0, none⟩ = some (.pointer (some ⟨b, 0, none⟩))) (hs : s.size ≤ 1099511627776)
    (hR : s.data.toList.drop p = xs.map hexU ++ R) (hn : n = xs.length) (hx : ∀ x ∈ xs, x < 16) (h1 : 1 ≤ n) (h4 : n ≤ 4) (hsc : Scal (hexV 0 xs)) :
    Calls Tryz.prog 39 #[.int .i64 n, .pointer (some ⟨lb, 0, none⟩)] w fun e w' => e = .returned (.tuple #[.string ⟨(enc (hexV 0 xs)).toArray⟩, .bool true]) ∧ Hid (LexAt b s (p + n) out w' ∧ w.grownBy w' (some b)) := by
  have g0 := hL.c0
  have g1 := hL.c1
  have hlbw : lb < w.heap.size := World.block_lt_of_cell? w _ hbox
  have hpn : p + n ≤ s.size := by
    have := congrArg List.length hR
    rw [List.length_drop, List.length_append, List.length_map, len_list] at this
    omega
  have hcut : (s.extract p (p + n)).data.toList = xs.map hexU := by
    have := cut_data s p (xs.map hexU) R hR
    rw [List.length_map, ← hn] at this
    exact this
  have hP : ∀ W, Calls Tryz.prog 33 #[.string (s.extract p (p + n)), .int .i64 16, .int .i64 32] W fun e w' => e = .returned (.tuple #[.int .u64 (hexV 0 xs : Nat), .nilIface]) ∧ Below W.heap.size W w' :=
    fun W => parse16 _ xs W hx hcut (by omega) (by omega)
  have hv : hexV 0 xs < 65536 := by
    have h := hexV_lt xs 0 hx
    have h2 : 16 ^ xs.length ≤ 16 ^ 4 := Nat.pow_le_pow_right (by omega) (by omega)
    have e : (16 : Nat) ^ 4 = 65536 := by decide
    omega
  obtain ⟨v, hve⟩ : ∃ v, v = hexV 0 xs := ⟨_, rfl⟩
  obtain ⟨z, hz⟩ : ∃ z : Int, z = (v : Int) := ⟨_, rfl⟩
  have hcv : ∀ W, (convert 21 9 (.int .i32 z)).run Tryz.prog W = .ok (.string ⟨(enc v).toArray⟩) W := by
    intro W
    rw [hz]
    exact conv_rune v (hve ▸ hsc) W
  rw [← hve] at hP hv hsc ⊢
  rw [← hz] at hP
  have z0 : 0 ≤ z := by omega
  have z1 : z ≤ 65535 := by omega
  unfold Scal at hsc
  have HP := Lib.hid hP
  have HL := Lib.hid hL
  have hsum : IntKind.i64.wrap ((p : Int) + (n : Int)) = (p : Int) + (n : Int) := IntWalk.i64_in _ (by omega)
  have hpz : ¬ ((s.size : Int) < (p : Int) + (n : Int)) := by omega
  have hscz : z < 55296 ∨ 57344 ≤ z := by omega
  clear hR hx hcut hP hv hn hve hz hL hsc
  rcases hscz with zs | zs
  all_goals
    go_enter Tryz.func39, Tryz.ntmps39
    go_wp2_with fail
    go_quiet (fail)
    have hL1 : LexAt b s p out (w.drewN nq) := HL.out
    have hbox1 : (w.drewN nq).cell? ⟨lb, 0, none⟩ = some (.pointer (some ⟨b, 0, none⟩)) := hbox
    have hgr1 : w.grownBy (w.drewN nq) (some b) := ⟨rfl, rfl, rfl, Nat.le_refl _, fun _ _ _ => rfl⟩
    have hlb1 : lb < (w.drewN nq).heap.size := hlbw
    generalize w.drewN nq = w1 at hL1 hbox1 hgr1 hlb1 ⊢
    clear g0 g1 hbox hlbw
    have g0 := hL1.c0
    have g1 := hL1.c1
    have hlt := hL1.lt
    have HL1 := Lib.hid hL1
    clear hL1
    go_wp2_with fail
    have q1 : (0 : Int) ≤ (p : Int) + (n : Int) := by omega
    have q2 : (p : Int) ≤ (p : Int) + (n : Int) := by omega
    have q3 : (p : Int) + (n : Int) ≤ (s.size : Int) := by omega
    have q4 : ((p : Int) + (n : Int)).toNat = p + n := by omega
    have q5 : p ≤ p + n := by omega
    go_region_held3 (fun w' => w'.cell? ⟨b, 0, none⟩ = some (.string s) ∧ w'.cell? ⟨b, 1, none⟩ = some (.int .i64 p) ∧ w'.cell? ⟨lb, 0, none⟩ = some (.pointer (some ⟨b, 0, none⟩)))
      (first
        | go_keep
        | exact ⟨(hb.cell (p := ⟨b, 0, none⟩) hlt).trans g0, (hb.cell (p := ⟨b, 1, none⟩) hlt).trans g1, (hb.cell (p := ⟨lb, 0, none⟩) hlb1).trans hbox1⟩)
      ((go_at_call 33; refine (HP.out _).mono ?_; rintro e w2 ⟨rfl, hb⟩))
    clear q1 q2 q3 q4 q5
    have hL2 : LexAt b s p out w2 := (hb.block b hlt).trans HL1.out
    have k1 := hL2.c1
    have k5 := hL2.c5
    have kf := hL2.free 1
    have kb : w2.cell? ⟨lb, 0, none⟩ = some (.pointer (some ⟨b, 0, none⟩)) := (hb.cell (p := ⟨lb, 0, none⟩) hlb1).trans hbox1
    clear g0 g1 hbox1
    go_wp2
    go_ret2
    refine ⟨rfl, hL2.move (p + n), ?_⟩
    have hg : w1.grownBy w2 (some b) := ⟨hb.os, hb.tape, hb.output, hb.size, fun k hk _ => hb.block k hk⟩
    exact grownBy_trans hgr1 (grownBy_trans hg (grownBy_setCell _ _ _ _))
end Go.Proofs.YtmfbgoikekmdkaaGreatFmt
