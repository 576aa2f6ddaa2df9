/-
  (*lexer).token where a literal stands.
-/
import Derived.Test.YtmfbgoikekmdkaaGreatFmtTk1
import Derived.Deep.Onto
namespace Go.Proofs.YtmfbgoikekmdkaaGreatFmt
open Go.RowKit Go.Lib Go.FQ

theorem told_from {b : Nat} {s : ByteArray} {m : List UInt8} {K : Int} {w w1 w2 : World} (hg : w.grownBy w1 (some b)) (h : Told b s m K w1 w2) : Told b s m K w w2 := by
  obtain ⟨T, cap, xs, h1, h2, h3, h4, h5⟩ := h
  exact ⟨T, cap, xs, h1, World.ownsRow.mono h2 hg.size, h3, h4, grownBy_trans hg h5⟩

set_option maxRecDepth 1000000 in
set_option maxHeartbeats 4000000 in
theorem token_34 (b : Nat) (s : ByteArray) (m R : List UInt8) (w : World) (hL : LexAt b s 0 (.slice none 0 0) w) (hs : s.size ≤ 1000000000) (hT : Lib.Utf8Tabs 0 1 w) (hB1 : 1 < b)
    (hR : s.data.toList = UInt8.ofNat 34 :: R) (hRd : Reads 34 R m) :
    Calls Tryz.prog 13 #[.pointer (some ⟨b, 0, none⟩), .bool false] w fun e w' => e = .returned (.tuple #[]) ∧ Hid (Told b s m 3 w w') := by
  have g0 := hL.c0
  have g1 : w.cell? ⟨b, 1, none⟩ = some (.int .i64 0) := hL.c1
  have g5 : w.cell? ⟨b, 5, none⟩ = some (.bool false) := hL.c5
  have gf := hL.free 1
  have h1 : 0 < s.size := by have := congrArg List.length hR; rw [len_list] at this; simp at this; omega
  have hR0 : s.data.toList.drop 0 = UInt8.ofNat 34 :: R := hR
  obtain ⟨hp, hbx⟩ := byte_at s 0 _ _ hR0
  have hix : ∀ w, (Instr.index 9 (.string s) (.int .i64 0)).run Tryz.prog w = .ok (.int .u8 34) w := str_index s 0 _ hp (hbx hp)
  have hR1 : s.data.toList.drop 1 = R := drop_step s 0 _ _ hR0
  have z1 : (0 : Int) < (s.size : Int) := by omega
  have HX0 : ∀ n k, Calls Tryz.prog 22 #[.pointer (some ⟨b, 0, none⟩), .int .u8 34, .bool false] ((w.drewN n).drewN k) fun e w' => e = .returned (.tuple #[]) ∧ Hid (Told b s m 3 ((w.drewN n).drewN k) w') :=
    fun n k => text_any b s 34 false m R ((w.drewN n).drewN k) 0 hL (by decide) hs (Utf8Tabs_drewN (Utf8Tabs_drewN hT n) k) hB1 hR1 hRd
  have HX1 : ∀ n, (∀ k, Calls Tryz.prog 22 #[.pointer (some ⟨b, 0, none⟩), .int .u8 34, .bool false] ((w.drewN n).drewN k) fun e w' => e = .returned (.tuple #[]) ∧ Hid (Told b s m 3 ((w.drewN n).drewN k) w')) ∧ w.grownBy (w.drewN n) (some b) ∧ LexAt b s 0 (.slice none 0 0) (w.drewN n) := fun n => ⟨HX0 n, ⟨rfl, rfl, rfl, Nat.le_refl _, fun _ _ _ => rfl⟩, hL⟩
  have HX := Lib.hid HX1
  clear HX0 HX1 hR hR0 hR1 hRd hp hbx hT hL gf
  go_enter Tryz.func13, Tryz.ntmps13
  go_wp2_with fail
  go_quiet (fail)
  have HX2 := Lib.hid (HX.out nq)
  have hL2 := (HX.out nq).2.2
  have g0 := hL2.c0
  have g1 : (w.drewN nq).cell? ⟨b, 1, none⟩ = some (.int .i64 0) := hL2.c1
  have g5 := hL2.c5
  have gf := hL2.free 1
  clear HX hL2
  generalize w.drewN nq = w2 at HX2 g0 g1 g5 gf ⊢
  go_wp2_with (first
    | (go_at_call 18; refine (isLetter_q _ _ (by decide)).mono ?_; rintro e w' ⟨rfl, rfl⟩))
  go_quiet (first
    | (go_at_call 20; exact Calls.quiet_of_same ((isDigit_no _ _ (by decide) (by decide) (by decide)).mono fun _ _ h => ⟨h.1, h.2.symm⟩)))
  go_wp2_with (first
    | (go_at_call 22; refine (HX2.out.1 _).mono ?_; rintro e w' ⟨rfl, hX⟩))
  go_end0
  exact ⟨rfl, told_from (w1 := w2.drewN nq) (grownBy_trans HX2.out.2.1 ⟨rfl, rfl, rfl, Nat.le_refl _, fun _ _ _ => rfl⟩) hX.out⟩

set_option maxRecDepth 1000000 in
set_option maxHeartbeats 4000000 in
theorem token_39 (b : Nat) (s : ByteArray) (m R : List UInt8) (w : World) (hL : LexAt b s 0 (.slice none 0 0) w) (hs : s.size ≤ 1000000000) (hT : Lib.Utf8Tabs 0 1 w) (hB1 : 1 < b)
    (hR : s.data.toList = UInt8.ofNat 39 :: R) (hRd : Reads 39 R m) :
    Calls Tryz.prog 13 #[.pointer (some ⟨b, 0, none⟩), .bool false] w fun e w' => e = .returned (.tuple #[]) ∧ Hid (Told b s m 3 w w') := by
  have g0 := hL.c0
  have g1 : w.cell? ⟨b, 1, none⟩ = some (.int .i64 0) := hL.c1
  have g5 : w.cell? ⟨b, 5, none⟩ = some (.bool false) := hL.c5
  have gf := hL.free 1
  have h1 : 0 < s.size := by have := congrArg List.length hR; rw [len_list] at this; simp at this; omega
  have hR0 : s.data.toList.drop 0 = UInt8.ofNat 39 :: R := hR
  obtain ⟨hp, hbx⟩ := byte_at s 0 _ _ hR0
  have hix : ∀ w, (Instr.index 9 (.string s) (.int .i64 0)).run Tryz.prog w = .ok (.int .u8 39) w := str_index s 0 _ hp (hbx hp)
  have hR1 : s.data.toList.drop 1 = R := drop_step s 0 _ _ hR0
  have z1 : (0 : Int) < (s.size : Int) := by omega
  have HX0 : ∀ n k, Calls Tryz.prog 22 #[.pointer (some ⟨b, 0, none⟩), .int .u8 39, .bool false] ((w.drewN n).drewN k) fun e w' => e = .returned (.tuple #[]) ∧ Hid (Told b s m 3 ((w.drewN n).drewN k) w') :=
    fun n k => text_any b s 39 false m R ((w.drewN n).drewN k) 0 hL (by decide) hs (Utf8Tabs_drewN (Utf8Tabs_drewN hT n) k) hB1 hR1 hRd
  have HX1 : ∀ n, (∀ k, Calls Tryz.prog 22 #[.pointer (some ⟨b, 0, none⟩), .int .u8 39, .bool false] ((w.drewN n).drewN k) fun e w' => e = .returned (.tuple #[]) ∧ Hid (Told b s m 3 ((w.drewN n).drewN k) w')) ∧ w.grownBy (w.drewN n) (some b) ∧ LexAt b s 0 (.slice none 0 0) (w.drewN n) := fun n => ⟨HX0 n, ⟨rfl, rfl, rfl, Nat.le_refl _, fun _ _ _ => rfl⟩, hL⟩
  have HX := Lib.hid HX1
  clear HX0 HX1 hR hR0 hR1 hRd hp hbx hT hL gf
  go_enter Tryz.func13, Tryz.ntmps13
  go_wp2_with fail
  go_quiet (fail)
  have HX2 := Lib.hid (HX.out nq)
  have hL2 := (HX.out nq).2.2
  have g0 := hL2.c0
  have g1 : (w.drewN nq).cell? ⟨b, 1, none⟩ = some (.int .i64 0) := hL2.c1
  have g5 := hL2.c5
  have gf := hL2.free 1
  clear HX hL2
  generalize w.drewN nq = w2 at HX2 g0 g1 g5 gf ⊢
  go_wp2_with (first
    | (go_at_call 18; refine (isLetter_q _ _ (by decide)).mono ?_; rintro e w' ⟨rfl, rfl⟩))
  go_quiet (first
    | (go_at_call 20; exact Calls.quiet_of_same ((isDigit_no _ _ (by decide) (by decide) (by decide)).mono fun _ _ h => ⟨h.1, h.2.symm⟩)))
  go_wp2_with (first
    | (go_at_call 22; refine (HX2.out.1 _).mono ?_; rintro e w' ⟨rfl, hX⟩))
  go_end0
  exact ⟨rfl, told_from (w1 := w2.drewN nq) (grownBy_trans HX2.out.2.1 ⟨rfl, rfl, rfl, Nat.le_refl _, fun _ _ _ => rfl⟩) hX.out⟩

set_option maxRecDepth 1000000 in
set_option maxHeartbeats 4000000 in
theorem token_96 (b : Nat) (s : ByteArray) (m R : List UInt8) (w : World) (hL : LexAt b s 0 (.slice none 0 0) w) (hs : s.size ≤ 1000000000) (hT : Lib.Utf8Tabs 0 1 w) (hB1 : 1 < b)
    (hR : s.data.toList = UInt8.ofNat 96 :: R) (hRd : Reads 96 R m) :
    Calls Tryz.prog 13 #[.pointer (some ⟨b, 0, none⟩), .bool false] w fun e w' => e = .returned (.tuple #[]) ∧ Hid (Told b s m 5 w w') := by
  have g0 := hL.c0
  have g1 : w.cell? ⟨b, 1, none⟩ = some (.int .i64 0) := hL.c1
  have g5 : w.cell? ⟨b, 5, none⟩ = some (.bool false) := hL.c5
  have gf := hL.free 1
  have h1 : 0 < s.size := by have := congrArg List.length hR; rw [len_list] at this; simp at this; omega
  have hR0 : s.data.toList.drop 0 = UInt8.ofNat 96 :: R := hR
  obtain ⟨hp, hbx⟩ := byte_at s 0 _ _ hR0
  have hix : ∀ w, (Instr.index 9 (.string s) (.int .i64 0)).run Tryz.prog w = .ok (.int .u8 96) w := str_index s 0 _ hp (hbx hp)
  have hR1 : s.data.toList.drop 1 = R := drop_step s 0 _ _ hR0
  have z1 : (0 : Int) < (s.size : Int) := by omega
  have HG : ∀ n k, w.grownBy (((w.drewN n).drewN k).setCell ⟨b, 1, none⟩ (.int .i64 1)) (some b) := fun n k => grownBy_trans (⟨rfl, rfl, rfl, Nat.le_refl _, fun _ _ _ => rfl⟩ : w.grownBy ((w.drewN n).drewN k) (some b)) (grownBy_setCell _ _ _ _)
  have HX1 : ∀ n, (∀ k, Calls Tryz.prog 23 #[.pointer (some ⟨b, 0, none⟩), .bool true, .bool false] (((w.drewN n).drewN k).setCell ⟨b, 1, none⟩ (.int .i64 1)) fun e w' => e = .returned (.tuple #[]) ∧ Hid (Told b s m 5 (((w.drewN n).drewN k).setCell ⟨b, 1, none⟩ (.int .i64 1)) w')) ∧
      (∀ k, w.grownBy (((w.drewN n).drewN k).setCell ⟨b, 1, none⟩ (.int .i64 1)) (some b)) ∧ LexAt b s 0 (.slice none 0 0) (w.drewN n) :=
    fun n => ⟨fun k => piece_any b s false m R (((w.drewN n).drewN k).setCell ⟨b, 1, none⟩ (.int .i64 1)) 1 (LexAt.move (w := (w.drewN n).drewN k) hL 1) hs (tabs_grown hT (HG n k) hB1) hB1 hR1 hRd, HG n, hL⟩
  have HX := Lib.hid HX1
  clear HG HX1 hR hR0 hR1 hRd hp hbx hT hL gf
  go_enter Tryz.func13, Tryz.ntmps13
  go_wp2_with fail
  go_quiet (fail)
  have HX2 := Lib.hid (HX.out nq)
  have hL2 := (HX.out nq).2.2
  have g0 := hL2.c0
  have g1 : (w.drewN nq).cell? ⟨b, 1, none⟩ = some (.int .i64 0) := hL2.c1
  have g5 := hL2.c5
  have gf := hL2.free 1
  clear HX hL2
  generalize w.drewN nq = w2 at HX2 g0 g1 g5 gf ⊢
  go_wp2_with (first
    | (go_at_call 18; refine (isLetter_q _ _ (by decide)).mono ?_; rintro e w' ⟨rfl, rfl⟩))
  go_quiet (first
    | (go_at_call 20; exact Calls.quiet_of_same ((isDigit_no _ _ (by decide) (by decide) (by decide)).mono fun _ _ h => ⟨h.1, h.2.symm⟩)))
  go_wp2_with (first
    | (go_at_call 23; refine (HX2.out.1 _).mono ?_; rintro e w' ⟨rfl, hX⟩))
  go_end0
  exact ⟨rfl, told_from (HX2.out.2.1 _) hX.out⟩

end Go.Proofs.YtmfbgoikekmdkaaGreatFmt
