/-
  WALK: (*lexer).escape at what the printer writes: the null character, digits, signs. (The walks' common head: written by gen_es1.py.)
-/
import Derived.Test.YtmfbgoikekmdkaaGreatFmtEs1
namespace Go.Proofs.YtmfbgoikekmdkaaGreatFmt
open Go.RowKit Go.Lib Go.FQ

theorem tabs_grown {w w' : World} {b : Nat} (h : Lib.Utf8Tabs 0 1 w) (hg : w.grownBy w' (some b)) (hb : 1 < b) : Lib.Utf8Tabs 0 1 w' := by
  have hk : ∀ (k j : Nat) (v : Value), k ≤ 1 → w.cell? ⟨k, j, none⟩ = some v → w'.cell? ⟨k, j, none⟩ = some v := by
    intro k j v hk1 hc
    have hlt : k < w.heap.size := World.block_lt_of_cell? w _ hc
    rw [World.cell?_of_block (w := w) (hg.block k hlt (fun e => by cases e; omega))]
    exact hc
  exact ⟨fun c hc => hk 0 c _ (by omega) (h.1 c hc), fun i hi => ⟨hk 1 _ _ (by omega) (h.2 i hi).1, hk 1 _ _ (by omega) (h.2 i hi).2⟩⟩

set_option maxRecDepth 1000000 in
set_option maxHeartbeats 4000000 in
theorem esc_48 (tb : Bool) (b : Nat) (s : ByteArray) (p : Nat) (out : Value) (w : World) (hL : LexAt b s p out w) (hs : s.size ≤ 1099511627776) (d : UInt8) (R : List UInt8) (hR : s.data.toList.drop p = 92 :: 48 :: d :: R) (hd : dig d.toNat = false) :
    Calls Tryz.prog 29 #[.pointer (some ⟨b, 0, none⟩), .bool tb] w (Escaped b s (p + 2) out w [0]) := by
  obtain ⟨hp2, hb2⟩ := byte_at s (p + 2) d R (drop_step s (p + 1) 48 _ (drop_step s p 92 _ hR))
  obtain ⟨c, hc⟩ : ∃ c : Int, c = (d.toNat : Int) := ⟨_, rfl⟩
  have hix2 : ∀ w, (Instr.index 9 (.string s) (.int .i64 ((p : Int) + 1 + 1))).run Tryz.prog w = .ok (.int .u8 c) w := by
    rw [hc]; exact str_index s (p + 2) d hp2 (hb2 hp2)
  have hc0 : 0 ≤ c := by omega
  have hc1 : c ≤ 255 := by have := d.toNat_lt; omega
  have hc2 : c < 48 ∨ 57 < c := by
    unfold dig at hd
    rw [Bool.and_eq_false_iff, decide_eq_false_iff_not, decide_eq_false_iff_not] at hd
    omega
  have z2 : (p : Int) + 1 + 1 < (s.size : Int) := by omega
  have z3 : ((p : Int) + 1 + 1 == (s.size : Int)) = false := by simp; omega
  have HC2 := Lib.hid hc2
  clear hp2 hb2 hc hd hc2
  have c1 := fun o => cell_of_block (j := 1) ((Below.heap_alloc w o _ hL.lt).trans hL) rfl
  have f1 := fun o => free_of_block (j := 1) ((Below.heap_alloc w o _ hL.lt).trans hL)
  obtain ⟨hp1, hb1⟩ := byte_at s (p + 1) _ _ (drop_step s p 92 _ hR)
  have hix : ∀ w, (Instr.index 9 (.string s) (.int .i64 ((p : Int) + 1))).run Tryz.prog w = .ok (.int .u8 48) w := str_index s (p + 1) _ hp1 (hb1 hp1)
  obtain ⟨lb, hlb⟩ : ∃ lb, lb = w.heap.size := ⟨_, rfl⟩
  have hne : lb ≠ b := by have := hL.lt; omega
  have HBX := Lib.hid (boxed hL)
  have z1 : (p : Int) + 1 < (s.size : Int) := by omega
  have HNE := Lib.hid hne
  have HR := Lib.hid hR
  clear hL hR hb1 hp1 hne
  go_enter Tryz.func29, Tryz.ntmps29
  go_wp2_with fail
  obtain ⟨k1, k2, k3⟩ := HBX.out
  rw [← hlb] at k2 ⊢
  have K : BoxAt b lb s (p + 1) out w _ := ⟨k1, k2, k3⟩
  generalize ((w.alloc (.cells #[.pointer (some ⟨b, 0, none⟩)] 93)).setCell ⟨b, 1, none⟩ (.int .i64 ((p : Int) + 1))) = w1 at K ⊢
  clear k1 k2 k3 c1 f1 HBX hlb
  have g0 := K.lex.c0
  have g1 : w1.cell? ⟨b, 1, none⟩ = some (.int .i64 ((p : Int) + 1)) := K.lex.c1
  have gb := K.box
  go_quiet (fail)
  have K2 := K.drewN nq
  generalize w1.drewN nq = w2 at K2 ⊢
  clear g0 g1 gb K
  have g0 := K2.lex.c0
  have g1 : w2.cell? ⟨b, 1, none⟩ = some (.int .i64 ((p : Int) + 1)) := K2.lex.c1
  have gb := K2.box
  go_wp2_with fail
  go_quiet (fail)
  have K3 := K2.drewN nq
  generalize w2.drewN nq = w3 at K3 ⊢
  clear g0 g1 gb K2
  have g0 := K3.lex.c0
  have g1 : w3.cell? ⟨b, 1, none⟩ = some (.int .i64 ((p : Int) + 1)) := K3.lex.c1
  have gf := K3.lex.free 1
  have gb := K3.box
  go_wp2_with fail
  have M : BoxAt b lb s (p + 2) out w (w3.setCell ⟨b, 1, none⟩ (.int .i64 ((p : Int) + 1 + 1))) := K3.move HNE.out (p + 2)
  generalize w3.setCell ⟨b, 1, none⟩ (.int .i64 ((p : Int) + 1 + 1)) = w4 at M ⊢
  clear g0 g1 gf gb K3
  have g0 := M.lex.c0
  have g1 : w4.cell? ⟨b, 1, none⟩ = some (.int .i64 ((p : Int) + 1 + 1)) := M.lex.c1
  have gb := M.box
  go_quiet ((go_at_call 20; exact Calls.quiet_of_same ((isDigit_no _ _ hc0 hc1 HC2.out).mono fun _ _ h => ⟨h.1, h.2.symm⟩)))
  have M2 := M.drewN nq
  generalize w4.drewN nq = w5 at M2 ⊢
  clear g0 g1 gb M
  go_wp2
  go_ret2
  exact ⟨rfl, M2.lex, M2.grown⟩

set_option maxRecDepth 1000000 in
set_option maxHeartbeats 4000000 in
theorem esc_120 (tb : Bool) (b : Nat) (s : ByteArray) (p : Nat) (out : Value) (w : World) (hL : LexAt b s p out w) (hs : s.size ≤ 1099511627776) (x y : Nat) (R : List UInt8) (hR : s.data.toList.drop p = 92 :: 120 :: hexU x :: hexU y :: R) (hx : x < 16) (hy : y < 16) :
    Calls Tryz.prog 29 #[.pointer (some ⟨b, 0, none⟩), .bool tb] w (Escaped b s (p + 4) out w (enc (16 * x + y))) := by
  have c1 := fun o => cell_of_block (j := 1) ((Below.heap_alloc w o _ hL.lt).trans hL) rfl
  have f1 := fun o => free_of_block (j := 1) ((Below.heap_alloc w o _ hL.lt).trans hL)
  obtain ⟨hp1, hb1⟩ := byte_at s (p + 1) _ _ (drop_step s p 92 _ hR)
  have hix : ∀ w, (Instr.index 9 (.string s) (.int .i64 ((p : Int) + 1))).run Tryz.prog w = .ok (.int .u8 120) w := str_index s (p + 1) _ hp1 (hb1 hp1)
  obtain ⟨lb, hlb⟩ : ∃ lb, lb = w.heap.size := ⟨_, rfl⟩
  have hne : lb ≠ b := by have := hL.lt; omega
  have HBX := Lib.hid (boxed hL)
  have z1 : (p : Int) + 1 < (s.size : Int) := by omega
  have HNE := Lib.hid hne
  have HR := Lib.hid hR
  clear hL hR hb1 hp1 hne
  go_enter Tryz.func29, Tryz.ntmps29
  go_wp2_with fail
  obtain ⟨k1, k2, k3⟩ := HBX.out
  rw [← hlb] at k2 ⊢
  have K : BoxAt b lb s (p + 1) out w _ := ⟨k1, k2, k3⟩
  generalize ((w.alloc (.cells #[.pointer (some ⟨b, 0, none⟩)] 93)).setCell ⟨b, 1, none⟩ (.int .i64 ((p : Int) + 1))) = w1 at K ⊢
  clear k1 k2 k3 c1 f1 HBX hlb
  have g0 := K.lex.c0
  have g1 : w1.cell? ⟨b, 1, none⟩ = some (.int .i64 ((p : Int) + 1)) := K.lex.c1
  have gb := K.box
  go_quiet (fail)
  have K2 := K.drewN nq
  generalize w1.drewN nq = w2 at K2 ⊢
  clear g0 g1 gb K
  have g0 := K2.lex.c0
  have g1 : w2.cell? ⟨b, 1, none⟩ = some (.int .i64 ((p : Int) + 1)) := K2.lex.c1
  have gb := K2.box
  go_wp2_with fail
  go_quiet (fail)
  have K3 := K2.drewN nq
  generalize w2.drewN nq = w3 at K3 ⊢
  clear g0 g1 gb K2
  have g0 := K3.lex.c0
  have g1 : w3.cell? ⟨b, 1, none⟩ = some (.int .i64 ((p : Int) + 1)) := K3.lex.c1
  have gf := K3.lex.free 1
  have gb := K3.box
  have M := K3.move HNE.out (p + 2)
  have hH := hex_any b lb s (p + 2) 2 out [x, y] R _ M.lex M.box hs (drop_step s (p + 1) 120 _ (drop_step s p 92 _ HR.out)) rfl (by simp [hx, hy]) (by decide) (by decide) (by unfold Scal hexV hexV hexV; omega)
  have hv : hexV 0 [x, y] = 16 * x + y := by unfold hexV hexV hexV; omega
  rw [hv] at hH
  have HH := Lib.hid hH
  have HM := Lib.hid M.grown
  clear hH hv M hx hy
  go_wp2_with fail
  refine HH.out.mono ?_
  rintro e w5 ⟨rfl, h5⟩
  go_wp2
  go_ret2
  exact ⟨rfl, h5.out.1, grownBy_trans HM.out h5.out.2⟩

set_option maxRecDepth 1000000 in
set_option maxHeartbeats 4000000 in
theorem esc_117 (tb : Bool) (b : Nat) (s : ByteArray) (p : Nat) (out : Value) (w : World) (hL : LexAt b s p out w) (hs : s.size ≤ 1099511627776) (x y z v : Nat) (R : List UInt8) (hR : s.data.toList.drop p = 92 :: 117 :: hexU x :: hexU y :: hexU z :: hexU v :: R) (hx : x < 16) (hy : y < 16) (hz : z < 16) (hv : v < 16) (hsc : Scal (4096 * x + 256 * y + 16 * z + v)) :
    Calls Tryz.prog 29 #[.pointer (some ⟨b, 0, none⟩), .bool tb] w (Escaped b s (p + 6) out w (enc (4096 * x + 256 * y + 16 * z + v))) := by
  obtain ⟨hp2, hb2⟩ := byte_at s (p + 2) _ _ (drop_step s (p + 1) 117 _ (drop_step s p 92 _ hR))
  obtain ⟨c, hc⟩ : ∃ c : Int, c = ((hexU x).toNat : Int) := ⟨_, rfl⟩
  have hix2 : ∀ w, (Instr.index 9 (.string s) (.int .i64 ((p : Int) + 1 + 1))).run Tryz.prog w = .ok (.int .u8 c) w := by
    rw [hc]; exact str_index s (p + 2) _ hp2 (hb2 hp2)
  have hc2 : (c == 123) = false := by have := hexU_lt hx; have := hexU_byte x hx; simp; omega
  have z2 : (p : Int) + 1 + 1 < (s.size : Int) := by omega
  clear hp2 hb2 hc
  have c1 := fun o => cell_of_block (j := 1) ((Below.heap_alloc w o _ hL.lt).trans hL) rfl
  have f1 := fun o => free_of_block (j := 1) ((Below.heap_alloc w o _ hL.lt).trans hL)
  obtain ⟨hp1, hb1⟩ := byte_at s (p + 1) _ _ (drop_step s p 92 _ hR)
  have hix : ∀ w, (Instr.index 9 (.string s) (.int .i64 ((p : Int) + 1))).run Tryz.prog w = .ok (.int .u8 117) w := str_index s (p + 1) _ hp1 (hb1 hp1)
  obtain ⟨lb, hlb⟩ : ∃ lb, lb = w.heap.size := ⟨_, rfl⟩
  have hne : lb ≠ b := by have := hL.lt; omega
  have HBX := Lib.hid (boxed hL)
  have z1 : (p : Int) + 1 < (s.size : Int) := by omega
  have HNE := Lib.hid hne
  have HR := Lib.hid hR
  clear hL hR hb1 hp1 hne
  go_enter Tryz.func29, Tryz.ntmps29
  go_wp2_with fail
  obtain ⟨k1, k2, k3⟩ := HBX.out
  rw [← hlb] at k2 ⊢
  have K : BoxAt b lb s (p + 1) out w _ := ⟨k1, k2, k3⟩
  generalize ((w.alloc (.cells #[.pointer (some ⟨b, 0, none⟩)] 93)).setCell ⟨b, 1, none⟩ (.int .i64 ((p : Int) + 1))) = w1 at K ⊢
  clear k1 k2 k3 c1 f1 HBX hlb
  have g0 := K.lex.c0
  have g1 : w1.cell? ⟨b, 1, none⟩ = some (.int .i64 ((p : Int) + 1)) := K.lex.c1
  have gb := K.box
  go_quiet (fail)
  have K2 := K.drewN nq
  generalize w1.drewN nq = w2 at K2 ⊢
  clear g0 g1 gb K
  have g0 := K2.lex.c0
  have g1 : w2.cell? ⟨b, 1, none⟩ = some (.int .i64 ((p : Int) + 1)) := K2.lex.c1
  have gb := K2.box
  go_wp2_with fail
  go_quiet (fail)
  have K3 := K2.drewN nq
  generalize w2.drewN nq = w3 at K3 ⊢
  clear g0 g1 gb K2
  have g0 := K3.lex.c0
  have g1 : w3.cell? ⟨b, 1, none⟩ = some (.int .i64 ((p : Int) + 1)) := K3.lex.c1
  have gf := K3.lex.free 1
  have gb := K3.box
  go_wp2_with fail
  have M : BoxAt b lb s (p + 2) out w (w3.setCell ⟨b, 1, none⟩ (.int .i64 ((p : Int) + 1 + 1))) := K3.move HNE.out (p + 2)
  generalize w3.setCell ⟨b, 1, none⟩ (.int .i64 ((p : Int) + 1 + 1)) = w4 at M ⊢
  clear g0 g1 gf gb K3
  have g0 := M.lex.c0
  have g1 : w4.cell? ⟨b, 1, none⟩ = some (.int .i64 ((p : Int) + 1 + 1)) := M.lex.c1
  have gb := M.box
  go_quiet (fail)
  have M2 := M.drewN nq
  generalize w4.drewN nq = w5 at M2 ⊢
  clear g0 g1 gb M
  have hv4 : hexV 0 [x, y, z, v] = 4096 * x + 256 * y + 16 * z + v := by unfold hexV hexV hexV hexV hexV; omega
  have hH := hex_any b lb s (p + 2) 4 out [x, y, z, v] R w5 M2.lex M2.box hs (drop_step s (p + 1) 117 _ (drop_step s p 92 _ HR.out)) rfl (by simp [hx, hy, hz, hv]) (by decide) (by decide) (by rw [hv4]; exact hsc)
  rw [hv4] at hH
  have HH := Lib.hid hH
  have HM := Lib.hid M2.grown
  clear hH hv4 M2 hx hy hz hv hsc
  go_wp2_with fail
  refine HH.out.mono ?_
  rintro e w6 ⟨rfl, h6⟩
  go_wp2
  go_ret2
  exact ⟨rfl, h6.out.1, grownBy_trans HM.out h6.out.2⟩

set_option maxRecDepth 1000000 in
set_option maxHeartbeats 4000000 in
theorem esc_92 (tb : Bool) (b : Nat) (s : ByteArray) (p : Nat) (out : Value) (w : World) (hL : LexAt b s p out w) (hs : s.size ≤ 1099511627776) (hT : Lib.Utf8Tabs 0 1 w) (hB1 : 1 < b) (R : List UInt8) (hR : s.data.toList.drop p = 92 :: 92 :: R) :
    Calls Tryz.prog 29 #[.pointer (some ⟨b, 0, none⟩), .bool tb] w (Escaped b s (p + 2) out w [92]) := by
  have HT := Lib.hid hT
  have HB1 := Lib.hid hB1
  clear hT hB1
  have c1 := fun o => cell_of_block (j := 1) ((Below.heap_alloc w o _ hL.lt).trans hL) rfl
  have f1 := fun o => free_of_block (j := 1) ((Below.heap_alloc w o _ hL.lt).trans hL)
  obtain ⟨hp1, hb1⟩ := byte_at s (p + 1) _ _ (drop_step s p 92 _ hR)
  have hix : ∀ w, (Instr.index 9 (.string s) (.int .i64 ((p : Int) + 1))).run Tryz.prog w = .ok (.int .u8 92) w := str_index s (p + 1) _ hp1 (hb1 hp1)
  obtain ⟨lb, hlb⟩ : ∃ lb, lb = w.heap.size := ⟨_, rfl⟩
  have hne : lb ≠ b := by have := hL.lt; omega
  have HBX := Lib.hid (boxed hL)
  have z1 : (p : Int) + 1 < (s.size : Int) := by omega
  have HNE := Lib.hid hne
  have HR := Lib.hid hR
  clear hL hR hb1 hp1 hne
  go_enter Tryz.func29, Tryz.ntmps29
  go_wp2_with fail
  obtain ⟨k1, k2, k3⟩ := HBX.out
  rw [← hlb] at k2 ⊢
  have K : BoxAt b lb s (p + 1) out w _ := ⟨k1, k2, k3⟩
  generalize ((w.alloc (.cells #[.pointer (some ⟨b, 0, none⟩)] 93)).setCell ⟨b, 1, none⟩ (.int .i64 ((p : Int) + 1))) = w1 at K ⊢
  clear k1 k2 k3 c1 f1 HBX hlb
  have g0 := K.lex.c0
  have g1 : w1.cell? ⟨b, 1, none⟩ = some (.int .i64 ((p : Int) + 1)) := K.lex.c1
  have gb := K.box
  go_quiet (fail)
  have K2 := K.drewN nq
  generalize w1.drewN nq = w2 at K2 ⊢
  clear g0 g1 gb K
  have g0 := K2.lex.c0
  have g1 : w2.cell? ⟨b, 1, none⟩ = some (.int .i64 ((p : Int) + 1)) := K2.lex.c1
  have gb := K2.box
  go_wp2_with fail
  go_quiet (fail)
  have K3 := K2.drewN nq
  generalize w2.drewN nq = w3 at K3 ⊢
  clear g0 g1 gb K2
  have g0 := K3.lex.c0
  have g1 : w3.cell? ⟨b, 1, none⟩ = some (.int .i64 ((p : Int) + 1)) := K3.lex.c1
  have gf := K3.lex.free 1
  have gb := K3.box
  have hru := rune_any b s (p + 1) out 92 R w3 K3.lex (tabs_grown HT.out K3.grown HB1.out) hs (by rw [enc_one (by decide)]; exact drop_step s p 92 _ HR.out) (by decide) (by unfold Scal; decide)
  rw [enc_one (by decide)] at hru
  have HRU := Lib.hid hru
  have HM := Lib.hid K3.grown
  clear hru K3
  go_wp2_with fail
  refine (isDigit_no _ _ (by decide) (by decide) (by decide)).mono ?_
  rintro e w' ⟨rfl, rfl⟩
  go_wp2_with fail
  refine HRU.out.mono ?_
  rintro e w4 ⟨rfl, h4⟩
  go_wp2
  go_ret2
  exact ⟨rfl, h4.out.1, grownBy_trans HM.out h4.out.2⟩

set_option maxRecDepth 1000000 in
set_option maxHeartbeats 4000000 in
theorem esc_47 (tb : Bool) (b : Nat) (s : ByteArray) (p : Nat) (out : Value) (w : World) (hL : LexAt b s p out w) (hs : s.size ≤ 1099511627776) (hT : Lib.Utf8Tabs 0 1 w) (hB1 : 1 < b) (R : List UInt8) (hR : s.data.toList.drop p = 92 :: 47 :: R) :
    Calls Tryz.prog 29 #[.pointer (some ⟨b, 0, none⟩), .bool tb] w (Escaped b s (p + 2) out w [47]) := by
  have HT := Lib.hid hT
  have HB1 := Lib.hid hB1
  clear hT hB1
  have c1 := fun o => cell_of_block (j := 1) ((Below.heap_alloc w o _ hL.lt).trans hL) rfl
  have f1 := fun o => free_of_block (j := 1) ((Below.heap_alloc w o _ hL.lt).trans hL)
  obtain ⟨hp1, hb1⟩ := byte_at s (p + 1) _ _ (drop_step s p 92 _ hR)
  have hix : ∀ w, (Instr.index 9 (.string s) (.int .i64 ((p : Int) + 1))).run Tryz.prog w = .ok (.int .u8 47) w := str_index s (p + 1) _ hp1 (hb1 hp1)
  obtain ⟨lb, hlb⟩ : ∃ lb, lb = w.heap.size := ⟨_, rfl⟩
  have hne : lb ≠ b := by have := hL.lt; omega
  have HBX := Lib.hid (boxed hL)
  have z1 : (p : Int) + 1 < (s.size : Int) := by omega
  have HNE := Lib.hid hne
  have HR := Lib.hid hR
  clear hL hR hb1 hp1 hne
  go_enter Tryz.func29, Tryz.ntmps29
  go_wp2_with fail
  obtain ⟨k1, k2, k3⟩ := HBX.out
  rw [← hlb] at k2 ⊢
  have K : BoxAt b lb s (p + 1) out w _ := ⟨k1, k2, k3⟩
  generalize ((w.alloc (.cells #[.pointer (some ⟨b, 0, none⟩)] 93)).setCell ⟨b, 1, none⟩ (.int .i64 ((p : Int) + 1))) = w1 at K ⊢
  clear k1 k2 k3 c1 f1 HBX hlb
  have g0 := K.lex.c0
  have g1 : w1.cell? ⟨b, 1, none⟩ = some (.int .i64 ((p : Int) + 1)) := K.lex.c1
  have gb := K.box
  go_quiet (fail)
  have K2 := K.drewN nq
  generalize w1.drewN nq = w2 at K2 ⊢
  clear g0 g1 gb K
  have g0 := K2.lex.c0
  have g1 : w2.cell? ⟨b, 1, none⟩ = some (.int .i64 ((p : Int) + 1)) := K2.lex.c1
  have gb := K2.box
  go_wp2_with fail
  go_quiet (fail)
  have K3 := K2.drewN nq
  generalize w2.drewN nq = w3 at K3 ⊢
  clear g0 g1 gb K2
  have g0 := K3.lex.c0
  have g1 : w3.cell? ⟨b, 1, none⟩ = some (.int .i64 ((p : Int) + 1)) := K3.lex.c1
  have gf := K3.lex.free 1
  have gb := K3.box
  have hru := rune_any b s (p + 1) out 47 R w3 K3.lex (tabs_grown HT.out K3.grown HB1.out) hs (by rw [enc_one (by decide)]; exact drop_step s p 92 _ HR.out) (by decide) (by unfold Scal; decide)
  rw [enc_one (by decide)] at hru
  have HRU := Lib.hid hru
  have HM := Lib.hid K3.grown
  clear hru K3
  go_wp2_with fail
  refine (isDigit_no _ _ (by decide) (by decide) (by decide)).mono ?_
  rintro e w' ⟨rfl, rfl⟩
  go_wp2_with fail
  refine HRU.out.mono ?_
  rintro e w4 ⟨rfl, h4⟩
  go_wp2
  go_ret2
  exact ⟨rfl, h4.out.1, grownBy_trans HM.out h4.out.2⟩

set_option maxRecDepth 1000000 in
set_option maxHeartbeats 4000000 in
theorem esc_39 (tb : Bool) (b : Nat) (s : ByteArray) (p : Nat) (out : Value) (w : World) (hL : LexAt b s p out w) (hs : s.size ≤ 1099511627776) (hT : Lib.Utf8Tabs 0 1 w) (hB1 : 1 < b) (R : List UInt8) (hR : s.data.toList.drop p = 92 :: 39 :: R) :
    Calls Tryz.prog 29 #[.pointer (some ⟨b, 0, none⟩), .bool tb] w (Escaped b s (p + 2) out w [39]) := by
  have HT := Lib.hid hT
  have HB1 := Lib.hid hB1
  clear hT hB1
  have c1 := fun o => cell_of_block (j := 1) ((Below.heap_alloc w o _ hL.lt).trans hL) rfl
  have f1 := fun o => free_of_block (j := 1) ((Below.heap_alloc w o _ hL.lt).trans hL)
  obtain ⟨hp1, hb1⟩ := byte_at s (p + 1) _ _ (drop_step s p 92 _ hR)
  have hix : ∀ w, (Instr.index 9 (.string s) (.int .i64 ((p : Int) + 1))).run Tryz.prog w = .ok (.int .u8 39) w := str_index s (p + 1) _ hp1 (hb1 hp1)
  obtain ⟨lb, hlb⟩ : ∃ lb, lb = w.heap.size := ⟨_, rfl⟩
  have hne : lb ≠ b := by have := hL.lt; omega
  have HBX := Lib.hid (boxed hL)
  have z1 : (p : Int) + 1 < (s.size : Int) := by omega
  have HNE := Lib.hid hne
  have HR := Lib.hid hR
  clear hL hR hb1 hp1 hne
  go_enter Tryz.func29, Tryz.ntmps29
  go_wp2_with fail
  obtain ⟨k1, k2, k3⟩ := HBX.out
  rw [← hlb] at k2 ⊢
  have K : BoxAt b lb s (p + 1) out w _ := ⟨k1, k2, k3⟩
  generalize ((w.alloc (.cells #[.pointer (some ⟨b, 0, none⟩)] 93)).setCell ⟨b, 1, none⟩ (.int .i64 ((p : Int) + 1))) = w1 at K ⊢
  clear k1 k2 k3 c1 f1 HBX hlb
  have g0 := K.lex.c0
  have g1 : w1.cell? ⟨b, 1, none⟩ = some (.int .i64 ((p : Int) + 1)) := K.lex.c1
  have gb := K.box
  go_quiet (fail)
  have K2 := K.drewN nq
  generalize w1.drewN nq = w2 at K2 ⊢
  clear g0 g1 gb K
  have g0 := K2.lex.c0
  have g1 : w2.cell? ⟨b, 1, none⟩ = some (.int .i64 ((p : Int) + 1)) := K2.lex.c1
  have gb := K2.box
  go_wp2_with fail
  go_quiet (fail)
  have K3 := K2.drewN nq
  generalize w2.drewN nq = w3 at K3 ⊢
  clear g0 g1 gb K2
  have g0 := K3.lex.c0
  have g1 : w3.cell? ⟨b, 1, none⟩ = some (.int .i64 ((p : Int) + 1)) := K3.lex.c1
  have gf := K3.lex.free 1
  have gb := K3.box
  have hru := rune_any b s (p + 1) out 39 R w3 K3.lex (tabs_grown HT.out K3.grown HB1.out) hs (by rw [enc_one (by decide)]; exact drop_step s p 92 _ HR.out) (by decide) (by unfold Scal; decide)
  rw [enc_one (by decide)] at hru
  have HRU := Lib.hid hru
  have HM := Lib.hid K3.grown
  clear hru K3
  go_wp2_with fail
  refine (isDigit_no _ _ (by decide) (by decide) (by decide)).mono ?_
  rintro e w' ⟨rfl, rfl⟩
  go_wp2_with fail
  refine HRU.out.mono ?_
  rintro e w4 ⟨rfl, h4⟩
  go_wp2
  go_ret2
  exact ⟨rfl, h4.out.1, grownBy_trans HM.out h4.out.2⟩

set_option maxRecDepth 1000000 in
set_option maxHeartbeats 4000000 in
theorem esc_34 (tb : Bool) (b : Nat) (s : ByteArray) (p : Nat) (out : Value) (w : World) (hL : LexAt b s p out w) (hs : s.size ≤ 1099511627776) (hT : Lib.Utf8Tabs 0 1 w) (hB1 : 1 < b) (R : List UInt8) (hR : s.data.toList.drop p = 92 :: 34 :: R) :
    Calls Tryz.prog 29 #[.pointer (some ⟨b, 0, none⟩), .bool tb] w (Escaped b s (p + 2) out w [34]) := by
  have HT := Lib.hid hT
  have HB1 := Lib.hid hB1
  clear hT hB1
  have c1 := fun o => cell_of_block (j := 1) ((Below.heap_alloc w o _ hL.lt).trans hL) rfl
  have f1 := fun o => free_of_block (j := 1) ((Below.heap_alloc w o _ hL.lt).trans hL)
  obtain ⟨hp1, hb1⟩ := byte_at s (p + 1) _ _ (drop_step s p 92 _ hR)
  have hix : ∀ w, (Instr.index 9 (.string s) (.int .i64 ((p : Int) + 1))).run Tryz.prog w = .ok (.int .u8 34) w := str_index s (p + 1) _ hp1 (hb1 hp1)
  obtain ⟨lb, hlb⟩ : ∃ lb, lb = w.heap.size := ⟨_, rfl⟩
  have hne : lb ≠ b := by have := hL.lt; omega
  have HBX := Lib.hid (boxed hL)
  have z1 : (p : Int) + 1 < (s.size : Int) := by omega
  have HNE := Lib.hid hne
  have HR := Lib.hid hR
  clear hL hR hb1 hp1 hne
  go_enter Tryz.func29, Tryz.ntmps29
  go_wp2_with fail
  obtain ⟨k1, k2, k3⟩ := HBX.out
  rw [← hlb] at k2 ⊢
  have K : BoxAt b lb s (p + 1) out w _ := ⟨k1, k2, k3⟩
  generalize ((w.alloc (.cells #[.pointer (some ⟨b, 0, none⟩)] 93)).setCell ⟨b, 1, none⟩ (.int .i64 ((p : Int) + 1))) = w1 at K ⊢
  clear k1 k2 k3 c1 f1 HBX hlb
  have g0 := K.lex.c0
  have g1 : w1.cell? ⟨b, 1, none⟩ = some (.int .i64 ((p : Int) + 1)) := K.lex.c1
  have gb := K.box
  go_quiet (fail)
  have K2 := K.drewN nq
  generalize w1.drewN nq = w2 at K2 ⊢
  clear g0 g1 gb K
  have g0 := K2.lex.c0
  have g1 : w2.cell? ⟨b, 1, none⟩ = some (.int .i64 ((p : Int) + 1)) := K2.lex.c1
  have gb := K2.box
  go_wp2_with fail
  go_quiet (fail)
  have K3 := K2.drewN nq
  generalize w2.drewN nq = w3 at K3 ⊢
  clear g0 g1 gb K2
  have g0 := K3.lex.c0
  have g1 : w3.cell? ⟨b, 1, none⟩ = some (.int .i64 ((p : Int) + 1)) := K3.lex.c1
  have gf := K3.lex.free 1
  have gb := K3.box
  have hru := rune_any b s (p + 1) out 34 R w3 K3.lex (tabs_grown HT.out K3.grown HB1.out) hs (by rw [enc_one (by decide)]; exact drop_step s p 92 _ HR.out) (by decide) (by unfold Scal; decide)
  rw [enc_one (by decide)] at hru
  have HRU := Lib.hid hru
  have HM := Lib.hid K3.grown
  clear hru K3
  go_wp2_with fail
  refine (isDigit_no _ _ (by decide) (by decide) (by decide)).mono ?_
  rintro e w' ⟨rfl, rfl⟩
  go_wp2_with fail
  refine HRU.out.mono ?_
  rintro e w4 ⟨rfl, h4⟩
  go_wp2
  go_ret2
  exact ⟨rfl, h4.out.1, grownBy_trans HM.out h4.out.2⟩

set_option maxRecDepth 1000000 in
set_option maxHeartbeats 4000000 in
theorem esc_96 (tb : Bool) (b : Nat) (s : ByteArray) (p : Nat) (out : Value) (w : World) (hL : LexAt b s p out w) (hs : s.size ≤ 1099511627776) (hT : Lib.Utf8Tabs 0 1 w) (hB1 : 1 < b) (R : List UInt8) (hR : s.data.toList.drop p = 92 :: 96 :: R) :
    Calls Tryz.prog 29 #[.pointer (some ⟨b, 0, none⟩), .bool tb] w (Escaped b s (p + 2) out w [96]) := by
  have HT := Lib.hid hT
  have HB1 := Lib.hid hB1
  clear hT hB1
  have c1 := fun o => cell_of_block (j := 1) ((Below.heap_alloc w o _ hL.lt).trans hL) rfl
  have f1 := fun o => free_of_block (j := 1) ((Below.heap_alloc w o _ hL.lt).trans hL)
  obtain ⟨hp1, hb1⟩ := byte_at s (p + 1) _ _ (drop_step s p 92 _ hR)
  have hix : ∀ w, (Instr.index 9 (.string s) (.int .i64 ((p : Int) + 1))).run Tryz.prog w = .ok (.int .u8 96) w := str_index s (p + 1) _ hp1 (hb1 hp1)
  obtain ⟨lb, hlb⟩ : ∃ lb, lb = w.heap.size := ⟨_, rfl⟩
  have hne : lb ≠ b := by have := hL.lt; omega
  have HBX := Lib.hid (boxed hL)
  have z1 : (p : Int) + 1 < (s.size : Int) := by omega
  have HNE := Lib.hid hne
  have HR := Lib.hid hR
  clear hL hR hb1 hp1 hne
  go_enter Tryz.func29, Tryz.ntmps29
  go_wp2_with fail
  obtain ⟨k1, k2, k3⟩ := HBX.out
  rw [← hlb] at k2 ⊢
  have K : BoxAt b lb s (p + 1) out w _ := ⟨k1, k2, k3⟩
  generalize ((w.alloc (.cells #[.pointer (some ⟨b, 0, none⟩)] 93)).setCell ⟨b, 1, none⟩ (.int .i64 ((p : Int) + 1))) = w1 at K ⊢
  clear k1 k2 k3 c1 f1 HBX hlb
  have g0 := K.lex.c0
  have g1 : w1.cell? ⟨b, 1, none⟩ = some (.int .i64 ((p : Int) + 1)) := K.lex.c1
  have gb := K.box
  go_quiet (fail)
  have K2 := K.drewN nq
  generalize w1.drewN nq = w2 at K2 ⊢
  clear g0 g1 gb K
  have g0 := K2.lex.c0
  have g1 : w2.cell? ⟨b, 1, none⟩ = some (.int .i64 ((p : Int) + 1)) := K2.lex.c1
  have gb := K2.box
  go_wp2_with fail
  go_quiet (fail)
  have K3 := K2.drewN nq
  generalize w2.drewN nq = w3 at K3 ⊢
  clear g0 g1 gb K2
  have g0 := K3.lex.c0
  have g1 : w3.cell? ⟨b, 1, none⟩ = some (.int .i64 ((p : Int) + 1)) := K3.lex.c1
  have gf := K3.lex.free 1
  have gb := K3.box
  have hru := rune_any b s (p + 1) out 96 R w3 K3.lex (tabs_grown HT.out K3.grown HB1.out) hs (by rw [enc_one (by decide)]; exact drop_step s p 92 _ HR.out) (by decide) (by unfold Scal; decide)
  rw [enc_one (by decide)] at hru
  have HRU := Lib.hid hru
  have HM := Lib.hid K3.grown
  clear hru K3
  go_wp2_with fail
  refine (isDigit_no _ _ (by decide) (by decide) (by decide)).mono ?_
  rintro e w' ⟨rfl, rfl⟩
  go_wp2_with fail
  refine HRU.out.mono ?_
  rintro e w4 ⟨rfl, h4⟩
  go_wp2
  go_ret2
  exact ⟨rfl, h4.out.1, grownBy_trans HM.out h4.out.2⟩

set_option maxRecDepth 1000000 in
set_option maxHeartbeats 4000000 in
theorem esc_36 (tb : Bool) (b : Nat) (s : ByteArray) (p : Nat) (out : Value) (w : World) (hL : LexAt b s p out w) (hs : s.size ≤ 1099511627776) (hT : Lib.Utf8Tabs 0 1 w) (hB1 : 1 < b) (R : List UInt8) (hR : s.data.toList.drop p = 92 :: 36 :: R) :
    Calls Tryz.prog 29 #[.pointer (some ⟨b, 0, none⟩), .bool tb] w (Escaped b s (p + 2) out w [36]) := by
  have HT := Lib.hid hT
  have HB1 := Lib.hid hB1
  clear hT hB1
  have c1 := fun o => cell_of_block (j := 1) ((Below.heap_alloc w o _ hL.lt).trans hL) rfl
  have f1 := fun o => free_of_block (j := 1) ((Below.heap_alloc w o _ hL.lt).trans hL)
  obtain ⟨hp1, hb1⟩ := byte_at s (p + 1) _ _ (drop_step s p 92 _ hR)
  have hix : ∀ w, (Instr.index 9 (.string s) (.int .i64 ((p : Int) + 1))).run Tryz.prog w = .ok (.int .u8 36) w := str_index s (p + 1) _ hp1 (hb1 hp1)
  obtain ⟨lb, hlb⟩ : ∃ lb, lb = w.heap.size := ⟨_, rfl⟩
  have hne : lb ≠ b := by have := hL.lt; omega
  have HBX := Lib.hid (boxed hL)
  have z1 : (p : Int) + 1 < (s.size : Int) := by omega
  have HNE := Lib.hid hne
  have HR := Lib.hid hR
  clear hL hR hb1 hp1 hne
  go_enter Tryz.func29, Tryz.ntmps29
  go_wp2_with fail
  obtain ⟨k1, k2, k3⟩ := HBX.out
  rw [← hlb] at k2 ⊢
  have K : BoxAt b lb s (p + 1) out w _ := ⟨k1, k2, k3⟩
  generalize ((w.alloc (.cells #[.pointer (some ⟨b, 0, none⟩)] 93)).setCell ⟨b, 1, none⟩ (.int .i64 ((p : Int) + 1))) = w1 at K ⊢
  clear k1 k2 k3 c1 f1 HBX hlb
  have g0 := K.lex.c0
  have g1 : w1.cell? ⟨b, 1, none⟩ = some (.int .i64 ((p : Int) + 1)) := K.lex.c1
  have gb := K.box
  go_quiet (fail)
  have K2 := K.drewN nq
  generalize w1.drewN nq = w2 at K2 ⊢
  clear g0 g1 gb K
  have g0 := K2.lex.c0
  have g1 : w2.cell? ⟨b, 1, none⟩ = some (.int .i64 ((p : Int) + 1)) := K2.lex.c1
  have gb := K2.box
  go_wp2_with fail
  go_quiet (fail)
  have K3 := K2.drewN nq
  generalize w2.drewN nq = w3 at K3 ⊢
  clear g0 g1 gb K2
  have g0 := K3.lex.c0
  have g1 : w3.cell? ⟨b, 1, none⟩ = some (.int .i64 ((p : Int) + 1)) := K3.lex.c1
  have gf := K3.lex.free 1
  have gb := K3.box
  have hru := rune_any b s (p + 1) out 36 R w3 K3.lex (tabs_grown HT.out K3.grown HB1.out) hs (by rw [enc_one (by decide)]; exact drop_step s p 92 _ HR.out) (by decide) (by unfold Scal; decide)
  rw [enc_one (by decide)] at hru
  have HRU := Lib.hid hru
  have HM := Lib.hid K3.grown
  clear hru K3
  go_wp2_with fail
  refine (isDigit_no _ _ (by decide) (by decide) (by decide)).mono ?_
  rintro e w' ⟨rfl, rfl⟩
  go_wp2_with fail
  refine HRU.out.mono ?_
  rintro e w4 ⟨rfl, h4⟩
  go_wp2
  go_ret2
  exact ⟨rfl, h4.out.1, grownBy_trans HM.out h4.out.2⟩

end Go.Proofs.YtmfbgoikekmdkaaGreatFmt
