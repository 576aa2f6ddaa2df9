/-
  WALK: (*lexer).escape at what the printer writes. (The walks' common head: written by gen_es1.py.)
-/
import Derived.Test.YtmfbgoikekmdkaaGreatFmtEs0
namespace Go.Proofs.YtmfbgoikekmdkaaGreatFmt
open Go.RowKit Go.Lib Go.FQ Go.Maps

theorem str_1 (u : Nat) (h : u < 128) (w : World) : (convert 5 9 (.int .u8 (u : Int))).run Tryz.prog w = .ok (.string ⟨#[UInt8.ofNat u]⟩) w := by
  have : (convert 5 9 (.int .u8 (u : Int))).run Tryz.prog w = .ok (.string (Utf8.encode (u : Int))) w := by
    simp [convert, run_underlying Tryz.underlying5, run_underlying Tryz.underlying9, Conv.intToString, Sem.run_pure]
  rw [this, encode_str u (by unfold Scal; omega), enc_one h]

set_option maxRecDepth 1000000 in
set_option maxHeartbeats 4000000 in
theorem esc_110 (tb : Bool) (b : Nat) (s : ByteArray) (p : Nat) (out : Value) (w : World) (hL : LexAt b s p out w) (hs : s.size ≤ 1099511627776) (R : List UInt8) (hR : s.data.toList.drop p = 92 :: 110 :: R) :
    Calls Tryz.prog 29 #[.pointer (some ⟨b, 0, none⟩), .bool tb] w (Escaped b s (p + 2) out w [10]) := by
  have c1 := fun o => cell_of_block (j := 1) ((Below.heap_alloc w o _ hL.lt).trans hL) rfl
  have f1 := fun o => free_of_block (j := 1) ((Below.heap_alloc w o _ hL.lt).trans hL)
  obtain ⟨hp1, hb1⟩ := byte_at s (p + 1) _ _ (drop_step s p 92 _ hR)
  have hix : ∀ w, (Instr.index 9 (.string s) (.int .i64 ((p : Int) + 1))).run Tryz.prog w = .ok (.int .u8 110) w := str_index s (p + 1) _ hp1 (hb1 hp1)
  obtain ⟨lb, hlb⟩ : ∃ lb, lb = w.heap.size := ⟨_, rfl⟩
  have hne : lb ≠ b := by have := hL.lt; omega
  have HBX := Lib.hid (boxed hL)
  have z1 : (p : Int) + 1 < (s.size : Int) := by omega
  have HNE := Lib.hid hne
  have HR := Lib.hid hR
  clear hL hR hb1 hp1 hne
  go_enter Tryz.func29, Tryz.ntmps29
  go_wp2_with fail
  obtain ⟨k1, k2, k3⟩ := HBX.out
  rw [← hlb] at k2 ⊢
  have K : BoxAt b lb s (p + 1) out w _ := ⟨k1, k2, k3⟩
  generalize ((w.alloc (.cells #[.pointer (some ⟨b, 0, none⟩)] 93)).setCell ⟨b, 1, none⟩ (.int .i64 ((p : Int) + 1))) = w1 at K ⊢
  clear k1 k2 k3 c1 f1 HBX hlb
  have g0 := K.lex.c0
  have g1 : w1.cell? ⟨b, 1, none⟩ = some (.int .i64 ((p : Int) + 1)) := K.lex.c1
  have gb := K.box
  go_quiet (fail)
  have K2 := K.drewN nq
  generalize w1.drewN nq = w2 at K2 ⊢
  clear g0 g1 gb K
  have g0 := K2.lex.c0
  have g1 : w2.cell? ⟨b, 1, none⟩ = some (.int .i64 ((p : Int) + 1)) := K2.lex.c1
  have gb := K2.box
  go_wp2_with fail
  go_quiet (fail)
  have K3 := K2.drewN nq
  generalize w2.drewN nq = w3 at K3 ⊢
  clear g0 g1 gb K2
  have g0 := K3.lex.c0
  have g1 : w3.cell? ⟨b, 1, none⟩ = some (.int .i64 ((p : Int) + 1)) := K3.lex.c1
  have gf := K3.lex.free 1
  have gb := K3.box
  have hmm := @run_makeMap Tryz.prog
  obtain ⟨W1, W2, W3, W4, W5, W6, r1, r2, r3, r4, r5, r6, rl, rg⟩ := map_lit (w3.setCell ⟨b, 1, none⟩ (.int .i64 ((p : Int) + 1 + 1)))
  have rl := rl 110 0 (by decide) rfl
  have hsz : (w3.setCell ⟨b, 1, none⟩ (.int .i64 ((p : Int) + 1 + 1))).heap.size = w3.heap.size := by simp [World.setCell]
  rw [hsz] at r1 r2 r3 r4 r5 r6 rl
  have HG := Lib.hid rg
  have hxi : ∀ w, (Instr.index 9 (.string ⟨#[10, 9, 13, 8, 12, 11]⟩) (.int .i64 0)).run Tryz.prog w = .ok (.int .u8 10) w := fun w => by kernel_rfl
  have hcv := str_1 10 (by decide)
  clear hsz rg
  go_wp2
  go_ret2
  exact ⟨rfl, ((K3.move HNE.out (p + 2)).lex).kept HG.out (by simp), grownBy_trans (K3.move HNE.out (p + 2)).grown (grownBy_weak HG.out _)⟩

set_option maxRecDepth 1000000 in
set_option maxHeartbeats 4000000 in
theorem esc_114 (tb : Bool) (b : Nat) (s : ByteArray) (p : Nat) (out : Value) (w : World) (hL : LexAt b s p out w) (hs : s.size ≤ 1099511627776) (R : List UInt8) (hR : s.data.toList.drop p = 92 :: 114 :: R) :
    Calls Tryz.prog 29 #[.pointer (some ⟨b, 0, none⟩), .bool tb] w (Escaped b s (p + 2) out w [13]) := by
  have c1 := fun o => cell_of_block (j := 1) ((Below.heap_alloc w o _ hL.lt).trans hL) rfl
  have f1 := fun o => free_of_block (j := 1) ((Below.heap_alloc w o _ hL.lt).trans hL)
  obtain ⟨hp1, hb1⟩ := byte_at s (p + 1) _ _ (drop_step s p 92 _ hR)
  have hix : ∀ w, (Instr.index 9 (.string s) (.int .i64 ((p : Int) + 1))).run Tryz.prog w = .ok (.int .u8 114) w := str_index s (p + 1) _ hp1 (hb1 hp1)
  obtain ⟨lb, hlb⟩ : ∃ lb, lb = w.heap.size := ⟨_, rfl⟩
  have hne : lb ≠ b := by have := hL.lt; omega
  have HBX := Lib.hid (boxed hL)
  have z1 : (p : Int) + 1 < (s.size : Int) := by omega
  have HNE := Lib.hid hne
  have HR := Lib.hid hR
  clear hL hR hb1 hp1 hne
  go_enter Tryz.func29, Tryz.ntmps29
  go_wp2_with fail
  obtain ⟨k1, k2, k3⟩ := HBX.out
  rw [← hlb] at k2 ⊢
  have K : BoxAt b lb s (p + 1) out w _ := ⟨k1, k2, k3⟩
  generalize ((w.alloc (.cells #[.pointer (some ⟨b, 0, none⟩)] 93)).setCell ⟨b, 1, none⟩ (.int .i64 ((p : Int) + 1))) = w1 at K ⊢
  clear k1 k2 k3 c1 f1 HBX hlb
  have g0 := K.lex.c0
  have g1 : w1.cell? ⟨b, 1, none⟩ = some (.int .i64 ((p : Int) + 1)) := K.lex.c1
  have gb := K.box
  go_quiet (fail)
  have K2 := K.drewN nq
  generalize w1.drewN nq = w2 at K2 ⊢
  clear g0 g1 gb K
  have g0 := K2.lex.c0
  have g1 : w2.cell? ⟨b, 1, none⟩ = some (.int .i64 ((p : Int) + 1)) := K2.lex.c1
  have gb := K2.box
  go_wp2_with fail
  go_quiet (fail)
  have K3 := K2.drewN nq
  generalize w2.drewN nq = w3 at K3 ⊢
  clear g0 g1 gb K2
  have g0 := K3.lex.c0
  have g1 : w3.cell? ⟨b, 1, none⟩ = some (.int .i64 ((p : Int) + 1)) := K3.lex.c1
  have gf := K3.lex.free 1
  have gb := K3.box
  have hmm := @run_makeMap Tryz.prog
  obtain ⟨W1, W2, W3, W4, W5, W6, r1, r2, r3, r4, r5, r6, rl, rg⟩ := map_lit (w3.setCell ⟨b, 1, none⟩ (.int .i64 ((p : Int) + 1 + 1)))
  have rl := rl 114 2 (by decide) rfl
  have hsz : (w3.setCell ⟨b, 1, none⟩ (.int .i64 ((p : Int) + 1 + 1))).heap.size = w3.heap.size := by simp [World.setCell]
  rw [hsz] at r1 r2 r3 r4 r5 r6 rl
  have HG := Lib.hid rg
  have hxi : ∀ w, (Instr.index 9 (.string ⟨#[10, 9, 13, 8, 12, 11]⟩) (.int .i64 2)).run Tryz.prog w = .ok (.int .u8 13) w := fun w => by kernel_rfl
  have hcv := str_1 13 (by decide)
  clear hsz rg
  go_wp2
  go_ret2
  exact ⟨rfl, ((K3.move HNE.out (p + 2)).lex).kept HG.out (by simp), grownBy_trans (K3.move HNE.out (p + 2)).grown (grownBy_weak HG.out _)⟩

set_option maxRecDepth 1000000 in
set_option maxHeartbeats 4000000 in
theorem esc_98 (tb : Bool) (b : Nat) (s : ByteArray) (p : Nat) (out : Value) (w : World) (hL : LexAt b s p out w) (hs : s.size ≤ 1099511627776) (R : List UInt8) (hR : s.data.toList.drop p = 92 :: 98 :: R) :
    Calls Tryz.prog 29 #[.pointer (some ⟨b, 0, none⟩), .bool tb] w (Escaped b s (p + 2) out w [8]) := by
  have c1 := fun o => cell_of_block (j := 1) ((Below.heap_alloc w o _ hL.lt).trans hL) rfl
  have f1 := fun o => free_of_block (j := 1) ((Below.heap_alloc w o _ hL.lt).trans hL)
  obtain ⟨hp1, hb1⟩ := byte_at s (p + 1) _ _ (drop_step s p 92 _ hR)
  have hix : ∀ w, (Instr.index 9 (.string s) (.int .i64 ((p : Int) + 1))).run Tryz.prog w = .ok (.int .u8 98) w := str_index s (p + 1) _ hp1 (hb1 hp1)
  obtain ⟨lb, hlb⟩ : ∃ lb, lb = w.heap.size := ⟨_, rfl⟩
  have hne : lb ≠ b := by have := hL.lt; omega
  have HBX := Lib.hid (boxed hL)
  have z1 : (p : Int) + 1 < (s.size : Int) := by omega
  have HNE := Lib.hid hne
  have HR := Lib.hid hR
  clear hL hR hb1 hp1 hne
  go_enter Tryz.func29, Tryz.ntmps29
  go_wp2_with fail
  obtain ⟨k1, k2, k3⟩ := HBX.out
  rw [← hlb] at k2 ⊢
  have K : BoxAt b lb s (p + 1) out w _ := ⟨k1, k2, k3⟩
  generalize ((w.alloc (.cells #[.pointer (some ⟨b, 0, none⟩)] 93)).setCell ⟨b, 1, none⟩ (.int .i64 ((p : Int) + 1))) = w1 at K ⊢
  clear k1 k2 k3 c1 f1 HBX hlb
  have g0 := K.lex.c0
  have g1 : w1.cell? ⟨b, 1, none⟩ = some (.int .i64 ((p : Int) + 1)) := K.lex.c1
  have gb := K.box
  go_quiet (fail)
  have K2 := K.drewN nq
  generalize w1.drewN nq = w2 at K2 ⊢
  clear g0 g1 gb K
  have g0 := K2.lex.c0
  have g1 : w2.cell? ⟨b, 1, none⟩ = some (.int .i64 ((p : Int) + 1)) := K2.lex.c1
  have gb := K2.box
  go_wp2_with fail
  go_quiet (fail)
  have K3 := K2.drewN nq
  generalize w2.drewN nq = w3 at K3 ⊢
  clear g0 g1 gb K2
  have g0 := K3.lex.c0
  have g1 : w3.cell? ⟨b, 1, none⟩ = some (.int .i64 ((p : Int) + 1)) := K3.lex.c1
  have gf := K3.lex.free 1
  have gb := K3.box
  have hmm := @run_makeMap Tryz.prog
  obtain ⟨W1, W2, W3, W4, W5, W6, r1, r2, r3, r4, r5, r6, rl, rg⟩ := map_lit (w3.setCell ⟨b, 1, none⟩ (.int .i64 ((p : Int) + 1 + 1)))
  have rl := rl 98 3 (by decide) rfl
  have hsz : (w3.setCell ⟨b, 1, none⟩ (.int .i64 ((p : Int) + 1 + 1))).heap.size = w3.heap.size := by simp [World.setCell]
  rw [hsz] at r1 r2 r3 r4 r5 r6 rl
  have HG := Lib.hid rg
  have hxi : ∀ w, (Instr.index 9 (.string ⟨#[10, 9, 13, 8, 12, 11]⟩) (.int .i64 3)).run Tryz.prog w = .ok (.int .u8 8) w := fun w => by kernel_rfl
  have hcv := str_1 8 (by decide)
  clear hsz rg
  go_wp2
  go_ret2
  exact ⟨rfl, ((K3.move HNE.out (p + 2)).lex).kept HG.out (by simp), grownBy_trans (K3.move HNE.out (p + 2)).grown (grownBy_weak HG.out _)⟩

set_option maxRecDepth 1000000 in
set_option maxHeartbeats 4000000 in
theorem esc_102 (tb : Bool) (b : Nat) (s : ByteArray) (p : Nat) (out : Value) (w : World) (hL : LexAt b s p out w) (hs : s.size ≤ 1099511627776) (R : List UInt8) (hR : s.data.toList.drop p = 92 :: 102 :: R) :
    Calls Tryz.prog 29 #[.pointer (some ⟨b, 0, none⟩), .bool tb] w (Escaped b s (p + 2) out w [12]) := by
  have c1 := fun o => cell_of_block (j := 1) ((Below.heap_alloc w o _ hL.lt).trans hL) rfl
  have f1 := fun o => free_of_block (j := 1) ((Below.heap_alloc w o _ hL.lt).trans hL)
  obtain ⟨hp1, hb1⟩ := byte_at s (p + 1) _ _ (drop_step s p 92 _ hR)
  have hix : ∀ w, (Instr.index 9 (.string s) (.int .i64 ((p : Int) + 1))).run Tryz.prog w = .ok (.int .u8 102) w := str_index s (p + 1) _ hp1 (hb1 hp1)
  obtain ⟨lb, hlb⟩ : ∃ lb, lb = w.heap.size := ⟨_, rfl⟩
  have hne : lb ≠ b := by have := hL.lt; omega
  have HBX := Lib.hid (boxed hL)
  have z1 : (p : Int) + 1 < (s.size : Int) := by omega
  have HNE := Lib.hid hne
  have HR := Lib.hid hR
  clear hL hR hb1 hp1 hne
  go_enter Tryz.func29, Tryz.ntmps29
  go_wp2_with fail
  obtain ⟨k1, k2, k3⟩ := HBX.out
  rw [← hlb] at k2 ⊢
  have K : BoxAt b lb s (p + 1) out w _ := ⟨k1, k2, k3⟩
  generalize ((w.alloc (.cells #[.pointer (some ⟨b, 0, none⟩)] 93)).setCell ⟨b, 1, none⟩ (.int .i64 ((p : Int) + 1))) = w1 at K ⊢
  clear k1 k2 k3 c1 f1 HBX hlb
  have g0 := K.lex.c0
  have g1 : w1.cell? ⟨b, 1, none⟩ = some (.int .i64 ((p : Int) + 1)) := K.lex.c1
  have gb := K.box
  go_quiet (fail)
  have K2 := K.drewN nq
  generalize w1.drewN nq = w2 at K2 ⊢
  clear g0 g1 gb K
  have g0 := K2.lex.c0
  have g1 : w2.cell? ⟨b, 1, none⟩ = some (.int .i64 ((p : Int) + 1)) := K2.lex.c1
  have gb := K2.box
  go_wp2_with fail
  go_quiet (fail)
  have K3 := K2.drewN nq
  generalize w2.drewN nq = w3 at K3 ⊢
  clear g0 g1 gb K2
  have g0 := K3.lex.c0
  have g1 : w3.cell? ⟨b, 1, none⟩ = some (.int .i64 ((p : Int) + 1)) := K3.lex.c1
  have gf := K3.lex.free 1
  have gb := K3.box
  have hmm := @run_makeMap Tryz.prog
  obtain ⟨W1, W2, W3, W4, W5, W6, r1, r2, r3, r4, r5, r6, rl, rg⟩ := map_lit (w3.setCell ⟨b, 1, none⟩ (.int .i64 ((p : Int) + 1 + 1)))
  have rl := rl 102 4 (by decide) rfl
  have hsz : (w3.setCell ⟨b, 1, none⟩ (.int .i64 ((p : Int) + 1 + 1))).heap.size = w3.heap.size := by simp [World.setCell]
  rw [hsz] at r1 r2 r3 r4 r5 r6 rl
  have HG := Lib.hid rg
  have hxi : ∀ w, (Instr.index 9 (.string ⟨#[10, 9, 13, 8, 12, 11]⟩) (.int .i64 4)).run Tryz.prog w = .ok (.int .u8 12) w := fun w => by kernel_rfl
  have hcv := str_1 12 (by decide)
  clear hsz rg
  go_wp2
  go_ret2
  exact ⟨rfl, ((K3.move HNE.out (p + 2)).lex).kept HG.out (by simp), grownBy_trans (K3.move HNE.out (p + 2)).grown (grownBy_weak HG.out _)⟩

set_option maxRecDepth 1000000 in
set_option maxHeartbeats 4000000 in
theorem esc_118 (tb : Bool) (b : Nat) (s : ByteArray) (p : Nat) (out : Value) (w : World) (hL : LexAt b s p out w) (hs : s.size ≤ 1099511627776) (R : List UInt8) (hR : s.data.toList.drop p = 92 :: 118 :: R) :
    Calls Tryz.prog 29 #[.pointer (some ⟨b, 0, none⟩), .bool tb] w (Escaped b s (p + 2) out w [11]) := by
  have c1 := fun o => cell_of_block (j := 1) ((Below.heap_alloc w o _ hL.lt).trans hL) rfl
  have f1 := fun o => free_of_block (j := 1) ((Below.heap_alloc w o _ hL.lt).trans hL)
  obtain ⟨hp1, hb1⟩ := byte_at s (p + 1) _ _ (drop_step s p 92 _ hR)
  have hix : ∀ w, (Instr.index 9 (.string s) (.int .i64 ((p : Int) + 1))).run Tryz.prog w = .ok (.int .u8 118) w := str_index s (p + 1) _ hp1 (hb1 hp1)
  obtain ⟨lb, hlb⟩ : ∃ lb, lb = w.heap.size := ⟨_, rfl⟩
  have hne : lb ≠ b := by have := hL.lt; omega
  have HBX := Lib.hid (boxed hL)
  have z1 : (p : Int) + 1 < (s.size : Int) := by omega
  have HNE := Lib.hid hne
  have HR := Lib.hid hR
  clear hL hR hb1 hp1 hne
  go_enter Tryz.func29, Tryz.ntmps29
  go_wp2_with fail
  obtain ⟨k1, k2, k3⟩ := HBX.out
  rw [← hlb] at k2 ⊢
  have K : BoxAt b lb s (p + 1) out w _ := ⟨k1, k2, k3⟩
  generalize ((w.alloc (.cells #[.pointer (some ⟨b, 0, none⟩)] 93)).setCell ⟨b, 1, none⟩ (.int .i64 ((p : Int) + 1))) = w1 at K ⊢
  clear k1 k2 k3 c1 f1 HBX hlb
  have g0 := K.lex.c0
  have g1 : w1.cell? ⟨b, 1, none⟩ = some (.int .i64 ((p : Int) + 1)) := K.lex.c1
  have gb := K.box
  go_quiet (fail)
  have K2 := K.drewN nq
  generalize w1.drewN nq = w2 at K2 ⊢
  clear g0 g1 gb K
  have g0 := K2.lex.c0
  have g1 : w2.cell? ⟨b, 1, none⟩ = some (.int .i64 ((p : Int) + 1)) := K2.lex.c1
  have gb := K2.box
  go_wp2_with fail
  go_quiet (fail)
  have K3 := K2.drewN nq
  generalize w2.drewN nq = w3 at K3 ⊢
  clear g0 g1 gb K2
  have g0 := K3.lex.c0
  have g1 : w3.cell? ⟨b, 1, none⟩ = some (.int .i64 ((p : Int) + 1)) := K3.lex.c1
  have gf := K3.lex.free 1
  have gb := K3.box
  have hmm := @run_makeMap Tryz.prog
  obtain ⟨W1, W2, W3, W4, W5, W6, r1, r2, r3, r4, r5, r6, rl, rg⟩ := map_lit (w3.setCell ⟨b, 1, none⟩ (.int .i64 ((p : Int) + 1 + 1)))
  have rl := rl 118 5 (by decide) rfl
  have hsz : (w3.setCell ⟨b, 1, none⟩ (.int .i64 ((p : Int) + 1 + 1))).heap.size = w3.heap.size := by simp [World.setCell]
  rw [hsz] at r1 r2 r3 r4 r5 r6 rl
  have HG := Lib.hid rg
  have hxi : ∀ w, (Instr.index 9 (.string ⟨#[10, 9, 13, 8, 12, 11]⟩) (.int .i64 5)).run Tryz.prog w = .ok (.int .u8 11) w := fun w => by kernel_rfl
  have hcv := str_1 11 (by decide)
  clear hsz rg
  go_wp2
  go_ret2
  exact ⟨rfl, ((K3.move HNE.out (p + 2)).lex).kept HG.out (by simp), grownBy_trans (K3.move HNE.out (p + 2)).grown (grownBy_weak HG.out _)⟩

end Go.Proofs.YtmfbgoikekmdkaaGreatFmt
