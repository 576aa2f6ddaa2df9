/-
  WALK: the lexer in memory ('LexAt'); (*lexer).rune.
-/
import Derived.Test.YtmfbgoikekmdkaaGreatFmtShelf
import Derived.Test.YtmfbgoikekmdkaaGreatFmtPr1
import Derived.Test.YtmfbgoikekmdkaaGreatFmtEnc
import Derived.Test.YtmfbgoikekmdkaaGreatFmtUtf
import Derived.Deep.RegionHeld3
namespace Go.Proofs.YtmfbgoikekmdkaaGreatFmt
open Go.RowKit Go.Lib Go.FQ

/-- The lexer in block b: over s, at place p, its tokens out; nothing else of it has turned. -/
def LexAt (b : Nat) (s : ByteArray) (p : Nat) (out : Value) (w : World) : Prop :=
  w.heap[b]? = some (.cells #[.string s, .int .i64 p, out, .slice none 0 0, .bool false, .bool false, .slice none 0 0, .bool false, .bool false] 97 (0, 0))

section
variable {b : Nat} {s : ByteArray} {p : Nat} {out : Value} {w : World}
theorem LexAt.c0 (h : LexAt b s p out w) : w.cell? ⟨b, 0, none⟩ = some (.string s) := cell_of_block h rfl
theorem LexAt.c1 (h : LexAt b s p out w) : w.cell? ⟨b, 1, none⟩ = some (.int .i64 p) := cell_of_block h rfl
theorem LexAt.c2 (h : LexAt b s p out w) : w.cell? ⟨b, 2, none⟩ = some out := cell_of_block h rfl
theorem LexAt.c3 (h : LexAt b s p out w) : w.cell? ⟨b, 3, none⟩ = some (.slice none 0 0) := cell_of_block h rfl
theorem LexAt.c4 (h : LexAt b s p out w) : w.cell? ⟨b, 4, none⟩ = some (.bool false) := cell_of_block h rfl
theorem LexAt.c5 (h : LexAt b s p out w) : w.cell? ⟨b, 5, none⟩ = some (.bool false) := cell_of_block h rfl
theorem LexAt.c6 (h : LexAt b s p out w) : w.cell? ⟨b, 6, none⟩ = some (.slice none 0 0) := cell_of_block h rfl
theorem LexAt.free (h : LexAt b s p out w) (j : Nat) : w.frozen? ⟨b, j, none⟩ = false := free_of_block h
theorem LexAt.lt (h : LexAt b s p out w) : b < w.heap.size := lt_of_block h
theorem LexAt.move (h : LexAt b s p out w) (p' : Nat) : LexAt b s p' out (w.setCell ⟨b, 1, none⟩ (.int .i64 p')) := block_setCell h _
theorem LexAt.kept {w' : World} {row : Option Nat} (h : LexAt b s p out w) (hg : w.grownBy w' row) (hr : row ≠ some b) : LexAt b s p out w' := (hg.block b h.lt (fun e => hr e.symm)).trans h
theorem LexAt.drew (h : LexAt b s p out w) : LexAt b s p out w.drew := h
end

theorem grownBy_of_below {w w' : World} (h : Below w.heap.size w w') (row : Option Nat) : w.grownBy w' row := ⟨h.os, h.tape, h.output, h.size, fun k hk _ => h.block k hk⟩
theorem grownBy_weak {w w' : World} (h : w.grownBy w' none) (row : Option Nat) : w.grownBy w' row := ⟨h.os, h.tape, h.output, h.size, fun k hk _ => h.block k hk (by simp)⟩
theorem grownBy_below {w w' : World} {b : Nat} (h : w.grownBy w' (some b)) (hb : b ≤ w.heap.size) : Below b w w' := ⟨h.os, h.tape, h.output, h.size, fun k hk => h.block k (by omega) (fun e => by cases e; omega)⟩

/-- What the decoder gives at a place where the bytes of c stand. -/
theorem decode_at_place (s : ByteArray) (p c : Nat) (R : List UInt8) (hR : s.data.toList.drop p = enc c ++ R) (hsc : Scal c) : Lib.decodeGo (s.extract p s.size) = (c, (enc c).length) := by
  have hp : p < s.size := by
    have := congrArg List.length hR
    have he := enc_pos c
    rw [List.length_drop, List.length_append, len_list] at this
    omega
  unfold Lib.decodeGo
  rw [if_neg (by rw [Lib.ext_size]; omega), decode_list, List.drop_zero, Lib.ext_list, hR, decode_enc c hsc]
theorem encode_str (c : Nat) (hsc : Scal c) : Utf8.encode (c : Int) = ⟨(enc c).toArray⟩ := by
  have hsc' := hsc
  unfold Scal at hsc'
  have hv : Utf8.valid (c : Int) = true := by
    unfold Utf8.valid
    simp only [Bool.or_eq_true, Bool.and_eq_true, decide_eq_true_eq]
    omega
  unfold Utf8.encode
  rw [if_pos hv, Int.toNat_natCast]
  by_cases h1 : c < 128
  · rw [if_pos h1, enc_one h1]
  · rw [if_neg h1]
    by_cases h2 : c < 2048
    · rw [if_pos h2, enc_two (by omega) h2]
    · rw [if_neg h2]
      by_cases h3 : c < 65536
      · rw [if_pos h3, enc_three (by omega) hsc h3]
      · rw [if_neg h3, enc_four (by omega) hsc]
theorem conv_rune (c : Nat) (hsc : Scal c) (W : World) : (convert 21 9 (.int .i32 (c : Int))).run Tryz.prog W = .ok (.string ⟨(enc c).toArray⟩) W := by
  rw [← encode_str c hsc]
  simp [convert, run_underlying Tryz.underlying21, run_underlying Tryz.underlying9, Conv.intToString, Sem.run_pure]

set_option maxRecDepth 1000000 in
set_option maxHeartbeats 2000000 in
theorem rune_any (b : Nat) (s : ByteArray) (p : Nat) (out : Value) (c : Nat) (R : List UInt8) (w : World) (hL : LexAt b s p out w) (hT : Lib.Utf8Tabs 0 1 w) (hs : s.size ≤ 1099511627776)
    (hR : s.data.toList.drop p = enc c ++ R) (hc : c < 65536) (hsc : Scal c) :
    Calls Tryz.prog 28 #[.pointer (some ⟨b, 0, none⟩)] w fun e w' => e = .returned (.string ⟨(enc c).toArray⟩) ∧ Hid (LexAt b s (p + (enc c).length) out w' ∧ w.grownBy w' (some b)) := by
  have h0 := hL.c0
  have h1 := hL.c1
  have hp : p ≤ s.size := by
    have := congrArg List.length hR
    have he := enc_pos c
    rw [List.length_drop, List.length_append, len_list] at this
    omega
  have hdec := decode_at_place s p c R hR hsc
  have he := enc_pos c
  obtain ⟨l, hl⟩ : ∃ l, l = (enc c).length := ⟨_, rfl⟩
  obtain ⟨z, hz⟩ : ∃ z : Int, z = (c : Int) := ⟨_, rfl⟩
  have hD : Calls Tryz.prog 38 #[.string (s.extract p s.size)] w.drew fun e w' => e = .returned (.tuple #[.int .i32 z, .int .i64 l]) ∧ Below w.drew.heap.size w.drew w' := by
    have := Tryz.utf8_DecodeRuneInString (s.extract p s.size) w.drew (Utf8Tabs_below hT (Below.refl _ _).drew)
    rw [hdec] at this
    rw [hz, hl]
    exact this
  have hcv : ∀ W, (convert 21 9 (.int .i32 z)).run Tryz.prog W = .ok (.string ⟨(enc c).toArray⟩) W := by
    intro W
    rw [hz]
    exact conv_rune c hsc W
  rw [← hl] at he
  obtain ⟨hl1, hl4⟩ := he
  have z0 : 0 ≤ z := by omega
  have z1 : z ≤ 65535 := by omega
  have HD := Lib.hid hD
  have HL := Lib.hid hl
  clear hR hc hsc hdec hz hD hl
  go_enter Tryz.func28, Tryz.ntmps28
  go_wp2_with fail
  go_region_held3 (fun w' => w'.cell? ⟨b, 0, none⟩ = some (.string s) ∧ w'.cell? ⟨b, 1, none⟩ = some (.int .i64 p))
    (first
      | go_keep
      | exact ⟨(hb.cell (p := ⟨b, 0, none⟩) hL.lt).trans h0, (hb.cell (p := ⟨b, 1, none⟩) hL.lt).trans h1⟩)
    ((go_at_call 38; refine HD.out.mono ?_; rintro e w1 ⟨rfl, hb⟩))
  have hL1 : LexAt b s p out w1 := (hb.block b hL.lt).trans hL
  have g1 := hL1.c1
  have g5 := hL1.c5
  have gf := hL1.free 1
  clear h0 h1 hL
  go_wp2
  go_ret
  refine ⟨rfl, ?_, ?_⟩
  · rw [← HL.out]
    exact hL1.move (p + l)
  · have hg : w.grownBy w1 (some b) := ⟨hb.os, hb.tape, hb.output, hb.size, fun k hk _ => hb.block k hk⟩
    exact grownBy_trans hg (grownBy_setCell _ _ _ _)
end Go.Proofs.YtmfbgoikekmdkaaGreatFmt
