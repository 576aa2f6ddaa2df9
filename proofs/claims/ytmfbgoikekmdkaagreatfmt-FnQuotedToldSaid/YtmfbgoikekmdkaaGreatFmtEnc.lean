/-
  WALK: utf8.EncodeRune at a code point of the first plane, from U+007F on, into a row of four bytes.
-/
import Derived.Test.YtmfbgoikekmdkaaGreatFmtApp
import Derived.Test.YtmfbgoikekmdkaaGreatFmtReads
namespace Go.Proofs.YtmfbgoikekmdkaaGreatFmt
open Go.RowKit Go.Lib Go.FQ

/-- Behind the call the row in block T begins with the bytes of c; nothing else has turned. -/
def Encoded (T c : Nat) (w w' : World) : Prop :=
  ∃ D : Array Value, w'.heap[T]? = some (.cells D 5 (0, 0)) ∧ D.size = 4 ∧ D.toList.take (enc c).length = byteCells (enc c) ∧ w.grownBy w' (some T)

theorem grownBy_setCell (w : World) (T j : Nat) (v : Value) : w.grownBy (w.setCell ⟨T, j, none⟩ v) (some T) :=
  ⟨rfl, rfl, rfl, by simp [World.setCell], fun k _ hk => Below.heap_setCell _ _ _ _ (fun e => hk (by rw [e]))⟩
theorem grownBy_trans {a b c : World} {row : Option Nat} (h : a.grownBy b row) (k : b.grownBy c row) : a.grownBy c row :=
  ⟨k.os.trans h.os, k.tape.trans h.tape, k.output.trans h.output, Nat.le_trans h.size k.size, fun i hi hr => (k.block i (Nat.lt_of_lt_of_le hi h.size) hr).trans (h.block i hi hr)⟩

set_option maxRecDepth 100000 in
set_option maxHeartbeats 1000000 in
theorem encode2 (T : Nat) (d0 d1 d2 d3 : Value) (c : Nat) (w : World) (hT : w.heap[T]? = some (.cells #[d0, d1, d2, d3] 5 (0, 0))) (h0 : 128 ≤ c) (h1 : c < 2048) :
    Calls Tryz.prog 37 #[.slice (some ⟨T, 0, none⟩) 4 4, .int .i32 c] w fun e w' => e = .returned (.int .i64 2) ∧ Hid (Encoded T c w w') := by
  have hc0 := cell_of_block (j := 0) hT rfl
  have hc1 := cell_of_block (j := 1) hT rfl
  have hf0 := free_of_block (j := 0) hT
  have hf1 := free_of_block (j := 1) hT
  have HT := Lib.hid hT
  clear hT
  have z0 : (128 : Int) ≤ (c : Int) := by omega
  have z1 : (c : Int) < 2048 := by omega
  go_enter Tryz.func37, Tryz.ntmps37
  go_wp2
  go_ret
  refine ⟨rfl, _, block_setCell (block_setCell HT.out _) _, rfl, ?_, grownBy_trans (grownBy_setCell _ _ _ _) (grownBy_setCell _ _ _ _)⟩
  rw [enc_two h0 h1]
  show [Value.int IntKind.u8 (192 + (c : Int) / 64), Value.int IntKind.u8 (128 + (c : Int) % 64)] = [Value.int .u8 (UInt8.ofNat (192 + c / 64)).toNat, Value.int .u8 (UInt8.ofNat (128 + c % 64)).toNat]
  rw [tn _ (by omega), tn _ (by omega)]
  rfl

theorem take3 (d0 d1 d2 d3 x y z : Value) : (((#[d0, d1, d2, d3].setIfInBounds 0 x).setIfInBounds 1 y).setIfInBounds 2 z).toList.take 3 = [x, y, z] := rfl
theorem cells3 (c : Nat) (h1 : c < 65536) : [Value.int IntKind.u8 (224 + (c : Int) / 4096), Value.int IntKind.u8 (128 + (c : Int) / 64 % 64), Value.int IntKind.u8 (128 + (c : Int) % 64)] =
    byteCells [UInt8.ofNat (224 + c / 4096), UInt8.ofNat (128 + c / 64 % 64), UInt8.ofNat (128 + c % 64)] := by
  unfold byteCells
  simp only [List.map_cons, List.map_nil]
  rw [tn _ (by omega), tn _ (by omega), tn _ (by omega)]
  have e1 : ((224 + c / 4096 : Nat) : Int) = 224 + (c : Int) / 4096 := by omega
  have e2 : ((128 + c / 64 % 64 : Nat) : Int) = 128 + (c : Int) / 64 % 64 := by omega
  have e3 : ((128 + c % 64 : Nat) : Int) = 128 + (c : Int) % 64 := by omega
  rw [e1, e2, e3]

/-- Three bytes are set. -/
def Set3 (T : Nat) (r : Int) (w w' : World) : Prop :=
  w' = ((w.setCell ⟨T, 0, none⟩ (.int .u8 (224 + r / 4096))).setCell ⟨T, 1, none⟩ (.int .u8 (128 + r / 64 % 64))).setCell ⟨T, 2, none⟩ (.int .u8 (128 + r % 64))

set_option maxRecDepth 100000 in
set_option maxHeartbeats 4000000 in
theorem encode3_lo (T : Nat) (c0 c1 c2 : Value) (r : Int) (w : World) (h0 : 2048 ≤ r) (h1 : r < 55296)
    (hc0 : w.cell? ⟨T, 0, none⟩ = some c0) (hc1 : w.cell? ⟨T, 1, none⟩ = some c1) (hc2 : w.cell? ⟨T, 2, none⟩ = some c2)
    (hf0 : w.frozen? ⟨T, 0, none⟩ = false) (hf1 : w.frozen? ⟨T, 1, none⟩ = false) (hf2 : w.frozen? ⟨T, 2, none⟩ = false) :
    Calls Tryz.prog 37 #[.slice (some ⟨T, 0, none⟩) 4 4, .int .i32 r] w fun e w' => e = .returned (.int .i64 3) ∧ Set3 T r w w' := by
  go_enter Tryz.func37, Tryz.ntmps37
  go_wp2
  go_ret
  exact ⟨rfl, rfl⟩

set_option maxRecDepth 100000 in
set_option maxHeartbeats 4000000 in
theorem encode3_hi (T : Nat) (c0 c1 c2 : Value) (r : Int) (w : World) (h0 : 57343 < r) (h1 : r ≤ 65535)
    (hc0 : w.cell? ⟨T, 0, none⟩ = some c0) (hc1 : w.cell? ⟨T, 1, none⟩ = some c1) (hc2 : w.cell? ⟨T, 2, none⟩ = some c2)
    (hf0 : w.frozen? ⟨T, 0, none⟩ = false) (hf1 : w.frozen? ⟨T, 1, none⟩ = false) (hf2 : w.frozen? ⟨T, 2, none⟩ = false) :
    Calls Tryz.prog 37 #[.slice (some ⟨T, 0, none⟩) 4 4, .int .i32 r] w fun e w' => e = .returned (.int .i64 3) ∧ Set3 T r w w' := by
  go_enter Tryz.func37, Tryz.ntmps37
  go_wp2
  go_ret
  exact ⟨rfl, rfl⟩

theorem encode3 (T : Nat) (d0 d1 d2 d3 : Value) (c : Nat) (w : World) (hT : w.heap[T]? = some (.cells #[d0, d1, d2, d3] 5 (0, 0))) (h0 : 2048 ≤ c) (h1 : c < 65536) (hs : Scal c) :
    Calls Tryz.prog 37 #[.slice (some ⟨T, 0, none⟩) 4 4, .int .i32 c] w fun e w' => e = .returned (.int .i64 3) ∧ Hid (Encoded T c w w') := by
  have key : ∀ w', Set3 T c w w' → Encoded T c w w' := by
    rintro w' rfl
    refine ⟨_, block_setCell (block_setCell (block_setCell hT _) _) _, rfl, ?_, grownBy_trans (grownBy_trans (grownBy_setCell _ _ _ _) (grownBy_setCell _ _ _ _)) (grownBy_setCell _ _ _ _)⟩
    rw [enc_three h0 hs h1]
    exact (take3 _ _ _ _ _ _ _).trans (cells3 c h1)
  have hs' := hs
  unfold Scal at hs'
  by_cases hlo : c < 55296
  · refine (encode3_lo T _ _ _ c w (by omega) (by omega) (cell_of_block (j := 0) hT rfl) (cell_of_block (j := 1) hT rfl) (cell_of_block (j := 2) hT rfl) (free_of_block hT) (free_of_block hT) (free_of_block hT)).mono ?_
    rintro e w' ⟨he, hw⟩
    exact ⟨he, key _ hw⟩
  · refine (encode3_hi T _ _ _ c w (by omega) (by omega) (cell_of_block (j := 0) hT rfl) (cell_of_block (j := 1) hT rfl) (cell_of_block (j := 2) hT rfl) (free_of_block hT) (free_of_block hT) (free_of_block hT)).mono ?_
    rintro e w' ⟨he, hw⟩
    exact ⟨he, key _ hw⟩

set_option maxRecDepth 100000 in
set_option maxHeartbeats 1000000 in
theorem encode_any (T : Nat) (d0 d1 d2 d3 : Value) (c : Nat) (w : World) (hT : w.heap[T]? = some (.cells #[d0, d1, d2, d3] 5 (0, 0))) (h1 : c < 65536) (hs : Scal c) :
    Calls Tryz.prog 27 #[.slice (some ⟨T, 0, none⟩) 4 4, .int .i32 c] w fun e w' => e = .returned (.int .i64 (enc c).length) ∧ Hid (Encoded T c w w') := by
  have z1 : (c : Int) < 65536 := by omega
  by_cases ha : c < 128
  · have hc0 := cell_of_block (j := 0) hT rfl
    have hf0 := free_of_block (j := 0) hT
    have HT := Lib.hid hT
    clear hT hs
    have z0 : (c : Int) ≤ 127 := by omega
    have hl : (enc c).length = 1 := by rw [enc_one ha]; rfl
    rw [hl]
    go_enter Tryz.func27, Tryz.ntmps27
    go_wp2
    go_ret
    refine ⟨rfl, _, block_setCell HT.out _, rfl, ?_, grownBy_setCell _ _ _ _⟩
    rw [enc_one ha]
    show [Value.int IntKind.u8 ((c : Int))] = [Value.int .u8 (UInt8.ofNat c).toNat]
    rw [tn _ (by omega)]
  · have z0 : ¬ (c : Int) ≤ 127 := by omega
    by_cases hb : c < 2048
    · have hl : (enc c).length = 2 := by rw [enc_two (by omega) hb]; rfl
      have H2 := encode2 T d0 d1 d2 d3 c w hT (by omega) hb
      rw [hl]
      clear hT hs
      go_enter Tryz.func27, Tryz.ntmps27
      go_wp2_with fail
      refine H2.mono ?_
      rintro e w' ⟨rfl, h⟩
      go_wp2
      go_ret
      exact ⟨rfl, h⟩
    · have hl : (enc c).length = 3 := by rw [enc_three (by omega) hs h1]; rfl
      have H2 := encode3 T d0 d1 d2 d3 c w hT (by omega) h1 hs
      rw [hl]
      clear hT hs
      go_enter Tryz.func27, Tryz.ntmps27
      go_wp2_with fail
      refine H2.mono ?_
      rintro e w' ⟨rfl, h⟩
      go_wp2
      go_ret
      exact ⟨rfl, h⟩
end Go.Proofs.YtmfbgoikekmdkaaGreatFmt
