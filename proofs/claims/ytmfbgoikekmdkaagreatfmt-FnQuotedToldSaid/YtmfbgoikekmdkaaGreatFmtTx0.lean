/-
  (*lexer).text and (*lexer).piece: their loops' bodies, the frames in which a round begins, what the rounds keep.
-/
import Derived.Test.YtmfbgoikekmdkaaGreatFmtEs3
import Derived.Test.YtmfbgoikekmdkaaGreatFmtPr2
import Derived.Test.YtmfbgoikekmdkaaGreatFmtZz
namespace Go.Proofs.YtmfbgoikekmdkaaGreatFmt
open Go.RowKit Go.Lib Go.FQ

noncomputable def bodyT : Code := ((Tryz.f22.body.bind firstLoop).getD .skip)
noncomputable def bodyP : Code := ((Tryz.f23.body.bind firstLoop).getD .skip)

set_option maxRecDepth 100000 in
/-- The frame of text. -/
def frT (b : Nat) (q : Int) (line : Bool) (jv : Value) (eb : Bool) (U : Nat → Value) : Act := ⟨#[.pointer (some ⟨b, 0, none⟩), .int .u8 q, .bool line, U 3, U 4, U 5, jv, .bool eb, U 8, U 9, U 10, U 11, U 12, U 13, U 14, U 15, U 16, U 17, U 18, U 19, U 20, U 21, U 22, U 23, U 24, U 25, U 26, U 27, U 28, U 29, U 30, U 31, U 32, U 33, U 34, U 35, U 36, U 37, U 38, U 39, U 40, U 41, U 42, U 43, U 44, U 45, U 46, U 47, U 48, U 49, U 50, U 51, U 52, U 53, U 54, U 55, U 56, U 57, U 58, U 59, U 60, U 61, U 62, U 63, U 64, U 65, U 66, U 67, U 68, U 69, U 70, U 71, U 72, U 73, U 74, U 75, U 76, U 77, U 78, U 79, U 80, U 81, U 82, U 83, U 84, U 85, U 86, U 87, U 88, U 89, U 90, U 91, U 92, U 93, U 94, U 95, U 96, U 97, U 98, U 99, U 100, U 101, U 102, U 103, U 104, U 105, U 106, U 107, U 108, U 109, U 110, U 111], []⟩
set_option maxRecDepth 100000 in
/-- The frame of piece. -/
def frP (b : Nat) (line : Bool) (jv : Value) (U : Nat → Value) : Act := ⟨#[.pointer (some ⟨b, 0, none⟩), .bool true, .bool line, U 3, U 4, U 5, jv, U 7, U 8, U 9, U 10, U 11, U 12, U 13, U 14, U 15, U 16, U 17, U 18, U 19, U 20, U 21, U 22, U 23, U 24, U 25, U 26, U 27, U 28, U 29, U 30, U 31, U 32, U 33, U 34, U 35, U 36, U 37, U 38, U 39, U 40, U 41, U 42, U 43, U 44, U 45, U 46, U 47, U 48, U 49, U 50, U 51, U 52, U 53, U 54, U 55, U 56, U 57, U 58, U 59, U 60, U 61, U 62, U 63, U 64, U 65, U 66, U 67, U 68, U 69, U 70, U 71, U 72, U 73, U 74, U 75, U 76, U 77, U 78, U 79, U 80, U 81, U 82, U 83, U 84, U 85, U 86, U 87, U 88, U 89, U 90, U 91, U 92, U 93, U 94, U 95, U 96, U 97, U 98, U 99, U 100, U 101, U 102, U 103, U 104, U 105, U 106, U 107, U 108, U 109, U 110, U 111, U 112, U 113, U 114, U 115, U 116, U 117, U 118, U 119, U 120, U 121, U 122, U 123, U 124, U 125, U 126, U 127, U 128, U 129, U 130, U 131, U 132, U 133, U 134, U 135, U 136, U 137, U 138, U 139, U 140, U 141, U 142, U 143, U 144, U 145, U 146, U 147, U 148, U 149, U 150, U 151, U 152, U 153, U 154, U 155, U 156, U 157, U 158, U 159, U 160, U 161, U 162, U 163, U 164, U 165], []⟩

/-- What the rounds keep: the lexer at place p, the bytes so far in the row jv. -/
structure TM (b : Nat) (s : ByteArray) (out : Value) (w0 : World) (jv : Value) (p : Nat) (l : List UInt8) (w : World) : Prop where
  lex : LexAt b s p out w
  own : Owns w w0.heap.size jv l
  grown : w0.grownBy w (some b)

theorem grownBy_owned {w0 w w' : World} {b : Nat} {row : Option Nat} (h : w0.grownBy w (some b)) (hg : w.grownBy w' row) (hr : ∀ k, row = some k → w0.heap.size ≤ k) : w0.grownBy w' (some b) :=
  ⟨hg.os.trans h.os, hg.tape.trans h.tape, hg.output.trans h.output, Nat.le_trans h.size hg.size, fun k hk hn => (hg.block k (Nat.lt_of_lt_of_le hk h.size) (fun e => by have := hr k e.symm; omega)).trans (h.block k hk hn)⟩
section
variable {b : Nat} {s : ByteArray} {out : Value} {w0 : World} {jv : Value} {p : Nat} {l : List UInt8} {w : World}
theorem TM.jb (h : TM b s out w0 jv p l w) : jv.ownBlock ≠ some b := h.own.block h.lex (not_bytes (by decide))
theorem TM.drewN (h : TM b s out w0 jv p l w) (n : Nat) : TM b s out w0 jv p l (w.drewN n) :=
  ⟨h.lex, h.own, grownBy_trans h.grown ⟨rfl, rfl, rfl, Nat.le_refl _, fun _ _ _ => rfl⟩⟩
theorem TM.kept (h : TM b s out w0 jv p l w) {p' : Nat} {w' : World} (hL : LexAt b s p' out w') (hg : w.grownBy w' (some b)) : TM b s out w0 jv p' l w' :=
  ⟨hL, h.own.kept hg (.inr h.jb), grownBy_trans h.grown hg⟩
theorem TM.app (h : TM b s out w0 jv p l w) {m : List UInt8} {jv' : Value} {w' : World} (ha : Appended w w0.heap.size jv (l ++ m) jv' w') : TM b s out w0 jv' p (l ++ m) w' :=
  ⟨appended_block ha h.lex h.jb, ha.own, grownBy_owned h.grown ha.grown (fun k hk => (h.own.lt k hk).1)⟩
end

/-- The first byte of what stands for a character. -/
theorem enc_head (c : Nat) (hs : Scal c) (hb : c < 65536) : ∃ x t, enc c = x :: t ∧ (c < 128 → x.toNat = c) ∧ (128 ≤ c → 128 ≤ x.toNat) := by
  by_cases h1 : c < 128
  · exact ⟨_, _, enc_one h1, fun _ => by simp; omega, fun h => by omega⟩
  by_cases h2 : c < 2048
  · exact ⟨_, _, enc_two (by omega) h2, fun h => by omega, fun _ => by simp; omega⟩
  · exact ⟨_, _, enc_three (by omega) hs hb, fun h => by omega, fun _ => by simp; omega⟩

/-- The invariant of text's loop: m is what the literal means. -/
def InvT (b : Nat) (s : ByteArray) (q : Nat) (line : Bool) (out : Value) (w0 : World) (m : List UInt8) (a : Act) (w : World) : Prop :=
  ∃ (p : Nat) (jv : Value) (eb : Bool) (R l mm : List UInt8) (U : Nat → Value), s.data.toList.drop p = R ∧ Reads q R mm ∧ l ++ mm = m ∧ TM b s out w0 jv p l w ∧ a = frT b q line jv eb U
def InvP (b : Nat) (s : ByteArray) (line : Bool) (out : Value) (w0 : World) (m : List UInt8) (a : Act) (w : World) : Prop :=
  ∃ (p : Nat) (jv : Value) (R l mm : List UInt8) (U : Nat → Value), s.data.toList.drop p = R ∧ Reads 96 R mm ∧ l ++ mm = m ∧ TM b s out w0 jv p l w ∧ a = frP b line jv U
def muL (s : ByteArray) (b : Nat) (_ : Act) (w : World) : Nat := s.size - (RowKit.intOf ((w.cell? ⟨b, 1, none⟩).getD undef)).toNat
theorem muL_of {b : Nat} {s : ByteArray} {p : Nat} {out : Value} {w : World} (h : LexAt b s p out w) (a : Act) : muL s b a w = s.size - p := by
  unfold muL
  rw [h.c1]
  rfl
theorem drop_lt {s : ByteArray} {p : Nat} {x : UInt8} {R : List UInt8} (h : s.data.toList.drop p = x :: R) : p < s.size := (byte_at s p x R h).1
theorem drop_enc {s : ByteArray} {p c : Nat} {R : List UInt8} (h : s.data.toList.drop p = enc c ++ R) : s.data.toList.drop (p + (enc c).length) = R := by
  rw [← List.drop_drop, h, List.drop_left]
theorem drop_esc {s : ByteArray} {p : Nat} {e R : List UInt8} (h : s.data.toList.drop p = 92 :: (e ++ R)) : s.data.toList.drop (p + 1 + e.length) = R := by
  rw [← List.drop_drop, drop_step s p 92 _ h, List.drop_left]
theorem esc_len {e R u : List UInt8} (h : Esc e R u) : u.length ≤ 4 := by
  cases h with
  | letter => simp
  | zero => simp
  | hex2 x y => exact (enc_pos _).2
  | hex4 => exact (enc_pos _).2
  | same => simp
theorem reads_ne {q : Nat} {R m : List UInt8} (h : Reads q R m) : R ≠ [] := by
  cases h with
  | close b hb => simp
  | raw c R m hs hb h1 h2 h3 h4 h5 h => simp [enc_ne]
  | esc e R u m he h => simp
theorem close_T {b : Nat} {s : ByteArray} {q : Nat} {line : Bool} {out : Value} {w0 : World} {m : List UInt8} {p p' : Nat} {jv : Value} {eb : Bool} {l mm R : List UInt8} {w : World} {A : Act} (qi : Int) (hqi : qi = (q : Int))
    (M : TM b s out w0 jv p' l w) (hR : s.data.toList.drop p' = R) (hRd : Reads q R mm) (hl : l ++ mm = m) (hp : p < p') (hps : p < s.size) (hA : A = frT b qi line jv eb (fun i => A.tmps.getD i undef)) :
    InvT b s q line out w0 m A w ∧ muL s b A w < s.size - p := by
  subst hqi
  exact ⟨⟨p', jv, eb, R, l, mm, _, hR, hRd, hl, M, hA⟩, by rw [muL_of M.lex]; omega⟩
theorem close_P {b : Nat} {s : ByteArray} {line : Bool} {out : Value} {w0 : World} {m : List UInt8} {p p' : Nat} {jv : Value} {l mm R : List UInt8} {w : World} {A : Act}
    (M : TM b s out w0 jv p' l w) (hR : s.data.toList.drop p' = R) (hRd : Reads 96 R mm) (hl : l ++ mm = m) (hp : p < p') (hps : p < s.size) (hA : A = frP b line jv (fun i => A.tmps.getD i undef)) :
    InvP b s line out w0 m A w ∧ muL s b A w < s.size - p :=
  ⟨⟨p', jv, R, l, mm, _, hR, hRd, hl, M, hA⟩, by rw [muL_of M.lex]; omega⟩
end Go.Proofs.YtmfbgoikekmdkaaGreatFmt
