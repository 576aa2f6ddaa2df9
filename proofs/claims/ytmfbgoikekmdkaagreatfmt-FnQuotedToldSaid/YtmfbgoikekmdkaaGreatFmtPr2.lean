/-
  printUnquotedUTF16: its loop's body, the frame in which a round begins ('fr16'), what the rounds keep ('Mid').
-/
import Derived.Test.YtmfbgoikekmdkaaGreatFmtPr1
import Derived.Test.YtmfbgoikekmdkaaGreatFmtEnc
import Derived.Test.YtmfbgoikekmdkaaGreatFmtUtf
namespace Go.Proofs.YtmfbgoikekmdkaaGreatFmt
open Go.RowKit Go.Lib Go.FQ

theorem make4 (w : World) : (Instr.makeSlice 72 (.int .i64 4) (.int .i64 4)).run Tryz.prog w = .ok (.slice (some ⟨w.heap.size, 0, none⟩) 4 4) (w.alloc (.cells #[.int .u8 0, .int .u8 0, .int .u8 0, .int .u8 0] 5)) := by kernel_rfl

/-- The options that the printing of strings reads. -/
structure Opts (asc mini : Bool) (C : Array Value) : Prop where
  feat : C[24]? = some (.int .u64 0)
  limit : C[26]? = some (.int .i64 0)
  mini : C[30]? = some (.bool mini)
  asc : C[31]? = some (.bool asc)
theorem Opts.set {asc mini : Bool} {C : Array Value} (h : Opts asc mini C) (v : Value) : Opts asc mini (C.setIfInBounds 9 v) :=
  ⟨by rw [Array.getElem?_setIfInBounds_ne (by omega)]; exact h.feat, by rw [Array.getElem?_setIfInBounds_ne (by omega)]; exact h.limit,
   by rw [Array.getElem?_setIfInBounds_ne (by omega)]; exact h.mini, by rw [Array.getElem?_setIfInBounds_ne (by omega)]; exact h.asc⟩

/-- The first loop in a code. -/
def firstLoop : Code → Option Code
  | .loop c => some c
  | .seq a b => match firstLoop a with
    | some c => some c
    | none => firstLoop b
  | .block _ c => firstLoop c
  | .scope c => firstLoop c
  | .cond _ a b => match firstLoop a with
    | some c => some c
    | none => firstLoop b
  | _ => none
noncomputable def body16 : Code := ((Tryz.f16.body.bind firstLoop).getD .skip)
noncomputable def inner16 : Code := (firstLoop body16).getD .skip

set_option maxRecDepth 100000 in
/-- The frame of printUnquotedUTF16: b the printer's block, the data in block g (n units), q the quote, f the flags, T the block of 'temp', jv the bytes so far, i the counter; U: whatever. -/
def fr16 (b g n dcap T : Nat) (q f : Int) (jv i : Value) (U : Nat → Value) : Act := ⟨#[.pointer (some ⟨b, 0, none⟩), .slice (some ⟨g, 0, none⟩) n dcap, .int .i32 q, .int .u8 f, U 4, U 5, U 6, U 7, .slice (some ⟨T, 0, none⟩) 4 4, jv, i, .int .i64 n, U 12, .bool false, U 14, U 15, U 16, U 17, U 18, U 19, U 20, U 21, U 22, U 23, U 24, U 25, U 26, U 27, U 28, U 29, U 30, U 31, U 32, U 33, U 34, U 35, U 36, U 37, U 38, U 39, U 40, U 41, U 42, U 43, U 44, U 45, U 46, U 47, U 48, U 49, U 50, U 51, U 52, U 53, U 54, U 55, U 56, U 57, U 58, U 59, U 60, U 61, U 62, U 63, U 64, U 65, U 66, U 67, U 68, U 69, U 70, U 71, U 72, U 73, U 74, U 75, U 76, U 77, U 78, U 79, U 80, U 81, U 82, U 83, U 84, U 85, U 86, U 87, U 88, U 89, U 90, U 91, U 92, U 93, U 94, U 95, U 96, U 97, U 98, U 99, U 100, U 101, U 102, U 103, U 104, U 105, U 106, U 107, U 108, U 109, U 110, U 111, U 112, U 113, U 114, U 115, U 116, U 117, U 118, U 119, U 120, U 121, U 122, U 123, U 124, U 125, U 126, U 127, U 128, U 129, U 130, U 131, U 132, U 133, U 134, U 135, U 136, U 137, U 138, U 139, U 140, U 141, U 142, U 143, U 144, U 145, U 146, U 147, U 148, U 149, U 150, U 151, U 152, U 153, U 154, U 155, U 156, U 157, U 158, U 159, U 160, U 161, U 162, U 163, U 164, U 165, U 166, U 167, U 168, U 169, U 170, U 171, U 172, U 173, U 174, U 175, U 176, U 177, U 178, U 179, U 180, U 181, U 182, U 183, U 184, U 185, U 186, U 187, U 188, U 189, U 190, U 191, U 192, U 193, U 194, U 195, U 196, U 197, U 198, U 199, U 200, U 201, U 202, U 203, U 204, U 205, U 206, U 207, U 208, U 209, U 210, U 211, U 212, U 213, U 214, U 215, U 216, U 217, U 218, U 219, U 220, U 221, U 222, U 223, U 224, U 225, U 226, U 227, U 228, U 229, U 230, U 231, U 232, U 233, U 234, U 235, U 236, U 237, U 238, U 239, U 240, U 241, U 242, U 243, U 244, U 245, U 246, U 247, U 248, U 249, U 250, U 251, U 252, U 253, U 254, U 255, U 256, U 257, U 258, U 259, U 260, U 261, U 262, U 263, U 264, U 265, U 266, U 267, U 268, U 269, U 270, U 271, U 272, U 273, U 274, U 275, U 276, U 277, U 278, U 279, U 280, U 281, U 282, U 283, U 284, U 285, U 286, U 287, U 288, U 289, U 290, U 291, U 292, U 293, U 294, U 295, U 296, U 297, U 298, U 299, U 300, U 301, U 302, U 303, U 304, U 305, U 306, U 307, U 308, U 309, U 310, U 311, U 312, U 313, U 314, U 315, U 316, U 317, U 318, U 319, U 320, U 321, U 322, U 323, U 324, U 325, U 326, U 327, U 328, U 329, U 330, U 331, U 332, U 333, U 334, U 335, U 336, U 337, U 338, U 339, U 340, U 341, U 342, U 343, U 344, U 345, U 346, U 347, U 348, U 349, U 350, U 351, U 352, U 353, U 354, U 355, U 356, U 357, U 358, U 359, U 360, U 361, U 362, U 363, U 364, U 365, U 366, U 367, U 368, U 369, U 370, U 371, U 372, U 373, U 374, U 375, U 376, U 377, U 378, U 379, U 380, U 381, U 382, U 383, U 384, U 385, U 386, U 387, U 388, U 389, U 390, U 391, U 392, U 393, U 394, U 395, U 396, U 397, U 398, U 399, U 400, U 401, U 402, U 403, U 404, U 405, U 406, U 407, U 408, U 409, U 410, U 411, U 412, U 413, U 414, U 415, U 416, U 417, U 418, U 419, U 420, U 421, U 422, U 423, U 424, U 425, U 426, U 427, U 428, U 429, U 430, U 431, U 432, U 433, U 434, U 435, U 436, U 437, U 438, U 439, U 440, U 441, U 442, U 443, U 444, U 445, U 446], []⟩

/-- What the rounds keep, the bytes so far being out. -/
structure Mid (b B g T dcap : Nat) (C : Array Value) (cs : List Nat) (w0 : World) (jv : Value) (out : List UInt8) (w : World) : Prop where
  block : w.heap[b]? = some (.cells C 88 (0, 0))
  data : w.ownsRow B 102 1 (.slice (some ⟨g, 0, none⟩) cs.length dcap) cs.length (u16s cs)
  own : Owns w B jv out
  tmp : ∃ d0 d1 d2 d3, w.heap[T]? = some (.cells #[d0, d1, d2, d3] 5 (0, 0))
  apart : jv.ownBlock ≠ some T
  below : Below b w0 w
  others : OthersKept 5 (some b) w0 w
  bB : b < B
  BT : B ≤ T

section
variable {b B g T dcap : Nat} {C : Array Value} {cs : List Nat} {w0 : World} {jv : Value} {out : List UInt8} {w : World}
theorem Mid.size (h : Mid b B g T dcap C cs w0 jv out w) : B ≤ w.heap.size := by
  obtain ⟨d0, d1, d2, d3, ht⟩ := h.tmp
  have := lt_of_block ht
  have := h.BT
  omega
theorem Mid.jb (h : Mid b B g T dcap C cs w0 jv out w) : jv.ownBlock ≠ some b := h.own.block h.block (not_bytes (by decide))
theorem dataBlock (h : w.ownsRow B 102 1 (.slice (some ⟨g, 0, none⟩) cs.length dcap) cs.length (u16s cs)) : ∃ cur, w.heap[g]? = some (.cells cur 102 (0, 0)) := by
  rcases h.2 with ⟨h, _⟩ | ⟨g', cap, cur, hv, _, hg, _⟩
  · cases h
  · cases hv
    exact ⟨cur, hg⟩
theorem Mid.jg (h : Mid b B g T dcap C cs w0 jv out w) : jv.ownBlock ≠ some g := by
  obtain ⟨cur, hg⟩ := dataBlock h.data
  exact h.own.block hg (not_bytes (by decide))
theorem Mid.alloc (h : Mid b B g T dcap C cs w0 jv out w) (o : Obj) : Mid b B g T dcap C cs w0 jv out (w.alloc o) := by
  obtain ⟨d0, d1, d2, d3, ht⟩ := h.tmp
  have hB := h.size
  have hbB := h.bB
  exact ⟨(Below.heap_alloc _ _ _ (lt_of_block h.block)).trans h.block, h.data.alloc o, h.own.alloc o, ⟨d0, d1, d2, d3, (Below.heap_alloc _ _ _ (lt_of_block ht)).trans ht⟩, h.apart, h.below.alloc (by omega) o, h.others.alloc o, h.bB, h.BT⟩
theorem Mid.app (h : Mid b B g T dcap C cs w0 jv out w) {m : List UInt8} {jv' : Value} {w' : World} (ha : Appended w B jv (out ++ m) jv' w') : Mid b B g T dcap C cs w0 jv' (out ++ m) w' := by
  obtain ⟨d0, d1, d2, d3, ht⟩ := h.tmp
  have hB := h.size
  have hbB := h.bB
  have hgr := ha.grown
  have hTl := lt_of_block ht
  refine ⟨appended_block ha h.block h.jb, h.data.kept hgr (.inr ?_), ha.own, ⟨d0, d1, d2, d3, appended_block ha ht h.apart⟩, ?_, appended_below h.below h.own ha (by omega) hB, appended_others h.others h.own ha, h.bB, h.BT⟩
  · exact fun e => h.jg e.symm
  · rcases ha.place with e | e
    · rw [e]; exact h.apart
    · rw [e]; intro e'; cases e'; omega
theorem Mid.enc (h : Mid b B g T dcap C cs w0 jv out w) {c : Nat} {w' : World} (he : Encoded T c w w') : Mid b B g T dcap C cs w0 jv out w' := by
  obtain ⟨d0, d1, d2, d3, ht⟩ := h.tmp
  obtain ⟨D, hD, hs, _, hgr⟩ := he
  have hB := h.size
  have hbB := h.bB
  have hBT := h.BT
  have hTb : T ≠ b := fun e => by omega
  have hD' : ∃ d0 d1 d2 d3, D = #[d0, d1, d2, d3] := by
    obtain ⟨L⟩ := D
    match L, hs with
    | [a, b, c, d], _ => exact ⟨a, b, c, d, rfl⟩
  obtain ⟨e0, e1, e2, e3, rfl⟩ := hD'
  obtain ⟨cur, hg⟩ := dataBlock h.data
  have hgT : g ≠ T := fun e => by rw [e, ht] at hg; cases hg
  refine ⟨(hgr.block b (lt_of_block h.block) (fun e => hTb (Option.some.inj e).symm)).trans h.block, h.data.kept hgr (.inr (fun e => hgT (Option.some.inj e))), h.own.kept hgr (.inr h.apart), ⟨e0, e1, e2, e3, hD⟩, h.apart, h.below.grown hgr (by omega) (fun k hk => by cases hk; omega), h.others.grown hgr (fun k hk => by cases hk; exact ⟨_, _, ht⟩), h.bB, h.BT⟩
theorem Mid.unit (h : Mid b B g T dcap C cs w0 jv out w) {k : Nat} (hk : k < cs.length) : w.cell? ⟨g, k, none⟩ = some (.int .u16 (cs.getD k 0 : Nat)) := by
  have e := h.data.cellAt k (by simpa using hk)
  rw [e]
  unfold u16s
  simp [hk]
theorem Mid.cellB (h : Mid b B g T dcap C cs w0 jv out w) {j : Nat} {v : Value} (hj : C[j]? = some v) : w.cell? ⟨b, j, none⟩ = some v := cell_of_block h.block hj
end

/-- The invariant of the loop, and what a round lowers. -/
def Inv16 (b B g T dcap : Nat) (q f : Int) (C : Array Value) (asc : Bool) (qn : Nat) (l : List UInt8) (cs : List Nat) (w0 : World) (a : Act) (w : World) : Prop :=
  ∃ (k : Nat) (jv : Value) (U : Nat → Value), k ≤ cs.length ∧ Mid b B g T dcap C cs w0 jv (l ++ outTo asc qn cs k) w ∧ a = fr16 b g cs.length dcap T q f jv (.int .i64 k) U
def mu16 (n : Nat) (a : Act) (_ : World) : Nat := n - (intOf (a.tmps.getD 10 undef)).toNat
end Go.Proofs.YtmfbgoikekmdkaaGreatFmt
