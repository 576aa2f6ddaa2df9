/-
  printUnquotedUTF16: the rounds at a slash: behind "<" and ahead of "script" it is written behind a backslash.
-/
import Derived.Test.YtmfbgoikekmdkaaGreatFmtPr3
import Derived.Test.YtmfbgoikekmdkaaGreatFmtW1
namespace Go.Proofs.YtmfbgoikekmdkaaGreatFmt
open Go.RowKit Go.Lib Go.FQ

def scr (j : Nat) : Nat := [115, 99, 114, 105, 112, 116].getD j 0
theorem scr_bd (j : Nat) (h : j < 6) : 97 ≤ scr j ∧ scr j ≤ 122 := by
  match j, h with
  | 0, _ => decide
  | 1, _ => decide
  | 2, _ => decide
  | 3, _ => decide
  | 4, _ => decide
  | 5, _ => decide
theorem scr_index (j : Nat) (h : j < 6) : ∀ w, (Instr.index 9 (.string ⟨#[115, 99, 114, 105, 112, 116]⟩) (.int .i64 j)).run Tryz.prog w = .ok (.int .u8 (scr j : Nat)) w := by
  intro w
  exact match j, h with
  | 0, _ => by kernel_rfl
  | 1, _ => by kernel_rfl
  | 2, _ => by kernel_rfl
  | 3, _ => by kernel_rfl
  | 4, _ => by kernel_rfl
  | 5, _ => by kernel_rfl
theorem isScript_iff (cs : List Nat) (k : Nat) (h : k + 7 ≤ cs.length) : isScript (cs.drop (k + 1)) = true ↔ ∀ j, j < 6 → low (cs.getD (k + 1 + j) 0) = scr j := by
  have hg : ∀ j, j < 6 → (cs.drop (k + 1)).getD j 0 = cs.getD (k + 1 + j) 0 := fun j _ => by simp [List.getD]
  unfold isScript
  rw [Bool.and_eq_true, decide_eq_true_eq, beq_iff_eq, List.length_drop]
  constructor
  · rintro ⟨_, e⟩ j hj
    rw [← hg j hj]
    have e2 : (((cs.drop (k + 1)).take 6).map low).getD j 0 = scr j := by rw [e]; rfl
    rw [← e2]
    have hl : j < (cs.drop (k + 1)).length := by rw [List.length_drop]; omega
    simp only [List.getD, List.getElem?_map, List.getElem?_take_of_lt hj, List.getElem?_eq_getElem hl, Option.map_some, Option.getD_some]
  · intro e
    refine ⟨by omega, ?_⟩
    apply List.ext_getElem
    · simp only [List.length_map, List.length_take, List.length_drop, List.length_cons, List.length_nil]; omega
    · intro j h1 h2
      have hj : j < 6 := by simpa using h2
      have hl : j < (cs.drop (k + 1)).length := by rw [List.length_drop]; omega
      have := e j hj
      rw [← hg j hj] at this
      simp only [List.getElem_map, List.getElem_take]
      simp only [List.getD, List.getElem?_eq_getElem hl, Option.getD_some] at this
      rw [this]
      unfold scr
      simp [List.getD, List.getElem?_eq_getElem h2]
theorem em_47y (asc : Bool) (qn : Nat) (cs : List Nat) (k : Nat) (hc : cs.getD k 0 = 47) (h : prevAt cs k = 60) (hs : isScript (cs.drop (k + 1)) = true) : emAt asc qn cs k = [92] ++ [47] := by
  unfold emAt; rw [hc]; show (if prevAt cs k = 60 ∧ isScript (cs.drop (k + 1)) = true then _ else _) = _; rw [if_pos ⟨h, hs⟩]; rfl
theorem em_47n (asc : Bool) (qn : Nat) (cs : List Nat) (k : Nat) (hc : cs.getD k 0 = 47) (h : ¬ (prevAt cs k = 60 ∧ isScript (cs.drop (k + 1)) = true)) : emAt asc qn cs k = [47] := by
  unfold emAt; rw [hc]; show (if prevAt cs k = 60 ∧ isScript (cs.drop (k + 1)) = true then _ else _) = _; rw [if_neg h]

set_option maxRecDepth 100000 in
/-- The frame at the inner loop: mt 'matches', j its counter. -/
def fr16s (b g n dcap T : Nat) (q f : Int) (jv i : Value) (mt : Bool) (j : Nat) (U : Nat → Value) : Act := ⟨#[.pointer (some ⟨b, 0, none⟩), .slice (some ⟨g, 0, none⟩) n dcap, .int .i32 q, .int .u8 f, U 4, U 5, U 6, U 7, .slice (some ⟨T, 0, none⟩) 4 4, jv, i, .int .i64 n, U 12, .bool false, U 14, .string ⟨#[115, 99, 114, 105, 112, 116]⟩, .bool mt, .int .i64 j, U 18, U 19, U 20, U 21, U 22, U 23, U 24, U 25, U 26, U 27, U 28, U 29, U 30, U 31, U 32, U 33, U 34, U 35, U 36, U 37, U 38, U 39, U 40, U 41, U 42, U 43, U 44, U 45, U 46, U 47, U 48, U 49, U 50, U 51, U 52, U 53, U 54, U 55, U 56, U 57, U 58, U 59, U 60, U 61, U 62, U 63, U 64, U 65, U 66, U 67, U 68, U 69, U 70, U 71, U 72, U 73, U 74, U 75, U 76, U 77, U 78, U 79, U 80, U 81, U 82, U 83, U 84, U 85, U 86, U 87, U 88, U 89, U 90, U 91, U 92, U 93, U 94, U 95, U 96, U 97, U 98, U 99, U 100, U 101, U 102, U 103, U 104, U 105, U 106, U 107, U 108, U 109, U 110, U 111, U 112, U 113, U 114, U 115, U 116, U 117, U 118, U 119, U 120, U 121, U 122, U 123, U 124, U 125, U 126, U 127, U 128, U 129, U 130, U 131, U 132, U 133, U 134, U 135, U 136, U 137, U 138, U 139, U 140, U 141, U 142, U 143, U 144, U 145, U 146, U 147, U 148, U 149, U 150, U 151, U 152, U 153, U 154, U 155, U 156, U 157, U 158, U 159, U 160, U 161, U 162, U 163, U 164, U 165, U 166, U 167, U 168, U 169, U 170, U 171, U 172, U 173, U 174, U 175, U 176, U 177, U 178, U 179, U 180, U 181, U 182, U 183, U 184, U 185, U 186, U 187, U 188, U 189, U 190, U 191, U 192, U 193, U 194, U 195, U 196, U 197, U 198, U 199, U 200, U 201, U 202, U 203, U 204, U 205, U 206, U 207, U 208, U 209, U 210, U 211, U 212, U 213, U 214, U 215, U 216, U 217, U 218, U 219, U 220, U 221, U 222, U 223, U 224, U 225, U 226, U 227, U 228, U 229, U 230, U 231, U 232, U 233, U 234, U 235, U 236, U 237, U 238, U 239, U 240, U 241, U 242, U 243, U 244, U 245, U 246, U 247, U 248, U 249, U 250, U 251, U 252, U 253, U 254, U 255, U 256, U 257, U 258, U 259, U 260, U 261, U 262, U 263, U 264, U 265, U 266, U 267, U 268, U 269, U 270, U 271, U 272, U 273, U 274, U 275, U 276, U 277, U 278, U 279, U 280, U 281, U 282, U 283, U 284, U 285, U 286, U 287, U 288, U 289, U 290, U 291, U 292, U 293, U 294, U 295, U 296, U 297, U 298, U 299, U 300, U 301, U 302, U 303, U 304, U 305, U 306, U 307, U 308, U 309, U 310, U 311, U 312, U 313, U 314, U 315, U 316, U 317, U 318, U 319, U 320, U 321, U 322, U 323, U 324, U 325, U 326, U 327, U 328, U 329, U 330, U 331, U 332, U 333, U 334, U 335, U 336, U 337, U 338, U 339, U 340, U 341, U 342, U 343, U 344, U 345, U 346, U 347, U 348, U 349, U 350, U 351, U 352, U 353, U 354, U 355, U 356, U 357, U 358, U 359, U 360, U 361, U 362, U 363, U 364, U 365, U 366, U 367, U 368, U 369, U 370, U 371, U 372, U 373, U 374, U 375, U 376, U 377, U 378, U 379, U 380, U 381, U 382, U 383, U 384, U 385, U 386, U 387, U 388, U 389, U 390, U 391, U 392, U 393, U 394, U 395, U 396, U 397, U 398, U 399, U 400, U 401, U 402, U 403, U 404, U 405, U 406, U 407, U 408, U 409, U 410, U 411, U 412, U 413, U 414, U 415, U 416, U 417, U 418, U 419, U 420, U 421, U 422, U 423, U 424, U 425, U 426, U 427, U 428, U 429, U 430, U 431, U 432, U 433, U 434, U 435, U 436, U 437, U 438, U 439, U 440, U 441, U 442, U 443, U 444, U 445, U 446], []⟩

def InvS (b g n dcap T : Nat) (q f : Int) (jv : Value) (cs : List Nat) (k : Nat) (wr : World) (a : Act) (w : World) : Prop :=
  ∃ (j : Nat) (U : Nat → Value), j ≤ 6 ∧ (∀ i, i < j → low (cs.getD (k + 1 + i) 0) = scr i) ∧ w = wr ∧ a = fr16s b g n dcap T q f jv (.int .i64 ((k : Int) + 1)) true j U
def muS (a : Act) (_ : World) : Nat := 6 - (intOf (a.tmps.getD 17 undef)).toNat

theorem doneS {b g n dcap T : Nat} {q f : Int} {jv : Value} {cs : List Nat} {k j : Nat} {wr : World} {A : Act} (hj : j < 6) (hp : ∀ i, i < j → low (cs.getD (k + 1 + i) 0) = scr i) (hx : low (cs.getD (k + 1 + j) 0) = scr j)
    (hA : A = fr16s b g n dcap T q f jv (.int .i64 ((k : Int) + 1)) true (j + 1) (fun i => A.tmps.getD i undef)) :
    InvS b g n dcap T q f jv cs k wr A wr ∧ muS A wr < 6 - j := by
  constructor
  · refine ⟨j + 1, fun i => A.tmps.getD i undef, by omega, fun i hi => ?_, rfl, hA⟩
    by_cases h : i = j
    · rw [h]; exact hx
    · exact hp i (by omega)
  · rw [hA]
    show 6 - (((j + 1 : Nat) : Int)).toNat < _
    omega

theorem hexit2 {b g n dcap T : Nat} {q f : Int} {jv : Value} {k j : Nat} {wr : World} {Q0 : Exit → Act → World → Prop} (A : Act)
    (hexit : ∀ U', Q0 (.exit 4) (fr16s b g n dcap T q f jv (.int .i64 ((k : Int) + 1)) false j U') wr)
    (hA : A = fr16s b g n dcap T q f jv (.int .i64 ((k : Int) + 1)) false j (fun i => A.tmps.getD i undef)) : Q0 (.exit 4) A wr := by
  rw [hA]; exact hexit _

set_option maxRecDepth 1000000 in
set_option maxHeartbeats 2000000 in
theorem in16_um (b B g T dcap : Nat) (q f : Int) (C : Array Value) (l0 : List UInt8) (cs : List Nat) (w0 : World) (jv : Value) (wr : World) (k j : Nat) (U : Nat → Value) (Q0 : Exit → Act → World → Prop)
    (hM : Mid b B g T dcap C cs w0 jv l0 wr) (hk : k + 7 ≤ cs.length) (hn : cs.length ≤ 16384) (hj : j < 6) (hp : ∀ i, i < j → low (cs.getD (k + 1 + i) 0) = scr i) (h1 : 65 ≤ cs.getD (k + 1 + j) 0 ∧ cs.getD (k + 1 + j) 0 ≤ 90) (hx : low (cs.getD (k + 1 + j) 0) = scr j) :
    Code.wp Tryz.prog inner16 (Exit.then (fun a' w' => InvS b g cs.length dcap T q f jv cs k wr a' w' ∧ muS a' w' < 6 - j) Q0) (fr16s b g cs.length dcap T q f jv (.int .i64 ((k : Int) + 1)) true j U) wr := by
  conv => arg 2; whnf
  have hu := hM.unit (k := k + 1 + j) (by omega)
  have hsx := scr_index j hj
  obtain ⟨hs1, hs2⟩ := scr_bd j hj
  obtain ⟨a, ha⟩ : ∃ a : Int, a = ((cs.getD (k + 1 + j) 0 : Nat) : Int) := ⟨_, rfl⟩
  obtain ⟨s, hs⟩ : ∃ s : Int, s = ((scr j : Nat) : Int) := ⟨_, rfl⟩
  rw [← ha] at hu
  rw [← hs] at hsx
  have hs3 : 97 ≤ s := by omega
  have hs4 : s ≤ 122 := by omega
  have hjz : (j : Int) < 6 := by omega
  have hkz : (k : Int) + 7 ≤ (cs.length : Int) := by omega
  have z1 : 65 ≤ a := by omega
  have z2 : a ≤ 90 := by omega
  have ht : (a + 32 != s) = false := by have hx' := hx; unfold low at hx'; rw [if_pos h1] at hx'; simp; omega
  have HP := Lib.hid hp
  have HX := Lib.hid hx
  clear hp hx hs1 hs2 hs ha h1
  unfold fr16s
  go_wp2
  exact doneS hj HP.out HX.out (by kernel_rfl)

set_option maxRecDepth 1000000 in
set_option maxHeartbeats 2000000 in
theorem in16_ux (b B g T dcap : Nat) (q f : Int) (C : Array Value) (l0 : List UInt8) (cs : List Nat) (w0 : World) (jv : Value) (wr : World) (k j : Nat) (U : Nat → Value) (Q0 : Exit → Act → World → Prop)
    (hM : Mid b B g T dcap C cs w0 jv l0 wr) (hk : k + 7 ≤ cs.length) (hn : cs.length ≤ 16384) (hj : j < 6) (hp : ∀ i, i < j → low (cs.getD (k + 1 + i) 0) = scr i) (h1 : 65 ≤ cs.getD (k + 1 + j) 0 ∧ cs.getD (k + 1 + j) 0 ≤ 90) (hx : low (cs.getD (k + 1 + j) 0) ≠ scr j)
    (hexit : ∀ U', Q0 (.exit 4) (fr16s b g cs.length dcap T q f jv (.int .i64 ((k : Int) + 1)) false j U') wr) :
    Code.wp Tryz.prog inner16 (Exit.then (fun a' w' => InvS b g cs.length dcap T q f jv cs k wr a' w' ∧ muS a' w' < 6 - j) Q0) (fr16s b g cs.length dcap T q f jv (.int .i64 ((k : Int) + 1)) true j U) wr := by
  conv => arg 2; whnf
  have hu := hM.unit (k := k + 1 + j) (by omega)
  have hsx := scr_index j hj
  obtain ⟨hs1, hs2⟩ := scr_bd j hj
  obtain ⟨a, ha⟩ : ∃ a : Int, a = ((cs.getD (k + 1 + j) 0 : Nat) : Int) := ⟨_, rfl⟩
  obtain ⟨s, hs⟩ : ∃ s : Int, s = ((scr j : Nat) : Int) := ⟨_, rfl⟩
  rw [← ha] at hu
  rw [← hs] at hsx
  have hs3 : 97 ≤ s := by omega
  have hs4 : s ≤ 122 := by omega
  have hjz : (j : Int) < 6 := by omega
  have hkz : (k : Int) + 7 ≤ (cs.length : Int) := by omega
  have z1 : 65 ≤ a := by omega
  have z2 : a ≤ 90 := by omega
  have ht : (a + 32 != s) = true := by have hx' := hx; unfold low at hx'; rw [if_pos h1] at hx'; simp; omega
  have HP := Lib.hid hp
  have HX := Lib.hid hx
  clear hp hx hs1 hs2 hs ha h1
  unfold fr16s
  go_wp2
  exact hexit2 _ hexit (by kernel_rfl)

set_option maxRecDepth 1000000 in
set_option maxHeartbeats 2000000 in
theorem in16_lx (b B g T dcap : Nat) (q f : Int) (C : Array Value) (l0 : List UInt8) (cs : List Nat) (w0 : World) (jv : Value) (wr : World) (k j : Nat) (U : Nat → Value) (Q0 : Exit → Act → World → Prop)
    (hM : Mid b B g T dcap C cs w0 jv l0 wr) (hk : k + 7 ≤ cs.length) (hn : cs.length ≤ 16384) (hj : j < 6) (hp : ∀ i, i < j → low (cs.getD (k + 1 + i) 0) = scr i) (h1 : cs.getD (k + 1 + j) 0 < 65) (hx : low (cs.getD (k + 1 + j) 0) ≠ scr j)
    (hexit : ∀ U', Q0 (.exit 4) (fr16s b g cs.length dcap T q f jv (.int .i64 ((k : Int) + 1)) false j U') wr) :
    Code.wp Tryz.prog inner16 (Exit.then (fun a' w' => InvS b g cs.length dcap T q f jv cs k wr a' w' ∧ muS a' w' < 6 - j) Q0) (fr16s b g cs.length dcap T q f jv (.int .i64 ((k : Int) + 1)) true j U) wr := by
  conv => arg 2; whnf
  have hu := hM.unit (k := k + 1 + j) (by omega)
  have hsx := scr_index j hj
  obtain ⟨hs1, hs2⟩ := scr_bd j hj
  obtain ⟨a, ha⟩ : ∃ a : Int, a = ((cs.getD (k + 1 + j) 0 : Nat) : Int) := ⟨_, rfl⟩
  obtain ⟨s, hs⟩ : ∃ s : Int, s = ((scr j : Nat) : Int) := ⟨_, rfl⟩
  rw [← ha] at hu
  rw [← hs] at hsx
  have hs3 : 97 ≤ s := by omega
  have hs4 : s ≤ 122 := by omega
  have hjz : (j : Int) < 6 := by omega
  have hkz : (k : Int) + 7 ≤ (cs.length : Int) := by omega
  have z0 : 0 ≤ a := by omega
  have z1 : a < 65 := by omega
  have ht : (a != s) = true := by have hx' := hx; unfold low at hx'; rw [if_neg (by omega)] at hx'; simp; omega
  have HP := Lib.hid hp
  have HX := Lib.hid hx
  clear hp hx hs1 hs2 hs ha h1
  unfold fr16s
  go_wp2
  exact hexit2 _ hexit (by kernel_rfl)

set_option maxRecDepth 1000000 in
set_option maxHeartbeats 2000000 in
theorem in16_gm (b B g T dcap : Nat) (q f : Int) (C : Array Value) (l0 : List UInt8) (cs : List Nat) (w0 : World) (jv : Value) (wr : World) (k j : Nat) (U : Nat → Value) (Q0 : Exit → Act → World → Prop)
    (hM : Mid b B g T dcap C cs w0 jv l0 wr) (hk : k + 7 ≤ cs.length) (hn : cs.length ≤ 16384) (hj : j < 6) (hp : ∀ i, i < j → low (cs.getD (k + 1 + i) 0) = scr i) (h1 : 90 < cs.getD (k + 1 + j) 0) (hx : low (cs.getD (k + 1 + j) 0) = scr j) :
    Code.wp Tryz.prog inner16 (Exit.then (fun a' w' => InvS b g cs.length dcap T q f jv cs k wr a' w' ∧ muS a' w' < 6 - j) Q0) (fr16s b g cs.length dcap T q f jv (.int .i64 ((k : Int) + 1)) true j U) wr := by
  conv => arg 2; whnf
  have hu := hM.unit (k := k + 1 + j) (by omega)
  have hsx := scr_index j hj
  obtain ⟨hs1, hs2⟩ := scr_bd j hj
  obtain ⟨a, ha⟩ : ∃ a : Int, a = ((cs.getD (k + 1 + j) 0 : Nat) : Int) := ⟨_, rfl⟩
  obtain ⟨s, hs⟩ : ∃ s : Int, s = ((scr j : Nat) : Int) := ⟨_, rfl⟩
  rw [← ha] at hu
  rw [← hs] at hsx
  have hs3 : 97 ≤ s := by omega
  have hs4 : s ≤ 122 := by omega
  have hjz : (j : Int) < 6 := by omega
  have hkz : (k : Int) + 7 ≤ (cs.length : Int) := by omega
  have z1 : 90 < a := by omega
  have z2 : 65 ≤ a := by omega
  have ht : (a != s) = false := by have hx' := hx; unfold low at hx'; rw [if_neg (by omega)] at hx'; simp; omega
  have HP := Lib.hid hp
  have HX := Lib.hid hx
  clear hp hx hs1 hs2 hs ha h1
  unfold fr16s
  go_wp2
  exact doneS hj HP.out HX.out (by kernel_rfl)

set_option maxRecDepth 1000000 in
set_option maxHeartbeats 2000000 in
theorem in16_gx (b B g T dcap : Nat) (q f : Int) (C : Array Value) (l0 : List UInt8) (cs : List Nat) (w0 : World) (jv : Value) (wr : World) (k j : Nat) (U : Nat → Value) (Q0 : Exit → Act → World → Prop)
    (hM : Mid b B g T dcap C cs w0 jv l0 wr) (hk : k + 7 ≤ cs.length) (hn : cs.length ≤ 16384) (hj : j < 6) (hp : ∀ i, i < j → low (cs.getD (k + 1 + i) 0) = scr i) (h1 : 90 < cs.getD (k + 1 + j) 0) (hx : low (cs.getD (k + 1 + j) 0) ≠ scr j)
    (hexit : ∀ U', Q0 (.exit 4) (fr16s b g cs.length dcap T q f jv (.int .i64 ((k : Int) + 1)) false j U') wr) :
    Code.wp Tryz.prog inner16 (Exit.then (fun a' w' => InvS b g cs.length dcap T q f jv cs k wr a' w' ∧ muS a' w' < 6 - j) Q0) (fr16s b g cs.length dcap T q f jv (.int .i64 ((k : Int) + 1)) true j U) wr := by
  conv => arg 2; whnf
  have hu := hM.unit (k := k + 1 + j) (by omega)
  have hsx := scr_index j hj
  obtain ⟨hs1, hs2⟩ := scr_bd j hj
  obtain ⟨a, ha⟩ : ∃ a : Int, a = ((cs.getD (k + 1 + j) 0 : Nat) : Int) := ⟨_, rfl⟩
  obtain ⟨s, hs⟩ : ∃ s : Int, s = ((scr j : Nat) : Int) := ⟨_, rfl⟩
  rw [← ha] at hu
  rw [← hs] at hsx
  have hs3 : 97 ≤ s := by omega
  have hs4 : s ≤ 122 := by omega
  have hjz : (j : Int) < 6 := by omega
  have hkz : (k : Int) + 7 ≤ (cs.length : Int) := by omega
  have z1 : 90 < a := by omega
  have z2 : 65 ≤ a := by omega
  have ht : (a != s) = true := by have hx' := hx; unfold low at hx'; rw [if_neg (by omega)] at hx'; simp; omega
  have HP := Lib.hid hp
  have HX := Lib.hid hx
  clear hp hx hs1 hs2 hs ha h1
  unfold fr16s
  go_wp2
  exact hexit2 _ hexit (by kernel_rfl)

end Go.Proofs.YtmfbgoikekmdkaaGreatFmt

