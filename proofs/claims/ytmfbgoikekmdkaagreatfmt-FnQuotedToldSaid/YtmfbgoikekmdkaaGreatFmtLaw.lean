/-
  PLAIN LEAN, no program in sight: what the printer writes for each unit of a text ('em'), what a reader of string and template literals takes for what ('Reads'), and THE LAW: what is written for a text is read as that text ('reads_all').
-/
import Derived.Test.YtmfbgoikekmdkaaGreatFmtUnits
namespace Go.FQ
open Go.Lib

def dig (n : Nat) : Bool := decide (48 ≤ n) && decide (n ≤ 57)
def low (a : Nat) : Nat := if 65 ≤ a ∧ a ≤ 90 then a + 32 else a
def isScript (rest : List Nat) : Bool := decide (6 ≤ rest.length) && ((rest.take 6).map low == [115, 99, 114, 105, 112, 116])
def hexU (n : Nat) : UInt8 := if n < 10 then UInt8.ofNat (48 + n) else UInt8.ofNat (55 + n)

/-- What is written for the unit c, ahead of it prev, behind it rest. -/
def em (asc : Bool) (q prev c : Nat) (rest : List Nat) : List UInt8 :=
  if c = 0 then (if dig (rest.headD 0) then [92, 120, 48, 48] else [92, 48])
  else if c = 7 then [92, 120, 48, 55]
  else if c = 8 then [92, 98]
  else if c = 12 then [92, 102]
  else if c = 10 then (if q = 96 then [10] else [92, 110])
  else if c = 13 then [92, 114]
  else if c = 11 then [92, 118]
  else if c = 27 then [92, 120, 49, 66]
  else if c = 92 then [92, 92]
  else if c = 47 then (if prev = 60 ∧ isScript rest = true then [92, 47] else [47])
  else if c = 39 then (if q = 39 then [92, 39] else [39])
  else if c = 34 then (if q = 34 then [92, 34] else [34])
  else if c = 96 then (if q = 96 then [92, 96] else [96])
  else if c = 36 then (if q = 96 ∧ rest.headD 0 = 123 then [92, 36] else [36])
  else if c = 8232 then [92, 117, 50, 48, 50, 56]
  else if c = 8233 then [92, 117, 50, 48, 50, 57]
  else if c = 65279 then [92, 117, 70, 69, 70, 70]
  else if c ≤ 126 then [UInt8.ofNat c]
  else if asc = true ∧ 255 < c then [92, 117, hexU (c / 4096), hexU (c / 256 % 16), hexU (c / 16 % 16), hexU (c % 16)]
  else if asc = true then [92, 120, hexU (c / 16), hexU (c % 16)]
  else enc c

def prevAt (cs : List Nat) (k : Nat) : Nat := if k = 0 then 0 else cs.getD (k - 1) 0
def emAt (asc : Bool) (q : Nat) (cs : List Nat) (k : Nat) : List UInt8 := em asc q (prevAt cs k) (cs.getD k 0) (cs.drop (k + 1))
/-- What is written for the first k units. -/
def outTo (asc : Bool) (q : Nat) (cs : List Nat) (k : Nat) : List UInt8 := (List.range k).flatMap (emAt asc q cs)
/-- .. and for those from k on. -/
def outFrom (asc : Bool) (q : Nat) (cs : List Nat) (k : Nat) : List UInt8 := (List.range' k (cs.length - k)).flatMap (emAt asc q cs)
def outAll (asc : Bool) (q : Nat) (cs : List Nat) : List UInt8 := outTo asc q cs cs.length

theorem outTo_zero (asc : Bool) (q : Nat) (cs : List Nat) : outTo asc q cs 0 = [] := rfl
theorem outTo_succ (asc : Bool) (q : Nat) (cs : List Nat) (k : Nat) : outTo asc q cs (k + 1) = outTo asc q cs k ++ emAt asc q cs k := by
  simp [outTo, List.range_succ]
theorem outFrom_zero (asc : Bool) (q : Nat) (cs : List Nat) : outFrom asc q cs 0 = outAll asc q cs := by
  simp [outFrom, outAll, outTo, List.range_eq_range']
theorem outFrom_step (asc : Bool) (q : Nat) (cs : List Nat) (k : Nat) (h : k < cs.length) : outFrom asc q cs k = emAt asc q cs k ++ outFrom asc q cs (k + 1) := by
  unfold outFrom
  obtain ⟨m, hm⟩ : ∃ m, cs.length - k = m + 1 := ⟨cs.length - k - 1, by omega⟩
  rw [hm, List.range'_succ, List.flatMap_cons, show cs.length - (k + 1) = m by omega]
theorem outFrom_end (asc : Bool) (q : Nat) (cs : List Nat) : outFrom asc q cs cs.length = [] := by simp [outFrom]

theorem hexU_lt {n : Nat} (h : n < 16) : (hexU n).toNat < 128 := by
  unfold hexU
  split <;> rw [tn _ (by omega)] <;> omega

theorem ite_ok {P : List UInt8 → Prop} {c : Prop} [Decidable c] {a b : List UInt8} (h1 : c → P a) (h2 : ¬ c → P b) : P (if c then a else b) := by
  by_cases h : c
  · rw [if_pos h]; exact h1 h
  · rw [if_neg h]; exact h2 h
/-- The lengths: one to six bytes a unit. -/
def LenOk (l : List UInt8) : Prop := 1 ≤ l.length ∧ l.length ≤ 6
theorem em_lenOk (asc : Bool) (q prev c : Nat) (rest : List Nat) : LenOk (em asc q prev c rest) := by
  have he := enc_pos c
  unfold em
  repeat' (refine ite_ok (P := LenOk) (fun _ => ?_) (fun _ => ?_))
  all_goals first | (unfold LenOk; exact ⟨by simp, by simp⟩) | (unfold LenOk; constructor <;> omega)
theorem em_length (asc : Bool) (q prev c : Nat) (rest : List Nat) : 1 ≤ (em asc q prev c rest).length ∧ (em asc q prev c rest).length ≤ 6 := em_lenOk asc q prev c rest
theorem outTo_length (asc : Bool) (q : Nat) (cs : List Nat) : ∀ k, (outTo asc q cs k).length ≤ 6 * k
  | 0 => by simp [outTo]
  | k + 1 => by
    have := outTo_length asc q cs k
    have h := em_length asc q (prevAt cs k) (cs.getD k 0) (cs.drop (k + 1))
    rw [outTo_succ, List.length_append]
    unfold emAt
    omega

/-- In ASCII alone there is no other byte. -/
def AscOk (l : List UInt8) : Prop := ∀ b ∈ l, b.toNat < 128
theorem ascOk_nil : AscOk [] := fun _ h => by cases h
theorem ascOk_cons {b : UInt8} {l : List UInt8} (h : b.toNat < 128) (h' : AscOk l) : AscOk (b :: l) := fun x hx => by
  rcases List.mem_cons.1 hx with rfl | hx
  · exact h
  · exact h' x hx
theorem em_ascii (q prev c : Nat) (rest : List Nat) (hc : c < 65536) : AscOk (em true q prev c rest) := by
  have h1 := hexU_lt (n := c / 4096) (by omega)
  have h2 := hexU_lt (n := c / 256 % 16) (by omega)
  have h3 := hexU_lt (n := c / 16 % 16) (by omega)
  have h4 := hexU_lt (n := c % 16) (by omega)
  have h5 : ¬ 255 < c → (hexU (c / 16)).toNat < 128 := fun h => hexU_lt (n := c / 16) (by omega)
  have h6 : c ≤ 126 → (UInt8.ofNat c).toNat < 128 := fun h => by rw [tn _ (by omega)]; omega
  unfold em
  repeat' (refine ite_ok (P := AscOk) (fun _ => ?_) (fun _ => ?_))
  all_goals repeat' first | exact ascOk_nil | (refine ascOk_cons ?_ ?_)
  all_goals first | decide | assumption | (exact h6 (by assumption)) | (rename_i h _; exact h5 (fun h' => h ⟨rfl, h'⟩)) | (exfalso; rename_i h; exact h rfl)
end Go.FQ
