/-
  PLAIN LEAN, no program in sight: the UTF-8 bytes of a code point below 2^16 that is no surrogate (and of the others that a valid text may hold), that the model's decoder gives the code point back, and the code points ('units') of a valid text.
-/
import Derived.Lib.MapLaws
import Derived.Lib.ValidLaws
import Derived.Lib.DecodeN
namespace Go.FQ
open Go.Lib

/-- a code point that is no surrogate -/
def Scal (c : Nat) : Prop := c < 55296 ∨ (57344 ≤ c ∧ c ≤ 1114111)
/-- its bytes -/
def enc (c : Nat) : List UInt8 := encodeRune (c : Int)

theorem enc_one {c : Nat} (h : c < 128) : enc c = [UInt8.ofNat c] := by
  unfold enc encodeRune
  rw [encodeRuneZ_one (by omega) (by omega)]
  simp
theorem enc_two {c : Nat} (h : 128 ≤ c) (h' : c < 2048) : enc c = [UInt8.ofNat (192 + c / 64), UInt8.ofNat (128 + c % 64)] := by
  unfold enc encodeRune
  rw [encodeRuneZ_two (by omega) (by omega)]
  simp only [List.map_cons, List.map_nil]
  congr 1
theorem enc_three {c : Nat} (h : 2048 ≤ c) (hs : Scal c) (h' : c < 65536) : enc c = [UInt8.ofNat (224 + c / 4096), UInt8.ofNat (128 + c / 64 % 64), UInt8.ofNat (128 + c % 64)] := by
  unfold Scal at hs
  unfold enc encodeRune
  rw [encodeRuneZ_three (by omega)]
  simp only [List.map_cons, List.map_nil]
  congr 1
theorem enc_four {c : Nat} (h : 65536 ≤ c) (hs : Scal c) : enc c = [UInt8.ofNat (240 + c / 262144), UInt8.ofNat (128 + c / 4096 % 64), UInt8.ofNat (128 + c / 64 % 64), UInt8.ofNat (128 + c % 64)] := by
  unfold Scal at hs
  unfold enc encodeRune
  rw [encodeRuneZ_four (by omega) (by omega)]
  simp only [List.map_cons, List.map_nil]
  congr 1

theorem enc_pos (c : Nat) : 1 ≤ (enc c).length ∧ (enc c).length ≤ 4 := by
  have := encodeRuneZ_length (c : Int)
  unfold enc encodeRune
  rw [List.length_map]
  exact this
theorem enc_ne (c : Nat) : enc c ≠ [] := fun h => by have := enc_pos c; rw [h] at this; simp at this

theorem tn (n : Nat) (h : n < 256) : (UInt8.ofNat n).toNat = n := by
  rw [UInt8.toNat_ofNat']; omega

/-- The model's decoder gives the code point back. -/
theorem decode_enc (c : Nat) (hs : Scal c) (r : List UInt8) : decodeL (enc c ++ r) = (c, (enc c).length) := by
  have hs' := hs
  unfold Scal at hs'
  rw [decodeL_N]
  by_cases h1 : c < 128
  · rw [enc_one h1]
    simp only [List.cons_append, List.nil_append, List.getD_cons_zero, List.length_cons, List.length_nil, tn c (by omega)]
    unfold decodeN
    rw [if_pos h1]
  · by_cases h2 : c < 2048
    · rw [enc_two (by omega) h2]
      simp only [List.cons_append, List.nil_append, List.getD_cons_zero, List.getD_cons_succ, List.length_cons, List.length_nil, tn (192 + c / 64) (by omega), tn (128 + c % 64) (by omega)]
      unfold decodeN
      rw [if_neg (by omega), if_pos ⟨by omega, by omega, by omega⟩, if_pos (by omega)]
      congr 1
      omega
    · by_cases h3 : c < 65536
      · rw [enc_three (by omega) hs h3]
        simp only [List.cons_append, List.nil_append, List.getD_cons_zero, List.getD_cons_succ, List.length_cons, List.length_nil, tn (224 + c / 4096) (by omega), tn (128 + c / 64 % 64) (by omega), tn (128 + c % 64) (by omega)]
        unfold decodeN
        rw [if_neg (by omega), if_neg (by omega), if_pos ⟨by omega, ⟨by omega, by omega⟩, by omega, by omega⟩]
        have e : (224 + c / 4096) % 16 * 4096 + (128 + c / 64 % 64) % 64 * 64 + (128 + c % 64) % 64 = c := by omega
        rw [e, if_pos ⟨by omega, by omega⟩]
      · rw [enc_four (by omega) hs]
        simp only [List.cons_append, List.nil_append, List.getD_cons_zero, List.getD_cons_succ, List.length_cons, List.length_nil, tn (240 + c / 262144) (by omega), tn (128 + c / 4096 % 64) (by omega), tn (128 + c / 64 % 64) (by omega), tn (128 + c % 64) (by omega)]
        unfold decodeN
        rw [if_neg (by omega), if_neg (by omega), if_neg (by omega), if_pos ⟨by omega, ⟨by omega, by omega⟩, ⟨by omega, by omega⟩, by omega, by omega⟩]
        have e : (240 + c / 262144) % 8 * 262144 + (128 + c / 4096 % 64) % 64 * 4096 + (128 + c / 64 % 64) % 64 * 64 + (128 + c % 64) % 64 = c := by omega
        rw [e, if_pos ⟨by omega, by omega⟩]

/-- What the decoder gives of valid bytes is no surrogate. -/
theorem decode_scal (l : List UInt8) : Scal (decodeL l).1 := by
  rw [decodeL_N]
  unfold Scal
  rcases decodeN_shape l.length (l.getD 0 0).toNat (l.getD 1 0).toNat (l.getD 2 0).toNat (l.getD 3 0).toNat with ⟨c, e⟩ | ⟨c1, c2, c3, cv, e⟩ | ⟨c1, c2, c3, c4, cv, cs, e⟩ | ⟨c1, c2, c3, c4, c5, cv, cw, e⟩ | e
  all_goals (rw [e]; dsimp only; omega)

/-- The code points of a text. -/
def unitsGo : Nat → List UInt8 → List Nat
  | 0, _ => []
  | n + 1, l => if l = [] then [] else (decodeL l).1 :: unitsGo n (l.drop (decodeL l).2)
def units (l : List UInt8) : List Nat := unitsGo l.length l

theorem unitsGo_scal : ∀ (n : Nat) (l : List UInt8), ∀ c ∈ unitsGo n l, Scal c
  | 0, _ => by simp [unitsGo]
  | n + 1, l => by
    unfold unitsGo
    split
    · simp
    · intro c hc
      rcases List.mem_cons.1 hc with rfl | h
      · exact decode_scal l
      · exact unitsGo_scal n _ c h
theorem units_scal (l : List UInt8) : ∀ c ∈ units l, Scal c := unitsGo_scal _ l

theorem unitsGo_enc : ∀ (n : Nat) (l : List UInt8), l.length ≤ n → validD l = true → (unitsGo n l).flatMap enc = l
  | 0, l, h, _ => by
    have : l = [] := List.eq_nil_of_length_eq_zero (by omega)
    subst this; rfl
  | n + 1, l, h, hv => by
    unfold unitsGo
    by_cases hne : l = []
    · rw [if_pos hne, hne]; rfl
    · rw [if_neg hne, List.flatMap_cons]
      rw [validD_step l hne] at hv
      by_cases hb : (decodeL l).1 = 65533 ∧ (decodeL l).2 = 1
      · rw [if_pos hb] at hv; cases hv
      · rw [if_neg hb] at hv
        have hw := decodeL_width l
        have hl : 0 < l.length := List.length_pos_iff.2 hne
        rw [unitsGo_enc n _ (by rw [List.length_drop]; omega) hv]
        show encodeRune _ ++ _ = _
        rw [encode_decode l hne hb, List.take_append_drop]
/-- A valid text is the bytes of its code points. -/
theorem units_enc (l : List UInt8) (hv : validD l = true) : (units l).flatMap enc = l := unitsGo_enc _ l (Nat.le_refl _) hv

/-- The bytes of code points are valid. -/
theorem valid_enc (c : Nat) (hs : Scal c) (r : List UInt8) : validD (enc c ++ r) = validD r := by
  have hd := decode_enc c hs r
  have hp := enc_pos c
  rw [validD_step _ (by simp [enc_ne]), hd]
  dsimp only
  rw [if_neg, List.drop_left]
  rintro ⟨rfl, h⟩
  rw [enc_three (by omega) hs (by omega)] at h
  simp at h
theorem valid_flat : ∀ (cs : List Nat) (_ : ∀ c ∈ cs, Scal c) (r : List UInt8), validD (cs.flatMap enc ++ r) = validD r
  | [], _, r => rfl
  | c :: cs, h, r => by
    rw [List.flatMap_cons, List.append_assoc, valid_enc c (h c (by simp)), valid_flat cs (fun x hx => h x (by simp [hx]))]
end Go.FQ
