/-
  PLAIN LEAN, no program in sight: what a reader of string and template literals takes for what ('Esc', 'Reads'), and THE LAW: what is written for a text, with its closing quote, is read as that text ('reads_all').
-/
import Derived.Test.YtmfbgoikekmdkaaGreatFmtLaw
namespace Go.FQ
open Go.Lib

/-- Behind a backslash the bytes e, ahead of R, mean u. -/
inductive Esc : List UInt8 → List UInt8 → List UInt8 → Prop
  | letter (x u : UInt8) (R : List UInt8) (h : (x.toNat, u.toNat) ∈ [(110, 10), (114, 13), (98, 8), (102, 12), (118, 11)]) : Esc [x] R [u]
  | zero (R : List UInt8) (h : ∀ d R', R = d :: R' → dig d.toNat = false) : Esc [48] R [0]
  | hex2 (x y : Nat) (R : List UInt8) (hx : x < 16) (hy : y < 16) : Esc [120, hexU x, hexU y] R (enc (16 * x + y))
  | hex4 (x y z v : Nat) (R : List UInt8) (hx : x < 16) (hy : y < 16) (hz : z < 16) (hv : v < 16) (hs : Scal (4096 * x + 256 * y + 16 * z + v)) :
      Esc [117, hexU x, hexU y, hexU z, hexU v] R (enc (4096 * x + 256 * y + 16 * z + v))
  | same (x : UInt8) (R : List UInt8) (h : x.toNat ∈ [92, 47, 39, 34, 96, 36]) : Esc [x] R [x]

/-- What stands behind the opening quote q, with the closing one and nothing behind it, means m. -/
inductive Reads (q : Nat) : List UInt8 → List UInt8 → Prop
  | close (b : UInt8) (hb : b.toNat = q) : Reads q [b] []
  | raw (c : Nat) (R m : List UInt8) (hs : Scal c) (hb : c < 65536) (h1 : c ≠ 92) (h2 : c ≠ q) (h3 : c ≠ 13) (h4 : q ≠ 96 → c ≠ 10)
      (h5 : q = 96 → c = 36 → ∀ d R', R = d :: R' → d.toNat ≠ 123) (h : Reads q R m) : Reads q (enc c ++ R) (enc c ++ m)
  | esc (e R u m : List UInt8) (he : Esc e R u) (h : Reads q R m) : Reads q (92 :: (e ++ R)) (u ++ m)

section
variable {q : Nat} {R m : List UInt8} {c : Nat}
theorem rd_letter (x u : UInt8) (hc : c = u.toNat) (hu : u.toNat < 128) (hm : (x.toNat, u.toNat) ∈ [(110, 10), (114, 13), (98, 8), (102, 12), (118, 11)]) (h : Reads q R m) : Reads q ([92, x] ++ R) (enc c ++ m) := by
  subst hc
  rw [enc_one hu]
  have := Reads.esc [x] R [u] m (Esc.letter x u R hm) h
  simpa using this
theorem rd_same (x : UInt8) (hc : c = x.toNat) (hu : x.toNat < 128) (hm : x.toNat ∈ [92, 47, 39, 34, 96, 36]) (h : Reads q R m) : Reads q ([92, x] ++ R) (enc c ++ m) := by
  subst hc
  rw [enc_one hu]
  have := Reads.esc [x] R [x] m (Esc.same x R hm) h
  simpa using this
theorem rd_zero (hc : c = 0) (hR : ∀ d R', R = d :: R' → dig d.toNat = false) (h : Reads q R m) : Reads q ([92, 48] ++ R) (enc c ++ m) := by
  subst hc
  rw [enc_one (by omega)]
  have := Reads.esc [48] R [0] m (Esc.zero R hR) h
  simpa using this
theorem rd_hex2 (x y : Nat) (hx : x < 16) (hy : y < 16) (hc : c = 16 * x + y) (h : Reads q R m) : Reads q ([92, 120, hexU x, hexU y] ++ R) (enc c ++ m) := by
  subst hc
  have := Reads.esc _ R _ m (Esc.hex2 x y R hx hy) h
  simpa using this
theorem rd_hex4 (x y z v : Nat) (hx : x < 16) (hy : y < 16) (hz : z < 16) (hv : v < 16) (hs : Scal c) (hc : c = 4096 * x + 256 * y + 16 * z + v) (h : Reads q R m) :
    Reads q ([92, 117, hexU x, hexU y, hexU z, hexU v] ++ R) (enc c ++ m) := by
  subst hc
  have := Reads.esc _ R _ m (Esc.hex4 x y z v R hx hy hz hv hs) h
  simpa using this
theorem rd_one (x : UInt8) (hc : c = x.toNat) (hu : x.toNat < 128) (h1 : c ≠ 92) (h2 : c ≠ q) (h3 : c ≠ 13) (h4 : q ≠ 96 → c ≠ 10)
    (h5 : q = 96 → c = 36 → ∀ d R', R = d :: R' → d.toNat ≠ 123) (h : Reads q R m) : Reads q ([x] ++ R) (enc c ++ m) := by
  have hs : Scal c := by unfold Scal; omega
  have := Reads.raw c R m hs (by omega) h1 h2 h3 h4 h5 h
  have e : enc c = [x] := by rw [enc_one (by omega), hc]; simp
  rw [e] at this ⊢
  exact this

/-- What is written for one unit is read as it. -/
theorem em_reads (asc : Bool) (prev : Nat) (rest : List Nat) (hs : Scal c) (hb : c < 65536) (hq : q = 34 ∨ q = 39 ∨ q = 96)
    (hz : dig (rest.headD 0) = false → ∀ d R', R = d :: R' → dig d.toNat = false)
    (hd : rest.headD 0 ≠ 123 → ∀ d R', R = d :: R' → d.toNat ≠ 123) (h : Reads q R m) : Reads q (em asc q prev c rest ++ R) (enc c ++ m) := by
  unfold em
  refine ite_ok (P := fun l => Reads q (l ++ R) (enc c ++ m)) (fun c0 => ?_) (fun c0 => ?_)
  · refine ite_ok (P := fun l => Reads q (l ++ R) (enc c ++ m)) (fun _ => ?_) (fun hg => ?_)
    · exact rd_hex2 0 0 (by omega) (by omega) (by omega) h
    · exact rd_zero c0 (hz (by simpa using hg)) h
  refine ite_ok (P := fun l => Reads q (l ++ R) (enc c ++ m)) (fun c1 => ?_) (fun c1 => ?_)
  · exact rd_hex2 0 7 (by omega) (by omega) (by omega) h
  refine ite_ok (P := fun l => Reads q (l ++ R) (enc c ++ m)) (fun c2 => ?_) (fun c2 => ?_)
  · exact rd_letter 98 8 c2 (by decide) (by decide) h
  refine ite_ok (P := fun l => Reads q (l ++ R) (enc c ++ m)) (fun c3 => ?_) (fun c3 => ?_)
  · exact rd_letter 102 12 c3 (by decide) (by decide) h
  refine ite_ok (P := fun l => Reads q (l ++ R) (enc c ++ m)) (fun c4 => ?_) (fun c4 => ?_)
  · refine ite_ok (P := fun l => Reads q (l ++ R) (enc c ++ m)) (fun hg => ?_) (fun hg => ?_)
    · exact rd_one 10 c4 (by decide) (by omega) (by omega) (by omega) (fun h' => absurd hg h') (fun _ h' => by omega) h
    · exact rd_letter 110 10 c4 (by decide) (by decide) h
  refine ite_ok (P := fun l => Reads q (l ++ R) (enc c ++ m)) (fun c5 => ?_) (fun c5 => ?_)
  · exact rd_letter 114 13 c5 (by decide) (by decide) h
  refine ite_ok (P := fun l => Reads q (l ++ R) (enc c ++ m)) (fun c6 => ?_) (fun c6 => ?_)
  · exact rd_letter 118 11 c6 (by decide) (by decide) h
  refine ite_ok (P := fun l => Reads q (l ++ R) (enc c ++ m)) (fun c7 => ?_) (fun c7 => ?_)
  · exact rd_hex2 1 11 (by omega) (by omega) (by omega) h
  refine ite_ok (P := fun l => Reads q (l ++ R) (enc c ++ m)) (fun c8 => ?_) (fun c8 => ?_)
  · exact rd_same 92 c8 (by decide) (by decide) h
  refine ite_ok (P := fun l => Reads q (l ++ R) (enc c ++ m)) (fun c9 => ?_) (fun c9 => ?_)
  · refine ite_ok (P := fun l => Reads q (l ++ R) (enc c ++ m)) (fun hg => ?_) (fun hg => ?_)
    · exact rd_same 47 c9 (by decide) (by decide) h
    · exact rd_one 47 c9 (by decide) (by omega) (by omega) (by omega) (fun _ => by omega) (fun _ h' => by omega) h
  refine ite_ok (P := fun l => Reads q (l ++ R) (enc c ++ m)) (fun c10 => ?_) (fun c10 => ?_)
  · refine ite_ok (P := fun l => Reads q (l ++ R) (enc c ++ m)) (fun hg => ?_) (fun hg => ?_)
    · exact rd_same 39 c10 (by decide) (by decide) h
    · exact rd_one 39 c10 (by decide) (by omega) (by omega) (by omega) (fun _ => by omega) (fun _ h' => by omega) h
  refine ite_ok (P := fun l => Reads q (l ++ R) (enc c ++ m)) (fun c11 => ?_) (fun c11 => ?_)
  · refine ite_ok (P := fun l => Reads q (l ++ R) (enc c ++ m)) (fun hg => ?_) (fun hg => ?_)
    · exact rd_same 34 c11 (by decide) (by decide) h
    · exact rd_one 34 c11 (by decide) (by omega) (by omega) (by omega) (fun _ => by omega) (fun _ h' => by omega) h
  refine ite_ok (P := fun l => Reads q (l ++ R) (enc c ++ m)) (fun c12 => ?_) (fun c12 => ?_)
  · refine ite_ok (P := fun l => Reads q (l ++ R) (enc c ++ m)) (fun hg => ?_) (fun hg => ?_)
    · exact rd_same 96 c12 (by decide) (by decide) h
    · exact rd_one 96 c12 (by decide) (by omega) (by omega) (by omega) (fun _ => by omega) (fun _ h' => by omega) h
  refine ite_ok (P := fun l => Reads q (l ++ R) (enc c ++ m)) (fun c13 => ?_) (fun c13 => ?_)
  · refine ite_ok (P := fun l => Reads q (l ++ R) (enc c ++ m)) (fun hg => ?_) (fun hg => ?_)
    · exact rd_same 36 c13 (by decide) (by decide) h
    · exact rd_one 36 c13 (by decide) (by omega) (by omega) (by omega) (fun _ => by omega) (fun hq' _ => hd (fun h' => hg ⟨hq', h'⟩)) h
  refine ite_ok (P := fun l => Reads q (l ++ R) (enc c ++ m)) (fun c14 => ?_) (fun c14 => ?_)
  · exact rd_hex4 2 0 2 8 (by omega) (by omega) (by omega) (by omega) hs (by omega) h
  refine ite_ok (P := fun l => Reads q (l ++ R) (enc c ++ m)) (fun c15 => ?_) (fun c15 => ?_)
  · exact rd_hex4 2 0 2 9 (by omega) (by omega) (by omega) (by omega) hs (by omega) h
  refine ite_ok (P := fun l => Reads q (l ++ R) (enc c ++ m)) (fun c16 => ?_) (fun c16 => ?_)
  · exact rd_hex4 15 14 15 15 (by omega) (by omega) (by omega) (by omega) hs (by omega) h
  refine ite_ok (P := fun l => Reads q (l ++ R) (enc c ++ m)) (fun c17 => ?_) (fun c17 => ?_)
  · have e : (UInt8.ofNat c).toNat = c := tn c (by omega)
    exact rd_one _ e.symm (by omega) (by omega) (by omega) (by omega) (fun _ => by omega) (fun _ h' => by omega) h
  refine ite_ok (P := fun l => Reads q (l ++ R) (enc c ++ m)) (fun c18 => ?_) (fun c18 => ?_)
  · exact rd_hex4 _ _ _ _ (by omega) (by omega) (by omega) (by omega) hs (by omega) h
  refine ite_ok (P := fun l => Reads q (l ++ R) (enc c ++ m)) (fun c19 => ?_) (fun c19 => ?_)
  · have c20 : ¬ 255 < c := fun h' => c18 ⟨c19, h'⟩
    exact rd_hex2 _ _ (by omega) (by omega) (by omega) h
  · exact Reads.raw c R m hs hb (by omega) (by omega) (by omega) (fun _ => by omega) (fun _ h' => by omega) h
end

/-- The first byte of what is written for a unit: a digit, or {, only for that. -/
def HeadOk (c : Nat) (l : List UInt8) : Prop := ∀ d t, l = d :: t → (dig d.toNat = true → dig c = true) ∧ (d.toNat = 123 → c = 123)
theorem headOk_cons {c : Nat} {b : UInt8} {l : List UInt8} (h1 : dig b.toNat = true → dig c = true) (h2 : b.toNat = 123 → c = 123) : HeadOk c (b :: l) := by
  intro d t h
  simp only [List.cons.injEq] at h
  obtain ⟨rfl, _⟩ := h
  exact ⟨h1, h2⟩
theorem enc_headOk {c : Nat} (hs : Scal c) (hb : c < 65536) : HeadOk c (enc c) := by
  by_cases h1 : c < 128
  · rw [enc_one h1]
    exact headOk_cons (by rw [tn _ (by omega)]; exact id) (by rw [tn _ (by omega)]; exact id)
  · by_cases h2 : c < 2048
    · rw [enc_two (by omega) h2]
      exact headOk_cons (by rw [tn _ (by omega)]; unfold dig; simp; omega) (by rw [tn _ (by omega)]; omega)
    · rw [enc_three (by omega) hs hb]
      exact headOk_cons (by rw [tn _ (by omega)]; unfold dig; simp; omega) (by rw [tn _ (by omega)]; omega)
theorem em_headOk (asc : Bool) (q prev c : Nat) (rest : List Nat) (hs : Scal c) (hb : c < 65536) : HeadOk c (em asc q prev c rest) := by
  have he := enc_headOk hs hb
  unfold em
  repeat' (refine ite_ok (P := HeadOk c) (fun _ => ?_) (fun _ => ?_))
  all_goals first
    | exact he
    | (refine headOk_cons (fun h => absurd h ?_) (fun h => absurd h ?_) <;> decide)
    | (refine headOk_cons ?_ ?_ <;> (rw [tn _ (by omega)]; exact id))
    | (refine headOk_cons (fun _ => ?_) (fun h => absurd h ?_) <;> first | decide | (rename_i h; rw [h]; decide))

theorem headOk_append {c : Nat} {l : List UInt8} (hne : l ≠ []) (h : HeadOk c l) (r : List UInt8) : HeadOk c (l ++ r) := by
  cases l with
  | nil => exact absurd rfl hne
  | cons b t =>
    intro d t' e
    simp only [List.cons_append, List.cons.injEq] at e
    obtain ⟨rfl, _⟩ := e
    exact h b t rfl

/-- ████ THE LAW: what is written for the units of a text, with the closing quote, is read as the text. -/
theorem reads_from (asc : Bool) (q : Nat) (qb : UInt8) (hqb : qb.toNat = q) (cs : List Nat) (hs : ∀ c ∈ cs, Scal c) (hb : ∀ c ∈ cs, c < 65536) (hq : q = 34 ∨ q = 39 ∨ q = 96) :
    ∀ j k, k + j = cs.length → Reads q (outFrom asc q cs k ++ [qb]) ((cs.drop k).flatMap enc)
  | 0, k, h => by
    have : k = cs.length := by omega
    subst this
    rw [outFrom_end, List.drop_length]
    exact Reads.close qb hqb
  | j + 1, k, h => by
    have hk : k < cs.length := by omega
    have ih := reads_from asc q qb hqb cs hs hb hq j (k + 1) (by omega)
    have hg : cs.getD k 0 = cs[k] := by simp [List.getD, hk]
    rw [outFrom_step asc q cs k hk, List.append_assoc, List.drop_eq_getElem_cons hk, List.flatMap_cons, ← hg]
    have hm : cs.getD k 0 ∈ cs := by rw [hg]; exact List.getElem_mem hk
    have hh : HeadOk ((cs.drop (k + 1)).headD 0) (outFrom asc q cs (k + 1) ++ [qb]) := by
      by_cases hk1 : k + 1 < cs.length
      · have hg1 : cs.getD (k + 1) 0 = cs[k + 1] := by simp [List.getD, hk1]
        have hm1 : cs.getD (k + 1) 0 ∈ cs := by rw [hg1]; exact List.getElem_mem hk1
        have e : (cs.drop (k + 1)).headD 0 = cs.getD (k + 1) 0 := by rw [List.drop_eq_getElem_cons hk1, hg1]; rfl
        rw [e, outFrom_step asc q cs (k + 1) hk1, List.append_assoc]
        have hl := em_length asc q (prevAt cs (k + 1)) (cs.getD (k + 1) 0) (cs.drop (k + 1 + 1))
        exact headOk_append (fun h' => by rw [h'] at hl; simp at hl) (em_headOk asc q _ _ _ (hs _ hm1) (hb _ hm1)) _
      · have e : k + 1 = cs.length := by omega
        rw [e, outFrom_end]
        refine headOk_cons (fun h' => ?_) (fun h' => ?_)
        · unfold dig at h'; simp at h'; omega
        · omega
    refine em_reads asc _ _ (hs _ hm) (hb _ hm) hq (fun hz d R' e => ?_) (fun hz d R' e => ?_) ih
    · have := (hh d R' e).1
      cases hdd : dig d.toNat with
      | false => rfl
      | true => rw [this hdd] at hz; cases hz
    · exact fun e' => hz ((hh d R' e).2 e')

theorem reads_all (asc : Bool) (q : Nat) (qb : UInt8) (hqb : qb.toNat = q) (cs : List Nat) (hs : ∀ c ∈ cs, Scal c) (hb : ∀ c ∈ cs, c < 65536) (hq : q = 34 ∨ q = 39 ∨ q = 96) :
    Reads q (outAll asc q cs ++ [qb]) (cs.flatMap enc) := by
  have := reads_from asc q qb hqb cs hs hb hq cs.length 0 (by omega)
  rwa [outFrom_zero, List.drop_zero] at this

/-- In ASCII alone there is no other byte. -/
theorem outTo_ascii (q : Nat) (cs : List Nat) (hb : ∀ c ∈ cs, c < 65536) : ∀ k, k ≤ cs.length → AscOk (outTo true q cs k)
  | 0, _ => ascOk_nil
  | k + 1, h => by
    rw [outTo_succ]
    intro b hm
    rcases List.mem_append.1 hm with h' | h'
    · exact outTo_ascii q cs hb k (by omega) b h'
    · have hg : cs.getD k 0 = cs[k] := by simp [List.getD, show k < cs.length by omega]
      exact em_ascii q _ _ _ (hb _ (by rw [hg]; exact List.getElem_mem _)) b h'
/-- What is written is valid UTF-8. -/
def ValOk (l : List UInt8) : Prop := ∀ r, validD (l ++ r) = validD r
theorem valOk_ascii {l : List UInt8} (h : AscOk l) : ValOk l := by
  induction l with
  | nil => exact fun _ => rfl
  | cons b t ih =>
    intro r
    rw [List.cons_append, validD_cons b _ (h b (by simp))]
    exact ih (fun x hx => h x (by simp [hx])) r
theorem em_valOk (asc : Bool) (q prev c : Nat) (rest : List Nat) (hs : Scal c) (hb : c < 65536) : ValOk (em asc q prev c rest) := by
  cases asc with
  | true => exact valOk_ascii (em_ascii q prev c rest hb)
  | false =>
    have he : ValOk (enc c) := fun r => valid_enc c hs r
    have h6 : c ≤ 126 → (UInt8.ofNat c).toNat < 128 := fun h => by rw [tn _ (by omega)]; omega
    unfold em
    repeat' (with_reducible refine ite_ok (P := ValOk) (fun _ => ?_) (fun _ => ?_))
    all_goals first
      | (with_reducible exact he)
      | (refine valOk_ascii ?_; (repeat' first | exact ascOk_nil | (refine ascOk_cons ?_ ?_)) <;> first | decide | (exact h6 (by assumption)))
      | (exfalso; rename_i h; simp at h)
theorem outTo_valOk (asc : Bool) (q : Nat) (cs : List Nat) (hs : ∀ c ∈ cs, Scal c) (hb : ∀ c ∈ cs, c < 65536) : ∀ k, k ≤ cs.length → ValOk (outTo asc q cs k)
  | 0, _ => fun _ => rfl
  | k + 1, h => by
    intro r
    have hg : cs.getD k 0 = cs[k] := by simp [List.getD, show k < cs.length by omega]
    have hm : cs.getD k 0 ∈ cs := by rw [hg]; exact List.getElem_mem _
    rw [outTo_succ, List.append_assoc, outTo_valOk asc q cs hs hb k (by omega)]
    exact em_valOk asc q _ _ _ (hs _ hm) (hb _ hm) r
theorem valid_out (asc : Bool) (q : Nat) (qb : UInt8) (hqb : qb.toNat < 128) (cs : List Nat) (hs : ∀ c ∈ cs, Scal c) (hb : ∀ c ∈ cs, c < 65536) : validD (qb :: (outAll asc q cs ++ [qb])) = true := by
  rw [validD_cons _ _ hqb]
  unfold outAll
  rw [outTo_valOk asc q cs hs hb _ (Nat.le_refl _), validD_cons _ _ hqb]
  rfl
end Go.FQ
