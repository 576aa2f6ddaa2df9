/-
  printUnquotedUTF16: the rounds at a unit without a rule of its own: as it is, as an escape in ASCII, as its UTF-8 bytes.
-/
import Derived.Test.YtmfbgoikekmdkaaGreatFmtPr3
namespace Go.Proofs.YtmfbgoikekmdkaaGreatFmt
open Go.RowKit Go.Lib Go.FQ

/-- The units with a rule of their own. -/
def specials : List Nat := [0, 7, 8, 12, 10, 13, 11, 27, 92, 47, 39, 34, 96, 36, 8232, 8233, 65279]
theorem em_plain (asc : Bool) (qn : Nat) (cs : List Nat) (k : Nat) (h : ∀ x ∈ specials, cs.getD k 0 ≠ x) :
    emAt asc qn cs k = if cs.getD k 0 ≤ 126 then [UInt8.ofNat (cs.getD k 0)]
      else if asc = true ∧ 255 < cs.getD k 0 then [92, 117, hexU (cs.getD k 0 / 4096), hexU (cs.getD k 0 / 256 % 16), hexU (cs.getD k 0 / 16 % 16), hexU (cs.getD k 0 % 16)]
      else if asc = true then [92, 120, hexU (cs.getD k 0 / 16), hexU (cs.getD k 0 % 16)]
      else enc (cs.getD k 0) := by
  unfold emAt em
  rw [if_neg (h 0 (by decide)), if_neg (h 7 (by decide)), if_neg (h 8 (by decide)), if_neg (h 12 (by decide)), if_neg (h 10 (by decide)), if_neg (h 13 (by decide)), if_neg (h 11 (by decide)), if_neg (h 27 (by decide)), if_neg (h 92 (by decide)),
    if_neg (h 47 (by decide)), if_neg (h 39 (by decide)), if_neg (h 34 (by decide)), if_neg (h 96 (by decide)), if_neg (h 36 (by decide)), if_neg (h 8232 (by decide)), if_neg (h 8233 (by decide)), if_neg (h 65279 (by decide))]
theorem ne_b (c : Int) (n x : Nat) (hc : c = (n : Int)) (h : n ≠ x) : (c == (x : Int)) = false := by
  simp; omega
theorem hex_index (x : Int) (h0 : 0 ≤ x) (h1 : x < 16) (kk : IntKind) : ∀ w, (Instr.index 9 (.string ⟨#[48, 49, 50, 51, 52, 53, 54, 55, 56, 57, 65, 66, 67, 68, 69, 70]⟩) (.int kk x)).run Tryz.prog w = .ok (.int .u8 ((hexU x.toNat).toNat : Int)) w := by
  obtain ⟨n, rfl⟩ : ∃ n : Nat, x = n := ⟨x.toNat, by omega⟩
  have hn : n < 16 := by omega
  intro w
  exact match n, hn with
  | 0, _ => by kernel_rfl
  | 1, _ => by kernel_rfl
  | 2, _ => by kernel_rfl
  | 3, _ => by kernel_rfl
  | 4, _ => by kernel_rfl
  | 5, _ => by kernel_rfl
  | 6, _ => by kernel_rfl
  | 7, _ => by kernel_rfl
  | 8, _ => by kernel_rfl
  | 9, _ => by kernel_rfl
  | 10, _ => by kernel_rfl
  | 11, _ => by kernel_rfl
  | 12, _ => by kernel_rfl
  | 13, _ => by kernel_rfl
  | 14, _ => by kernel_rfl
  | 15, _ => by kernel_rfl

theorem and15 (x : Int) (h0 : 0 ≤ x) (h1 : x < 65536) : bits .and .u16 x 15 = x % 16 := by
  rw [u16_and x 15 h0 h1 (by omega) (by omega)]
  show ((x.toNat &&& 15 : Nat) : Int) = _
  rw [nat_mask4]
  omega

theorem Mid.drew {b B g T dcap : Nat} {C : Array Value} {cs : List Nat} {w0 : World} {jv : Value} {out : List UInt8} {w : World} (h : Mid b B g T dcap C cs w0 jv out w) : Mid b B g T dcap C cs w0 jv out w.drew :=
  ⟨h.block, h.data, h.own, h.tmp, h.apart, h.below.drew, h.others.drew, h.bB, h.BT⟩
theorem add_zero' (b j : Nat) : (⟨b, 0, none⟩ : Addr).add j = ⟨b, j, none⟩ := by unfold Addr.add; split <;> simp_all
theorem new_row (w : World) (L : List UInt8) (A : Array Value) (hA : A.toList = byteCells L) : ∀ j u, (byteCells L)[j]? = some u → ((w.alloc (.cells A 5)).drew).cell? ((⟨w.heap.size, 0, none⟩ : Addr).add j) = some u := by
  intro j u hj
  have e : A[j]? = some u := by rw [← hA] at hj; simpa using hj
  rw [add_zero']
  exact cell_of_block (w := w.alloc (.cells A 5)) (heap_alloc_new w _) e
theorem new_one (w : World) (c : Int) (h0 : 0 ≤ c) (h1 : c < 256) : ∀ j u, (byteCells [UInt8.ofNat c.toNat])[j]? = some u → (w.alloc (.cells #[.int .u8 c] 5)).cell? ((⟨w.heap.size, 0, none⟩ : Addr).add j) = some u := by
  have h := new1 w c.toNat (by omega)
  rw [show ((c.toNat : Nat) : Int) = c by omega] at h
  exact h
theorem enc_row {T c : Nat} {w w' : World} (h : Encoded T c w w') : ∀ j u, (byteCells (enc c))[j]? = some u → w'.cell? ((⟨T, 0, none⟩ : Addr).add j) = some u := by
  obtain ⟨D, hD, _, ht, _⟩ := h
  intro j u hj
  rw [← ht, List.getElem?_take] at hj
  split at hj
  · rw [add_zero']
    exact cell_of_block hD (by simpa using hj)
  · cases hj

set_option maxRecDepth 1000000 in
set_option maxHeartbeats 2000000 in
theorem c16_lo (b B g T dcap : Nat) (q f : Int) (C : Array Value) (asc : Bool) (qn : Nat) (l : List UInt8) (cs : List Nat) (w0 : World) (jv : Value) (wr : World) (k : Nat) (U : Nat → Value) (Q0 : Exit → Act → World → Prop)
    (hM : Mid b B g T dcap C cs w0 jv (l ++ outTo asc qn cs k) wr) (hk : k < cs.length) (hl : l.length ≤ 16384) (hn : cs.length ≤ 16384)
    (hp : ∀ x ∈ specials, cs.getD k 0 ≠ x) (h1 : cs.getD k 0 ≤ 126) :
    Code.wp Tryz.prog body16 (Exit.then (fun a' w' => Inv16 b B g T dcap q f C asc qn l cs w0 a' w' ∧ mu16 cs.length a' w' < cs.length - k) Q0) (fr16 b g cs.length dcap T q f jv (.int .i64 k) U) wr := by
  conv => arg 2; whnf
  have hu := hM.unit hk
  have hol := outTo_length asc qn cs k
  obtain ⟨c, hc⟩ : ∃ c : Int, c = ((cs.getD k 0 : Nat) : Int) := ⟨_, rfl⟩
  rw [← hc] at hu
  have z0 : 0 ≤ c := by omega
  have z1 : c ≤ 126 := by omega
  have s0 := ne_b c _ 0 hc (hp 0 (by decide))
  have s7 := ne_b c _ 7 hc (hp 7 (by decide))
  have s8 := ne_b c _ 8 hc (hp 8 (by decide))
  have s12 := ne_b c _ 12 hc (hp 12 (by decide))
  have s10 := ne_b c _ 10 hc (hp 10 (by decide))
  have s13 := ne_b c _ 13 hc (hp 13 (by decide))
  have s11 := ne_b c _ 11 hc (hp 11 (by decide))
  have s27 := ne_b c _ 27 hc (hp 27 (by decide))
  have s92 := ne_b c _ 92 hc (hp 92 (by decide))
  have s47 := ne_b c _ 47 hc (hp 47 (by decide))
  have s39 := ne_b c _ 39 hc (hp 39 (by decide))
  have s34 := ne_b c _ 34 hc (hp 34 (by decide))
  have s96 := ne_b c _ 96 hc (hp 96 (by decide))
  have s36 := ne_b c _ 36 hc (hp 36 (by decide))
  have hem : emAt asc qn cs k = [UInt8.ofNat c.toNat] := by rw [em_plain asc qn cs k hp, if_pos h1, hc]; rfl
  have HEM := Lib.hid hem
  clear hc hp h1 hem
  unfold fr16
  go_wp2_with (first
    | (refine wpList_app_row rfl (.tmp 99) (.tmp 102) rfl B jv (l ++ outTo asc qn cs k) rfl (hM.alloc _).own ⟨wr.heap.size, 0, none⟩ [UInt8.ofNat c.toNat] 1 1 rfl rfl (new_one wr c (by omega) (by omega)) (len2 _ _ 1 k hl (by omega) hol (by decide)) (hM.alloc _).size ?_; intro ao n c w1 happ))
  exact done16 hk ((hM.alloc _).app happ) HEM.out (by kernel_rfl)

set_option maxRecDepth 1000000 in
set_option maxHeartbeats 2000000 in
theorem c16_ulo (b B g T dcap : Nat) (q f : Int) (C : Array Value) (mini : Bool) (qn : Nat) (l : List UInt8) (cs : List Nat) (w0 : World) (jv : Value) (wr : World) (k : Nat) (U : Nat → Value) (Q0 : Exit → Act → World → Prop)
    (hM : Mid b B g T dcap C cs w0 jv (l ++ outTo false qn cs k) wr) (hO : Opts false mini C) (hk : k < cs.length) (hl : l.length ≤ 16384) (hn : cs.length ≤ 16384)
    (hp : ∀ x ∈ specials, cs.getD k 0 ≠ x) (h1 : 126 < cs.getD k 0) (h2 : cs.getD k 0 < 55296) :
    Code.wp Tryz.prog body16 (Exit.then (fun a' w' => Inv16 b B g T dcap q f C false qn l cs w0 a' w' ∧ mu16 cs.length a' w' < cs.length - k) Q0) (fr16 b g cs.length dcap T q f jv (.int .i64 k) U) wr := by
  conv => arg 2; whnf
  have hu := hM.unit hk
  have hol := outTo_length false qn cs k
  obtain ⟨c, hc⟩ : ∃ c : Int, c = ((cs.getD k 0 : Nat) : Int) := ⟨_, rfl⟩
  rw [← hc] at hu
  have z1 : 126 < c := by omega
  have z2 : c < 55296 := by omega
  have s8232 := ne_b c _ 8232 hc (hp 8232 (by decide))
  have s8233 := ne_b c _ 8233 hc (hp 8233 (by decide))
  have ha := hM.cellB hO.asc
  obtain ⟨d0, d1, d2, d3, hT⟩ := hM.tmp
  obtain ⟨m, hm⟩ : ∃ m, m = cs.getD k 0 := ⟨_, rfl⟩
  have hem : emAt false qn cs k = enc m := by
    rw [em_plain false qn cs k hp, if_neg (by omega), if_neg (by simp), if_neg (by simp), hm]
  have hE : Calls Tryz.prog 27 #[.slice (some ⟨T, 0, none⟩) 4 4, .int .i32 c] wr fun e w' => e = .returned (.int .i64 (enc m).length) ∧ Hid (Encoded T m wr w') := by
    rw [hc, ← hm]
    exact encode_any T d0 d1 d2 d3 m wr hT (by omega) (by rw [hm]; exact Or.inl h2)
  have hlen := enc_pos m
  obtain ⟨L, hL⟩ : ∃ L, L = (enc m).length := ⟨_, rfl⟩
  rw [← hL] at hE hlen
  obtain ⟨hL1, hL4⟩ := hlen
  have hLz : (L : Int) ≤ 4 := by omega
  have HEM := Lib.hid hem
  have HE := Lib.hid hE
  have HL := Lib.hid hL
  clear hc hp h1 h2 hem hE hm hT hL
  unfold fr16
  go_wp2_with (first
    | (go_at_call 27; refine HE.out.mono ?_; rintro e w2 ⟨rfl, henc⟩; have hM2 := hM.enc henc.out)
    | (refine wpList_app_row rfl (.tmp 91) (.tmp 94) rfl B jv (l ++ outTo false qn cs k) rfl hM2.own ⟨T, 0, none⟩ (enc m) L 4 rfl HL.out.symm (enc_row henc.out) (len2 _ _ L k hl (by omega) hol (by omega)) hM2.size ?_; intro ao n c w1 happ))
  exact done16 hk (hM2.app happ) HEM.out (by kernel_rfl)

set_option maxRecDepth 1000000 in
set_option maxHeartbeats 2000000 in
theorem c16_uhi (b B g T dcap : Nat) (q f : Int) (C : Array Value) (mini : Bool) (qn : Nat) (l : List UInt8) (cs : List Nat) (w0 : World) (jv : Value) (wr : World) (k : Nat) (U : Nat → Value) (Q0 : Exit → Act → World → Prop)
    (hM : Mid b B g T dcap C cs w0 jv (l ++ outTo false qn cs k) wr) (hO : Opts false mini C) (hk : k < cs.length) (hl : l.length ≤ 16384) (hn : cs.length ≤ 16384)
    (hp : ∀ x ∈ specials, cs.getD k 0 ≠ x) (h1 : 57343 < cs.getD k 0) (h2 : cs.getD k 0 < 65536) :
    Code.wp Tryz.prog body16 (Exit.then (fun a' w' => Inv16 b B g T dcap q f C false qn l cs w0 a' w' ∧ mu16 cs.length a' w' < cs.length - k) Q0) (fr16 b g cs.length dcap T q f jv (.int .i64 k) U) wr := by
  conv => arg 2; whnf
  have hu := hM.unit hk
  have hol := outTo_length false qn cs k
  obtain ⟨c, hc⟩ : ∃ c : Int, c = ((cs.getD k 0 : Nat) : Int) := ⟨_, rfl⟩
  rw [← hc] at hu
  have z1 : 57343 < c := by omega
  have z2 : c < 65536 := by omega
  have s65279 := ne_b c _ 65279 hc (hp 65279 (by decide))
  have ha := hM.cellB hO.asc
  obtain ⟨d0, d1, d2, d3, hT⟩ := hM.tmp
  obtain ⟨m, hm⟩ : ∃ m, m = cs.getD k 0 := ⟨_, rfl⟩
  have hem : emAt false qn cs k = enc m := by
    rw [em_plain false qn cs k hp, if_neg (by omega), if_neg (by simp), if_neg (by simp), hm]
  have hE : Calls Tryz.prog 27 #[.slice (some ⟨T, 0, none⟩) 4 4, .int .i32 c] wr fun e w' => e = .returned (.int .i64 (enc m).length) ∧ Hid (Encoded T m wr w') := by
    rw [hc, ← hm]
    exact encode_any T d0 d1 d2 d3 m wr hT (by omega) (by rw [hm]; exact Or.inr ⟨by omega, by omega⟩)
  have hlen := enc_pos m
  obtain ⟨L, hL⟩ : ∃ L, L = (enc m).length := ⟨_, rfl⟩
  rw [← hL] at hE hlen
  obtain ⟨hL1, hL4⟩ := hlen
  have hLz : (L : Int) ≤ 4 := by omega
  have HEM := Lib.hid hem
  have HE := Lib.hid hE
  have HL := Lib.hid hL
  clear hc hp h1 h2 hem hE hm hT hL
  unfold fr16
  go_wp2_with (first
    | (go_at_call 27; refine HE.out.mono ?_; rintro e w2 ⟨rfl, henc⟩; have hM2 := hM.enc henc.out)
    | (refine wpList_app_row rfl (.tmp 91) (.tmp 94) rfl B jv (l ++ outTo false qn cs k) rfl hM2.own ⟨T, 0, none⟩ (enc m) L 4 rfl HL.out.symm (enc_row henc.out) (len2 _ _ L k hl (by omega) hol (by omega)) hM2.size ?_; intro ao n c w1 happ))
  exact done16 hk (hM2.app happ) HEM.out (by kernel_rfl)

end Go.Proofs.YtmfbgoikekmdkaaGreatFmt
