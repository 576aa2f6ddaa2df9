/-
  (*lexer).piece: its rounds.
-/
import Derived.Test.YtmfbgoikekmdkaaGreatFmtTx0
namespace Go.Proofs.YtmfbgoikekmdkaaGreatFmt
open Go.RowKit Go.Lib Go.FQ

set_option maxRecDepth 1000000 in
set_option maxHeartbeats 4000000 in
theorem p_raw (b : Nat) (s : ByteArray) (line : Bool) (out : Value) (w0 : World) (m : List UInt8) (p : Nat) (jv : Value) (l mm R : List UInt8) (U : Nat → Value) (w : World) (Q0 : Exit → Act → World → Prop) (hs : s.size ≤ 1099511627776) (hT : Lib.Utf8Tabs 0 1 w0) (hB1 : 1 < b) (M : TM b s out w0 jv p l w) (hls : l.length ≤ 100000000000) (c : Nat) (hR : s.data.toList.drop p = enc c ++ R) (hsc : Scal c) (hb : c < 65536) (h1 : c ≠ 92) (h2 : c ≠ 96) (h3 : c ≠ 13) (h4 : c ≠ 36) (hRd : Reads 96 R mm) (hl : l ++ (enc c ++ mm) = m) :
    Code.wp Tryz.prog bodyP (Exit.then (fun a' w' => InvP b s line out w0 m a' w' ∧ muL s b a' w' < s.size - p) Q0) (frP b line jv U) w := by
  conv => arg 2; whnf
  obtain ⟨x, t, hx, hx1, hx2⟩ := enc_head c hsc hb
  have hR' : s.data.toList.drop p = x :: (t ++ R) := by rw [hR, hx]; rfl
  obtain ⟨hp, hbx⟩ := byte_at s p x _ hR'
  have hix0 := str_index s p x hp (hbx hp)
  obtain ⟨c0, hc0⟩ : ∃ c0 : Int, c0 = (x.toNat : Int) := ⟨_, rfl⟩
  have hix : ∀ w, (Instr.index 9 (.string s) (.int .i64 (p : Int))).run Tryz.prog w = .ok (.int .u8 c0) w := by rw [hc0]; exact hix0
  have b92 : (c0 == 92) = false := by simp; omega
  have b96 : (c0 == 96) = false := by simp; omega
  have b13 : (c0 == 13) = false := by simp; omega
  have b36 : (c0 == 36) = false := by simp; omega
  have z1 : (p : Int) < (s.size : Int) := by omega
  have HR := Lib.hid hR
  have HFIN := Lib.hid (And.intro hRd hl)
  have HC := Lib.hid (And.intro hb (And.intro hsc hls))
  have HT := Lib.hid (And.intro hT hB1)
  clear hR hR' hbx hix0 hc0 hx hx1 hx2 h1 h2 h3 h4 hRd hl hb hsc hT hB1 hls hp
  unfold frP
  have g0 := M.lex.c0
  have g1 := M.lex.c1
  go_wp2_with fail
  go_quiet (fail)
  have M2 := M.drewN nq
  generalize w.drewN nq = w2 at M2 ⊢
  clear g0 g1 M
  have g0 := M2.lex.c0
  have g1 := M2.lex.c1
  go_wp2_with fail
  go_quiet (fail)
  have M3 := M2.drewN nq
  generalize w2.drewN nq = w3 at M3 ⊢
  clear g0 g1 M2
  have g0 := M3.lex.c0
  have g1 := M3.lex.c1
  go_wp2_with fail
  go_quiet (fail)
  have M4 := M3.drewN nq
  generalize w3.drewN nq = w4 at M4 ⊢
  clear g0 g1 M3
  have hru := rune_any b s p out c R w4 M4.lex (tabs_grown HT.out.1 M4.grown HT.out.2) hs HR.out HC.out.1 HC.out.2.1
  have HRU := Lib.hid hru
  have HM := Lib.hid M4
  clear hru M4
  have hpos := enc_pos c
  go_wp2_with (first
    | (go_at_call 28; refine HRU.out.mono ?_; rintro e w5 ⟨rfl, h4⟩; have M5 := HM.out.kept h4.out.1 h4.out.2; have o5 := M5.own; have s5 := M5.grown.size; have hbl : l.length + (⟨(enc c).toArray⟩ : ByteArray).size ≤ 1099511627776 := (by have := HC.out.2.2; have : (⟨(enc c).toArray⟩ : ByteArray).size = (enc c).length := (by simp [ByteArray.size]); omega))
    | (at_builtin; refine wpList_app_str rfl (.tmp 30) (.tmp 32) rfl w0.heap.size jv l rfl o5 _ rfl hbl s5 ?_; intro ao' n' c' w6 happ; have M6 := M5.app happ; clear M5 o5 s5))
  exact close_P M6 (drop_enc HR.out) HFIN.out.1 (by rw [List.append_assoc]; exact HFIN.out.2) (by omega) (by omega) (by kernel_rfl)

set_option maxRecDepth 1000000 in
set_option maxHeartbeats 4000000 in
theorem p_dollar (b : Nat) (s : ByteArray) (line : Bool) (out : Value) (w0 : World) (m : List UInt8) (p : Nat) (jv : Value) (l mm R : List UInt8) (U : Nat → Value) (w : World) (Q0 : Exit → Act → World → Prop) (hs : s.size ≤ 1099511627776) (hT : Lib.Utf8Tabs 0 1 w0) (hB1 : 1 < b) (M : TM b s out w0 jv p l w) (hls : l.length ≤ 100000000000) (c : Nat) (hc : c = 36) (d : UInt8) (R' : List UInt8) (hd : R = d :: R') (hd2 : d.toNat ≠ 123) (hR : s.data.toList.drop p = enc c ++ R) (hsc : Scal c) (hb : c < 65536) (hRd : Reads 96 R mm) (hl : l ++ (enc c ++ mm) = m) :
    Code.wp Tryz.prog bodyP (Exit.then (fun a' w' => InvP b s line out w0 m a' w' ∧ muL s b a' w' < s.size - p) Q0) (frP b line jv U) w := by
  conv => arg 2; whnf
  have hR' : s.data.toList.drop p = 36 :: d :: R' := by rw [hR, hc, enc_one (by omega), hd]; rfl
  obtain ⟨hp, hbx⟩ := byte_at s p 36 _ hR'
  have hix : ∀ w, (Instr.index 9 (.string s) (.int .i64 (p : Int))).run Tryz.prog w = .ok (.int .u8 36) w := str_index s p 36 hp (hbx hp)
  obtain ⟨hp2, hbx2⟩ := byte_at s (p + 1) d _ (drop_step s p 36 _ hR')
  have hix0 := str_index s (p + 1) d hp2 (hbx2 hp2)
  obtain ⟨c0, hc0⟩ : ∃ c0 : Int, c0 = (d.toNat : Int) := ⟨_, rfl⟩
  have hix2 : ∀ w, (Instr.index 9 (.string s) (.int .i64 ((p : Int) + 1))).run Tryz.prog w = .ok (.int .u8 c0) w := by rw [hc0]; exact hix0
  have b123 : (c0 == 123) = false := by simp; omega
  have z1 : (p : Int) < (s.size : Int) := by omega
  have z2 : (p : Int) + 1 < (s.size : Int) := by omega
  have HR := Lib.hid hR
  have HFIN := Lib.hid (And.intro hRd hl)
  have HC := Lib.hid (And.intro hb (And.intro hsc hls))
  have HT := Lib.hid (And.intro hT hB1)
  clear hR hR' hbx hbx2 hix0 hc0 hRd hl hb hsc hT hB1 hls hp hp2 hc hd hd2
  unfold frP
  have g0 := M.lex.c0
  have g1 := M.lex.c1
  go_wp2_with fail
  go_quiet (fail)
  have M2 := M.drewN nq
  generalize w.drewN nq = w2 at M2 ⊢
  clear g0 g1 M
  have g0 := M2.lex.c0
  have g1 := M2.lex.c1
  go_wp2_with fail
  go_quiet (fail)
  have M3 := M2.drewN nq
  generalize w2.drewN nq = w3 at M3 ⊢
  clear g0 g1 M2
  have g0 := M3.lex.c0
  have g1 := M3.lex.c1
  go_wp2_with fail
  go_quiet (fail)
  have M4 := M3.drewN nq
  generalize w3.drewN nq = w4 at M4 ⊢
  clear g0 g1 M3
  have hru := rune_any b s p out c R w4 M4.lex (tabs_grown HT.out.1 M4.grown HT.out.2) hs HR.out HC.out.1 HC.out.2.1
  have HRU := Lib.hid hru
  have HM := Lib.hid M4
  clear hru M4
  have hpos := enc_pos c
  go_wp2_with (first
    | (go_at_call 28; refine HRU.out.mono ?_; rintro e w5 ⟨rfl, h4⟩; have M5 := HM.out.kept h4.out.1 h4.out.2; have o5 := M5.own; have s5 := M5.grown.size; have hbl : l.length + (⟨(enc c).toArray⟩ : ByteArray).size ≤ 1099511627776 := (by have := HC.out.2.2; have : (⟨(enc c).toArray⟩ : ByteArray).size = (enc c).length := (by simp [ByteArray.size]); omega))
    | (at_builtin; refine wpList_app_str rfl (.tmp 30) (.tmp 32) rfl w0.heap.size jv l rfl o5 _ rfl hbl s5 ?_; intro ao' n' c' w6 happ; have M6 := M5.app happ; clear M5 o5 s5))
  exact close_P M6 (drop_enc HR.out) HFIN.out.1 (by rw [List.append_assoc]; exact HFIN.out.2) (by omega) (by omega) (by kernel_rfl)

set_option maxRecDepth 1000000 in
set_option maxHeartbeats 4000000 in
theorem p_esc (b : Nat) (s : ByteArray) (line : Bool) (out : Value) (w0 : World) (m : List UInt8) (p : Nat) (jv : Value) (l mm R : List UInt8) (U : Nat → Value) (w : World) (Q0 : Exit → Act → World → Prop) (hs : s.size ≤ 1099511627776) (hT : Lib.Utf8Tabs 0 1 w0) (hB1 : 1 < b) (M : TM b s out w0 jv p l w) (hls : l.length ≤ 100000000000) (e u : List UInt8) (hR : s.data.toList.drop p = 92 :: (e ++ R)) (he : Esc e R u) (hul : u.length ≤ 4) (hRd : Reads 96 R mm) (hl : l ++ (u ++ mm) = m) :
    Code.wp Tryz.prog bodyP (Exit.then (fun a' w' => InvP b s line out w0 m a' w' ∧ muL s b a' w' < s.size - p) Q0) (frP b line jv U) w := by
  conv => arg 2; whnf
  obtain ⟨hp, hbx⟩ := byte_at s p 92 _ hR
  have hix : ∀ w, (Instr.index 9 (.string s) (.int .i64 (p : Int))).run Tryz.prog w = .ok (.int .u8 92) w := str_index s p 92 hp (hbx hp)
  have z1 : (p : Int) < (s.size : Int) := by omega
  have HR := Lib.hid (And.intro hR he)
  have HFIN := Lib.hid (And.intro hRd hl)
  have HC := Lib.hid (And.intro hul hls)
  have HT := Lib.hid (And.intro hT hB1)
  clear hR hbx he hRd hl hul hT hB1 hls hp
  unfold frP
  have g0 := M.lex.c0
  have g1 := M.lex.c1
  go_wp2_with fail
  go_quiet (fail)
  have M2 := M.drewN nq
  generalize w.drewN nq = w2 at M2 ⊢
  clear g0 g1 M
  have g0 := M2.lex.c0
  have g1 := M2.lex.c1
  go_wp2_with fail
  go_quiet (fail)
  have M3 := M2.drewN nq
  generalize w2.drewN nq = w3 at M3 ⊢
  clear g0 g1 M2
  have g0 := M3.lex.c0
  have g1 := M3.lex.c1
  go_wp2_with fail
  go_quiet (fail)
  have M4 := M3.drewN nq
  generalize w3.drewN nq = w4 at M4 ⊢
  clear g0 g1 M3
  have hru := esc_any true b s p out w4 M4.lex hs (tabs_grown HT.out.1 M4.grown HT.out.2) HT.out.2 e R u HR.out.2 (reads_ne HFIN.out.1) HR.out.1
  have HRU := Lib.hid hru
  have HM := Lib.hid M4
  clear hru M4
  go_wp2_with (first
    | (go_at_call 29; refine HRU.out.mono ?_; rintro e' w5 ⟨rfl, h4l, h4g⟩; have M5 := HM.out.kept h4l h4g; have o5 := M5.own; have s5 := M5.grown.size; have hbl : l.length + (⟨u.toArray⟩ : ByteArray).size ≤ 1099511627776 := (by have := HC.out.2; have := HC.out.1; have : (⟨u.toArray⟩ : ByteArray).size = u.length := (by simp [ByteArray.size]); omega); clear h4l h4g)
    | (at_builtin; refine wpList_app_str rfl (.tmp 154) (.tmp 155) rfl w0.heap.size jv l rfl o5 _ rfl hbl s5 ?_; intro ao' n' c' w6 happ; have M6 := M5.app happ; clear M5 o5 s5))
  exact close_P M6 (drop_esc HR.out.1) HFIN.out.1 (by rw [List.append_assoc]; exact HFIN.out.2) (by omega) (by omega) (by kernel_rfl)

end Go.Proofs.YtmfbgoikekmdkaaGreatFmt
