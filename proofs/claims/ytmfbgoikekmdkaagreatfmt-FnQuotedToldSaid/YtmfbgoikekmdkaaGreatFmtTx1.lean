/-
  (*lexer).text: its rounds.
-/
import Derived.Test.YtmfbgoikekmdkaaGreatFmtTx0
namespace Go.Proofs.YtmfbgoikekmdkaaGreatFmt
open Go.RowKit Go.Lib Go.FQ

set_option maxRecDepth 1000000 in
set_option maxHeartbeats 4000000 in
theorem t_raw (b : Nat) (s : ByteArray) (q : Nat) (line : Bool) (out : Value) (w0 : World) (m : List UInt8) (p : Nat) (jv : Value) (eb : Bool) (l mm R : List UInt8) (U : Nat → Value) (w : World) (Q0 : Exit → Act → World → Prop) (hq : q = 34 ∨ q = 39) (hs : s.size ≤ 1099511627776) (hT : Lib.Utf8Tabs 0 1 w0) (hB1 : 1 < b) (M : TM b s out w0 jv p l w) (hls : l.length ≤ 100000000000) (c : Nat) (hR : s.data.toList.drop p = enc c ++ R) (hsc : Scal c) (hb : c < 65536) (h1 : c ≠ 92) (h2 : c ≠ q) (h3 : c ≠ 13) (h4 : c ≠ 10) (hRd : Reads q R mm) (hl : l ++ (enc c ++ mm) = m) :
    Code.wp Tryz.prog bodyT (Exit.then (fun a' w' => InvT b s q line out w0 m a' w' ∧ muL s b a' w' < s.size - p) Q0) (frT b q line jv eb U) w := by
  conv => arg 2; whnf
  obtain ⟨x, t, hx, hx1, hx2⟩ := enc_head c hsc hb
  have hR' : s.data.toList.drop p = x :: (t ++ R) := by rw [hR, hx]; rfl
  obtain ⟨hp, hbx⟩ := byte_at s p x _ hR'
  have hix0 := str_index s p x hp (hbx hp)
  obtain ⟨c0, hc0⟩ : ∃ c0 : Int, c0 = (x.toNat : Int) := ⟨_, rfl⟩
  have hix : ∀ w, (Instr.index 9 (.string s) (.int .i64 (p : Int))).run Tryz.prog w = .ok (.int .u8 c0) w := by rw [hc0]; exact hix0
  have b92 : (c0 == 92) = false := by simp; omega
  have b10 : (c0 == 10) = false := by simp; omega
  have b13 : (c0 == 13) = false := by simp; omega
  obtain ⟨qi, hqi⟩ : ∃ qi : Int, qi = (q : Int) := ⟨_, rfl⟩
  have bq : (c0 == qi) = false := by simp; omega
  have z1 : (p : Int) < (s.size : Int) := by omega
  have HR := Lib.hid hR
  have HFIN := Lib.hid (And.intro hRd hl)
  have HC := Lib.hid (And.intro hb (And.intro hsc hls))
  have HT := Lib.hid (And.intro hT hB1)
  have HQ := Lib.hid (And.intro hqi hq)
  clear hR hR' hbx hix0 hc0 hx hx1 hx2 h1 h2 h3 h4 hRd hl hb hsc hT hB1 hls hq hqi hp
  unfold frT
  rw [← HQ.out.1]
  have g0 := M.lex.c0
  have g1 := M.lex.c1
  go_wp2_with fail
  go_quiet (fail)
  have M2 := M.drewN nq
  generalize w.drewN nq = w2 at M2 ⊢
  clear g0 g1 M
  have g0 := M2.lex.c0
  have g1 := M2.lex.c1
  go_wp2_with fail
  go_quiet (fail)
  have M3 := M2.drewN nq
  generalize w2.drewN nq = w3 at M3 ⊢
  clear g0 g1 M2
  have hru := rune_any b s p out c R w3 M3.lex (tabs_grown HT.out.1 M3.grown HT.out.2) hs HR.out HC.out.1 HC.out.2.1
  have HRU := Lib.hid hru
  have HM := Lib.hid M3
  clear hru M3
  have hpos := enc_pos c
  go_wp2_with (first
    | (go_at_call 28; refine HRU.out.mono ?_; rintro e w4 ⟨rfl, h4⟩; have M4 := HM.out.kept h4.out.1 h4.out.2; have o4 := M4.own; have s4 := M4.grown.size; have hbl : l.length + (⟨(enc c).toArray⟩ : ByteArray).size ≤ 1099511627776 := (by have := HC.out.2.2; have : (⟨(enc c).toArray⟩ : ByteArray).size = (enc c).length := (by simp [ByteArray.size]); omega))
    | (at_builtin; refine wpList_app_str rfl (.tmp 74) (.tmp 76) rfl w0.heap.size jv l rfl o4 _ rfl hbl s4 ?_; intro ao' n' c' w5 happ; have M5 := M4.app happ; clear M4 o4 s4))
  exact close_T (eb := eb) qi HQ.out.1 M5 (drop_enc HR.out) HFIN.out.1 (by rw [List.append_assoc]; exact HFIN.out.2) (by omega) (by omega) (by kernel_rfl)

set_option maxRecDepth 1000000 in
set_option maxHeartbeats 4000000 in
theorem t_esc (b : Nat) (s : ByteArray) (q : Nat) (line : Bool) (out : Value) (w0 : World) (m : List UInt8) (p : Nat) (jv : Value) (eb : Bool) (l mm R : List UInt8) (U : Nat → Value) (w : World) (Q0 : Exit → Act → World → Prop) (hq : q = 34 ∨ q = 39) (hs : s.size ≤ 1099511627776) (hT : Lib.Utf8Tabs 0 1 w0) (hB1 : 1 < b) (M : TM b s out w0 jv p l w) (hls : l.length ≤ 100000000000) (e u : List UInt8) (hR : s.data.toList.drop p = 92 :: (e ++ R)) (he : Esc e R u) (hul : u.length ≤ 4) (hRd : Reads q R mm) (hl : l ++ (u ++ mm) = m) :
    Code.wp Tryz.prog bodyT (Exit.then (fun a' w' => InvT b s q line out w0 m a' w' ∧ muL s b a' w' < s.size - p) Q0) (frT b q line jv eb U) w := by
  conv => arg 2; whnf
  obtain ⟨hp, hbx⟩ := byte_at s p 92 _ hR
  have hix : ∀ w, (Instr.index 9 (.string s) (.int .i64 (p : Int))).run Tryz.prog w = .ok (.int .u8 92) w := str_index s p 92 hp (hbx hp)
  obtain ⟨qi, hqi⟩ : ∃ qi : Int, qi = (q : Int) := ⟨_, rfl⟩
  have bq : ((92 : Int) == qi) = false := by simp; omega
  have z1 : (p : Int) < (s.size : Int) := by omega
  have HR := Lib.hid (And.intro hR he)
  have HFIN := Lib.hid (And.intro hRd hl)
  have HC := Lib.hid (And.intro hul hls)
  have HT := Lib.hid (And.intro hT hB1)
  have HQ := Lib.hid (And.intro hqi hq)
  clear hR hbx he hRd hl hul hT hB1 hls hq hqi hp
  unfold frT
  rw [← HQ.out.1]
  have g0 := M.lex.c0
  have g1 := M.lex.c1
  go_wp2_with fail
  go_quiet (fail)
  have M2 := M.drewN nq
  generalize w.drewN nq = w2 at M2 ⊢
  clear g0 g1 M
  have g0 := M2.lex.c0
  have g1 := M2.lex.c1
  go_wp2_with fail
  go_quiet (fail)
  have M3 := M2.drewN nq
  generalize w2.drewN nq = w3 at M3 ⊢
  clear g0 g1 M2
  have hru := esc_any false b s p out w3 M3.lex hs (tabs_grown HT.out.1 M3.grown HT.out.2) HT.out.2 e R u HR.out.2 (reads_ne HFIN.out.1) HR.out.1
  have HRU := Lib.hid hru
  have HM := Lib.hid M3
  clear hru M3
  go_wp2_with (first
    | (go_at_call 29; refine HRU.out.mono ?_; rintro e' w4 ⟨rfl, h4l, h4g⟩; have M4 := HM.out.kept h4l h4g; have o4 := M4.own; have s4 := M4.grown.size; have hbl : l.length + (⟨u.toArray⟩ : ByteArray).size ≤ 1099511627776 := (by have := HC.out.2; have := HC.out.1; have : (⟨u.toArray⟩ : ByteArray).size = u.length := (by simp [ByteArray.size]); omega); clear h4l h4g)
    | (at_builtin; refine wpList_app_str rfl (.tmp 71) (.tmp 72) rfl w0.heap.size jv l rfl o4 _ rfl hbl s4 ?_; intro ao' n' c' w5 happ; have M5 := M4.app happ; clear M4 o4 s4))
  exact close_T (eb := true) qi HQ.out.1 M5 (drop_esc HR.out.1) HFIN.out.1 (by rw [List.append_assoc]; exact HFIN.out.2) (by omega) (by omega) (by kernel_rfl)

set_option maxRecDepth 1000000 in
set_option maxHeartbeats 4000000 in
theorem t_end (b : Nat) (s : ByteArray) (q : Nat) (line : Bool) (out : Value) (w0 : World) (p : Nat) (jv : Value) (eb : Bool) (l R : List UInt8) (U : Nat → Value) (w : World) (Q0 : Exit → Act → World → Prop) (M : TM b s out w0 jv p l w) (x : UInt8) (hx : x.toNat = q) (hR : s.data.toList.drop p = x :: R) (hexit : ∀ U' nq, Q0 (.exit 0) (frT b q line jv eb U') (w.drewN nq)) (P0 : Act → World → Prop) :
    Code.wp Tryz.prog bodyT (Exit.then P0 Q0) (frT b q line jv eb U) w := by
  conv => arg 2; whnf
  obtain ⟨hp, hbx⟩ := byte_at s p x _ hR
  obtain ⟨qi, hqi⟩ : ∃ qi : Int, qi = (q : Int) := ⟨_, rfl⟩
  have hix : ∀ w, (Instr.index 9 (.string s) (.int .i64 (p : Int))).run Tryz.prog w = .ok (.int .u8 qi) w := by rw [hqi, ← hx]; exact str_index s p x hp (hbx hp)
  have bq : (qi == qi) = true := by simp
  have z1 : (p : Int) < (s.size : Int) := by omega
  have key : ∀ (A : Act) (n : Nat), A = frT b qi line jv eb (fun i => A.tmps.getD i undef) → Q0 (.exit 0) A (w.drewN n) := fun A n hA => by rw [hA, hqi]; exact hexit _ _
  have KEY := Lib.hid key
  have HQ := Lib.hid (And.intro hqi hqi)
  clear hexit key hR hbx hqi hx
  unfold frT
  rw [← HQ.out.1]
  have g0 := M.lex.c0
  have g1 := M.lex.c1
  go_wp2_with fail
  go_quiet (fail)
  go_wp2
  exact KEY.out _ _ (by kernel_rfl)
end Go.Proofs.YtmfbgoikekmdkaaGreatFmt
