/-
  (*lexer).piece, whole.
-/
import Derived.Test.YtmfbgoikekmdkaaGreatFmtTx2
import Derived.Test.YtmfbgoikekmdkaaGreatFmtTx3
namespace Go.Proofs.YtmfbgoikekmdkaaGreatFmt
open Go.RowKit Go.Lib Go.FQ

def RetTold (b : Nat) (s : ByteArray) (line : Bool) (jv : Value) (m : List UInt8) (w0 : World) : Exit → Act → World → Prop
  | .ret, a, w => (∃ U, a = frP b line jv U) ∧ Told b s m 5 w0 w
  | _, _, _ => False

set_option maxRecDepth 1000000 in
set_option maxHeartbeats 4000000 in
theorem p_end (b : Nat) (s : ByteArray) (line : Bool) (w0 : World) (m : List UInt8) (jv : Value) (U : Nat → Value) (w : World) (hs : s.size ≤ 1099511627776) (h1 : 1 ≤ s.size) (M : TM b s (.slice none 0 0) w0 jv (s.size - 1) m w) (x : UInt8) (hx : x.toNat = 96)
    (hR : s.data.toList.drop (s.size - 1) = [x]) : Code.wp Tryz.prog bodyP (RetTold b s line jv m w0) (frP b line jv U) w := by
  conv => arg 2; whnf
  obtain ⟨hp, hbx⟩ := byte_at s (s.size - 1) x _ hR
  have z0 : ((s.size - 1 : Nat) : Int) = (s.size : Int) - 1 := by omega
  have hix : ∀ w, (Instr.index 9 (.string s) (.int .i64 ((s.size : Int) - 1))).run Tryz.prog w = .ok (.int .u8 96) w := by
    have e := str_index s (s.size - 1) x hp (hbx hp)
    rw [hx, z0] at e
    exact e
  have key : ∀ (A : Act), A = frP b line jv (fun i => A.tmps.getD i undef) → ∃ U, A = frP b line jv U := fun A hA => ⟨_, hA⟩
  have KEY := Lib.hid key
  clear key hR hbx hx hp
  unfold frP
  have z1 : (s.size : Int) - 1 < (s.size : Int) := by omega
  have z2 : (0 : Int) ≤ (s.size : Int) - 1 := by omega
  have g0 := M.lex.c0
  have g1 := M.lex.c1
  rw [z0] at g1
  go_wp2_with fail
  go_quiet (fail)
  have M2 := M.drewN nq
  generalize w.drewN nq = w2 at M2 ⊢
  clear g0 g1 M
  have g0 := M2.lex.c0
  have g1 := M2.lex.c1
  rw [z0] at g1
  go_wp2_with fail
  go_quiet (fail)
  have M3 := M2.drewN nq
  generalize w2.drewN nq = w2' at M3 ⊢
  clear g0 g1 M2
  have g1 := M3.lex.c1
  rw [z0] at g1
  have gf := M3.lex.free 1
  have g6 : (w2'.setCell ⟨b, 1, none⟩ (.int .i64 (s.size : Int))).cell? ⟨b, 6, none⟩ = some (.slice none 0 0) := (M3.lex.move s.size).c6
  go_wp2_with fail
  have M4 : TM b s (.slice none 0 0) w0 jv s.size m (w2'.setCell ⟨b, 1, none⟩ (.int .i64 (s.size : Int))) :=
    ⟨M3.lex.move s.size, M3.own.setCell (by simpa using M3.jb) _, grownBy_trans M3.grown (grownBy_setCell _ _ _ _)⟩
  generalize w2'.setCell ⟨b, 1, none⟩ (.int .i64 (s.size : Int)) = w3 at M4 ⊢
  clear g1 gf g6 M3 z1 z2 z0
  obtain ⟨i38, z38, by38, hi38, hz38, hs38, hb38, hzs38, hle38⟩ := parts38
  have hB3 : w0.heap.size ≤ w3.heap.size := M4.grown.size
  have c2 : w3.cell? ⟨b, 2, none⟩ = some (.slice none 0 0) := M4.lex.c2
  have c2' : ∀ o, (w3.alloc o).cell? ⟨b, 2, none⟩ = some (.slice none 0 0) := fun o => cell_of_block (w := w3.alloc o) (j := 2) ((Below.heap_alloc w3 o _ M4.lex.lt).trans M4.lex) rfl
  have hcv : (convert 72 9 jv).run Tryz.prog w3.drew = .ok (.string ⟨m.toArray⟩) w3.drew := owns_string (w := w3.drew) M4.own
  have HI := Lib.hid (And.intro hi38 (And.intro hz38 (And.intro hs38 (And.intro hb38 (And.intro hzs38 hle38)))))
  have HM := Lib.hid M4
  clear hi38 hz38 hs38 hb38 hzs38 hle38 M4
  obtain ⟨ao, an, ac, rfl⟩ := HM.out.own.shape
  go_region_law (first
    | (refine step_append_lies _ rfl (.tmp 69) (.tmp 75) 33 rfl w0.heap.size 38 i38 z38 9 by38 Tryz.underlying33 HI.out.1 HI.out.2.1 HI.out.2.2.1 HI.out.2.2.2.1 HI.out.2.2.2.2.1 (by decide) (.slice none 0 0) 0 [] rfl (World.ownsRow_nil _ _ _ _) ⟨w3.heap.size, 0, none⟩ 1 1 _ rfl rfl (World.news_of_block (heap_alloc_new w3.drew _)) (by simp [Value.oneCell']) (by decide) (by decide) (by have := HI.out.2.2.2.2.2; omega) (Nat.le_trans hB3 (Below.refl _ _ |>.alloc (Nat.le_refl _) _ |>.size)) _ rfl ?_
       intro g cap w4 hown hgrow hat hlt
       have hF := told_of (K := 5) HM.out hown hgrow hat rfl rfl
       have c4 : w4.cell? ⟨b, 2, none⟩ = some (.slice none 0 0) := hF.1
       have f4 : w4.frozen? ⟨b, 2, none⟩ = false := hF.2.1
       have hT4 := Lib.hid hF.2.2
       clear hown hgrow hat hlt hF))
  all_goals
    go_wp2
    exact ⟨KEY.out _ (by kernel_rfl), hT4.out⟩

theorem loopP (b : Nat) (s : ByteArray) (line : Bool) (w0 : World) (m : List UInt8) (p : Nat) (R : List UInt8) (w : World) (A : Act) (jv : Value) (Q0 : Exit → Act → World → Prop)
    (hs : s.size ≤ 1000000000) (hT : Lib.Utf8Tabs 0 1 w0) (hB1 : 1 < b) (M : TM b s (.slice none 0 0) w0 jv p [] w) (hR : s.data.toList.drop p = R) (hRd : Reads 96 R m)
    (hA : A = frP b line jv (fun i => A.tmps.getD i undef))
    (hexit : ∀ jv' U' w', Told b s m 5 w0 w' → Q0 .ret (frP b line jv' U') w') :
    Code.wp Tryz.prog (Code.loop bodyP) Q0 A w := by
  have hml : m.length ≤ 4 * s.size := by
    have h1 := reads_len hRd
    have h2 := congrArg List.length hR
    rw [List.length_drop, len_list] at h2
    omega
  refine wp_loop (InvP b s line (.slice none 0 0) w0 m) (muL s b) ⟨p, jv, R, [], m, _, hR, hRd, by simp, M, hA⟩ ?_
  rintro a w ⟨p, jv, R, l, mm, U, hR, hRd, hl, M, rfl⟩
  rw [muL_of M.lex]
  have hls : l.length ≤ 100000000000 := by
    have := congrArg List.length hl
    rw [List.length_append] at this
    omega
  cases hRd with
  | close x hb =>
    have hpe : p = s.size - 1 ∧ 1 ≤ s.size := by
      have := congrArg List.length hR
      rw [List.length_drop, len_list] at this
      simp at this
      omega
    obtain ⟨rfl, h1⟩ := hpe
    rw [List.append_nil] at hl
    subst hl
    refine Code.wp_mono ?_ (p_end b s line w0 l jv U w (by omega) h1 M x hb hR)
    intro e a w' h
    cases e with
    | ret =>
      obtain ⟨⟨U', rfl⟩, ht⟩ := h
      exact hexit jv U' w' ht
    | normal => exact h.elim
    | exit _ => exact h.elim
    | goto _ => exact h.elim
    | panic _ => exact h.elim
    | _ => exact h.elim
  | raw c R m hsc hb h1 h2 h3 h4 h5 h =>
    by_cases hc : c = 36
    · obtain ⟨d, R', hd⟩ : ∃ d R', R = d :: R' := by
        cases R with
        | nil => exact absurd rfl (reads_ne h)
        | cons d R' => exact ⟨d, R', rfl⟩
      exact p_dollar b s line (.slice none 0 0) w0 _ p jv l _ _ U w Q0 (by omega) hT hB1 M hls c hc d R' hd (h5 rfl hc d R' hd) hR hsc hb h hl
    · exact p_raw b s line (.slice none 0 0) w0 _ p jv l _ _ U w Q0 (by omega) hT hB1 M hls c hR hsc hb h1 h2 h3 hc h hl
  | esc e R u m he h => exact p_esc b s line (.slice none 0 0) w0 _ p jv l _ _ U w Q0 (by omega) hT hB1 M hls e u hR he (esc_len he) h hl

set_option maxRecDepth 1000000 in
set_option maxHeartbeats 4000000 in
theorem piece_any (b : Nat) (s : ByteArray) (line : Bool) (m R : List UInt8) (w : World) (p : Nat) (hL : LexAt b s p (.slice none 0 0) w) (hs : s.size ≤ 1000000000) (hT : Lib.Utf8Tabs 0 1 w) (hB1 : 1 < b)
    (hR : s.data.toList.drop p = R) (hRd : Reads 96 R m) :
    Calls Tryz.prog 23 #[.pointer (some ⟨b, 0, none⟩), .bool true, .bool line] w fun e w' => e = .returned (.tuple #[]) ∧ Hid (Told b s m 5 w w') := by
  have hM0 : TM b s (.slice none 0 0) w (.slice none 0 0) p [] w := ⟨hL, Owns.nil _ _, grownBy_of_below (Below.refl _ _) _⟩
  have HM0 := Lib.hid hM0
  clear hM0
  go_enter Tryz.func23, Tryz.ntmps23
  go_wp2_with fail
  show Code.wp Tryz.prog (Code.loop bodyP) _ _ _
  refine loopP b s line w m p R _ _ _ _ hs hT hB1 HM0.out hR hRd (by kernel_rfl) ?_
  intro jv U w1 hT1
  have HT1 := Lib.hid hT1
  clear hT1
  have hp : bodyPost Tryz.prog Tryz.f23 (fun e w' => e = .returned (.tuple #[]) ∧ Hid (Told b s m 5 w w')) .ret (frP b line jv U) w1 := ⟨rfl, _, results_none (by kernel_rfl) _ _ _, rfl, HT1⟩
  exact hp
end Go.Proofs.YtmfbgoikekmdkaaGreatFmt
