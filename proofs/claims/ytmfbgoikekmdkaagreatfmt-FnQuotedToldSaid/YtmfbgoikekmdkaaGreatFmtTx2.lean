/-
  (*lexer).text, whole.
-/
import Derived.Test.YtmfbgoikekmdkaaGreatFmtTx1
import Derived.Deep.AppendLies
import Derived.Deep.RegionLaw
namespace Go.Proofs.YtmfbgoikekmdkaaGreatFmt
open Go.RowKit Go.Lib Go.FQ

/-- A token's type. -/
theorem info38 : (Tryz.prog.info? 38).any (fun i => i.size == 9 && decide (i.bytes ≤ 200) && (match i.zero with | some z => z.cells.size == 9 | none => false)) = true := by kernel_rfl
theorem parts38 : ∃ i z by', Tryz.prog.info? 38 = some i ∧ i.zero = some z ∧ i.size = 9 ∧ i.bytes = by' ∧ z.cells.size = 9 ∧ by' ≤ 200 := by
  have h := info38
  cases hi : Tryz.prog.info? 38 with
  | none => rw [hi] at h; cases h
  | some i =>
    rw [hi] at h
    simp only [Option.any_some, Bool.and_eq_true, beq_iff_eq, decide_eq_true_eq] at h
    obtain ⟨⟨h1, h2⟩, h3⟩ := h
    cases hz : i.zero with
    | none => rw [hz] at h3; cases h3
    | some z =>
      rw [hz] at h3
      exact ⟨i, z, i.bytes, rfl, hz, h1, rfl, by simpa using h3, h2⟩

/-- What text, piece leave: all read; one token, of kind K, that means m. -/
def Told (b : Nat) (s : ByteArray) (m : List UInt8) (K : Int) (w w' : World) : Prop :=
  ∃ T cap xs, LexAt b s s.size (.slice (some ⟨T, 0, none⟩) 1 cap) w' ∧ w'.ownsRow w.heap.size 38 9 (.slice (some ⟨T, 0, none⟩) 1 cap) 1 xs ∧
    xs[0]? = some (.int .i64 K) ∧ xs[1]? = some (.string ⟨m.toArray⟩) ∧ w.grownBy w' (some b)

theorem LexAt.setOut {b : Nat} {s : ByteArray} {p : Nat} {out : Value} {w : World} (h : LexAt b s p out w) (out' : Value) : LexAt b s p out' (w.setCell ⟨b, 2, none⟩ out') := block_setCell h _
theorem told_of {b : Nat} {s : ByteArray} {m : List UInt8} {w0 w3 w4 : World} {jv : Value} {o : Obj} {g cap : Nat} {xs : List Value} {K : Int} (M : TM b s (.slice none 0 0) w0 jv s.size m w3)
    (hown : w4.ownsRow w0.heap.size 38 9 (.slice (some ⟨g, 0, none⟩) (0 + 1) cap) (0 + 1) ([] ++ xs)) (hg : (w3.drew.alloc o).grownBy w4 (Value.ownBlock (.slice none 0 0)))
    (hat : Value.ownBlock (.slice none 0 0) = some g ∨ g = (w3.drew.alloc o).heap.size) (h0 : xs[0]? = some (.int .i64 K)) (h1 : xs[1]? = some (.string ⟨m.toArray⟩)) :
    w4.cell? ⟨b, 2, none⟩ = some (.slice none 0 0) ∧ w4.frozen? ⟨b, 2, none⟩ = false ∧ Told b s m K w0 (w4.setCell ⟨b, 2, none⟩ (.slice (some ⟨g, 0, none⟩) 1 cap)) := by
  have hlt := M.lex.lt
  have hL : LexAt b s s.size (.slice none 0 0) (w3.drew.alloc o) := (Below.heap_alloc w3 o _ hlt).trans M.lex
  have hL4 : LexAt b s s.size (.slice none 0 0) w4 := hL.kept hg (by simp [Value.ownBlock])
  have hge : g = w3.heap.size + 1 := by
    rcases hat with h | h
    · simp [Value.ownBlock] at h
    · rw [h]; show (w3.heap.push o).size = _; simp
  have hgr : w0.grownBy w4 (some b) := grownBy_trans (grownBy_trans M.grown (World.grownBy_alloc w3 o (some b) : w3.grownBy (w3.alloc o) (some b))) (by
    have hg' : (w3.alloc o).grownBy w4 none := ⟨hg.os, hg.tape, hg.output, hg.size, hg.block⟩
    exact grownBy_weak hg' _)
  refine ⟨hL4.c2, hL4.free 2, g, cap, xs, hL4.setOut _, ?_, h0, h1, grownBy_trans hgr (grownBy_setCell _ _ _ _)⟩
  have hown' : w4.ownsRow w0.heap.size 38 9 (.slice (some ⟨g, 0, none⟩) 1 cap) 1 xs := by simpa using hown
  exact ownsRow_setCell_other hown' (by simp [Value.ownBlock]; omega) _

theorem reads_len {q : Nat} {R m : List UInt8} (h : Reads q R m) : m.length ≤ 4 * R.length := by
  induction h with
  | close b hb => simp
  | raw c R m hs hb h1 h2 h3 h4 h5 h ih => simp only [List.length_append]; omega
  | esc e R u m he h ih =>
    have := esc_len he
    simp only [List.length_append, List.length_cons]
    omega

theorem loopT (b : Nat) (s : ByteArray) (q : Nat) (line : Bool) (out : Value) (w0 : World) (m : List UInt8) (p : Nat) (R : List UInt8) (w : World) (A : Act) (jv : Value) (Q0 : Exit → Act → World → Prop)
    (hq : q = 34 ∨ q = 39) (hs : s.size ≤ 1000000000) (hT : Lib.Utf8Tabs 0 1 w0) (hB1 : 1 < b) (M : TM b s out w0 jv p [] w) (hR : s.data.toList.drop p = R) (hRd : Reads q R m)
    (hA : A = frT b q line jv false (fun i => A.tmps.getD i undef))
    (hexit : ∀ jv' eb U' w', TM b s out w0 jv' (s.size - 1) m w' → Q0 (.exit 0) (frT b q line jv' eb U') w') :
    Code.wp Tryz.prog (Code.loop bodyT) Q0 A w := by
  have hml : m.length ≤ 4 * s.size := by
    have h1 := reads_len hRd
    have h2 := congrArg List.length hR
    rw [List.length_drop, len_list] at h2
    omega
  refine wp_loop (InvT b s q line out w0 m) (muL s b) ⟨p, jv, false, R, [], m, _, hR, hRd, by simp, M, hA⟩ ?_
  rintro a w ⟨p, jv, eb, R, l, mm, U, hR, hRd, hl, M, rfl⟩
  rw [muL_of M.lex]
  have hls : l.length ≤ 100000000000 := by
    have := congrArg List.length hl
    rw [List.length_append] at this
    omega
  cases hRd with
  | close x hb =>
    have hpe : p = s.size - 1 := by
      have := congrArg List.length hR
      rw [List.length_drop, len_list] at this
      simp at this
      omega
    refine t_end b s q line out w0 p jv eb l [] U w Q0 M x hb hR (fun U' nq => ?_) _
    rw [List.append_nil] at hl
    subst hl
    subst hpe
    exact hexit jv eb U' _ (M.drewN nq)
  | raw c R m hsc hb h1 h2 h3 h4 h5 h => exact t_raw b s q line out w0 _ p jv eb l _ _ U w Q0 hq (by omega) hT hB1 M hls c hR hsc hb h1 h2 h3 (h4 (by omega)) h hl
  | esc e R u m he h => exact t_esc b s q line out w0 _ p jv eb l _ _ U w Q0 hq (by omega) hT hB1 M hls e u hR he (esc_len he) h hl

set_option maxRecDepth 1000000 in
set_option maxHeartbeats 4000000 in
theorem text_any (b : Nat) (s : ByteArray) (q : Nat) (line : Bool) (m R : List UInt8) (w : World) (p : Nat) (hL : LexAt b s p (.slice none 0 0) w) (hq : q = 34 ∨ q = 39) (hs : s.size ≤ 1000000000) (hT : Lib.Utf8Tabs 0 1 w) (hB1 : 1 < b)
    (hR : s.data.toList.drop (p + 1) = R) (hRd : Reads q R m) :
    Calls Tryz.prog 22 #[.pointer (some ⟨b, 0, none⟩), .int .u8 q, .bool line] w fun e w' => e = .returned (.tuple #[]) ∧ Hid (Told b s m 3 w w') := by
  have g1 := hL.c1
  have gf := hL.free 1
  have hM0 : TM b s (.slice none 0 0) w (.slice none 0 0) (p + 1) [] (w.setCell ⟨b, 1, none⟩ (.int .i64 ((p : Int) + 1))) := ⟨hL.move (p + 1), Owns.nil _ _, grownBy_setCell _ _ _ _⟩
  have hps : p + 2 ≤ s.size := by
    have h1 := reads_ne hRd
    have h2 := congrArg List.length hR
    have h3 : 0 < R.length := List.length_pos_iff.mpr h1
    rw [List.length_drop, len_list] at h2
    omega
  have HM0 := Lib.hid hM0
  clear hM0
  go_enter Tryz.func22, Tryz.ntmps22
  go_wp2_with fail
  clear g1 gf
  show Code.wp Tryz.prog (Code.loop bodyT) _ _ _
  refine loopT b s q line (.slice none 0 0) w m (p + 1) R _ _ _ _ hq hs hT hB1 HM0.out hR hRd (by kernel_rfl) ?_
  intro jv eb U w1 M
  unfold frT
  have g0 := M.lex.c0
  have g1 := M.lex.c1
  have z1 : ((s.size - 1 : Nat) : Int) = (s.size : Int) - 1 := by omega
  rw [z1] at g1
  have z2 : ((s.size : Int) - 1 == (s.size : Int)) = false := by simp; omega
  go_wp2_with fail
  go_quiet (fail)
  have M2 := M.drewN nq
  generalize w1.drewN nq = w2 at M2 ⊢
  clear g0 g1 M
  have g1 := M2.lex.c1
  rw [z1] at g1
  have gf := M2.lex.free 1
  go_wp2_with fail
  have M3 : TM b s (.slice none 0 0) w jv s.size m (w2.setCell ⟨b, 1, none⟩ (.int .i64 (s.size : Int))) :=
    ⟨M2.lex.move s.size, M2.own.setCell (by simpa using M2.jb) _, grownBy_trans M2.grown (grownBy_setCell _ _ _ _)⟩
  generalize w2.setCell ⟨b, 1, none⟩ (.int .i64 (s.size : Int)) = w3 at M3 ⊢
  clear g1 gf M2 z1 z2
  obtain ⟨i38, z38, by38, hi38, hz38, hs38, hb38, hzs38, hle38⟩ := parts38
  have hB3 : w.heap.size ≤ w3.heap.size := M3.grown.size
  have c2 : w3.cell? ⟨b, 2, none⟩ = some (.slice none 0 0) := M3.lex.c2
  have c2' : ∀ o, (w3.alloc o).cell? ⟨b, 2, none⟩ = some (.slice none 0 0) := fun o => cell_of_block (w := w3.alloc o) (j := 2) ((Below.heap_alloc w3 o _ M3.lex.lt).trans M3.lex) rfl
  have hcv : (convert 72 9 jv).run Tryz.prog w3.drew = .ok (.string ⟨m.toArray⟩) w3.drew := owns_string (w := w3.drew) M3.own
  have HI := Lib.hid (And.intro hi38 (And.intro hz38 (And.intro hs38 (And.intro hb38 (And.intro hzs38 hle38)))))
  have HM := Lib.hid M3
  clear hi38 hz38 hs38 hb38 hzs38 hle38 M3
  obtain ⟨ao, an, ac, rfl⟩ := HM.out.own.shape
  go_region_law (first
    | (refine step_append_lies _ rfl (.tmp 102) (.tmp 108) 33 rfl w.heap.size 38 i38 z38 9 by38 Tryz.underlying33 HI.out.1 HI.out.2.1 HI.out.2.2.1 HI.out.2.2.2.1 HI.out.2.2.2.2.1 (by decide) (.slice none 0 0) 0 [] rfl (World.ownsRow_nil _ _ _ _) ⟨w3.heap.size, 0, none⟩ 1 1 _ rfl rfl (World.news_of_block (heap_alloc_new w3.drew _)) (by simp [Value.oneCell']) (by decide) (by decide) (by have := HI.out.2.2.2.2.2; omega) (Nat.le_trans hB3 (Below.refl _ _ |>.alloc (Nat.le_refl _) _ |>.size)) _ rfl ?_
       intro g cap w4 hown hgrow hat hlt
       have hF := told_of (K := 3) HM.out hown hgrow hat rfl rfl
       have c4 : w4.cell? ⟨b, 2, none⟩ = some (.slice none 0 0) := hF.1
       have f4 : w4.frozen? ⟨b, 2, none⟩ = false := hF.2.1
       have hT4 := Lib.hid hF.2.2
       clear hown hgrow hat hlt hF))
  all_goals
    go_wp2
    go_end0
    exact ⟨rfl, hT4⟩
end Go.Proofs.YtmfbgoikekmdkaaGreatFmt
