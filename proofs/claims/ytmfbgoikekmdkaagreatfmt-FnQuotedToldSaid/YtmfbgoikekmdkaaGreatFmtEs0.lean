/-
  (*lexer).escape: what is alike in all its walks.
-/
import Derived.Test.YtmfbgoikekmdkaaGreatFmtHx
import Derived.Test.YtmfbgoikekmdkaaGreatFmtW1
import Derived.Maps.Own
import Derived.Maps.OwnOps
namespace Go.Proofs.YtmfbgoikekmdkaaGreatFmt
open Go.RowKit Go.Lib Go.FQ Go.Maps

/-- What an escape leaves. -/
def Escaped (b : Nat) (s : ByteArray) (p : Nat) (out : Value) (w : World) (u : List UInt8) (e : Ending) (w' : World) : Prop :=
  e = .returned (.tuple #[.string ⟨u.toArray⟩, .bool true]) ∧ LexAt b s p out w' ∧ w.grownBy w' (some b)

theorem byte_at (s : ByteArray) (p : Nat) (x : UInt8) (R : List UInt8) (h : s.data.toList.drop p = x :: R) : p < s.size ∧ ∀ hp : p < s.size, s[p]'hp = x := by
  have hl := congrArg List.length h
  rw [List.length_drop, List.length_cons, len_list] at hl
  refine ⟨by omega, fun hp => ?_⟩
  have : (s.data.toList.drop p)[0]? = some x := by rw [h]; rfl
  rw [List.getElem?_drop, Nat.add_zero, Array.getElem?_toList] at this
  have h2 : p < s.data.size := hp
  rw [Array.getElem?_eq_getElem h2] at this
  exact Option.some.inj this
theorem drop_step (s : ByteArray) (p : Nat) (x : UInt8) (R : List UInt8) (h : s.data.toList.drop p = x :: R) : s.data.toList.drop (p + 1) = R := by
  rw [← List.drop_drop, h]; rfl

/-- The lexer, one on, with a box above it. -/
theorem boxed {b : Nat} {s : ByteArray} {p : Nat} {out : Value} {w : World} (h : LexAt b s p out w) :
    LexAt b s (p + 1) out ((w.alloc (.cells #[.pointer (some ⟨b, 0, none⟩)] 93)).setCell ⟨b, 1, none⟩ (.int .i64 ((p : Int) + 1))) ∧
    ((w.alloc (.cells #[.pointer (some ⟨b, 0, none⟩)] 93)).setCell ⟨b, 1, none⟩ (.int .i64 ((p : Int) + 1))).cell? ⟨w.heap.size, 0, none⟩ = some (.pointer (some ⟨b, 0, none⟩)) ∧
    w.grownBy ((w.alloc (.cells #[.pointer (some ⟨b, 0, none⟩)] 93)).setCell ⟨b, 1, none⟩ (.int .i64 ((p : Int) + 1))) (some b) := by
  have h1 : LexAt b s p out (w.alloc (.cells #[.pointer (some ⟨b, 0, none⟩)] 93)) := (Below.heap_alloc _ _ _ h.lt).trans h
  have hlt := h.lt
  refine ⟨h1.move (p + 1), ?_, grownBy_trans (World.grownBy_alloc _ _ _) (grownBy_setCell _ _ _ _)⟩
  have := heap_alloc_new w (.cells #[.pointer (some ⟨b, 0, none⟩)] 93)
  have h2 : ((w.alloc (.cells #[.pointer (some ⟨b, 0, none⟩)] 93)).setCell ⟨b, 1, none⟩ (.int .i64 ((p : Int) + 1))).heap[w.heap.size]? = some (.cells #[.pointer (some ⟨b, 0, none⟩)] 93) :=
    (Below.heap_setCell _ _ _ _ (by simp; omega)).trans this
  exact cell_of_block h2 rfl
/-- The same facts, in the walk's spelling. -/
structure BoxAt (b lb : Nat) (s : ByteArray) (p : Nat) (out : Value) (w0 w : World) : Prop where
  lex : LexAt b s p out w
  box : w.cell? ⟨lb, 0, none⟩ = some (.pointer (some ⟨b, 0, none⟩))
  grown : w0.grownBy w (some b)
theorem BoxAt.drewN {b lb : Nat} {s : ByteArray} {p : Nat} {out : Value} {w0 w : World} (h : BoxAt b lb s p out w0 w) (n : Nat) : BoxAt b lb s p out w0 (w.drewN n) :=
  ⟨h.lex, h.box, grownBy_trans h.grown ⟨rfl, rfl, rfl, Nat.le_refl _, fun _ _ _ => rfl⟩⟩
theorem BoxAt.move {b lb : Nat} {s : ByteArray} {p : Nat} {out : Value} {w0 w : World} (h : BoxAt b lb s p out w0 w) (hlb : lb ≠ b) (p' : Nat) : BoxAt b lb s p' out w0 (w.setCell ⟨b, 1, none⟩ (.int .i64 p')) := by
  refine ⟨h.lex.move p', ?_, grownBy_trans h.grown (grownBy_setCell _ _ _ _)⟩
  rw [World.cell?_of_block (w := w) (Below.heap_setCell _ _ _ _ hlb)]
  exact h.box
theorem str_index (s : ByteArray) (p : Nat) (x : UInt8) (hp : p < s.size) (hx : s[p]'hp = x) : ∀ w, (Instr.index 9 (.string s) (.int .i64 p)).run Tryz.prog w = .ok (.int .u8 (x.toNat : Int)) w := by
  intro w
  subst hx
  simp [Instr.index, run_underlying Tryz.underlying9, asIntOf, hp, Sem.run_pure]

theorem keyed5 : Keyed Tryz.prog 5 := int_keyed Tryz.underlying5
theorem key5 (x : Int) (h : (Lit.int .u8 x).wf = true) : keyOf Tryz.prog 5 (.int .u8 x) = some (.int .u8 x) := keyOf_int_mk Tryz.underlying5 h
theorem elem3 (x : Int) (h : (Lit.int .i64 x).wf = true) : plainElem (H := Unit) Tryz.prog 3 (.int .i64 x) = some (.lit (.int .i64 x), []) := plainElem_int Tryz.underlying3 h
theorem zero3 (w : World) : (zeroValue 3).run Tryz.prog w = .ok (.int .i64 0) w := by kernel_rfl
/-- The literal's map as data. -/
def letters : DataW Unit :=
  ((((((DataW.map []).put (.int .u8 110) (.lit (.int .i64 0))).put (.int .u8 116) (.lit (.int .i64 1))).put (.int .u8 114) (.lit (.int .i64 2))).put (.int .u8 98) (.lit (.int .i64 3))).put (.int .u8 102) (.lit (.int .i64 4))).put (.int .u8 118) (.lit (.int .i64 5))
/-- The map literal of escape: six stores into a new map, and what a look-up gives. -/
theorem map_lit (X : World) : ∃ W1 W2 W3 W4 W5 W6 : World,
    (Instr.mapUpdate 114 (.map (some X.heap.size)) (.int .u8 110) (.int .i64 0)).run Tryz.prog (X.alloc (.map #[] 0)) = .ok () W1 ∧
    (Instr.mapUpdate 114 (.map (some X.heap.size)) (.int .u8 116) (.int .i64 1)).run Tryz.prog W1 = .ok () W2 ∧
    (Instr.mapUpdate 114 (.map (some X.heap.size)) (.int .u8 114) (.int .i64 2)).run Tryz.prog W2 = .ok () W3 ∧
    (Instr.mapUpdate 114 (.map (some X.heap.size)) (.int .u8 98) (.int .i64 3)).run Tryz.prog W3 = .ok () W4 ∧
    (Instr.mapUpdate 114 (.map (some X.heap.size)) (.int .u8 102) (.int .i64 4)).run Tryz.prog W4 = .ok () W5 ∧
    (Instr.mapUpdate 114 (.map (some X.heap.size)) (.int .u8 118) (.int .i64 5)).run Tryz.prog W5 = .ok () W6 ∧
    (∀ x i : Int, (Lit.int .u8 x).wf = true → letters.atKey (.int .u8 x) (.lit (.int .i64 0)) = .lit (.int .i64 i) → (Instr.lookup 114 (.map (some X.heap.size)) (.int .u8 x) false).run Tryz.prog W6 = .ok (.int .i64 i) W6) ∧
    X.grownBy W6 none := by
  have h0 : (X.alloc (.map #[] 0)).ownsMap Tryz.prog 5 (plainElem (H := Unit) Tryz.prog 3) X.heap.size 0 (.map []) := World.ownsMap_made X Tryz.prog 5 _
  obtain ⟨W1, r1, o1, g1⟩ := h0.update keyed5 Tryz.underlying114 (by decide) (key5 110 (by decide)) (elem3 0 (by decide))
  obtain ⟨W2, r2, o2, g2⟩ := o1.update keyed5 Tryz.underlying114 (by decide) (key5 116 (by decide)) (elem3 1 (by decide))
  obtain ⟨W3, r3, o3, g3⟩ := o2.update keyed5 Tryz.underlying114 (by decide) (key5 114 (by decide)) (elem3 2 (by decide))
  obtain ⟨W4, r4, o4, g4⟩ := o3.update keyed5 Tryz.underlying114 (by decide) (key5 98 (by decide)) (elem3 3 (by decide))
  obtain ⟨W5, r5, o5, g5⟩ := o4.update keyed5 Tryz.underlying114 (by decide) (key5 102 (by decide)) (elem3 4 (by decide))
  obtain ⟨W6, r6, o6, g6⟩ := o5.update keyed5 Tryz.underlying114 (by decide) (key5 118 (by decide)) (elem3 5 (by decide))
  refine ⟨W1, W2, W3, W4, W5, W6, r1, r2, r3, r4, r5, r6, ?_, ?_⟩
  · intro x i hx hi
    obtain ⟨c, hrun, hat, _⟩ := o6.lookup_int keyed5 Tryz.underlying114 Tryz.underlying3 (zero3 _) (key5 x hx)
    have e : letters.atKey (.int .u8 x) (.lit (.int .i64 0)) = .lit (.int .i64 c) := hat
    rw [hi] at e
    cases e
    exact hrun
  · have g := grownBy_trans (grownBy_trans (grownBy_trans (grownBy_trans (grownBy_trans (grownBy_trans (World.grownBy_alloc X (.map #[] 0) (some X.heap.size)) g1) g2) g3) g4) g5) g6
    exact ⟨g.os, g.tape, g.output, g.size, fun k hk _ => g.block k hk (fun e => by cases e; omega)⟩
end Go.Proofs.YtmfbgoikekmdkaaGreatFmt
