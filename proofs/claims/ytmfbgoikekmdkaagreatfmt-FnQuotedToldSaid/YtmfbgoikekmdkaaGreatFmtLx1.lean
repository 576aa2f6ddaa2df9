/-
  spec.lex on a literal.
-/
import Derived.Test.YtmfbgoikekmdkaaGreatFmtTk2
import Derived.LoopN
import Derived.BigRegion
namespace Go.Proofs.YtmfbgoikekmdkaaGreatFmt
open Go.RowKit Go.Lib Go.FQ

theorem token_q (q : Nat) (hq : IsQ q) (b : Nat) (s : ByteArray) (m R : List UInt8) (w : World) (hL : LexAt b s 0 (.slice none 0 0) w) (hs : s.size ≤ 1000000000) (hT : Lib.Utf8Tabs 0 1 w) (hB1 : 1 < b)
    (hR : s.data.toList = UInt8.ofNat q :: R) (hRd : Reads q R m) :
    Calls Tryz.prog 13 #[.pointer (some ⟨b, 0, none⟩), .bool false] w fun e w' => e = .returned (.tuple #[]) ∧ Hid (∃ K : Int, (K = 3 ∨ K = 5) ∧ Told b s m K w w') := by
  rcases hq with rfl | rfl | rfl
  · exact (token_34 b s m R w hL hs hT hB1 hR hRd).mono fun e w' h => ⟨h.1, Lib.hid ⟨3, .inl rfl, h.2.out⟩⟩
  · exact (token_39 b s m R w hL hs hT hB1 hR hRd).mono fun e w' h => ⟨h.1, Lib.hid ⟨3, .inl rfl, h.2.out⟩⟩
  · exact (token_96 b s m R w hL hs hT hB1 hR hRd).mono fun e w' h => ⟨h.1, Lib.hid ⟨5, .inr rfl, h.2.out⟩⟩

/-- What lex leaves. -/
def LexOut (s : ByteArray) (m : List UInt8) (w : World) (e : Ending) (w' : World) : Prop :=
  ∃ T cap xs, ∃ K : Int, (K = 3 ∨ K = 5) ∧ e = .returned (.tuple #[.slice (some ⟨T, 0, none⟩) 2 cap, .bool true]) ∧ w'.ownsRow w.heap.size 38 9 (.slice (some ⟨T, 0, none⟩) 2 cap) 2 xs ∧
    xs[0]? = some (.int .i64 K) ∧ xs[1]? = some (.string ⟨m.toArray⟩) ∧ xs[8]? = some (.int .i64 (s.size : Int)) ∧ Below w.heap.size w w'

/-- What stands ahead of the second round. -/
structure Round2 (b : Nat) (s : ByteArray) (m : List UInt8) (w w' : World) (T cap : Nat) (K : Int) (xs : List Value) : Prop where
  kind : K = 3 ∨ K = 5
  lex : LexAt b s s.size (.slice (some ⟨T, 0, none⟩) 1 cap) w'
  own : w'.ownsRow (b + 1) 38 9 (.slice (some ⟨T, 0, none⟩) 1 cap) 1 xs
  x0 : xs[0]? = some (.int .i64 K)
  x1 : xs[1]? = some (.string ⟨m.toArray⟩)
  below : Below w.heap.size w w'
  base : w.heap.size ≤ b
theorem round2_set {b : Nat} {s : ByteArray} {m : List UInt8} {w w' : World} {T cap : Nat} {K : Int} {xs : List Value} (h : Round2 b s m w w' T cap K xs) (j : Nat) (hj : 2 ≤ j) (v : Value) : Round2 b s m w (w'.setCell ⟨T, j, none⟩ v) T cap K (xs.set j v) := by
  have hT := (h.own.lt T rfl).1
  have hb := h.base
  obtain ⟨h1, h2⟩ := h.own.stored j v
  refine ⟨h.kind, h.lex.kept h2 (by simp; omega), h1, ?_, ?_, h.below.setCell (p := ⟨T, j, none⟩) (by show w.heap.size ≤ T; omega) v, h.base⟩
  · rw [List.getElem?_set_ne (by omega)]; exact h.x0
  · rw [List.getElem?_set_ne (by omega)]; exact h.x1
theorem lexout_of {b : Nat} {s : ByteArray} {m : List UInt8} {w w6 w7 : World} {T cap g cap2 : Nat} {K : Int} {xs news : List Value} {o : Obj} (h : Round2 b s m w w6 T cap K xs) (hxl : xs.length = 9) (h8 : xs[8]? = some (.int .i64 (s.size : Int)))
    (hown : w7.ownsRow (b + 1) 38 9 (.slice (some ⟨g, 0, none⟩) (1 + 1) cap2) (1 + 1) (xs ++ news)) (hg : (w6.alloc o).grownBy w7 (Value.ownBlock (.slice (some ⟨T, 0, none⟩) 1 cap))) :
    LexAt b s s.size (.slice (some ⟨T, 0, none⟩) 1 cap) w7 ∧ LexAt b s s.size (.slice (some ⟨g, 0, none⟩) 2 cap2) (w7.setCell ⟨b, 2, none⟩ (.slice (some ⟨g, 0, none⟩) 2 cap2)) ∧
      ∀ n, LexOut s m w (.returned (.tuple #[.slice (some ⟨g, 0, none⟩) 2 cap2, .bool true])) ((w7.setCell ⟨b, 2, none⟩ (.slice (some ⟨g, 0, none⟩) 2 cap2)).drewN n) := by
  have hT := (h.own.lt T rfl).1
  have hb := h.base
  have hlt := h.lex.lt
  have hL6 : LexAt b s s.size (.slice (some ⟨T, 0, none⟩) 1 cap) (w6.alloc o) := (Below.heap_alloc w6 o _ hlt).trans h.lex
  have hL7 : LexAt b s s.size (.slice (some ⟨T, 0, none⟩) 1 cap) w7 := hL6.kept hg (by simp [Value.ownBlock]; omega)
  have hgb := (hown.lt g rfl).1
  refine ⟨hL7, hL7.setOut _, fun n => ⟨g, cap2, xs ++ news, K, h.kind, rfl, ?_, ?_, ?_, ?_, ?_⟩⟩
  · have h1 : w7.ownsRow (b + 1) 38 9 (.slice (some ⟨g, 0, none⟩) 2 cap2) 2 (xs ++ news) := hown
    have h2 := ownsRow_setCell_other (a := ⟨b, 2, none⟩) h1 (by simp [Value.ownBlock]; omega) (.slice (some ⟨g, 0, none⟩) 2 cap2)
    exact World.ownsRow.mono h2 (by omega)
  · rw [List.getElem?_append_left (by omega)]; exact h.x0
  · rw [List.getElem?_append_left (by omega)]; exact h.x1
  · rw [List.getElem?_append_left (by omega)]; exact h8
  · have h1 : Below w.heap.size w (w6.alloc o) := h.below.alloc h.below.size _
    have h2 : Below w.heap.size w w7 := h1.grown hg h1.size (fun k hk => by simp [Value.ownBlock] at hk; omega)
    exact below_drewN (h2.setCell (p := ⟨b, 2, none⟩) hb _) n
theorem lex_new (s : ByteArray) (w : World) : LexAt w.heap.size s 0 (.slice none 0 0) (w.alloc (.cells #[.string s, .int .i64 0, .slice none 0 0, .slice none 0 0, .bool false, .bool false, .slice none 0 0, .bool false, .bool false] 97)) := heap_alloc_new w _
theorem tabs_lt {w : World} (h : Lib.Utf8Tabs 0 1 w) : 1 < w.heap.size := World.block_lt_of_cell? w ⟨1, 0, none⟩ (h.2 0 (by omega)).1
theorem lt_tabs {w : World} {o : Obj} (h : Lib.Utf8Tabs 0 1 w) : Lib.Utf8Tabs 0 1 (w.alloc o) := Utf8Tabs_below h ((Below.refl _ _).alloc (Nat.le_refl _) _)

set_option maxRecDepth 1000000 in
set_option maxHeartbeats 4000000 in
theorem lex_q (q : Nat) (hq : IsQ q) (s : ByteArray) (m R : List UInt8) (w : World) (hs : s.size ≤ 1000000000) (hT : Lib.Utf8Tabs 0 1 w)
    (hR : s.data.toList = UInt8.ofNat q :: R) (hRd : Reads q R m) (hv : Lib.validD s.data.toList = true) :
    Calls Tryz.prog 9 #[.string s, .bool false] w (LexOut s m w) := by
  have HV : Calls Tryz.prog 4 #[.string s] w fun e w' => e = .returned (.bool true) ∧ Below w.heap.size w w' := by
    have h := Tryz.utf8_ValidString s w (by omega) hT
    rw [hv] at h
    exact h
  have h1 : 1 < s.size := by
    have h := congrArg List.length hR
    have h2 := List.length_pos_iff.mpr (reads_ne hRd)
    rw [len_list] at h
    simp at h
    omega
  have HV := Lib.hid HV
  have HT := Lib.hid hT
  have HR := Lib.hid (And.intro hq (And.intro hR (And.intro hRd hs)))
  clear hv hT hR hRd hq hs
  go_enter Tryz.func9, Tryz.ntmps9
  go_wp2_with (first
    | (go_at_call 4; refine HV.out.mono ?_; rintro e w1 ⟨rfl, hb1⟩))
  have hL0 := lex_new s w1
  have hT0 := lt_tabs (o := .cells #[.string s, .int .i64 0, .slice none 0 0, .slice none 0 0, .bool false, .bool false, .slice none 0 0, .bool false, .bool false] 97) (Utf8Tabs_below HT.out hb1)
  have hlt1 := tabs_lt (Utf8Tabs_below HT.out hb1)
  have hB0 : Below w.heap.size w (w1.alloc (.cells #[.string s, .int .i64 0, .slice none 0 0, .slice none 0 0, .bool false, .bool false, .slice none 0 0, .bool false, .bool false] 97)) := hb1.alloc hb1.size _
  have hsz1 := hb1.size
  generalize w1.alloc (.cells #[.string s, .int .i64 0, .slice none 0 0, .slice none 0 0, .bool false, .bool false, .slice none 0 0, .bool false, .bool false] 97) = w2 at hL0 hT0 hB0 ⊢
  generalize w1.heap.size = b at hL0 hlt1 hsz1 ⊢
  have HL := Lib.hid (And.intro hL0 (And.intro hT0 (And.intro hlt1 (And.intro hB0 hsz1))))
  clear hL0 hT0 hlt1 hB0 hsz1 hb1 HV
  refine wp_loop_rounds 2 ?_
  rw [rounds_succ]
  have g4 : w2.cell? ⟨b, 4, none⟩ = some (.bool false) := HL.out.1.c4
  have HSP := Lib.hid (show Calls Tryz.prog 12 #[.pointer (some ⟨b, 0, none⟩)] w2 fun e w' => e = .returned (.tuple #[.bool false, .bool true]) ∧ Drew w2 w' from by
    obtain ⟨hp, hbx⟩ := byte_at s 0 _ _ (show s.data.toList.drop 0 = _ from HR.out.2.1)
    have hq := HR.out.1
    have e : (s[0]'hp).toNat = q := by rw [hbx hp]; unfold IsQ at hq; rcases hq with rfl | rfl | rfl <;> rfl
    exact space_q b s q hq _ w2 HL.out.1 hp e)
  go_wp2_with (first
    | (go_at_call 12; refine HSP.out.mono ?_; rintro e w3 ⟨rfl, n, rfl⟩; have k1 : (w2.drewN n).cell? ⟨b, 1, none⟩ = some (.int .i64 0) := HL.out.1.c1; have k4 : (w2.drewN n).cell? ⟨b, 4, none⟩ = some (.bool false) := HL.out.1.c4; have z1 : ((0 : Int) == (s.size : Int)) = false := (by simp; omega)))
  have HL3 : Hid (LexAt b s 0 (.slice none 0 0) (w2.drewN n) ∧ Lib.Utf8Tabs 0 1 (w2.drewN n) ∧ 1 < b ∧ Below w.heap.size w (w2.drewN n) ∧ w.heap.size ≤ b) := Lib.hid ⟨HL.out.1, Utf8Tabs_drewN HL.out.2.1 n, HL.out.2.2.1, below_drewN HL.out.2.2.2.1 n, HL.out.2.2.2.2⟩
  clear HL g4 k1 k4 HSP
  generalize w2.drewN n = w3 at HL3 ⊢
  have g1 : w3.cell? ⟨b, 1, none⟩ = some (.int .i64 0) := HL3.out.1.c1
  have g2 := HL3.out.1.c2
  go_quiet (fail)
  have HL4 : Hid (LexAt b s 0 (.slice none 0 0) (w3.drewN nq) ∧ Lib.Utf8Tabs 0 1 (w3.drewN nq) ∧ 1 < b ∧ Below w.heap.size w (w3.drewN nq) ∧ w.heap.size ≤ b) := Lib.hid ⟨HL3.out.1, Utf8Tabs_drewN HL3.out.2.1 nq, HL3.out.2.2.1, below_drewN HL3.out.2.2.2.1 nq, HL3.out.2.2.2.2⟩
  clear HL3 g1 g2
  generalize w3.drewN nq = w4 at HL4 ⊢
  have HTK := Lib.hid (token_q q HR.out.1 b s m R w4 HL4.out.1 HR.out.2.2.2 HL4.out.2.1 HL4.out.2.2.1 HR.out.2.1 HR.out.2.2.1)
  go_wp2_with (first
    | (go_at_call 13; refine HTK.out.mono ?_; rintro e w5 ⟨rfl, hK⟩; obtain ⟨K, hK, T, cap, xs, hL5, hO5, hx0, hx1, hg5⟩ := hK.out; have g2 := hL5.c2))
  have hR2 : Round2 b s m w w5 T cap K xs := ⟨hK, hL5, World.ownsRow.mono hO5 HL4.out.1.lt, hx0, hx1, HL4.out.2.2.2.1.grown hg5 HL4.out.2.2.2.1.size (fun k hk => by cases hk; exact HL4.out.2.2.2.2), HL4.out.2.2.2.2⟩
  have hxl : xs.length = 9 := by simpa using hO5.1
  obtain ⟨v7, hv7⟩ : ∃ v, xs[7]? = some v := ⟨xs[7]'(by omega), by simp⟩
  obtain ⟨v8, hv8⟩ : ∃ v, xs[8]? = some v := ⟨xs[8]'(by omega), by simp⟩
  have c7 : w5.cell? ⟨T, 7, none⟩ = some v7 := by rw [hO5.cellAt 7 (by omega), hv7]
  have c8 : w5.cell? ⟨T, 8, none⟩ = some v8 := by rw [hO5.cellAt 8 (by omega), hv8]
  have f7 := hO5.frozenAt 7
  have f8 := hO5.frozenAt 8
  have g1 := hL5.c1
  have hTb : T ≠ b := by have := (hR2.own.lt T rfl).1; omega
  have HR2 := Lib.hid hR2
  have HXL := Lib.hid hxl
  clear hR2 hx0 hx1 hxl hO5 hg5 hL5 hK HTK HL4 hv7 hv8
  go_region
  have hR6 : Round2 b s m w (((w5.setCell ⟨T, 7, none⟩ (.int .i64 0)).setCell ⟨T, 8, none⟩ (.int .i64 (s.size : Int))).drew) T cap K ((xs.set 7 (.int .i64 0)).set 8 (.int .i64 (s.size : Int))) := by
    have h := round2_set (round2_set HR2.out 7 (by omega) (.int .i64 0)) 8 (by omega) (.int .i64 (s.size : Int))
    exact ⟨h.kind, h.lex, h.own, h.x0, h.x1, h.below.drew, h.base⟩
  have h8 : ((xs.set 7 (.int .i64 0)).set 8 (.int .i64 (s.size : Int)))[8]? = some (.int .i64 (s.size : Int)) := by
    have := HXL.out
    rw [List.getElem?_set_self (by rw [List.length_set]; omega)]
  have hxl : ((xs.set 7 (.int .i64 0)).set 8 (.int .i64 (s.size : Int))).length = 9 := by
    rw [List.length_set, List.length_set]
    exact HXL.out
  generalize ((w5.setCell ⟨T, 7, none⟩ (.int .i64 0)).setCell ⟨T, 8, none⟩ (.int .i64 (s.size : Int))).drew = w6 at hR6 ⊢
  generalize ((xs.set 7 (.int .i64 0)).set 8 (.int .i64 (s.size : Int))) = ys at hR6 h8 hxl
  have HR6 := Lib.hid (And.intro hR6 (And.intro hxl h8))
  clear g2 c7 c8 f7 f8 g1 hTb HR2 HXL h8 hxl
  change Code.rounds Tryz.prog _ _ 1 _ _
  rw [rounds_succ]
  have HSP := Lib.hid (space_end b s _ w6 hR6.lex)
  have g4 := hR6.lex.c4
  clear hR6
  obtain ⟨i38, z38, by38, hi38, hz38, hs38, hb38, hzs38, hle38⟩ := parts38
  have HI := Lib.hid (And.intro hi38 (And.intro hz38 (And.intro hs38 (And.intro hb38 (And.intro hzs38 hle38)))))
  clear hi38 hz38 hs38 hb38 hzs38 hle38
  have z2 : ((s.size : Int) == (s.size : Int)) = true := by simp
  go_wp2_with (first
    | (go_at_call 12; refine HSP.out.mono ?_; rintro e w7 ⟨rfl, n2, rfl⟩; have k1 : (w6.drewN n2).cell? ⟨b, 1, none⟩ = some (.int .i64 (s.size : Int)) := HR6.out.1.lex.c1; have k4 : (w6.drewN n2).cell? ⟨b, 4, none⟩ = some (.bool false) := HR6.out.1.lex.c4; have k2 : (w6.drewN n2).cell? ⟨b, 2, none⟩ = some (.slice (some ⟨T, 0, none⟩) 1 cap) := HR6.out.1.lex.c2)
    | (at_builtin
       refine wpList_append_lies _ rfl (.tmp 47) (.tmp 50) 33 rfl (b + 1) 38 i38 z38 9 by38 Tryz.underlying33 HI.out.1 HI.out.2.1 HI.out.2.2.1 HI.out.2.2.2.1 HI.out.2.2.2.2.1 (by decide) (.slice (some ⟨T, 0, none⟩) 1 cap) 1 ys rfl (World.ownsRow.alloc (w := w6.drewN n2) HR6.out.1.own _) ⟨w6.heap.size, 0, none⟩ 1 1 _ rfl rfl (World.news_of_block (heap_alloc_new (w6.drewN n2) _)) (by simp [Value.oneCell']) (by decide) (by decide) (by have := HI.out.2.2.2.2.2; omega) (Nat.le_trans HR6.out.1.lex.lt ((Below.refl _ _).alloc (Nat.le_refl _) _ |>.size)) _ rfl ?_
       intro g cap2 w8 hown hgrow hat hlt
       have hF := lexout_of (w6 := w6.drewN n2) ⟨HR6.out.1.kind, HR6.out.1.lex, HR6.out.1.own, HR6.out.1.x0, HR6.out.1.x1, below_drewN HR6.out.1.below n2, HR6.out.1.base⟩ HR6.out.2.1 HR6.out.2.2 hown hgrow
       have j2 := hF.1.c2
       have jf := hF.1.free 2
       have HF := Lib.hid hF.2
       clear hown hgrow hat hlt hF k1 k2 k4 g4))
  have q2 := HF.out.1.c2
  have q3 := HF.out.1.c3
  have HF2 := Lib.hid HF.out.2
  clear HF j2 jf
  generalize w8.setCell ⟨b, 2, none⟩ (.slice (some ⟨g, 0, none⟩) 2 cap2) = w9 at HF2 q2 q3 ⊢
  go_quiet (fail)
  go_wp2
  go_ret2
  exact HF2.out nq
end Go.Proofs.YtmfbgoikekmdkaaGreatFmt
