/-
  printUnquotedUTF16, whole: behind the bytes so far it writes, for the units, what the plain law says ('outAll').
-/
import Derived.Test.YtmfbgoikekmdkaaGreatFmtPr4
import Derived.Test.YtmfbgoikekmdkaaGreatFmtPr6
import Derived.Test.YtmfbgoikekmdkaaGreatFmtPr8
namespace Go.Proofs.YtmfbgoikekmdkaaGreatFmt
open Go.RowKit Go.Lib Go.FQ

set_option maxRecDepth 1000000 in
set_option maxHeartbeats 2000000 in
theorem c16_end (b g n dcap T : Nat) (q f : Int) (jv : Value) (U : Nat → Value) (Q0 : Exit → Act → World → Prop) (P0 : Act → World → Prop) (wr : World) (hexit : ∀ U', Q0 (.exit 0) (fr16 b g n dcap T q f jv (.int .i64 n) U') wr) :
    Code.wp Tryz.prog body16 (Exit.then P0 Q0) (fr16 b g n dcap T q f jv (.int .i64 n) U) wr := by
  conv => arg 2; whnf
  have key : ∀ A : Act, A = fr16 b g n dcap T q f jv (.int .i64 n) (fun i => A.tmps.getD i undef) → Q0 (.exit 0) A wr := fun A hA => by rw [hA]; exact hexit _
  have KEY := Lib.hid key
  clear hexit key
  unfold fr16
  go_wp2
  exact KEY.out _ (by kernel_rfl)

theorem loop16 (b B g T dcap : Nat) (f : Int) (C : Array Value) (asc mini : Bool) (qn : Nat) (l : List UInt8) (cs : List Nat) (w0 : World) (jv : Value) (wr : World) (U : Nat → Value) (Q0 : Exit → Act → World → Prop)
    (hQ0 : ∀ c a d v w, Q0 (.panic c) (Act.put a d v) w → Q0 (.panic c) a w)
    (hM : Mid b B g T dcap C cs w0 jv l wr) (hO : Opts asc mini C) (hl : l.length ≤ 16384) (hn : cs.length ≤ 16384) (hsc : ∀ c ∈ cs, Scal c) (hb : ∀ c ∈ cs, c < 65536) (hq : qn = 34 ∨ qn = 39 ∨ qn = 96)
    (hexit : ∀ jv' w' U', Mid b B g T dcap C cs w0 jv' (l ++ outAll asc qn cs) w' → Q0 (.exit 0) (fr16 b g cs.length dcap T qn f jv' (.int .i64 cs.length) U') w') :
    Code.wp Tryz.prog (Code.loop body16) Q0 (fr16 b g cs.length dcap T qn f jv (.int .i64 0) U) wr := by
  refine wp_loop (Inv16 b B g T dcap qn f C asc qn l cs w0) (mu16 cs.length) ⟨0, jv, U, Nat.zero_le _, by rw [outTo_zero, List.append_nil]; exact hM, rfl⟩ ?_
  rintro a w ⟨k, jv, U, hk, hM, rfl⟩
  have hmu : mu16 cs.length (fr16 b g cs.length dcap T qn f jv (.int .i64 k) U) w = cs.length - k := by
    show cs.length - ((k : Int)).toNat = _
    omega
  rw [hmu]
  by_cases hkn : k < cs.length
  · have hm : cs.getD k 0 ∈ cs := by rw [show cs.getD k 0 = cs[k] by simp [List.getD, hkn]]; exact List.getElem_mem hkn
    have hs := hsc _ hm
    have hlt := hb _ hm
    by_cases c0 : cs.getD k 0 = 0
    · cases hdig : dig (cs.getD (k + 1) 0) with
      | true =>
        have hk1 : k + 1 < cs.length := by
          rcases Nat.lt_or_ge (k + 1) cs.length with h | h
          · exact h
          · rw [show cs.getD (k + 1) 0 = 0 by simp [List.getD, h]] at hdig; exact absurd hdig (by decide)
        exact c16_0d b B g T dcap f C asc qn l cs w0 jv w k U Q0 hM hkn hl hn c0 hk1 hdig
      | false =>
        by_cases hk1 : k + 1 < cs.length
        · by_cases hx : cs.getD (k + 1) 0 < 48
          · exact c16_0l b B g T dcap f C asc qn l cs w0 jv w k U Q0 hM hkn hl hn c0 hk1 hx hdig
          · have hx2 : 57 < cs.getD (k + 1) 0 := by unfold dig at hdig; rw [Bool.and_eq_false_iff, decide_eq_false_iff_not, decide_eq_false_iff_not] at hdig; omega
            exact c16_0g b B g T dcap f C asc qn l cs w0 jv w k U Q0 hM hkn hl hn c0 hk1 hx2 hdig
        · exact c16_0e b B g T dcap f C asc qn l cs w0 jv w k U Q0 hM hkn hl hn c0 hk1 hdig
    by_cases c7 : cs.getD k 0 = 7
    · exact c16_7 b B g T dcap f C asc qn l cs w0 jv w k U Q0 hM hkn hl hn c7
    by_cases c8 : cs.getD k 0 = 8
    · exact c16_8 b B g T dcap f C asc qn l cs w0 jv w k U Q0 hM hkn hl hn c8
    by_cases c12 : cs.getD k 0 = 12
    · exact c16_12 b B g T dcap f C asc qn l cs w0 jv w k U Q0 hM hkn hl hn c12
    by_cases c13 : cs.getD k 0 = 13
    · exact c16_13 b B g T dcap f C asc qn l cs w0 jv w k U Q0 hM hkn hl hn c13
    by_cases c11 : cs.getD k 0 = 11
    · exact c16_11 b B g T dcap f C asc qn l cs w0 jv w k U Q0 hM hkn hl hn c11
    by_cases c27 : cs.getD k 0 = 27
    · exact c16_27 b B g T dcap f C asc qn l cs w0 jv w k U Q0 hM hkn hl hn c27
    by_cases c92 : cs.getD k 0 = 92
    · exact c16_92 b B g T dcap f C asc qn l cs w0 jv w k U Q0 hM hkn hl hn c92
    by_cases c8232 : cs.getD k 0 = 8232
    · exact c16_8232 b B g T dcap f C asc qn l cs w0 jv w k U Q0 hM hkn hl hn c8232
    by_cases c8233 : cs.getD k 0 = 8233
    · exact c16_8233 b B g T dcap f C asc qn l cs w0 jv w k U Q0 hM hkn hl hn c8233
    by_cases c65279 : cs.getD k 0 = 65279
    · exact c16_65279 b B g T dcap f C asc qn l cs w0 jv w k U Q0 hM hkn hl hn c65279
    by_cases c10 : cs.getD k 0 = 10
    · rcases hq with rfl | rfl | rfl
      · exact c16_10_34 b B g T dcap f C asc l cs w0 jv w k U Q0 hM hkn hl hn c10
      · exact c16_10_39 b B g T dcap f C asc l cs w0 jv w k U Q0 hM hkn hl hn c10
      · exact c16_10_96 b B g T dcap f C asc l cs w0 jv w k U Q0 hM hkn hl hn c10
    by_cases c39 : cs.getD k 0 = 39
    · rcases hq with rfl | rfl | rfl
      · exact c16_39_34 b B g T dcap f C asc l cs w0 jv w k U Q0 hM hkn hl hn c39
      · exact c16_39_39 b B g T dcap f C asc l cs w0 jv w k U Q0 hM hkn hl hn c39
      · exact c16_39_96 b B g T dcap f C asc l cs w0 jv w k U Q0 hM hkn hl hn c39
    by_cases c34 : cs.getD k 0 = 34
    · rcases hq with rfl | rfl | rfl
      · exact c16_34_34 b B g T dcap f C asc l cs w0 jv w k U Q0 hM hkn hl hn c34
      · exact c16_34_39 b B g T dcap f C asc l cs w0 jv w k U Q0 hM hkn hl hn c34
      · exact c16_34_96 b B g T dcap f C asc l cs w0 jv w k U Q0 hM hkn hl hn c34
    by_cases c96 : cs.getD k 0 = 96
    · rcases hq with rfl | rfl | rfl
      · exact c16_96_34 b B g T dcap f C asc l cs w0 jv w k U Q0 hM hkn hl hn c96
      · exact c16_96_39 b B g T dcap f C asc l cs w0 jv w k U Q0 hM hkn hl hn c96
      · exact c16_96_96 b B g T dcap f C asc l cs w0 jv w k U Q0 hM hkn hl hn c96
    by_cases c36 : cs.getD k 0 = 36
    · rcases hq with rfl | rfl | rfl
      · exact c16_36_34 b B g T dcap f C asc l cs w0 jv w k U Q0 hM hkn hl hn c36
      · exact c16_36_39 b B g T dcap f C asc l cs w0 jv w k U Q0 hM hkn hl hn c36
      · by_cases hk1 : k + 1 < cs.length
        · by_cases hx : cs.getD (k + 1) 0 = 123
          · exact c16_36_y b B g T dcap f C asc l cs w0 jv w k U Q0 hM hkn hl hn c36 hk1 hx
          · exact c16_36_n b B g T dcap f C asc l cs w0 jv w k U Q0 hM hkn hl hn c36 hk1 hx
        · exact c16_36_e b B g T dcap f C asc l cs w0 jv w k U Q0 hM hkn hl hn c36 hk1 (by rw [show cs.getD (k + 1) 0 = 0 by simp [List.getD, hk1]]; decide)
    by_cases c47 : cs.getD k 0 = 47
    · by_cases h1 : k < 1
      · exact c16_47a b B g T dcap qn f C asc mini qn l cs w0 jv w k U Q0 hM hO hkn hl hn c47 h1
      · by_cases h2 : cs.getD (k - 1) 0 = 60
        · by_cases h3 : k + 7 ≤ cs.length
          · exact c16_47d b B g T dcap qn f C asc mini qn l cs w0 jv w k U Q0 hM hO hkn hl hn c47 (by omega) h2 h3
          · exact c16_47c b B g T dcap qn f C asc mini qn l cs w0 jv w k U Q0 hM hO hkn hl hn c47 (by omega) h2 h3
        · exact c16_47b b B g T dcap qn f C asc mini qn l cs w0 jv w k U Q0 hM hO hkn hl hn c47 (by omega) h2
    have hp : ∀ x ∈ specials, cs.getD k 0 ≠ x := by
      intro x hx
      unfold specials at hx
      simp only [List.mem_cons, List.mem_nil_iff, or_false] at hx
      rcases hx with rfl | rfl | rfl | rfl | rfl | rfl | rfl | rfl | rfl | rfl | rfl | rfl | rfl | rfl | rfl | rfl | rfl <;> assumption
    by_cases h126 : cs.getD k 0 ≤ 126
    · exact c16_lo b B g T dcap qn f C asc qn l cs w0 jv w k U Q0 hM hkn hl hn hp h126
    unfold Scal at hs
    cases asc with
    | true =>
      by_cases h255 : cs.getD k 0 ≤ 255
      · exact c16_h2 b B g T dcap qn f C mini qn l cs w0 jv w k U Q0 hQ0 hM hO hkn hl hn hp (by omega) h255
      · by_cases h5 : cs.getD k 0 < 55296
        · exact c16_h4lo b B g T dcap qn f C mini qn l cs w0 jv w k U Q0 hQ0 hM hO hkn hl hn hp (by omega) h5
        · exact c16_h4hi b B g T dcap qn f C mini qn l cs w0 jv w k U Q0 hQ0 hM hO hkn hl hn hp (by omega) hlt
    | false =>
      by_cases h5 : cs.getD k 0 < 55296
      · exact c16_ulo b B g T dcap qn f C mini qn l cs w0 jv w k U Q0 hM hO hkn hl hn hp (by omega) h5
      · exact c16_uhi b B g T dcap qn f C mini qn l cs w0 jv w k U Q0 hM hO hkn hl hn hp (by omega) hlt
  · have hke : k = cs.length := by omega
    subst hke
    exact c16_end b g cs.length dcap T qn f jv U Q0 _ w (fun U' => hexit jv w U' hM)

theorem loop16_any (b B g T dcap : Nat) (f : Int) (C : Array Value) (asc mini : Bool) (qn : Nat) (l : List UInt8) (cs : List Nat) (w0 : World) (jv : Value) (wr : World) (A : Act) (Q0 : Exit → Act → World → Prop)
    (hQ0 : ∀ c a d v w, Q0 (.panic c) (Act.put a d v) w → Q0 (.panic c) a w)
    (hM : Mid b B g T dcap C cs w0 jv l wr) (hO : Opts asc mini C) (hl : l.length ≤ 16384) (hn : cs.length ≤ 16384) (hsc : ∀ c ∈ cs, Scal c) (hb : ∀ c ∈ cs, c < 65536) (hq : qn = 34 ∨ qn = 39 ∨ qn = 96)
    (hA : A = fr16 b g cs.length dcap T qn f jv (.int .i64 0) (fun i => A.tmps.getD i undef))
    (hexit : ∀ jv' w' U', Mid b B g T dcap C cs w0 jv' (l ++ outAll asc qn cs) w' → Q0 (.exit 0) (fr16 b g cs.length dcap T qn f jv' (.int .i64 cs.length) U') w') :
    Code.wp Tryz.prog (Code.loop body16) Q0 A wr := by
  rw [hA]
  exact loop16 b B g T dcap f C asc mini qn l cs w0 jv wr _ Q0 hQ0 hM hO hl hn hsc hb hq hexit

set_option maxRecDepth 1000000 in
set_option maxHeartbeats 2000000 in
theorem unquoted (b B g dcap : Nat) (f : Int) (asc mini : Bool) (qn : Nat) (C : Array Value) (l : List UInt8) (w : World) (cs : List Nat)
    (hp : PrAt b B C l w) (hO : Opts asc mini C) (hbB : b < B) (hB : B ≤ w.heap.size) (hl : l.length ≤ 16384) (hn : cs.length ≤ 16384)
    (hd : w.ownsRow B 102 1 (.slice (some ⟨g, 0, none⟩) cs.length dcap) cs.length (u16s cs)) (hsc : ∀ c ∈ cs, Scal c) (hb : ∀ c ∈ cs, c < 65536) (hq : qn = 34 ∨ qn = 39 ∨ qn = 96) :
    Calls Tryz.prog 16 #[.pointer (some ⟨b, 0, none⟩), .slice (some ⟨g, 0, none⟩) cs.length dcap, .int .i32 qn, .int .u8 f] w fun e w' => e = .returned (.tuple #[]) ∧
      Hid ((∃ v, PrAt b B (C.setIfInBounds 9 v) (l ++ outAll asc qn cs) w') ∧ Below b w w' ∧ OthersKept 5 (some b) w w') := by
  have hmk := make4
  obtain ⟨hblk, jv, hj, hown⟩ := hp
  have hlt := lt_of_block hblk
  have hblk1 : ∀ o, (w.alloc o).heap[b]? = some (.cells C 88 (0, 0)) := fun o => (Below.heap_alloc _ _ _ hlt).trans hblk
  have hc9 := fun o => cell_of_block (hblk1 o) hj
  have hc26 := fun o => cell_of_block (hblk1 o) hO.limit
  have hM0 : Mid b B g w.heap.size dcap C cs w jv l (w.alloc (.cells #[.int .u8 0, .int .u8 0, .int .u8 0, .int .u8 0] 5)) :=
    ⟨hblk1 _, hd.alloc _, hown.alloc _, ⟨_, _, _, _, heap_alloc_new w _⟩, fun e => by have := (hown.lt _ e).2; omega, (Below.refl _ _).alloc (by omega) _, (OthersKept.refl _ _ _).alloc _, hbB, hB⟩
  have HJ := Lib.hid hj
  have HD := Lib.hid hd
  clear hblk hblk1 hj hd
  go_enter Tryz.func16, Tryz.ntmps16
  go_wp2
  clear hmk hc9 hc26
  show Code.wp Tryz.prog (Code.loop body16) _ _ _
  refine loop16_any b B g w.heap.size dcap f C asc mini qn l cs w jv _ _ _ (fun c a d v w h => ?_) hM0 hO hl hn hsc hb hq (by kernel_rfl) ?_
  · cases d <;> exact h
  intro jv' w' U' hM
  unfold fr16
  have hcell1 := cell_of_block hM.block HJ.out
  have hfree1 := free_of_block (j := 9) hM.block
  obtain ⟨ao, an, ac, rfl⟩ := hM.own.shape
  go_wp2
  go_end0
  refine ⟨rfl, ?_⟩
  have hjl : 9 < C.size := by
    have := HJ.out
    rcases Nat.lt_or_ge 9 C.size with h | h
    · exact h
    · simp [Array.getElem?_eq_none h] at this
  refine ⟨⟨.slice ao an ac, ⟨block_setCell hM.block _, .slice ao an ac, by simp [hjl], hM.own.setCell (by simpa using hM.jb) _⟩⟩, ?_, ?_⟩
  · exact hM.below.setCell (p := ⟨b, 9, none⟩) (Nat.le_refl _) _
  · exact hM.others.setCell ⟨b, 9, none⟩ rfl _
end Go.Proofs.YtmfbgoikekmdkaaGreatFmt

