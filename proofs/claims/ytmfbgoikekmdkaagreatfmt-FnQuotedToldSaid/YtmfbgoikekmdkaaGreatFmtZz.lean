/-
  WALK: js_printer.ZZQuoted, impl.Quoted.
-/
import Derived.Test.YtmfbgoikekmdkaaGreatFmtQu
import Derived.Laws.BytesArg
namespace Go.Proofs.YtmfbgoikekmdkaaGreatFmt
open Go.RowKit Go.Lib Go.FQ

/-- A row of bytes, made a string. -/
theorem owns_string {w : World} {B : Nat} {v : Value} {l : List UInt8} (h : Owns w B v l) : (convert 72 9 v).run Tryz.prog w = .ok (.string ⟨l.toArray⟩) w := by
  rcases h.2 with ⟨rfl, hn⟩ | ⟨g, cap, cur, rfl, _⟩
  · have : l = [] := List.eq_nil_of_length_eq_zero hn
    subst this
    exact run_convert_bytes_nil w 72 5 Tryz.underlying72 Tryz.underlying5 0 0 9 Tryz.underlying9
  · have hc : ∀ i, i < l.length → w.cell? ⟨g, 0 + i, none⟩ = some (.int .u8 ((l.map fun b => (b.toNat : Int)).getD i 0)) := by
      intro i hi
      rw [Nat.zero_add, World.ownsRow.cellAt h i (by simpa using hi)]
      simp [byteCells, hi]
    have := run_convert_bytes_arg (P := Tryz.prog) w 72 5 Tryz.underlying72 Tryz.underlying5 g 0 l.length cap (l.map fun b => (b.toNat : Int)) (by simp) hc 9 Tryz.underlying9
    rw [this]
    have e : ((l.map fun b => (b.toNat : Int)).map fun n => UInt8.ofNat n.toNat) = l := by
      rw [List.map_map]
      conv => rhs; rw [← List.map_id l]
      apply List.map_congr_left
      intro b _
      simp
    unfold strOfNums
    rw [e]

theorem zz_step {w w1 : World} {C : Array Value} {cs : List Nat} {e : Ending} {asc mini : Bool} (h : GivesUnits cs (w.alloc (.cells C 88)) e w1) (h9 : C[9]? = some (.slice none 0 0)) (hO : Opts asc mini C) :
    ∃ g cap, e = .returned (.slice (some ⟨g, 0, none⟩) cs.length cap) ∧ PrAt w.heap.size (w.heap.size + 1) C [] w1 ∧ Opts asc mini C ∧ w1.ownsRow (w.heap.size + 1) 102 1 (.slice (some ⟨g, 0, none⟩) cs.length cap) cs.length (u16s cs) ∧
      Below w.heap.size w w1 ∧ w.heap.size + 1 ≤ w1.heap.size := by
  obtain ⟨g, cap, he, hd, hb⟩ := h
  have hs : (w.alloc (.cells C 88)).heap.size = w.heap.size + 1 := by simp
  rw [hs] at hd hb
  refine ⟨g, cap, he, ⟨(hb.block _ (by omega)).trans (heap_alloc_new w _), _, h9, Owns.nil _ _⟩, hO, hd, ?_, ?_⟩
  · exact ((Below.refl _ _).alloc (Nat.le_refl _) _).trans (hb.mono (by omega))
  · have := hb.size; omega

/-- What Quoted gives: some quote, the units written for it, the quote. -/
def IsOut (asc : Bool) (cs : List Nat) (s : ByteArray) : Prop := ∃ qn, IsQ qn ∧ s.data.toList = UInt8.ofNat qn :: (outAll asc qn cs ++ [UInt8.ofNat qn])
def GivesOut (asc : Bool) (cs : List Nat) (w : World) (e : Ending) (w' : World) : Prop := ∃ s, e = .returned (.string s) ∧ IsOut asc cs s ∧ Below w.heap.size w w'

set_option maxRecDepth 1000000 in
set_option maxHeartbeats 2000000 in
theorem zzQuoted (text : ByteArray) (asc mini back : Bool) (cs : List Nat) (w : World) (hsz : text.size ≤ 16384) (henc : text.data.toList = cs.flatMap enc) (hsc : ∀ c ∈ cs, Scal c) (hb : ∀ c ∈ cs, c < 65536) :
    Calls Tryz.prog 8 #[.string text, .bool asc, .bool mini, .bool back] w (GivesOut asc cs w) := by
  have hn : cs.length ≤ 16384 := by
    have := posOf_ge cs cs.length (Nat.le_refl _)
    rw [posOf_end text cs henc] at this
    omega
  have HE := Lib.hid henc
  clear henc
  go_enter Tryz.func8, Tryz.ntmps8
  go_wp2_with fail
  all_goals
    refine (toUTF16 text cs _ hsz HE.out hsc hb).mono ?_
    intro e w1 hg
    obtain ⟨g, cap, rfl, hp, hO, hd, hbel, hsz1⟩ := zz_step (asc := asc) (mini := mini) hg (by kernel_rfl) ⟨by kernel_rfl, by kernel_rfl, by kernel_rfl, by kernel_rfl⟩
    clear hg
    go_wp2_with fail
    refine (quoted w.heap.size (w.heap.size + 1) g cap _ asc mini _ w1 cs hp hO (by omega) hsz1 hn hd hsc hb).mono ?_
    rintro e w2 ⟨rfl, h2⟩
    obtain ⟨qn, C', hq, ⟨hblk2, v2, hj2, hown2⟩, hbel2, _⟩ := h2.out
    clear h2 hp hO hd
    have hcell := cell_of_block hblk2 hj2
    have hcv := owns_string hown2
    obtain ⟨ao, an, ac, rfl⟩ := hown2.shape
    clear hblk2 hj2 hown2
    go_wp2
    go_ret
    exact ⟨_, rfl, ⟨qn, hq, rfl⟩, hbel.trans hbel2⟩

set_option maxHeartbeats 1000000 in
theorem quotedImpl (text : ByteArray) (asc mini back : Bool) (cs : List Nat) (w : World) (hsz : text.size ≤ 16384) (henc : text.data.toList = cs.flatMap enc) (hsc : ∀ c ∈ cs, Scal c) (hb : ∀ c ∈ cs, c < 65536) :
    Calls Tryz.prog 5 #[.string text, .bool asc, .bool mini, .bool back] w (GivesOut asc cs w) := by
  have H := Lib.hid (zzQuoted text asc mini back cs w hsz henc hsc hb)
  clear henc
  go_enter Tryz.func5, Tryz.ntmps5
  go_wp2_with fail
  refine H.out.mono ?_
  rintro e w1 ⟨s, rfl, ho, hbel⟩
  have HO := Lib.hid ho
  clear ho
  go_wp2
  go_ret
  exact ⟨s, rfl, HO.out, hbel⟩
end Go.Proofs.YtmfbgoikekmdkaaGreatFmt
