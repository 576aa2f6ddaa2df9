/-
  WALK: (*printer).printQuotedUTF16: some quote, the units as the plain law says for that quote, the quote.
-/
import Derived.Test.YtmfbgoikekmdkaaGreatFmtPr9
namespace Go.Proofs.YtmfbgoikekmdkaaGreatFmt
open Go.RowKit Go.Lib Go.FQ

/-- The three quotes. -/
def IsQ (qn : Nat) : Prop := qn = 34 ∨ qn = 39 ∨ qn = 96

theorem data_kept {w w' : World} {b B g dcap : Nat} {cs : List Nat} (ho : OthersKept 5 (some b) w w') (hb : b < B) (hd : w.ownsRow B 102 1 (.slice (some ⟨g, 0, none⟩) cs.length dcap) cs.length (u16s cs)) :
    w'.ownsRow B 102 1 (.slice (some ⟨g, 0, none⟩) cs.length dcap) cs.length (u16s cs) := by
  obtain ⟨h1, h2⟩ := hd
  refine ⟨h1, ?_⟩
  rcases h2 with ⟨hv, _⟩ | ⟨g', cap, cur, hv, hbg, hg, rest⟩
  · cases hv
  · cases hv
    exact .inr ⟨g, dcap, cur, rfl, hbg, ho g _ hg (fun e => by cases e; omega) (not_bytes (by decide)), rest⟩

theorem ix34 (w : World) : (Instr.index 9 (.string ⟨#[34]⟩) (.int .i64 0)).run Tryz.prog w = .ok (.int .u8 34) w := by kernel_rfl
theorem ix39 (w : World) : (Instr.index 9 (.string ⟨#[39]⟩) (.int .i64 0)).run Tryz.prog w = .ok (.int .u8 39) w := by kernel_rfl
theorem ix96 (w : World) : (Instr.index 9 (.string ⟨#[96]⟩) (.int .i64 0)).run Tryz.prog w = .ok (.int .u8 96) w := by kernel_rfl

/-- What printQuotedUTF16 leaves. -/
def Quotes (b B : Nat) (asc : Bool) (cs : List Nat) (w w' : World) : Prop :=
  ∃ qn C', IsQ qn ∧ PrAt b B C' (UInt8.ofNat qn :: (outAll asc qn cs ++ [UInt8.ofNat qn])) w' ∧ Below b w w' ∧ OthersKept 5 (some b) w w'
theorem quotes_of {b B : Nat} {asc : Bool} {cs : List Nat} {w w1 w2 w3 : World} {C3 : Array Value} (qn : Nat) (hq : IsQ qn) (hp : PrAt b B C3 ([UInt8.ofNat qn] ++ outAll asc qn cs ++ [UInt8.ofNat qn]) w3)
    (b1 : Below b w w1) (o1 : OthersKept 5 (some b) w w1) (b2 : Below b w1 w2) (o2 : OthersKept 5 (some b) w1 w2) (b3 : Below b w2 w3) (o3 : OthersKept 5 (some b) w2 w3) : Quotes b B asc cs w w3 :=
  ⟨qn, C3, hq, by simpa using hp, (b1.trans b2).trans b3, (o1.trans o2).trans o3⟩
theorem out_len (asc : Bool) (qn : Nat) (cs : List Nat) (x : UInt8) (hn : cs.length ≤ 16384) : ([x] ++ outAll asc qn cs).length + 1 ≤ 1099511627776 := by
  have := outTo_length asc qn cs cs.length
  rw [List.length_append]
  unfold outAll
  simp
  omega

set_option maxRecDepth 1000000 in
set_option maxHeartbeats 4000000 in
theorem quoted (b B g dcap : Nat) (f : Int) (asc mini : Bool) (C : Array Value) (w : World) (cs : List Nat)
    (hp : PrAt b B C [] w) (hO : Opts asc mini C) (hbB : b < B) (hB : B ≤ w.heap.size) (hn : cs.length ≤ 16384)
    (hd : w.ownsRow B 102 1 (.slice (some ⟨g, 0, none⟩) cs.length dcap) cs.length (u16s cs)) (hsc : ∀ c ∈ cs, Scal c) (hb : ∀ c ∈ cs, c < 65536) :
    Calls Tryz.prog 10 #[.pointer (some ⟨b, 0, none⟩), .slice (some ⟨g, 0, none⟩) cs.length dcap, .int .u8 f] w fun e w' => e = .returned (.tuple #[]) ∧ Hid (Quotes b B asc cs w w') := by
  have hc24 := cell_of_block hp.block hO.feat
  have hc30 := cell_of_block hp.block hO.mini
  have hcell : ∀ k, k < cs.length → w.cell? ⟨g, k, none⟩ = some (.int .u16 (cs.getD k 0 : Nat)) := by
    intro k hk
    rw [hd.cellAt k (by simpa using hk)]
    unfold u16s
    simp [hk]
  have HC := Lib.hid hcell
  clear hcell
  go_enter Tryz.func10, Tryz.ntmps10
  go_wp2_with (first
    | (go_at_call 14; refine (has_zero 72057594037927936 _ (by decide) (by decide)).mono ?_; rintro e w' ⟨rfl, rfl⟩))
  go_loop [6, 7, 8, 22] (fun x y z i => ∃ (k : Nat) (sx sy sz : Int), k ≤ cs.length ∧ i = .int .i64 k ∧ x = .int .i64 sx ∧ y = .int .i64 sy ∧ z = .int .i64 sz ∧ (0 ≤ sx ∧ sx ≤ k) ∧ (0 ≤ sy ∧ sy ≤ k) ∧ (-k ≤ sz ∧ sz ≤ k)) (fun _ _ _ i => cs.length - (intOf i).toNat)
  case atStart => exact ⟨0, 0, 0, 0, by omega, rfl, rfl, rfl, rfl, by omega, by omega, by omega⟩
  case round =>
    obtain ⟨k, sx, sy, sz, hk, rfl, rfl, rfl, rfl, ⟨hx1, hx2⟩, ⟨hy1, hy2⟩, hz1, hz2⟩ := hrel
    by_cases hlt : k < cs.length
    · have hu := HC.out k hlt
      obtain ⟨c, hc⟩ : ∃ c : Int, c = ((cs.getD k 0 : Nat) : Int) := ⟨_, rfl⟩
      rw [← hc] at hu
      clear hc
      by_cases c10 : c = 10
      · subst c10
        cases mini
        · go_wp2
          go_round
          case rel => exact ⟨k + 1, sx, sy, sz, by omega, by go_num, rfl, rfl, rfl, by omega, by omega, by omega⟩
          case measure => simp [intOf]; omega
        · go_wp2
          go_round
          case rel => exact ⟨k + 1, sx, sy, sz - 1, by omega, by go_num, rfl, rfl, rfl, by omega, by omega, by omega⟩
          case measure => simp [intOf]; omega
      by_cases c39 : c = 39
      · subst c39
        go_wp2
        go_round
        case rel => exact ⟨k + 1, sx + 1, sy, sz, by omega, by go_num, rfl, rfl, rfl, by omega, by omega, by omega⟩
        case measure => simp [intOf]; omega
      by_cases c34 : c = 34
      · subst c34
        go_wp2
        go_round
        case rel => exact ⟨k + 1, sx, sy + 1, sz, by omega, by go_num, rfl, rfl, rfl, by omega, by omega, by omega⟩
        case measure => simp [intOf]; omega
      by_cases c96 : c = 96
      · subst c96
        go_wp2
        go_round
        case rel => exact ⟨k + 1, sx, sy, sz + 1, by omega, by go_num, rfl, rfl, rfl, by omega, by omega, by omega⟩
        case measure => simp [intOf]; omega
      by_cases c36 : c = 36
      · subst c36
        by_cases hk1 : k + 1 < cs.length
        · have hu1 := HC.out (k + 1) hk1
          obtain ⟨d, hd'⟩ : ∃ d : Int, d = ((cs.getD (k + 1) 0 : Nat) : Int) := ⟨_, rfl⟩
          rw [← hd'] at hu1
          clear hd'
          by_cases d123 : d = 123
          · subst d123
            go_wp2
            go_round
            case rel => exact ⟨k + 1, sx, sy, sz + 1, by omega, by go_num, rfl, rfl, rfl, by omega, by omega, by omega⟩
            case measure => simp [intOf]; omega
          · have hdb : (d == 123) = false := by simpa using d123
            clear d123
            go_wp2
            go_round
            case rel => exact ⟨k + 1, sx, sy, sz, by omega, by go_num, rfl, rfl, rfl, by omega, by omega, by omega⟩
            case measure => simp [intOf]; omega
        · go_wp2
          go_round
          case rel => exact ⟨k + 1, sx, sy, sz, by omega, by go_num, rfl, rfl, rfl, by omega, by omega, by omega⟩
          case measure => simp [intOf]; omega
      have b10 : (c == 10) = false := by simpa using c10
      have b39 : (c == 39) = false := by simpa using c39
      have b34 : (c == 34) = false := by simpa using c34
      have b96 : (c == 96) = false := by simpa using c96
      have b36 : (c == 36) = false := by simpa using c36
      clear c10 c39 c34 c96 c36
      go_wp2
      go_round
      case rel => exact ⟨k + 1, sx, sy, sz, by omega, by go_num, rfl, rfl, rfl, by omega, by omega, by omega⟩
      case measure => simp [intOf]; omega
    · go_wp2_with fail
      all_goals first
    | (with_reducible refine (print_any b B C [] ⟨#[34]⟩ w hp hbB hB (by decide)).mono ?_
       rintro e w1 ⟨rfl, h1⟩
       obtain ⟨⟨v1, hp1⟩, b1, o1⟩ := h1.out
       clear h1
       have hB1 : B ≤ w1.heap.size := Nat.le_trans hB b1.size
       have hd1 := data_kept o1 hbB hd
       have hix := ix34
       go_wp2_with fail
       clear hix
       refine (unquoted b B g dcap f asc mini 34 _ [34] w1 cs hp1 (hO.set v1) hbB hB1 (by decide) hn hd1 hsc hb (by decide)).mono ?_
       rintro e w2 ⟨rfl, h2⟩
       obtain ⟨⟨v2, hp2⟩, b2, o2⟩ := h2.out
       clear h2
       have hB2 : B ≤ w2.heap.size := Nat.le_trans hB1 b2.size
       go_wp2_with fail
       refine (print_any b B _ ([34] ++ outAll asc 34 cs) ⟨#[34]⟩ w2 hp2 hbB hB2 (out_len asc 34 cs _ hn)).mono ?_
       rintro e w3 ⟨rfl, h3⟩
       obtain ⟨⟨v3, hp3⟩, b3, o3⟩ := h3.out
       clear h3
       go_wp2_with fail
       go_end0
       exact ⟨rfl, quotes_of 34 (by unfold IsQ; decide) hp3 b1 o1 b2 o2 b3 o3⟩)
    | (with_reducible refine (print_any b B C [] ⟨#[39]⟩ w hp hbB hB (by decide)).mono ?_
       rintro e w1 ⟨rfl, h1⟩
       obtain ⟨⟨v1, hp1⟩, b1, o1⟩ := h1.out
       clear h1
       have hB1 : B ≤ w1.heap.size := Nat.le_trans hB b1.size
       have hd1 := data_kept o1 hbB hd
       have hix := ix39
       go_wp2_with fail
       clear hix
       refine (unquoted b B g dcap f asc mini 39 _ [39] w1 cs hp1 (hO.set v1) hbB hB1 (by decide) hn hd1 hsc hb (by decide)).mono ?_
       rintro e w2 ⟨rfl, h2⟩
       obtain ⟨⟨v2, hp2⟩, b2, o2⟩ := h2.out
       clear h2
       have hB2 : B ≤ w2.heap.size := Nat.le_trans hB1 b2.size
       go_wp2_with fail
       refine (print_any b B _ ([39] ++ outAll asc 39 cs) ⟨#[39]⟩ w2 hp2 hbB hB2 (out_len asc 39 cs _ hn)).mono ?_
       rintro e w3 ⟨rfl, h3⟩
       obtain ⟨⟨v3, hp3⟩, b3, o3⟩ := h3.out
       clear h3
       go_wp2_with fail
       go_end0
       exact ⟨rfl, quotes_of 39 (by unfold IsQ; decide) hp3 b1 o1 b2 o2 b3 o3⟩)
    | (with_reducible refine (print_any b B C [] ⟨#[96]⟩ w hp hbB hB (by decide)).mono ?_
       rintro e w1 ⟨rfl, h1⟩
       obtain ⟨⟨v1, hp1⟩, b1, o1⟩ := h1.out
       clear h1
       have hB1 : B ≤ w1.heap.size := Nat.le_trans hB b1.size
       have hd1 := data_kept o1 hbB hd
       have hix := ix96
       go_wp2_with fail
       clear hix
       refine (unquoted b B g dcap f asc mini 96 _ [96] w1 cs hp1 (hO.set v1) hbB hB1 (by decide) hn hd1 hsc hb (by decide)).mono ?_
       rintro e w2 ⟨rfl, h2⟩
       obtain ⟨⟨v2, hp2⟩, b2, o2⟩ := h2.out
       clear h2
       have hB2 : B ≤ w2.heap.size := Nat.le_trans hB1 b2.size
       go_wp2_with fail
       refine (print_any b B _ ([96] ++ outAll asc 96 cs) ⟨#[96]⟩ w2 hp2 hbB hB2 (out_len asc 96 cs _ hn)).mono ?_
       rintro e w3 ⟨rfl, h3⟩
       obtain ⟨⟨v3, hp3⟩, b3, o3⟩ := h3.out
       clear h3
       go_wp2_with fail
       go_end0
       exact ⟨rfl, quotes_of 96 (by unfold IsQ; decide) hp3 b1 o1 b2 o2 b3 o3⟩)
end Go.Proofs.YtmfbgoikekmdkaaGreatFmt

