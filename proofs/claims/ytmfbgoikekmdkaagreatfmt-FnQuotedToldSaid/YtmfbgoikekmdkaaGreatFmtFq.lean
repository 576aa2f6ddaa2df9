/-
  laws.FnQuoted: true, whatever the input.
-/
import Derived.Test.YtmfbgoikekmdkaaGreatFmtTo
namespace Go.Proofs.YtmfbgoikekmdkaaGreatFmt
open Go.RowKit Go.Lib Go.FQ

/-- What is known of what Quoted writes. -/
structure OutOk (asc : Bool) (m : List UInt8) (s : ByteArray) (q : Nat) (R : List UInt8) : Prop where
  isq : IsQ q
  text : s.data.toList = UInt8.ofNat q :: R
  reads : Reads q R m
  valid : Lib.validD s.data.toList = true
  size : s.size ≤ 1000000
  ascii : asc = true → ∀ i (h : i < s.size), (s[i]'h).toNat < 128
theorem out_ok (asc : Bool) (cs : List Nat) (s : ByteArray) (h : IsOut asc cs s) (hn : cs.length ≤ 16384) (hsc : ∀ c ∈ cs, Scal c) (hb : ∀ c ∈ cs, c < 65536) : ∃ q R, OutOk asc (cs.flatMap enc) s q R := by
  obtain ⟨q, hq, ht⟩ := h
  have hq1 : q < 128 := by unfold IsQ at hq; omega
  have e : (UInt8.ofNat q).toNat = q := tn q (by omega)
  have hlen := outTo_length asc q cs cs.length
  have hsz : s.size ≤ 1000000 := by
    have := congrArg List.length ht
    rw [len_list, List.length_cons, List.length_append] at this
    unfold outAll at this
    simp at this
    omega
  refine ⟨q, _, hq, ht, reads_all asc q _ e cs hsc hb hq, ?_, hsz, ?_⟩
  · rw [ht]; exact valid_out asc q _ (by omega) cs hsc hb
  · rintro rfl i hi
    have ha : AscOk (UInt8.ofNat q :: (outAll true q cs ++ [UInt8.ofNat q])) := by
      refine ascOk_cons (by omega) ?_
      intro b hm
      rcases List.mem_append.1 hm with h' | h'
      · exact outTo_ascii q cs hb cs.length (Nat.le_refl _) b h'
      · simp only [List.mem_singleton] at h'; subst h'; omega
    rw [← ht] at ha
    have hm : s[i]'hi ∈ s.data.toList := by
      have h2 : i < s.data.size := hi
      exact Array.getElem_mem_toList h2
    exact ha _ hm

set_option maxRecDepth 1000000 in
set_option maxHeartbeats 4000000 in
theorem fn_long (text : ByteArray) (asc mini back : Bool) (w : World) (h : 2147483647 < text.size) :
    Calls Tryz.prog 3 #[.string text, .bool asc, .bool mini, .bool back] w fun e w' => e = .returned (.bool true) ∧ Below w.heap.size w w' := by
  have z : (2147483647 : Int) < (text.size : Int) := by omega
  clear h
  go_enter Tryz.func3, Tryz.ntmps3
  go_wp2
  go_ret
  exact ⟨rfl, Below.refl _ _⟩

set_option maxRecDepth 1000000 in
set_option maxHeartbeats 4000000 in
theorem fn_not (text : ByteArray) (asc mini back : Bool) (w : World) (hT : Lib.Utf8Tabs 0 1 w) (h : text.size ≤ 2147483647) (hv : Lib.validD text.data.toList = false ∨ 16384 < text.size) :
    Calls Tryz.prog 3 #[.string text, .bool asc, .bool mini, .bool back] w fun e w' => e = .returned (.bool true) ∧ Below w.heap.size w w' := by
  have z : (text.size : Int) ≤ 2147483647 := by omega
  have HV := Lib.hid (Tryz.utf8_ValidString text w (by omega) hT)
  obtain ⟨v, hv'⟩ : ∃ v, v = Lib.validD text.data.toList := ⟨_, rfl⟩
  rw [← hv'] at HV hv
  clear hv' h hT
  cases v with
  | false =>
    clear hv
    go_enter Tryz.func3, Tryz.ntmps3
    go_wp2_with (first
      | (go_at_call 4; refine HV.out.mono ?_; rintro e w1 ⟨rfl, hb1⟩))
    go_ret
    exact ⟨rfl, hb1⟩
  | true =>
    have z2 : (16384 : Int) < (text.size : Int) := by
      rcases hv with h | h
      · cases h
      · omega
    clear hv
    go_enter Tryz.func3, Tryz.ntmps3
    go_wp2_with (first
      | (go_at_call 4; refine HV.out.mono ?_; rintro e w1 ⟨rfl, hb1⟩))
    go_ret
    exact ⟨rfl, hb1⟩

set_option maxRecDepth 1000000 in
set_option maxHeartbeats 4000000 in
theorem fn_main (text : ByteArray) (asc mini back : Bool) (w : World) (hT : Lib.Utf8Tabs 0 1 w) (hsz : text.size ≤ 16384) (hv : Lib.validD text.data.toList = true) :
    Calls Tryz.prog 3 #[.string text, .bool asc, .bool mini, .bool back] w fun e w' => e = .returned (.bool true) ∧ Below w.heap.size w w' := by
  have z : (text.size : Int) ≤ 16384 := by omega
  have HV := Lib.hid (Tryz.utf8_ValidString text w (by omega) hT)
  rw [hv] at HV
  obtain ⟨cs, hcs⟩ : ∃ cs, cs = units text.data.toList := ⟨_, rfl⟩
  have henc : text.data.toList = cs.flatMap enc := by rw [hcs]; exact (units_enc _ hv).symm
  have hsc : ∀ c ∈ cs, Scal c := by rw [hcs]; exact units_scal _
  have hn : cs.length ≤ text.size := by
    have := posOf_ge cs cs.length (Nat.le_refl _)
    rw [posOf_end text cs henc] at this
    exact this
  have HENC := Lib.hid (And.intro henc (And.intro hsc (And.intro hT hsz)))
  clear hcs henc hv hT hsz
  go_enter Tryz.func3, Tryz.ntmps3
  go_wp2_with (first
    | (go_at_call 4; refine HV.out.mono ?_; rintro e w1 ⟨rfl, hb1⟩))
  go_loopw [10] (fun v wr => ∃ k : Nat, k ≤ cs.length ∧ wr.heap[w1.heap.size]? = some (.stringIter text (posOf cs k)) ∧ Below w.heap.size w wr ∧ ∀ j, j < k → cs.getD j 0 < 65536) (fun _ wr => text.size - wr.iterPos w1.heap.size)
  case atStart => exact ⟨0, Nat.zero_le _, World.iter_heap w1 text 0, hb1.alloc hb1.size _, fun j hj => by omega⟩
  case round =>
    obtain ⟨k, hk, hit, hbw, hall⟩ := hrel
    have hpos0 := iterPos_of hit
    have hI0 := hb1.size
    by_cases hlt : k < cs.length
    · have hp := posOf_lt text cs HENC.out.1 k hlt
      have hdec := decode_pos text cs HENC.out.1 HENC.out.2.1 k hlt
      have hsu := posOf_succ cs k hlt
      have hnx : ∀ ty, (Instr.next (.pointer (some ⟨w1.heap.size, 0, none⟩)) true ty).run Tryz.prog wr = _ := fun ty => Lib.run_next_any_at wr w1.heap.size text (posOf cs k) ty hit hp
      rw [hdec] at hnx
      rw [← hsu] at hnx
      have hit2 := Lib.iterAt_heap wr w1.heap.size text (posOf cs k) (posOf cs (k + 1)) hit
      have hbw2 := Lib.below_iterAt hbw (k := w1.heap.size) hI0 text (posOf cs (k + 1))
      have hpe := enc_pos (cs.getD k 0)
      obtain ⟨W1, hW1⟩ : ∃ W1, W1 = wr.iterAt w1.heap.size text (posOf cs (k + 1)) := ⟨_, rfl⟩
      rw [← hW1] at hnx hit2 hbw2
      obtain ⟨c, hc⟩ : ∃ c : Int, c = ((cs.getD k 0 : Nat) : Int) := ⟨_, rfl⟩
      rw [← hc] at hnx
      have hm : wr.iterPos w1.heap.size < W1.iterPos w1.heap.size ∧ wr.iterPos w1.heap.size < text.size := by
        rw [iterPos_of hit2, hpos0, hsu]
        omega
      have HSU := Lib.hid hm
      have HA := Lib.hid (And.intro hall hc)
      clear hW1 hit hbw hdec hsu hc hall hm hpos0
      by_cases hbig : 65535 < c
      · go_wp2
        go_ret
        exact ⟨rfl, hbw2⟩
      · go_wp2
        go_roundw
        case rel =>
          refine ⟨k + 1, by omega, hit2, hbw2, fun j hj => ?_⟩
          rcases Nat.lt_or_ge j k with h | h
          · exact HA.out.1 j h
          · have := HA.out.2
            have e : j = k := by omega
            subst e
            omega
        case measure => have := HSU.out; omega
    · have hke : k = cs.length := by omega
      have hp : ¬ posOf cs k < text.size := by rw [hke, posOf_end text cs HENC.out.1]; omega
      have hnx : ∀ ty, (Instr.next (.pointer (some ⟨w1.heap.size, 0, none⟩)) true ty).run Tryz.prog wr = _ := fun ty => Lib.run_next_end_at wr w1.heap.size text (posOf cs k) ty hit hp
      subst hke
      have hb : ∀ c ∈ cs, c < 65536 := by
        intro c hc
        obtain ⟨j, hj, rfl⟩ := List.getElem_of_mem hc
        have := hall j hj
        rwa [show cs.getD j 0 = cs[j] by simp [List.getD, hj]] at this
      have HQ := Lib.hid (quotedImpl text asc mini back cs wr HENC.out.2.2.2 HENC.out.1 HENC.out.2.1 hb)
      have HB := Lib.hid hb
      clear hit hpos0 hall hb hp
      go_wp2_with (first
        | (go_at_call 5; refine HQ.out.mono ?_; rintro e w2 ⟨s, rfl, hio, hb2⟩
           obtain ⟨q, R, hok⟩ := out_ok asc cs s hio (Nat.le_trans hn HENC.out.2.2.2) HENC.out.2.1 HB.out
           have hbw2 : Below w.heap.size w w2 := hbw.trans (hb2.mono hbw.size)
           have hX := textOf_q q hok.isq s (cs.flatMap enc) R w2 (Nat.le_trans hok.size (by decide)) (Utf8Tabs_below HENC.out.2.2.1 hbw2) hok.text hok.reads hok.valid
           rw [show (⟨(cs.flatMap enc).toArray⟩ : ByteArray) = text by rw [← HENC.out.1]] at hX
           have HX := Lib.hid hX
           have HOK := Lib.hid hok
           clear hX hok hio hb2)
        | (go_at_call 6; refine HX.out.mono ?_; rintro e w3 ⟨rfl, hb3⟩; have hbw3 : Below w.heap.size w w3 := hbw2.trans (hb3.mono hbw2.size); clear hb3))
      have hsz2 : (s.size : Int) ≤ 1000000 := by have := HOK.out.size; omega
      clear HQ HX hnx hbw hbw2
      go_loop [45] (fun i => ∃ k : Nat, k ≤ s.size ∧ i = .int .i64 k) (fun i => s.size - (RowKit.intOf i).toNat)
      case atStart => exact ⟨0, Nat.zero_le _, rfl⟩
      case round =>
        obtain ⟨k, hk, rfl⟩ := hrel
        by_cases hlt2 : k < s.size
        · have hix := str_index s k _ hlt2 rfl
          have hasc : asc = true → ((s[k]'hlt2).toNat : Int) < 128 := fun h => by have := HOK.out.ascii h k hlt2; omega
          obtain ⟨c, hc⟩ : ∃ c : Int, c = ((s[k]'hlt2).toNat : Int) := ⟨_, rfl⟩
          rw [← hc] at hix hasc
          clear hc
          cases asc
          · clear hix hasc
            go_wp2
            go_round
            case rel => exact ⟨k + 1, by omega, by go_num⟩
            case measure => simp [RowKit.intOf]; omega
          · have hc := hasc rfl
            clear hasc
            go_wp2
            go_round
            case rel => exact ⟨k + 1, by omega, by go_num⟩
            case measure => simp [RowKit.intOf]; omega
        · go_wp2
          go_ret
          exact ⟨rfl, hbw3⟩
end Go.Proofs.YtmfbgoikekmdkaaGreatFmt
