/-
  WALK: helpers.StringToUTF16: of a text whose code points are all of the first plane it gives just these, as a new slice.
-/
import Derived.Test.YtmfbgoikekmdkaaGreatFmtRows
import Derived.Test.YtmfbgoikekmdkaaGreatFmtReads
import Derived.WalkKit
import Derived.WalkSpells
import Derived.WalkLawsBesides
import Derived.Lib.OthersKept
import Derived.Lib.Hide
namespace Go.Proofs.YtmfbgoikekmdkaaGreatFmt
open Go.RowKit Go.FQ

theorem Tryz.info102 : (Tryz.prog.info? 102).map (fun i => (i.zero, i.size, i.bytes)) = some (some (.int .u16 0), 1, 2) := by kernel_rfl

/-- Where the k-th unit of a text begins. -/
def posOf (cs : List Nat) (k : Nat) : Nat := ((cs.take k).flatMap enc).length
theorem posOf_zero (cs : List Nat) : posOf cs 0 = 0 := rfl
theorem posOf_succ (cs : List Nat) (k : Nat) (h : k < cs.length) : posOf cs (k + 1) = posOf cs k + (enc (cs.getD k 0)).length := by
  have e : cs.getD k 0 = cs[k] := by simp [List.getD, h]
  unfold posOf
  rw [e, List.take_succ_eq_append_getElem h, List.flatMap_append, List.length_append, List.flatMap_cons, List.flatMap_nil, List.append_nil]
theorem len_list (s : ByteArray) : s.data.toList.length = s.size := Array.length_toList
theorem decode_list (s : ByteArray) (p : Nat) : Utf8.decode s p = Lib.decodeL (s.data.toList.drop p) := by
  unfold Lib.decodeL
  rw [Lib.decode_at, Lib.decode_at]
  have e : ∀ j, (⟨(s.data.toList.drop p).toArray⟩ : ByteArray).get! (0 + j) = s.get! (p + j) := by
    intro j
    simp [ByteArray.get!, getElem!_def]
  have e0 : (⟨(s.data.toList.drop p).toArray⟩ : ByteArray).get! 0 = s.get! p := e 0
  have hz : (⟨(s.data.toList.drop p).toArray⟩ : ByteArray).size - 0 = s.size - p := by
    show (s.data.toList.drop p).toArray.size - 0 = _
    rw [List.size_toArray, List.length_drop, len_list]
    rfl
  rw [hz, e0, e 1, e 2, e 3]
theorem drop_pos (s : ByteArray) (cs : List Nat) (henc : s.data.toList = cs.flatMap enc) (k : Nat) (h : k < cs.length) :
    s.data.toList.drop (posOf cs k) = enc (cs.getD k 0) ++ (cs.drop (k + 1)).flatMap enc := by
  have e : cs = cs.take k ++ (cs.getD k 0 :: cs.drop (k + 1)) := by
    have := List.drop_eq_getElem_cons h
    rw [show cs.getD k 0 = cs[k] by simp [List.getD, h], ← this, List.take_append_drop]
  rw [henc]
  conv => lhs; arg 2; rw [e]
  rw [List.flatMap_append, List.flatMap_cons]
  unfold posOf
  rw [List.drop_left]
theorem decode_pos (s : ByteArray) (cs : List Nat) (henc : s.data.toList = cs.flatMap enc) (hsc : ∀ c ∈ cs, Scal c) (k : Nat) (h : k < cs.length) :
    Utf8.decode s (posOf cs k) = (cs.getD k 0, (enc (cs.getD k 0)).length) := by
  rw [decode_list, drop_pos s cs henc k h, decode_enc _ (hsc _ _)]
  rw [show cs.getD k 0 = cs[k] by simp [List.getD, h]]
  exact List.getElem_mem h
theorem posOf_lt (s : ByteArray) (cs : List Nat) (henc : s.data.toList = cs.flatMap enc) (k : Nat) (h : k < cs.length) : posOf cs k < s.size := by
  have := congrArg List.length (drop_pos s cs henc k h)
  have hp := enc_pos (cs.getD k 0)
  rw [List.length_drop, List.length_append] at this
  have hz := len_list s
  omega
theorem posOf_end (s : ByteArray) (cs : List Nat) (henc : s.data.toList = cs.flatMap enc) : posOf cs cs.length = s.size := by
  unfold posOf
  rw [List.take_length, ← henc]
  exact len_list s
theorem posOf_ge (cs : List Nat) : ∀ k, k ≤ cs.length → k ≤ posOf cs k
  | 0, _ => Nat.zero_le _
  | k + 1, h => by
    have := posOf_ge cs k (by omega)
    have hp := enc_pos (cs.getD k 0)
    rw [posOf_succ cs k (by omega)]
    omega

theorem ownsRow_iterKind {w : World} {base : Nat} {e : TypeId} {size : Nat} {v : Value} {n : Nat} {xs : List Value} (h : w.ownsRow base e size v n xs) {k : Nat} {s : ByteArray} {p : Nat} (hk : w.heap[k]? = some (.stringIter s p)) (p' : Nat) :
    (w.iterAt k s p').ownsRow base e size v n xs := by
  obtain ⟨h1, h2⟩ := h
  refine ⟨h1, ?_⟩
  rcases h2 with h2 | ⟨g, cap, cur, a, b, c, d⟩
  · exact .inl h2
  · refine .inr ⟨g, cap, cur, a, b, ?_, d⟩
    rw [Lib.iterAt_other _ _ _ _ _ (fun e => by rw [e, hk] at c; cases c)]
    exact c
theorem ownsRow_notIter {w : World} {base : Nat} {e : TypeId} {size : Nat} {v : Value} {n : Nat} {xs : List Value} (h : w.ownsRow base e size v n xs) {k : Nat} {s : ByteArray} {p : Nat} (hk : w.heap[k]? = some (.stringIter s p)) : v.ownBlock ≠ some k := by
  rcases h.2 with ⟨rfl, _⟩ | ⟨g, cap, cur, rfl, b, c, d⟩
  · simp [Value.ownBlock]
  · simp only [Value.ownBlock]
    intro e
    cases e
    rw [hk] at c
    cases c

def u16s (cs : List Nat) : List Value := cs.map fun (c : Nat) => Value.int .u16 c
theorem u16s_snoc (cs : List Nat) (k : Nat) (h : k < cs.length) : u16s (cs.take (k + 1)) = u16s (cs.take k) ++ [Value.int .u16 (cs.getD k 0 : Nat)] := by
  have e : cs.getD k 0 = cs[k] := by simp [List.getD, h]
  unfold u16s
  rw [e, List.take_succ_eq_append_getElem h, List.map_append]
  rfl

/-- What StringToUTF16 gives back: a slice of the call's own that holds the units. -/
def GivesUnits (cs : List Nat) (w : World) (e : Ending) (w' : World) : Prop :=
  ∃ g cap, e = .returned (.slice (some ⟨g, 0, none⟩) cs.length cap) ∧ w'.ownsRow w.heap.size 102 1 (.slice (some ⟨g, 0, none⟩) cs.length cap) cs.length (u16s cs) ∧ Below w.heap.size w w'

set_option maxRecDepth 1000000 in
set_option maxHeartbeats 2000000 in
theorem toUTF16 (s : ByteArray) (cs : List Nat) (w : World) (hsz : s.size ≤ 16384) (henc : s.data.toList = cs.flatMap enc) (hsc : ∀ c ∈ cs, Scal c) (hb : ∀ c ∈ cs, c < 65536) :
    Calls Tryz.prog 11 #[.string s] w (GivesUnits cs w) := by
  obtain ⟨i0, hi, hz0, hz1, hz2⟩ := info_parts Tryz.info102
  have hcl : cs.length ≤ s.size := by
    have := posOf_ge cs cs.length (Nat.le_refl _)
    rw [posOf_end s cs henc] at this
    exact this
  have HENC := Lib.hid henc
  clear henc
  go_enter Tryz.func11, Tryz.ntmps11
  go_wp2_with (first
    | (refine wpList_make_own _ rfl _ _ 91 rfl w.heap.size 102 i0 (.int .u16 0) 1 Tryz.underlying91 hi hz0 hz1 .i64 .i64 _ s.size rfl rfl rfl (by rw [hz2]; omega) (by unfold maxLen; omega) (by omega) ?_; intro w1 hown1 hgrow1))
  have hI0 : w.heap.size ≤ w1.heap.size := hgrow1.size
  have hbel1 : Below w.heap.size w w1 := (Below.refl _ _).grown hgrow1 (Nat.le_refl _) (by intro k h; cases h)
  clear hgrow1
  go_loopw [3] (fun v wr => ∃ k : Nat, k ≤ cs.length ∧ wr.heap[w1.heap.size]? = some (.stringIter s (posOf cs k)) ∧ wr.ownsRow w.heap.size 102 1 v k (u16s (cs.take k)) ∧ Below w.heap.size w wr ∧ v ≠ .slice none 0 0) (fun _ wr => s.size - wr.iterPos w1.heap.size)
  case atStart => exact ⟨0, Nat.zero_le _, World.iter_heap w1 s 0, hown1.alloc _, hbel1.alloc hI0 _, by simp⟩
  case round =>
    obtain ⟨k, hk, hit, hown, hbw, hnn⟩ := hrel
    have HNN := Lib.hid hnn
    clear hnn
    have hpos0 := iterPos_of hit
    clear hown1 hbel1
    by_cases hlt : k < cs.length
    · have hp := posOf_lt s cs HENC.out k hlt
      have hdec := decode_pos s cs HENC.out hsc k hlt
      have hsu := posOf_succ cs k hlt
      have hmem : cs.getD k 0 ∈ cs := by rw [show cs.getD k 0 = cs[k] by simp [List.getD, hlt]]; exact List.getElem_mem hlt
      have hcb := hb _ hmem
      have hsn := u16s_snoc cs k hlt
      have hnx : ∀ ty, (Instr.next (.pointer (some ⟨w1.heap.size, 0, none⟩)) true ty).run Tryz.prog wr = _ := fun ty => Lib.run_next_any_at wr w1.heap.size s (posOf cs k) ty hit hp
      rw [hdec] at hnx
      rw [← hsu] at hnx
      have hit2 := Lib.iterAt_heap wr w1.heap.size s (posOf cs k) (posOf cs (k + 1)) hit
      have hbw2 := Lib.below_iterAt hbw (k := w1.heap.size) hI0 s (posOf cs (k + 1))
      have hown2 := ownsRow_iterKind hown hit (posOf cs (k + 1))
      have hp2 := posOf_ge cs (k + 1) (by omega)
      have hpe := enc_pos (cs.getD k 0)
      obtain ⟨W1, hW1⟩ : ∃ W1, W1 = wr.iterAt w1.heap.size s (posOf cs (k + 1)) := ⟨_, rfl⟩
      rw [← hW1] at hnx hit2 hbw2 hown2
      have hBlt := lt_of_block hit2
      have hni := ownsRow_notIter hown2 hit2
      have hlt2 := fun j => hown2.lt j
      obtain ⟨c, hc⟩ : ∃ c, c = cs.getD k 0 := ⟨_, rfl⟩
      rw [← hc] at hnx hcb hsn hsu hpe
      have hcz : (c : Int) ≤ 65535 := by omega
      have HSN := Lib.hid hsn
      have HSU := Lib.hid hsu
      clear hW1 hit hown hbw hdec hsu hsn hc hmem
      have hw16 : IntKind.u16.wrap (c : Int) = (c : Int) := by rw [IntKind.wrap_u16]; omega
      go_wp2_with (first
        | (at_builtin; refine wpList_append_own _ rfl (.tmp 16) (.tmp 19) 91 rfl w.heap.size 102 i0 (.int .u16 0) 1 2 Tryz.underlying91 hi hz0 hz1 hz2 rfl (by decide) _ _ _ rfl (hown2.alloc _) ⟨W1.heap.size, 0, none⟩ 1 1 [.int .u16 (c : Int)] rfl rfl (cell_one_new _ _ _) (fun x hx => by simp at hx; subst hx; rfl) (by unfold maxLen; omega) (by omega) (by have := hbw2.size; simp; omega) ?_; intro v' w3 hown3 hgrow3 hnil3))
      have hgrow4 : (W1.alloc (.cells #[.int .u16 (c : Int)] 102)).grownBy w3 u3.ownBlock := hgrow3
      have hit3 : w3.heap[w1.heap.size]? = some (.stringIter s (posOf cs (k + 1))) := by
        rw [hgrow4.block w1.heap.size (by simp; omega) (fun h => hni h.symm), Below.heap_alloc _ _ _ hBlt]
        exact hit2
      have hbw3 : Below w.heap.size w w3 := Below.grown (hbw2.alloc (by have := hbw2.size; omega) _) hgrow4 (by have := hbw2.size; simp; omega) (fun j hj => (hlt2 j hj).1)
      have hnn3 : v' ≠ .slice none 0 0 := fun h => by have := (hnil3.1 h).2; omega
      rw [← HSN.out] at hown3
      clear hgrow3 hgrow4 hnil3
      go_roundw
      case rel => exact ⟨k + 1, by omega, hit3, hown3, hbw3, hnn3⟩
      case measure => rw [iterPos_of hit3, hpos0, HSU.out]; omega
    · have hke : k = cs.length := by omega
      have hp : ¬ posOf cs k < s.size := by rw [hke, posOf_end s cs HENC.out]; omega
      have hnx : ∀ ty, (Instr.next (.pointer (some ⟨w1.heap.size, 0, none⟩)) true ty).run Tryz.prog wr = _ := fun ty => Lib.run_next_end_at wr w1.heap.size s (posOf cs k) ty hit hp
      subst hke
      rw [List.take_length] at hown
      clear hit hpos0
      rcases hown.2 with ⟨hv, _⟩ | ⟨g, cap, cur, rfl, _⟩
      · exact absurd hv HNN.out
      go_wp2
      go_ret
      exact ⟨g, cap, rfl, hown, hbw⟩
end Go.Proofs.YtmfbgoikekmdkaaGreatFmt
