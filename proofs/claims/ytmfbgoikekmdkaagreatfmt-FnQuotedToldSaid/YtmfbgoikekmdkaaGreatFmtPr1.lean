/-
  WALK: (*printer).print.
-/
import Derived.Test.YtmfbgoikekmdkaaGreatFmtApp
namespace Go.Proofs.YtmfbgoikekmdkaaGreatFmt
open Go.RowKit Go.Lib

/-- The printer lies in block b, its cells are C, its bytes are l. -/
structure PrAt (b B : Nat) (C : Array Value) (l : List UInt8) (w : World) : Prop where
  block : w.heap[b]? = some (.cells C 88 (0, 0))
  js : ∃ v, C[9]? = some v ∧ Owns w B v l

theorem appended_block {w w' : World} {B : Nat} {v v' : Value} {l : List UInt8} (h : Appended w B v l v' w') {k : Nat} {o : Obj} (hk : w.heap[k]? = some o) (hne : v.ownBlock ≠ some k) : w'.heap[k]? = some o :=
  (h.grown.block k (lt_of_block hk) (fun e => hne e.symm)).trans hk
theorem appended_below {w0 w w' : World} {D B : Nat} {v v' : Value} {l l0 : List UInt8} (h0 : Below D w0 w) (hown : Owns w B v l0) (h : Appended w B v l v' w') (hD : D ≤ B) (hB : B ≤ w.heap.size) : Below D w0 w' :=
  h0.grown h.grown (by omega) (fun k hk => by have := (hown.lt k hk).1; omega)
theorem appended_others {w0 w w' : World} {b : Option Nat} {B : Nat} {v v' : Value} {l l0 : List UInt8} (h0 : OthersKept 5 b w0 w) (hown : Owns w B v l0) (h : Appended w B v l v' w') : OthersKept 5 b w0 w' :=
  h0.grown h.grown hown.kind
/-- Of a block whose kind is not that of bytes nothing is a row of bytes. -/
theorem not_bytes {C : Array Value} {t : TypeId} {z : Nat × Nat} (ht : t ≠ 5) : ∀ c fz, Obj.cells C t z ≠ .cells c 5 fz := by
  intro c fz h
  cases h
  exact ht rfl

set_option maxHeartbeats 1000000 in
theorem print_any (b B : Nat) (C : Array Value) (l : List UInt8) (t : ByteArray) (w : World) (hp : PrAt b B C l w) (hb : b < B) (hB : B ≤ w.heap.size) (hsz : l.length + t.size ≤ 1099511627776) :
    Calls Tryz.prog 15 #[.pointer (some ⟨b, 0, none⟩), .string t] w fun e w' => e = .returned (.tuple #[]) ∧
      Hid ((∃ v, PrAt b B (C.setIfInBounds 9 v) (l ++ t.data.toList) w') ∧ Below b w w' ∧ OthersKept 5 (some b) w w') := by
  obtain ⟨hblk, v, hj, hown⟩ := hp
  have hcell := cell_of_block hblk hj
  have hfree := free_of_block (j := 9) hblk
  have hne := hown.block hblk (not_bytes (by decide))
  have HB := Lib.hid hblk
  have HJ := Lib.hid hj
  clear hblk hj
  go_enter Tryz.func15, Tryz.ntmps15
  go_wp2_with (first
    | (at_builtin; refine wpList_app_str rfl (.tmp 8) (.tmp 9) rfl B v l rfl hown t rfl hsz hB ?_; intro ao' n' c' w1 happ; have hcell1 := cell_of_block (appended_block happ HB.out hne) HJ.out; have hfree1 := free_of_block (j := 9) (appended_block happ HB.out hne)))
  go_end0
  refine ⟨rfl, ?_⟩
  have hne' : Value.ownBlock (.slice ao' n' c') ≠ some b := by
    rcases happ.place with h | h
    · rw [h]; exact hne
    · rw [h]; intro e; cases e; omega
  have hjl : 9 < C.size := by
    have := HJ.out
    rcases Nat.lt_or_ge 9 C.size with h | h
    · exact h
    · simp [Array.getElem?_eq_none h] at this
  refine ⟨⟨.slice ao' n' c', ⟨block_setCell (appended_block happ HB.out hne) _, .slice ao' n' c', ?_, happ.own.setCell (by simpa using hne') _⟩⟩, ?_, ?_⟩
  · simp [hjl]
  · have h1 : Below b w w1 := appended_below (Below.refl _ _) hown happ (by omega) hB
    exact h1.setCell (p := ⟨b, 9, none⟩) (Nat.le_refl _) _
  · have h1 : OthersKept 5 (some b) w w1 := appended_others (OthersKept.refl _ _ _) hown happ
    exact h1.setCell ⟨b, 9, none⟩ rfl _
end Go.Proofs.YtmfbgoikekmdkaaGreatFmt
