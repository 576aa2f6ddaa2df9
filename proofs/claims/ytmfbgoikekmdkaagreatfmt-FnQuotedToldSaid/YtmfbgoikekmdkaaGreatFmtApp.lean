/-
  LAWS for the walk: append onto a row of bytes that the call owns, told by the bytes ('Owns'), and WHERE the row lies behind it: where it lay, or in a new block.
-/
import Derived.Test.YtmfbgoikekmdkaaGreatFmtRows
import Derived.WalkKit
import Derived.WalkSpells
import Derived.WalkLawsBesides
import Derived.Lib.AppendStr
import Derived.Lib.UnsafeStr
import Derived.Lib.OthersKept
import Derived.Lib.Hide
namespace Go.Proofs.YtmfbgoikekmdkaaGreatFmt
open Go.RowKit Go.Lib

theorem Tryz.info5 : (Tryz.prog.info? 5).map (fun i => (i.zero, i.size, i.bytes)) = some (some (.int .u8 0), 1, 1) := by kernel_rfl

/-- The slice value v owns a row that begins with the bytes l. -/
def Owns (w : World) (B : Nat) (v : Value) (l : List UInt8) : Prop := w.ownsRow B 5 1 v l.length (byteCells l)

theorem Owns.nil (w : World) (B : Nat) : Owns w B (.slice none 0 0) [] := World.ownsRow_nil w B 5 1
theorem Owns.alloc {w : World} {B : Nat} {v : Value} {l : List UInt8} (h : Owns w B v l) (o : Obj) : Owns (w.alloc o) B v l := World.ownsRow.alloc h o
theorem Owns.drew {w : World} {B : Nat} {v : Value} {l : List UInt8} (h : Owns w B v l) : Owns w.drew B v l := h
theorem Owns.lt {w : World} {B : Nat} {v : Value} {l : List UInt8} (h : Owns w B v l) : ∀ k, v.ownBlock = some k → B ≤ k ∧ k < w.heap.size := World.ownsRow.lt h
theorem Owns.kept {w w' : World} {B : Nat} {v : Value} {l : List UInt8} {row : Option Nat} (h : Owns w B v l) (hg : w.grownBy w' row) (hne : v.ownBlock = none ∨ v.ownBlock ≠ row) : Owns w' B v l := World.ownsRow.kept h hg hne
theorem Owns.setCell {w : World} {B : Nat} {v : Value} {l : List UInt8} (h : Owns w B v l) {a : Addr} (ha : v.ownBlock ≠ some a.block) (u : Value) : Owns (w.setCell a u) B v l := ownsRow_setCell_other h ha u
theorem Owns.shape {w : World} {B : Nat} {v : Value} {l : List UInt8} (h : Owns w B v l) : ∃ a n c, v = .slice a n c := by
  rcases h.2 with ⟨rfl, _⟩ | ⟨g, cap, cur, rfl, _, hg, _⟩
  · exact ⟨_, _, _, rfl⟩
  · exact ⟨_, _, _, rfl⟩
/-- What holds no bytes is not the row's block. -/
theorem Owns.block {w : World} {B : Nat} {v : Value} {l : List UInt8} (h : Owns w B v l) {k : Nat} {o : Obj} (hk : w.heap[k]? = some o) (ho : ∀ c fz, o ≠ .cells c 5 fz) : v.ownBlock ≠ some k := by
  rcases h.2 with ⟨rfl, _⟩ | ⟨g, cap, cur, rfl, _, hg, _⟩
  · simp [Value.ownBlock]
  · simp only [Value.ownBlock]
    intro e
    cases e
    rw [hk] at hg
    cases hg
    exact ho _ _ rfl
theorem Owns.kind {w : World} {B : Nat} {v : Value} {l : List UInt8} (h : Owns w B v l) : ∀ g, v.ownBlock = some g → ∃ c fz, w.heap[g]? = some (.cells c 5 fz) := by
  intro g hg
  rcases h.2 with ⟨rfl, _⟩ | ⟨g', cap, cur, rfl, _, hgg, _⟩
  · simp [Value.ownBlock] at hg
  · simp [Value.ownBlock] at hg
    subst hg
    exact ⟨cur, _, hgg⟩

theorem byteCells_append (l m : List UInt8) : byteCells (l ++ m) = byteCells l ++ byteCells m := by simp [byteCells]
theorem byteCells_one (l : List UInt8) : ∀ u ∈ byteCells l, u.oneCell' = true := by
  intro u hu
  simp only [byteCells, List.mem_map] at hu
  obtain ⟨b, _, rfl⟩ := hu
  rfl
theorem strCells_bytes (s : ByteArray) : strCells s = byteCells s.data.toList := rfl

section
variable {P : Program} (w : World)

theorem where_append (t ty e : TypeId) (i : TypeInfo) (ht : P.underlying t = some (.slice e)) (hi : P.info? e = some i) (hz : i.zero = some (.int .u8 0))
    (hsize : i.size = 1) (hby : i.bytes = 1) (B : Nat) (v : Value) (n : Nat) (xs : List Value) (hown : w.ownsRow B e 1 v n xs)
    (a : Addr) (m c : Nat) (news : List Value) (hl : news.length = m) (hnews : ∀ j u, news[j]? = some u → w.cell? (a.add j) = some u) (h1 : ∀ u ∈ news, u.oneCell' = true)
    (hb : n + m ≤ 140737488355328) {v' : Value} {w' : World} (hr : (Builtin.append_ #[t, t] ty #[v, .slice (some a) m c]).run P w = .ok v' w') :
    v'.ownBlock = v.ownBlock ∨ v'.ownBlock = some w.heap.size := by
  have hxl : xs.length = n := by simpa using hown.1
  rcases hown.2 with ⟨rfl, rfl⟩ | ⟨g, cap, cur, rfl, hbg, hg, hnc, hcm, hcs, htake⟩
  · by_cases hm : m = 0
    · subst hm
      left
      simp [Builtin.append_, run_underlying ht, sizeOf, typeInfo, hi, Builtin.lenOf, Builtin.firstCells, loadCells, loadCellsFrom] at hr
      rw [← hr.1]
    · right
      have h := run_append_nil (P := P) w t ty e i (.int .u8 0) ht hi hz a m c news (by rw [hsize]; omega) hnews (by omega) (by omega) (by rw [hby]; omega)
      rw [h] at hr
      cases hr
      rfl
  · by_cases hroom : n + m ≤ cap
    · left
      have h := run_append_room (P := P) w t ty e i ht hi g n cap cur hg a m c news (by rw [hsize]; omega) hnews h1 hroom (by rw [hsize]; omega)
      rw [h] at hr
      cases hr
      rfl
    · right
      have holds : ∀ j u, xs[j]? = some u → w.cell? ((⟨g, 0, none⟩ : Addr).add j) = some u := hown.cells (g := g) rfl
      have h := run_append_grow (P := P) w t ty e i (.int .u8 0) ht hi hz ⟨g, 0, none⟩ n cap xs (by rw [hsize]; omega) holds a m c news (by rw [hsize]; omega) hnews (by omega) (by omega) (growslice_fits (by omega) (by rw [hby]; omega))
      rw [h] at hr
      cases hr
      rfl

theorem where_append_string (t u ty e : TypeId) (i : TypeInfo) (ht : P.underlying t = some (.slice e)) (hu : P.underlying u = some .string) (hi : P.info? e = some i) (hz : i.zero = some (.int .u8 0))
    (hsize : i.size = 1) (hby : i.bytes = 1) (B : Nat) (v : Value) (n : Nat) (xs : List Value) (hown : w.ownsRow B e 1 v n xs)
    (s : ByteArray) (hb : n + s.size ≤ 140737488355328) {v' : Value} {w' : World} (hr : (Builtin.append_ #[t, u] ty #[v, .string s]).run P w = .ok v' w') :
    v'.ownBlock = v.ownBlock ∨ v'.ownBlock = some w.heap.size := by
  have hxl : xs.length = n := by simpa using hown.1
  rcases hown.2 with ⟨rfl, rfl⟩ | ⟨g, cap, cur, rfl, hbg, hg, hnc, hcm, hcs, htake⟩
  · by_cases hm : s.size = 0
    · left
      have hf := run_firstCells_string (P := P) w 1 s
      rw [hm] at hf
      simp [Builtin.append_, run_underlying ht, run_underlying hu, sizeOf, typeInfo, hi, hsize, Builtin.lenOf, hm, hf] at hr
      rw [← hr.1]
    · right
      have h := run_append_nil_string (P := P) w t u ty e i (.int .u8 0) ht hu hi hz s (by omega) (by omega) (by rw [hby]; omega)
      rw [h] at hr
      cases hr
      rfl
  · by_cases hroom : n + s.size ≤ cap
    · left
      have h := run_append_room_string (P := P) w t u ty e i ht hu hi hsize g n cap cur hg s hroom (by omega)
      rw [h] at hr
      cases hr
      rfl
    · right
      have holds : ∀ j u, xs[j]? = some u → w.cell? ((⟨g, 0, none⟩ : Addr).add j) = some u := hown.cells (g := g) rfl
      have h := run_append_grow_string (P := P) w t u ty e i (.int .u8 0) ht hu hi hz ⟨g, 0, none⟩ n cap xs (by rw [hsize]; omega) holds s (by omega) (by omega) (by rw [hby]; exact growslice_fits (by omega) (by omega))
      rw [h] at hr
      cases hr
      rfl
end

/-- What an append leaves. -/
structure Appended (w : World) (B : Nat) (v : Value) (l : List UInt8) (v' : Value) (w' : World) : Prop where
  own : Owns w' B v' l
  grown : w.grownBy w' v.ownBlock
  place : v'.ownBlock = v.ownBlock ∨ v'.ownBlock = some w.heap.size

/-- 'append(v, s...)', s a string. -/
theorem run_app_str (w : World) (ty : TypeId) (B : Nat) (v : Value) (l : List UInt8) (hown : Owns w B v l) (s : ByteArray) (hb : l.length + s.size ≤ 1099511627776) (hB : B ≤ w.heap.size) :
    ∃ v' w', (Builtin.append_ #[72, 9] ty #[v, .string s]).run Tryz.prog w = .ok v' w' ∧ Appended w B v (l ++ s.data.toList) v' w' := by
  obtain ⟨i0, hi, hz0, hz1, hz2⟩ := info_parts Tryz.info5
  obtain ⟨v', w', hr, h1, h2, _⟩ := run_append_own_string (P := Tryz.prog) w B 72 9 ty 5 i0 Tryz.underlying72 Tryz.underlying9 hi hz0 hz1 hz2 v _ _ hown s (by unfold maxLen; omega) (by omega) hB
  refine ⟨v', w', hr, ⟨?_, h2, where_append_string w 72 9 ty 5 i0 Tryz.underlying72 Tryz.underlying9 hi hz0 hz1 hz2 B v _ _ hown s (by omega) hr⟩⟩
  unfold Owns
  rw [List.length_append, byteCells_append, ← strCells_bytes]
  exact h1

/-- 'append(v, x...)', x a slice whose bytes lie at ad. -/
theorem run_app_row (w : World) (ty : TypeId) (B : Nat) (v : Value) (l : List UInt8) (hown : Owns w B v l) (ad : Addr) (m : List UInt8) (n c : Nat) (hn : m.length = n) (hm : ∀ j u, (byteCells m)[j]? = some u → w.cell? (ad.add j) = some u) (hb : l.length + n ≤ 1099511627776) (hB : B ≤ w.heap.size) :
    ∃ v' w', (Builtin.append_ #[72, 72] ty #[v, .slice (some ad) n c]).run Tryz.prog w = .ok v' w' ∧ Appended w B v (l ++ m) v' w' := by
  subst hn
  obtain ⟨i0, hi, hz0, hz1, hz2⟩ := info_parts Tryz.info5
  have hml : (byteCells m).length = m.length := by simp [byteCells]
  obtain ⟨v', w', hr, h1, h2, _⟩ := run_append_own (P := Tryz.prog) w B 72 ty 5 i0 (.int .u8 0) 1 1 Tryz.underlying72 hi hz0 hz1 hz2 rfl (by decide) v _ _ hown ad m.length c (byteCells m) (by rw [hml]; omega) hm (byteCells_one m) (by unfold maxLen; omega) (by omega) hB
  refine ⟨v', w', hr, ⟨?_, h2, where_append w 72 ty 5 i0 Tryz.underlying72 hi hz0 hz1 hz2 B v _ _ hown ad m.length c (byteCells m) hml hm (byteCells_one m) (by omega) hr⟩⟩
  unfold Owns
  rw [List.length_append, byteCells_append]
  exact h1

section
variable {ops : Array Oper} {rest : List Oper} {o : Oper} {a : Act} {Q : Exit → Act → World → Prop} {w : World}
theorem wpList_app_str (hgd : o.guard = none) (sl x : Operand) (ho : o.op = .call { callee := .builtin .append, args := #[sl, x], argTypes := #[72, 9] })
    (B : Nat) (v : Value) (l : List UInt8) (hs : a.eval sl = v) (hown : Owns w B v l) (s : ByteArray) (hx : a.eval x = .string s) (hb : l.length + s.size ≤ 1099511627776) (hB : B ≤ w.heap.size)
    (h : ∀ ao n c w', Appended w B v (l ++ s.data.toList) (.slice ao n c) w' → wpList Tryz.prog ops Q rest (a.put o.dst (.slice ao n c)) w') : wpList Tryz.prog ops Q (o :: rest) a w := by
  refine wpList_plain hgd fun K hK => ?_
  obtain ⟨v', w', hr, h2⟩ := run_app_str w o.type B v l hown s hb hB
  unfold Oper.wp execOp
  simp only [ho, resolve, invoke, builtin, Sem.run_bind, Sem.run_pure, Result.andThen_ok, List.map_toArray, List.map_cons, List.map_nil, hs, hx, hr]
  obtain ⟨ao, n', c', rfl⟩ := h2.own.shape
  exact hK _ _ (h ao n' c' w' h2)
theorem wpList_app_row (hgd : o.guard = none) (sl x : Operand) (ho : o.op = .call { callee := .builtin .append, args := #[sl, x], argTypes := #[72, 72] })
    (B : Nat) (v : Value) (l : List UInt8) (hs : a.eval sl = v) (hown : Owns w B v l) (ad : Addr) (m : List UInt8) (n c : Nat) (hx : a.eval x = .slice (some ad) n c) (hn : m.length = n) (hm : ∀ j u, (byteCells m)[j]? = some u → w.cell? (ad.add j) = some u)
    (hb : l.length + n ≤ 1099511627776) (hB : B ≤ w.heap.size)
    (h : ∀ ao n c w', Appended w B v (l ++ m) (.slice ao n c) w' → wpList Tryz.prog ops Q rest (a.put o.dst (.slice ao n c)) w') : wpList Tryz.prog ops Q (o :: rest) a w := by
  refine wpList_plain hgd fun K hK => ?_
  obtain ⟨v', w', hr, h2⟩ := run_app_row w o.type B v l hown ad m n c hn hm hb hB
  unfold Oper.wp execOp
  simp only [ho, resolve, invoke, builtin, Sem.run_bind, Sem.run_pure, Result.andThen_ok, List.map_toArray, List.map_cons, List.map_nil, hs, hx, hr]
  obtain ⟨ao, n', c', rfl⟩ := h2.own.shape
  exact hK _ _ (h ao n' c' w' h2)
end

/-! ### a block whose one cell turns -/
theorem block_setCell {w : World} {b j : Nat} {C : Array Value} {t : TypeId} (h : w.heap[b]? = some (.cells C t (0, 0))) (u : Value) :
    (w.setCell ⟨b, j, none⟩ u).heap[b]? = some (.cells (C.setIfInBounds j u) t (0, 0)) := by
  have hlt := lt_of_block h
  have h' : w.heap[b] = .cells C t (0, 0) := by simpa [Array.getElem?_eq_getElem hlt] using h
  show (w.heap.modify b _)[b]? = _
  rw [Array.getElem?_eq_getElem (by simpa using hlt), Array.getElem_modify_self, h']
  rfl
theorem cell_of_block {w : World} {b j : Nat} {C : Array Value} {t : TypeId} (h : w.heap[b]? = some (.cells C t (0, 0))) {v : Value} (hj : C[j]? = some v) : w.cell? ⟨b, j, none⟩ = some v := by
  simp [World.cell?, h, hj]
theorem free_of_block {w : World} {b j : Nat} {C : Array Value} {t : TypeId} (h : w.heap[b]? = some (.cells C t (0, 0))) : w.frozen? ⟨b, j, none⟩ = false := by
  simp [World.frozen?, h]
end Go.Proofs.YtmfbgoikekmdkaaGreatFmt
