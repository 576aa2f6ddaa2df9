/-
  printUnquotedUTF16: the rounds at a unit that is written as an escape, in ASCII alone.
-/
import Derived.Test.YtmfbgoikekmdkaaGreatFmtPr5
import Derived.RegionTactic
import Derived.Deep.RegionLaw
namespace Go.Proofs.YtmfbgoikekmdkaaGreatFmt
open Go.RowKit Go.Lib Go.FQ

theorem step_app_row {ops : Array Oper} {o : Oper} {a : Act} {w : World} {K : Act → World → Prop} {Q : Exit → Act → World → Prop} {E : Prop}
    (hg : o.guard = none) (sl x : Operand) (ho : o.op = .call { callee := .builtin .append, args := #[sl, x], argTypes := #[72, 72] })
    (B : Nat) (v : Value) (l : List UInt8) (hs : a.eval sl = v) (hown : Owns w B v l) (ad : Addr) (m : List UInt8) (n c : Nat) (hx : a.eval x = .slice (some ad) n c) (hn : m.length = n) (hm : ∀ j u, (byteCells m)[j]? = some u → w.cell? (ad.add j) = some u)
    (hb : l.length + n ≤ 1099511627776) (hB : B ≤ w.heap.size)
    (h : ∀ ao n c w', Appended w B v (l ++ m) (.slice ao n c) w' → K (a.put o.dst (.slice ao n c)) w') :
    if Region.wanted o (yielded ops a.tmps) = true then Oper.wp Tryz.prog o a w K Q else E := by
  have hw : Region.wanted o (yielded ops a.tmps) = true := by simp [Region.wanted, hg]
  rw [if_pos hw]
  obtain ⟨v', w', hr, h2⟩ := run_app_row w o.type B v l hown ad m n c hn hm hb hB
  unfold Oper.wp execOp
  simp only [ho, resolve, invoke, builtin, Sem.run_bind, Sem.run_pure, Result.andThen_ok, List.map_toArray, List.map_cons, List.map_nil, hs, hx, hr]
  obtain ⟨ao, n', c', rfl⟩ := h2.own.shape
  exact h ao n' c' w' h2

set_option maxRecDepth 1000000 in
set_option maxHeartbeats 2000000 in
theorem c16_h4lo (b B g T dcap : Nat) (q f : Int) (C : Array Value) (mini : Bool) (qn : Nat) (l : List UInt8) (cs : List Nat) (w0 : World) (jv : Value) (wr : World) (k : Nat) (U : Nat → Value) (Q0 : Exit → Act → World → Prop) (hQ0 : ∀ c a d v w, Q0 (.panic c) (Act.put a d v) w → Q0 (.panic c) a w)
    (hM : Mid b B g T dcap C cs w0 jv (l ++ outTo true qn cs k) wr) (hO : Opts true mini C) (hk : k < cs.length) (hl : l.length ≤ 16384) (hn : cs.length ≤ 16384)
    (hp : ∀ x ∈ specials, cs.getD k 0 ≠ x) (h1 : 255 < cs.getD k 0) (h2 : cs.getD k 0 < 55296) :
    Code.wp Tryz.prog body16 (Exit.then (fun a' w' => Inv16 b B g T dcap q f C true qn l cs w0 a' w' ∧ mu16 cs.length a' w' < cs.length - k) Q0) (fr16 b g cs.length dcap T q f jv (.int .i64 k) U) wr := by
  conv => arg 2; whnf
  have hu := hM.unit hk
  have hol := outTo_length true qn cs k
  obtain ⟨c, hc⟩ : ∃ c : Int, c = ((cs.getD k 0 : Nat) : Int) := ⟨_, rfl⟩
  rw [← hc] at hu
  have z1 : 255 < c := by omega
  have z2 : c < 55296 := by omega
  have s8232 := ne_b c _ 8232 hc (hp 8232 (by decide))
  have s8233 := ne_b c _ 8233 hc (hp 8233 (by decide))
  have x1 := hex_index (c / 4096) (by omega) (by omega) .u16
  have x2 := hex_index (c / 256 % 16) (by omega) (by omega) .u16
  have x3 := hex_index (c / 16 % 16) (by omega) (by omega) .u16
  have x4 := hex_index (c % 16) (by omega) (by omega) .u16
  have e2 := and15 (c / 256) (by omega) (by omega)
  have e3 := and15 (c / 16) (by omega) (by omega)
  have e4 := and15 c (by omega) (by omega)
  have ha := hM.cellB hO.asc
  have hem : emAt true qn cs k = [92, 117, hexU (c / 4096).toNat, hexU (c / 256 % 16).toNat, hexU (c / 16 % 16).toNat, hexU (c % 16).toNat] := by
    rw [em_plain true qn cs k hp, if_neg (by omega), if_pos ⟨rfl, by omega⟩, show (c / 4096).toNat = cs.getD k 0 / 4096 by omega, show (c / 256 % 16).toNat = cs.getD k 0 / 256 % 16 by omega, show (c / 16 % 16).toNat = cs.getD k 0 / 16 % 16 by omega, show (c % 16).toNat = cs.getD k 0 % 16 by omega]
  have HEM := Lib.hid hem
  clear hc hp h1 h2 hem
  unfold fr16
  go_wp2_with fail
  refine wp_region_any (by kernel_rfl) ?_
  change wpAny _ _ _ _ _ _ _ wr.drew
  refine wpAny_take (i := 0) (v := ?_) rfl (by kernel_rfl) (by kernel_rfl) (by kernel_rfl) (fun _ _ _ h => hQ0 _ _ _ _ _ h) (Or.inl ⟨by rfl, ?_⟩) ?_
  rotate_left
  · (intro w; go_simp; with_reducible rfl)
  refine wpAny_take (i := 1) (v := ?_) rfl (by kernel_rfl) (by kernel_rfl) (by kernel_rfl) (fun _ _ _ h => hQ0 _ _ _ _ _ h) (Or.inl ⟨by rfl, ?_⟩) ?_
  rotate_left
  · (intro w; go_simp; with_reducible rfl)
  refine wpAny_take (i := 2) (v := ?_) rfl (by kernel_rfl) (by kernel_rfl) (by kernel_rfl) (fun _ _ _ h => hQ0 _ _ _ _ _ h) (Or.inl ⟨by rfl, ?_⟩) ?_
  rotate_left
  · (intro w; go_simp; with_reducible rfl)
  refine wpAny_take (i := 3) (v := ?_) rfl (by kernel_rfl) (by kernel_rfl) (by kernel_rfl) (fun _ _ _ h => hQ0 _ _ _ _ _ h) (Or.inl ⟨by rfl, ?_⟩) ?_
  rotate_left
  · (intro w; go_simp; with_reducible rfl)
  refine wpAny_take (i := 4) (v := ?_) rfl (by kernel_rfl) (by kernel_rfl) (by kernel_rfl) (fun _ _ _ h => hQ0 _ _ _ _ _ h) (Or.inl ⟨by rfl, ?_⟩) ?_
  rotate_left
  · (intro w; go_simp; with_reducible rfl)
  refine wpAny_take (i := 5) (v := ?_) rfl (by kernel_rfl) (by kernel_rfl) (by kernel_rfl) (fun _ _ _ h => hQ0 _ _ _ _ _ h) (Or.inl ⟨by rfl, ?_⟩) ?_
  rotate_left
  · (intro w; go_simp; with_reducible rfl)
  refine wpAny_take (i := 6) (v := ?_) rfl (by kernel_rfl) (by kernel_rfl) (by kernel_rfl) (fun _ _ _ h => hQ0 _ _ _ _ _ h) (Or.inl ⟨by rfl, ?_⟩) ?_
  rotate_left
  · (intro w; go_simp; with_reducible rfl)
  refine wpAny_take (i := 7) (v := ?_) rfl (by kernel_rfl) (by kernel_rfl) (by kernel_rfl) (fun _ _ _ h => hQ0 _ _ _ _ _ h) (Or.inl ⟨by rfl, ?_⟩) ?_
  rotate_left
  · (intro w; go_simp; with_reducible rfl)
  refine wpAny_take (i := 8) (v := ?_) rfl (by kernel_rfl) (by kernel_rfl) (by kernel_rfl) (fun _ _ _ h => hQ0 _ _ _ _ _ h) (Or.inl ⟨by rfl, ?_⟩) ?_
  rotate_left
  · (intro w; go_simp; with_reducible rfl)
  refine wpAny_take (i := 9) (v := ?_) rfl (by kernel_rfl) (by kernel_rfl) (by kernel_rfl) (fun _ _ _ h => hQ0 _ _ _ _ _ h) (Or.inl ⟨by rfl, ?_⟩) ?_
  rotate_left
  · (intro w; go_simp; with_reducible rfl)
  refine wpAny_take (i := 10) (v := ?_) rfl (by kernel_rfl) (by kernel_rfl) (by kernel_rfl) (fun _ _ _ h => hQ0 _ _ _ _ _ h) (Or.inl ⟨by rfl, ?_⟩) ?_
  rotate_left
  · (intro w; go_simp; with_reducible rfl)
  refine wpAny_take (i := 11) (v := ?_) rfl (by kernel_rfl) (by kernel_rfl) (by kernel_rfl) (fun _ _ _ h => hQ0 _ _ _ _ _ h) (Or.inl ⟨by rfl, ?_⟩) ?_
  rotate_left
  · (intro w; go_simp; with_reducible rfl)
  refine wpAny_take (i := 12) (v := ?_) rfl (by kernel_rfl) (by kernel_rfl) (by kernel_rfl) (fun _ _ _ h => hQ0 _ _ _ _ _ h) (Or.inl ⟨by rfl, ?_⟩) ?_
  rotate_left
  · (intro w; go_simp; with_reducible rfl)
  refine wpAny_take (i := 13) (v := ?_) rfl (by kernel_rfl) (by kernel_rfl) (by kernel_rfl) (fun _ _ _ h => hQ0 _ _ _ _ _ h) (Or.inl ⟨by rfl, ?_⟩) ?_
  rotate_left
  · (intro w; go_simp; with_reducible rfl)
  refine wpAny_take (i := 14) (v := ?_) rfl (by kernel_rfl) (by kernel_rfl) (by kernel_rfl) (fun _ _ _ h => hQ0 _ _ _ _ _ h) (Or.inl ⟨by rfl, ?_⟩) ?_
  rotate_left
  · (intro w; go_simp; with_reducible rfl)
  clear e2 e3 e4 x1 x2 x3 x4
  refine wpAny_ready (rs := [15]) (by kernel_rfl) (by simp) ?_
  refine AllReady.cons rfl (fun K hK => ?_) AllReady.nil
  go_simp
  refine hK _ _ ?_
  clear hK K
  refine wpAny_ready (rs := [16]) (by kernel_rfl) (by simp) ?_
  refine AllReady.cons rfl (fun K hK => ?_) AllReady.nil
  refine step_app_row rfl (.tmp 225) (.tmp 240) rfl B jv (l ++ outTo true qn cs k) rfl (hM.alloc _).drew.own ⟨wr.heap.size, 0, none⟩ [92, 117, hexU (c / 4096).toNat, hexU (c / 256 % 16).toNat, hexU (c / 16 % 16).toNat, hexU (c % 16).toNat] 6 6 rfl rfl (new_row wr _ _ rfl) (len2 _ _ 6 k hl (by omega) hol (by decide)) (hM.alloc _).drew.size ?_; intro ao n c w1 happ
  refine hK _ _ ?_
  clear hK K
  refine wpAny_take (i := 17) (v := ?_) rfl (by kernel_rfl) (by kernel_rfl) (by kernel_rfl) (fun _ _ _ h => hQ0 _ _ _ _ _ h) (Or.inl ⟨by rfl, ?_⟩) ?_
  rotate_left
  · (intro w; go_simp; with_reducible rfl)
  refine wpAny_done (by kernel_rfl) ?_ _
  go_wp2
  exact done16 hk ((hM.alloc _).drew.app happ) HEM.out (by kernel_rfl)

set_option maxRecDepth 1000000 in
set_option maxHeartbeats 2000000 in
theorem c16_h4hi (b B g T dcap : Nat) (q f : Int) (C : Array Value) (mini : Bool) (qn : Nat) (l : List UInt8) (cs : List Nat) (w0 : World) (jv : Value) (wr : World) (k : Nat) (U : Nat → Value) (Q0 : Exit → Act → World → Prop) (hQ0 : ∀ c a d v w, Q0 (.panic c) (Act.put a d v) w → Q0 (.panic c) a w)
    (hM : Mid b B g T dcap C cs w0 jv (l ++ outTo true qn cs k) wr) (hO : Opts true mini C) (hk : k < cs.length) (hl : l.length ≤ 16384) (hn : cs.length ≤ 16384)
    (hp : ∀ x ∈ specials, cs.getD k 0 ≠ x) (h1 : 57343 < cs.getD k 0) (h2 : cs.getD k 0 < 65536) :
    Code.wp Tryz.prog body16 (Exit.then (fun a' w' => Inv16 b B g T dcap q f C true qn l cs w0 a' w' ∧ mu16 cs.length a' w' < cs.length - k) Q0) (fr16 b g cs.length dcap T q f jv (.int .i64 k) U) wr := by
  conv => arg 2; whnf
  have hu := hM.unit hk
  have hol := outTo_length true qn cs k
  obtain ⟨c, hc⟩ : ∃ c : Int, c = ((cs.getD k 0 : Nat) : Int) := ⟨_, rfl⟩
  rw [← hc] at hu
  have z1 : 57343 < c := by omega
  have z2 : c < 65536 := by omega
  have s65279 := ne_b c _ 65279 hc (hp 65279 (by decide))
  have x1 := hex_index (c / 4096) (by omega) (by omega) .u16
  have x2 := hex_index (c / 256 % 16) (by omega) (by omega) .u16
  have x3 := hex_index (c / 16 % 16) (by omega) (by omega) .u16
  have x4 := hex_index (c % 16) (by omega) (by omega) .u16
  have e2 := and15 (c / 256) (by omega) (by omega)
  have e3 := and15 (c / 16) (by omega) (by omega)
  have e4 := and15 c (by omega) (by omega)
  have ha := hM.cellB hO.asc
  have hem : emAt true qn cs k = [92, 117, hexU (c / 4096).toNat, hexU (c / 256 % 16).toNat, hexU (c / 16 % 16).toNat, hexU (c % 16).toNat] := by
    rw [em_plain true qn cs k hp, if_neg (by omega), if_pos ⟨rfl, by omega⟩, show (c / 4096).toNat = cs.getD k 0 / 4096 by omega, show (c / 256 % 16).toNat = cs.getD k 0 / 256 % 16 by omega, show (c / 16 % 16).toNat = cs.getD k 0 / 16 % 16 by omega, show (c % 16).toNat = cs.getD k 0 % 16 by omega]
  have HEM := Lib.hid hem
  clear hc hp h1 h2 hem
  unfold fr16
  go_wp2_with fail
  refine wp_region_any (by kernel_rfl) ?_
  change wpAny _ _ _ _ _ _ _ wr.drew
  refine wpAny_take (i := 0) (v := ?_) rfl (by kernel_rfl) (by kernel_rfl) (by kernel_rfl) (fun _ _ _ h => hQ0 _ _ _ _ _ h) (Or.inl ⟨by rfl, ?_⟩) ?_
  rotate_left
  · (intro w; go_simp; with_reducible rfl)
  refine wpAny_take (i := 1) (v := ?_) rfl (by kernel_rfl) (by kernel_rfl) (by kernel_rfl) (fun _ _ _ h => hQ0 _ _ _ _ _ h) (Or.inl ⟨by rfl, ?_⟩) ?_
  rotate_left
  · (intro w; go_simp; with_reducible rfl)
  refine wpAny_take (i := 2) (v := ?_) rfl (by kernel_rfl) (by kernel_rfl) (by kernel_rfl) (fun _ _ _ h => hQ0 _ _ _ _ _ h) (Or.inl ⟨by rfl, ?_⟩) ?_
  rotate_left
  · (intro w; go_simp; with_reducible rfl)
  refine wpAny_take (i := 3) (v := ?_) rfl (by kernel_rfl) (by kernel_rfl) (by kernel_rfl) (fun _ _ _ h => hQ0 _ _ _ _ _ h) (Or.inl ⟨by rfl, ?_⟩) ?_
  rotate_left
  · (intro w; go_simp; with_reducible rfl)
  refine wpAny_take (i := 4) (v := ?_) rfl (by kernel_rfl) (by kernel_rfl) (by kernel_rfl) (fun _ _ _ h => hQ0 _ _ _ _ _ h) (Or.inl ⟨by rfl, ?_⟩) ?_
  rotate_left
  · (intro w; go_simp; with_reducible rfl)
  refine wpAny_take (i := 5) (v := ?_) rfl (by kernel_rfl) (by kernel_rfl) (by kernel_rfl) (fun _ _ _ h => hQ0 _ _ _ _ _ h) (Or.inl ⟨by rfl, ?_⟩) ?_
  rotate_left
  · (intro w; go_simp; with_reducible rfl)
  refine wpAny_take (i := 6) (v := ?_) rfl (by kernel_rfl) (by kernel_rfl) (by kernel_rfl) (fun _ _ _ h => hQ0 _ _ _ _ _ h) (Or.inl ⟨by rfl, ?_⟩) ?_
  rotate_left
  · (intro w; go_simp; with_reducible rfl)
  refine wpAny_take (i := 7) (v := ?_) rfl (by kernel_rfl) (by kernel_rfl) (by kernel_rfl) (fun _ _ _ h => hQ0 _ _ _ _ _ h) (Or.inl ⟨by rfl, ?_⟩) ?_
  rotate_left
  · (intro w; go_simp; with_reducible rfl)
  refine wpAny_take (i := 8) (v := ?_) rfl (by kernel_rfl) (by kernel_rfl) (by kernel_rfl) (fun _ _ _ h => hQ0 _ _ _ _ _ h) (Or.inl ⟨by rfl, ?_⟩) ?_
  rotate_left
  · (intro w; go_simp; with_reducible rfl)
  refine wpAny_take (i := 9) (v := ?_) rfl (by kernel_rfl) (by kernel_rfl) (by kernel_rfl) (fun _ _ _ h => hQ0 _ _ _ _ _ h) (Or.inl ⟨by rfl, ?_⟩) ?_
  rotate_left
  · (intro w; go_simp; with_reducible rfl)
  refine wpAny_take (i := 10) (v := ?_) rfl (by kernel_rfl) (by kernel_rfl) (by kernel_rfl) (fun _ _ _ h => hQ0 _ _ _ _ _ h) (Or.inl ⟨by rfl, ?_⟩) ?_
  rotate_left
  · (intro w; go_simp; with_reducible rfl)
  refine wpAny_take (i := 11) (v := ?_) rfl (by kernel_rfl) (by kernel_rfl) (by kernel_rfl) (fun _ _ _ h => hQ0 _ _ _ _ _ h) (Or.inl ⟨by rfl, ?_⟩) ?_
  rotate_left
  · (intro w; go_simp; with_reducible rfl)
  refine wpAny_take (i := 12) (v := ?_) rfl (by kernel_rfl) (by kernel_rfl) (by kernel_rfl) (fun _ _ _ h => hQ0 _ _ _ _ _ h) (Or.inl ⟨by rfl, ?_⟩) ?_
  rotate_left
  · (intro w; go_simp; with_reducible rfl)
  refine wpAny_take (i := 13) (v := ?_) rfl (by kernel_rfl) (by kernel_rfl) (by kernel_rfl) (fun _ _ _ h => hQ0 _ _ _ _ _ h) (Or.inl ⟨by rfl, ?_⟩) ?_
  rotate_left
  · (intro w; go_simp; with_reducible rfl)
  refine wpAny_take (i := 14) (v := ?_) rfl (by kernel_rfl) (by kernel_rfl) (by kernel_rfl) (fun _ _ _ h => hQ0 _ _ _ _ _ h) (Or.inl ⟨by rfl, ?_⟩) ?_
  rotate_left
  · (intro w; go_simp; with_reducible rfl)
  clear e2 e3 e4 x1 x2 x3 x4
  refine wpAny_ready (rs := [15]) (by kernel_rfl) (by simp) ?_
  refine AllReady.cons rfl (fun K hK => ?_) AllReady.nil
  go_simp
  refine hK _ _ ?_
  clear hK K
  refine wpAny_ready (rs := [16]) (by kernel_rfl) (by simp) ?_
  refine AllReady.cons rfl (fun K hK => ?_) AllReady.nil
  refine step_app_row rfl (.tmp 225) (.tmp 240) rfl B jv (l ++ outTo true qn cs k) rfl (hM.alloc _).drew.own ⟨wr.heap.size, 0, none⟩ [92, 117, hexU (c / 4096).toNat, hexU (c / 256 % 16).toNat, hexU (c / 16 % 16).toNat, hexU (c % 16).toNat] 6 6 rfl rfl (new_row wr _ _ rfl) (len2 _ _ 6 k hl (by omega) hol (by decide)) (hM.alloc _).drew.size ?_; intro ao n c w1 happ
  refine hK _ _ ?_
  clear hK K
  refine wpAny_take (i := 17) (v := ?_) rfl (by kernel_rfl) (by kernel_rfl) (by kernel_rfl) (fun _ _ _ h => hQ0 _ _ _ _ _ h) (Or.inl ⟨by rfl, ?_⟩) ?_
  rotate_left
  · (intro w; go_simp; with_reducible rfl)
  refine wpAny_done (by kernel_rfl) ?_ _
  go_wp2
  exact done16 hk ((hM.alloc _).drew.app happ) HEM.out (by kernel_rfl)

set_option maxRecDepth 1000000 in
set_option maxHeartbeats 2000000 in
theorem c16_h2 (b B g T dcap : Nat) (q f : Int) (C : Array Value) (mini : Bool) (qn : Nat) (l : List UInt8) (cs : List Nat) (w0 : World) (jv : Value) (wr : World) (k : Nat) (U : Nat → Value) (Q0 : Exit → Act → World → Prop) (hQ0 : ∀ c a d v w, Q0 (.panic c) (Act.put a d v) w → Q0 (.panic c) a w)
    (hM : Mid b B g T dcap C cs w0 jv (l ++ outTo true qn cs k) wr) (hO : Opts true mini C) (hk : k < cs.length) (hl : l.length ≤ 16384) (hn : cs.length ≤ 16384)
    (hp : ∀ x ∈ specials, cs.getD k 0 ≠ x) (h1 : 126 < cs.getD k 0) (h2 : cs.getD k 0 ≤ 255) :
    Code.wp Tryz.prog body16 (Exit.then (fun a' w' => Inv16 b B g T dcap q f C true qn l cs w0 a' w' ∧ mu16 cs.length a' w' < cs.length - k) Q0) (fr16 b g cs.length dcap T q f jv (.int .i64 k) U) wr := by
  conv => arg 2; whnf
  have hu := hM.unit hk
  have hol := outTo_length true qn cs k
  obtain ⟨c, hc⟩ : ∃ c : Int, c = ((cs.getD k 0 : Nat) : Int) := ⟨_, rfl⟩
  rw [← hc] at hu
  have z1 : 126 < c := by omega
  have z2 : c ≤ 255 := by omega
  have x1 := hex_index (c / 16) (by omega) (by omega) .u16
  have x4 := hex_index (c % 16) (by omega) (by omega) .u16
  have e4 := and15 c (by omega) (by omega)
  have ha := hM.cellB hO.asc
  have hem : emAt true qn cs k = [92, 120, hexU (c / 16).toNat, hexU (c % 16).toNat] := by
    rw [em_plain true qn cs k hp, if_neg (by omega), if_neg (by omega), if_pos rfl, show (c / 16).toNat = cs.getD k 0 / 16 by omega, show (c % 16).toNat = cs.getD k 0 % 16 by omega]
  have HEM := Lib.hid hem
  clear hc hp h1 h2 hem
  unfold fr16
  go_wp2_with fail
  refine wp_region_any (by kernel_rfl) ?_
  change wpAny _ _ _ _ _ _ _ wr.drew
  refine wpAny_take (i := 0) (v := ?_) rfl (by kernel_rfl) (by kernel_rfl) (by kernel_rfl) (fun _ _ _ h => hQ0 _ _ _ _ _ h) (Or.inl ⟨by rfl, ?_⟩) ?_
  rotate_left
  · (intro w; go_simp; with_reducible rfl)
  refine wpAny_take (i := 1) (v := ?_) rfl (by kernel_rfl) (by kernel_rfl) (by kernel_rfl) (fun _ _ _ h => hQ0 _ _ _ _ _ h) (Or.inl ⟨by rfl, ?_⟩) ?_
  rotate_left
  · (intro w; go_simp; with_reducible rfl)
  refine wpAny_take (i := 2) (v := ?_) rfl (by kernel_rfl) (by kernel_rfl) (by kernel_rfl) (fun _ _ _ h => hQ0 _ _ _ _ _ h) (Or.inl ⟨by rfl, ?_⟩) ?_
  rotate_left
  · (intro w; go_simp; with_reducible rfl)
  refine wpAny_take (i := 3) (v := ?_) rfl (by kernel_rfl) (by kernel_rfl) (by kernel_rfl) (fun _ _ _ h => hQ0 _ _ _ _ _ h) (Or.inl ⟨by rfl, ?_⟩) ?_
  rotate_left
  · (intro w; go_simp; with_reducible rfl)
  refine wpAny_take (i := 4) (v := ?_) rfl (by kernel_rfl) (by kernel_rfl) (by kernel_rfl) (fun _ _ _ h => hQ0 _ _ _ _ _ h) (Or.inl ⟨by rfl, ?_⟩) ?_
  rotate_left
  · (intro w; go_simp; with_reducible rfl)
  refine wpAny_take (i := 5) (v := ?_) rfl (by kernel_rfl) (by kernel_rfl) (by kernel_rfl) (fun _ _ _ h => hQ0 _ _ _ _ _ h) (Or.inl ⟨by rfl, ?_⟩) ?_
  rotate_left
  · (intro w; go_simp; with_reducible rfl)
  refine wpAny_take (i := 6) (v := ?_) rfl (by kernel_rfl) (by kernel_rfl) (by kernel_rfl) (fun _ _ _ h => hQ0 _ _ _ _ _ h) (Or.inl ⟨by rfl, ?_⟩) ?_
  rotate_left
  · (intro w; go_simp; with_reducible rfl)
  clear e4 x1 x4
  refine wpAny_ready (rs := [7]) (by kernel_rfl) (by simp) ?_
  refine AllReady.cons rfl (fun K hK => ?_) AllReady.nil
  go_simp
  refine hK _ _ ?_
  clear hK K
  refine wpAny_ready (rs := [8]) (by kernel_rfl) (by simp) ?_
  refine AllReady.cons rfl (fun K hK => ?_) AllReady.nil
  refine step_app_row rfl (.tmp 248) (.tmp 255) rfl B jv (l ++ outTo true qn cs k) rfl (hM.alloc _).drew.own ⟨wr.heap.size, 0, none⟩ [92, 120, hexU (c / 16).toNat, hexU (c % 16).toNat] 4 4 rfl rfl (new_row wr _ _ rfl) (len2 _ _ 4 k hl (by omega) hol (by decide)) (hM.alloc _).drew.size ?_; intro ao n c w1 happ
  refine hK _ _ ?_
  clear hK K
  refine wpAny_take (i := 9) (v := ?_) rfl (by kernel_rfl) (by kernel_rfl) (by kernel_rfl) (fun _ _ _ h => hQ0 _ _ _ _ _ h) (Or.inl ⟨by rfl, ?_⟩) ?_
  rotate_left
  · (intro w; go_simp; with_reducible rfl)
  refine wpAny_done (by kernel_rfl) ?_ _
  go_wp2
  exact done16 hk ((hM.alloc _).drew.app happ) HEM.out (by kernel_rfl)

end Go.Proofs.YtmfbgoikekmdkaaGreatFmt
