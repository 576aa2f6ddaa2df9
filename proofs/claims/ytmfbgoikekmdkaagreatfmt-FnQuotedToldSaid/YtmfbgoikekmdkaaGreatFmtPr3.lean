/-
  printUnquotedUTF16: rounds, at a unit that is written by a text of its own. (Lines alike from case to case: written by gen_pr3.py.)
-/
import Derived.Test.YtmfbgoikekmdkaaGreatFmtPr2
namespace Go.Proofs.YtmfbgoikekmdkaaGreatFmt
open Go.RowKit Go.Lib Go.FQ

/-- The end of a round. -/
theorem done16 {b B g T dcap : Nat} {q f : Int} {C : Array Value} {asc : Bool} {qn : Nat} {l : List UInt8} {cs : List Nat} {w0 : World} {k : Nat} {A : Act} {jv' : Value} {w1 : World} (hk : k < cs.length) {m : List UInt8}
    (hM : Mid b B g T dcap C cs w0 jv' (l ++ outTo asc qn cs k ++ m) w1) (hem : emAt asc qn cs k = m) (hA : A = fr16 b g cs.length dcap T q f jv' (.int .i64 ((k : Int) + 1)) (fun i => A.tmps.getD i undef)) :
    Inv16 b B g T dcap q f C asc qn l cs w0 A w1 ∧ mu16 cs.length A w1 < cs.length - k := by
  constructor
  · refine ⟨k + 1, jv', fun i => A.tmps.getD i undef, by omega, ?_, hA⟩
    rw [outTo_succ, hem, ← List.append_assoc]
    exact hM
  · rw [hA]
    show cs.length - ((k : Int) + 1).toNat < _
    omega
theorem done16b {b B g T dcap : Nat} {q f : Int} {C : Array Value} {asc : Bool} {qn : Nat} {l : List UInt8} {cs : List Nat} {w0 : World} {k : Nat} {A : Act} {jv' : Value} {w1 : World} (hk : k < cs.length) {m m' : List UInt8}
    (hM : Mid b B g T dcap C cs w0 jv' (l ++ outTo asc qn cs k ++ m ++ m') w1) (hem : emAt asc qn cs k = m ++ m') (hA : A = fr16 b g cs.length dcap T q f jv' (.int .i64 ((k : Int) + 1)) (fun i => A.tmps.getD i undef)) :
    Inv16 b B g T dcap q f C asc qn l cs w0 A w1 ∧ mu16 cs.length A w1 < cs.length - k :=
  done16 hk (by rw [← List.append_assoc]; exact hM) hem hA
theorem cells1 (n : Nat) (h : n < 256) : byteCells [UInt8.ofNat n] = [Value.int .u8 (n : Int)] := by
  unfold byteCells
  simp only [List.map_cons, List.map_nil]
  rw [tn _ h]
theorem new1 (w : World) (n : Nat) (h : n < 256) : ∀ j u, (byteCells [UInt8.ofNat n])[j]? = some u → (w.alloc (.cells #[.int .u8 (n : Int)] 5)).cell? ((⟨w.heap.size, 0, none⟩ : Addr).add j) = some u := by
  rw [cells1 n h]
  exact cell_one_new _ _ _
theorem len2 (l o : List UInt8) (j k : Nat) (hl : l.length ≤ 16384) (hk : k ≤ 16384) (ho : o.length ≤ 6 * k) (hj : j ≤ 4096) : (l ++ o).length + j ≤ 1099511627776 := by
  rw [List.length_append]; omega
theorem len3 (l o m : List UInt8) (j k : Nat) (hl : l.length ≤ 16384) (hk : k ≤ 16384) (ho : o.length ≤ 6 * k) (hm : m.length ≤ 16) (hj : j ≤ 4096) : (l ++ o ++ m).length + j ≤ 1099511627776 := by
  rw [List.length_append, List.length_append]; omega
theorem headD_drop (cs : List Nat) (k : Nat) : (cs.drop (k + 1)).headD 0 = cs.getD (k + 1) 0 := by
  by_cases h : k + 1 < cs.length
  · rw [List.drop_eq_getElem_cons h]; simp [List.getD, h]
  · rw [List.drop_eq_nil_of_le (by omega)]; simp [List.getD, h]
theorem em_0d (asc : Bool) (qn : Nat) (cs : List Nat) (k : Nat) (hc : cs.getD k 0 = 0) (h : dig (cs.getD (k + 1) 0) = true) : emAt asc qn cs k = [92, 120, 48, 48] := by
  unfold emAt em; rw [hc, if_pos rfl, headD_drop, if_pos h]
theorem em_0n (asc : Bool) (qn : Nat) (cs : List Nat) (k : Nat) (hc : cs.getD k 0 = 0) (h : dig (cs.getD (k + 1) 0) = false) : emAt asc qn cs k = [92, 48] := by
  unfold emAt em; rw [hc, if_pos rfl, headD_drop, if_neg (by rw [h]; decide)]
theorem em_36y (asc : Bool) (cs : List Nat) (k : Nat) (hc : cs.getD k 0 = 36) (h : cs.getD (k + 1) 0 = 123) : emAt asc 96 cs k = [92] ++ [36] := by
  unfold emAt; rw [hc]; show (if 96 = 96 ∧ (cs.drop (k + 1)).headD 0 = 123 then _ else _) = _; rw [headD_drop, if_pos ⟨rfl, h⟩]; rfl
theorem em_36n (asc : Bool) (cs : List Nat) (k : Nat) (hc : cs.getD k 0 = 36) (h : cs.getD (k + 1) 0 ≠ 123) : emAt asc 96 cs k = [36] := by
  unfold emAt; rw [hc]; show (if 96 = 96 ∧ (cs.drop (k + 1)).headD 0 = 123 then _ else _) = _; rw [headD_drop, if_neg (fun h' => h h'.2)]

set_option maxRecDepth 1000000 in
set_option maxHeartbeats 2000000 in
theorem c16_7 (b B g T dcap : Nat) (f : Int) (C : Array Value) (asc : Bool) (qn : Nat) (l : List UInt8) (cs : List Nat) (w0 : World) (jv : Value) (wr : World) (k : Nat) (U : Nat → Value) (Q0 : Exit → Act → World → Prop)
    (hM : Mid b B g T dcap C cs w0 jv (l ++ outTo asc qn cs k) wr) (hk : k < cs.length) (hl : l.length ≤ 16384) (hn : cs.length ≤ 16384) (hc : cs.getD k 0 = 7) :
    Code.wp Tryz.prog body16 (Exit.then (fun a' w' => Inv16 b B g T dcap (qn : Int) f C asc qn l cs w0 a' w' ∧ mu16 cs.length a' w' < cs.length - k) Q0) (fr16 b g cs.length dcap T (qn : Int) f jv (.int .i64 k) U) wr := by
  conv => arg 2; whnf
  have hu := hM.unit hk
  rw [hc] at hu
  have hol := outTo_length asc qn cs k
  unfold fr16
  go_wp2_with (first
    | (refine wpList_app_str rfl _ _ rfl B jv (l ++ outTo asc qn cs k) rfl hM.own ⟨#[92, 120, 48, 55]⟩ rfl (len2 _ _ 4 k hl (by omega) hol (by decide)) hM.size ?_; intro ao n c w1 happ))
  exact done16 hk (hM.app happ) (by unfold emAt; rw [hc]; rfl) (by kernel_rfl)

set_option maxRecDepth 1000000 in
set_option maxHeartbeats 2000000 in
theorem c16_8 (b B g T dcap : Nat) (f : Int) (C : Array Value) (asc : Bool) (qn : Nat) (l : List UInt8) (cs : List Nat) (w0 : World) (jv : Value) (wr : World) (k : Nat) (U : Nat → Value) (Q0 : Exit → Act → World → Prop)
    (hM : Mid b B g T dcap C cs w0 jv (l ++ outTo asc qn cs k) wr) (hk : k < cs.length) (hl : l.length ≤ 16384) (hn : cs.length ≤ 16384) (hc : cs.getD k 0 = 8) :
    Code.wp Tryz.prog body16 (Exit.then (fun a' w' => Inv16 b B g T dcap (qn : Int) f C asc qn l cs w0 a' w' ∧ mu16 cs.length a' w' < cs.length - k) Q0) (fr16 b g cs.length dcap T (qn : Int) f jv (.int .i64 k) U) wr := by
  conv => arg 2; whnf
  have hu := hM.unit hk
  rw [hc] at hu
  have hol := outTo_length asc qn cs k
  unfold fr16
  go_wp2_with (first
    | (refine wpList_app_str rfl _ _ rfl B jv (l ++ outTo asc qn cs k) rfl hM.own ⟨#[92, 98]⟩ rfl (len2 _ _ 2 k hl (by omega) hol (by decide)) hM.size ?_; intro ao n c w1 happ))
  exact done16 hk (hM.app happ) (by unfold emAt; rw [hc]; rfl) (by kernel_rfl)

set_option maxRecDepth 1000000 in
set_option maxHeartbeats 2000000 in
theorem c16_12 (b B g T dcap : Nat) (f : Int) (C : Array Value) (asc : Bool) (qn : Nat) (l : List UInt8) (cs : List Nat) (w0 : World) (jv : Value) (wr : World) (k : Nat) (U : Nat → Value) (Q0 : Exit → Act → World → Prop)
    (hM : Mid b B g T dcap C cs w0 jv (l ++ outTo asc qn cs k) wr) (hk : k < cs.length) (hl : l.length ≤ 16384) (hn : cs.length ≤ 16384) (hc : cs.getD k 0 = 12) :
    Code.wp Tryz.prog body16 (Exit.then (fun a' w' => Inv16 b B g T dcap (qn : Int) f C asc qn l cs w0 a' w' ∧ mu16 cs.length a' w' < cs.length - k) Q0) (fr16 b g cs.length dcap T (qn : Int) f jv (.int .i64 k) U) wr := by
  conv => arg 2; whnf
  have hu := hM.unit hk
  rw [hc] at hu
  have hol := outTo_length asc qn cs k
  unfold fr16
  go_wp2_with (first
    | (refine wpList_app_str rfl _ _ rfl B jv (l ++ outTo asc qn cs k) rfl hM.own ⟨#[92, 102]⟩ rfl (len2 _ _ 2 k hl (by omega) hol (by decide)) hM.size ?_; intro ao n c w1 happ))
  exact done16 hk (hM.app happ) (by unfold emAt; rw [hc]; rfl) (by kernel_rfl)

set_option maxRecDepth 1000000 in
set_option maxHeartbeats 2000000 in
theorem c16_13 (b B g T dcap : Nat) (f : Int) (C : Array Value) (asc : Bool) (qn : Nat) (l : List UInt8) (cs : List Nat) (w0 : World) (jv : Value) (wr : World) (k : Nat) (U : Nat → Value) (Q0 : Exit → Act → World → Prop)
    (hM : Mid b B g T dcap C cs w0 jv (l ++ outTo asc qn cs k) wr) (hk : k < cs.length) (hl : l.length ≤ 16384) (hn : cs.length ≤ 16384) (hc : cs.getD k 0 = 13) :
    Code.wp Tryz.prog body16 (Exit.then (fun a' w' => Inv16 b B g T dcap (qn : Int) f C asc qn l cs w0 a' w' ∧ mu16 cs.length a' w' < cs.length - k) Q0) (fr16 b g cs.length dcap T (qn : Int) f jv (.int .i64 k) U) wr := by
  conv => arg 2; whnf
  have hu := hM.unit hk
  rw [hc] at hu
  have hol := outTo_length asc qn cs k
  unfold fr16
  go_wp2_with (first
    | (refine wpList_app_str rfl _ _ rfl B jv (l ++ outTo asc qn cs k) rfl hM.own ⟨#[92, 114]⟩ rfl (len2 _ _ 2 k hl (by omega) hol (by decide)) hM.size ?_; intro ao n c w1 happ))
  exact done16 hk (hM.app happ) (by unfold emAt; rw [hc]; rfl) (by kernel_rfl)

set_option maxRecDepth 1000000 in
set_option maxHeartbeats 2000000 in
theorem c16_11 (b B g T dcap : Nat) (f : Int) (C : Array Value) (asc : Bool) (qn : Nat) (l : List UInt8) (cs : List Nat) (w0 : World) (jv : Value) (wr : World) (k : Nat) (U : Nat → Value) (Q0 : Exit → Act → World → Prop)
    (hM : Mid b B g T dcap C cs w0 jv (l ++ outTo asc qn cs k) wr) (hk : k < cs.length) (hl : l.length ≤ 16384) (hn : cs.length ≤ 16384) (hc : cs.getD k 0 = 11) :
    Code.wp Tryz.prog body16 (Exit.then (fun a' w' => Inv16 b B g T dcap (qn : Int) f C asc qn l cs w0 a' w' ∧ mu16 cs.length a' w' < cs.length - k) Q0) (fr16 b g cs.length dcap T (qn : Int) f jv (.int .i64 k) U) wr := by
  conv => arg 2; whnf
  have hu := hM.unit hk
  rw [hc] at hu
  have hol := outTo_length asc qn cs k
  unfold fr16
  go_wp2_with (first
    | (refine wpList_app_str rfl _ _ rfl B jv (l ++ outTo asc qn cs k) rfl hM.own ⟨#[92, 118]⟩ rfl (len2 _ _ 2 k hl (by omega) hol (by decide)) hM.size ?_; intro ao n c w1 happ))
  exact done16 hk (hM.app happ) (by unfold emAt; rw [hc]; rfl) (by kernel_rfl)

set_option maxRecDepth 1000000 in
set_option maxHeartbeats 2000000 in
theorem c16_27 (b B g T dcap : Nat) (f : Int) (C : Array Value) (asc : Bool) (qn : Nat) (l : List UInt8) (cs : List Nat) (w0 : World) (jv : Value) (wr : World) (k : Nat) (U : Nat → Value) (Q0 : Exit → Act → World → Prop)
    (hM : Mid b B g T dcap C cs w0 jv (l ++ outTo asc qn cs k) wr) (hk : k < cs.length) (hl : l.length ≤ 16384) (hn : cs.length ≤ 16384) (hc : cs.getD k 0 = 27) :
    Code.wp Tryz.prog body16 (Exit.then (fun a' w' => Inv16 b B g T dcap (qn : Int) f C asc qn l cs w0 a' w' ∧ mu16 cs.length a' w' < cs.length - k) Q0) (fr16 b g cs.length dcap T (qn : Int) f jv (.int .i64 k) U) wr := by
  conv => arg 2; whnf
  have hu := hM.unit hk
  rw [hc] at hu
  have hol := outTo_length asc qn cs k
  unfold fr16
  go_wp2_with (first
    | (refine wpList_app_str rfl _ _ rfl B jv (l ++ outTo asc qn cs k) rfl hM.own ⟨#[92, 120, 49, 66]⟩ rfl (len2 _ _ 4 k hl (by omega) hol (by decide)) hM.size ?_; intro ao n c w1 happ))
  exact done16 hk (hM.app happ) (by unfold emAt; rw [hc]; rfl) (by kernel_rfl)

set_option maxRecDepth 1000000 in
set_option maxHeartbeats 2000000 in
theorem c16_92 (b B g T dcap : Nat) (f : Int) (C : Array Value) (asc : Bool) (qn : Nat) (l : List UInt8) (cs : List Nat) (w0 : World) (jv : Value) (wr : World) (k : Nat) (U : Nat → Value) (Q0 : Exit → Act → World → Prop)
    (hM : Mid b B g T dcap C cs w0 jv (l ++ outTo asc qn cs k) wr) (hk : k < cs.length) (hl : l.length ≤ 16384) (hn : cs.length ≤ 16384) (hc : cs.getD k 0 = 92) :
    Code.wp Tryz.prog body16 (Exit.then (fun a' w' => Inv16 b B g T dcap (qn : Int) f C asc qn l cs w0 a' w' ∧ mu16 cs.length a' w' < cs.length - k) Q0) (fr16 b g cs.length dcap T (qn : Int) f jv (.int .i64 k) U) wr := by
  conv => arg 2; whnf
  have hu := hM.unit hk
  rw [hc] at hu
  have hol := outTo_length asc qn cs k
  unfold fr16
  go_wp2_with (first
    | (refine wpList_app_str rfl _ _ rfl B jv (l ++ outTo asc qn cs k) rfl hM.own ⟨#[92, 92]⟩ rfl (len2 _ _ 2 k hl (by omega) hol (by decide)) hM.size ?_; intro ao n c w1 happ))
  exact done16 hk (hM.app happ) (by unfold emAt; rw [hc]; rfl) (by kernel_rfl)

set_option maxRecDepth 1000000 in
set_option maxHeartbeats 2000000 in
theorem c16_8232 (b B g T dcap : Nat) (f : Int) (C : Array Value) (asc : Bool) (qn : Nat) (l : List UInt8) (cs : List Nat) (w0 : World) (jv : Value) (wr : World) (k : Nat) (U : Nat → Value) (Q0 : Exit → Act → World → Prop)
    (hM : Mid b B g T dcap C cs w0 jv (l ++ outTo asc qn cs k) wr) (hk : k < cs.length) (hl : l.length ≤ 16384) (hn : cs.length ≤ 16384) (hc : cs.getD k 0 = 8232) :
    Code.wp Tryz.prog body16 (Exit.then (fun a' w' => Inv16 b B g T dcap (qn : Int) f C asc qn l cs w0 a' w' ∧ mu16 cs.length a' w' < cs.length - k) Q0) (fr16 b g cs.length dcap T (qn : Int) f jv (.int .i64 k) U) wr := by
  conv => arg 2; whnf
  have hu := hM.unit hk
  rw [hc] at hu
  have hol := outTo_length asc qn cs k
  unfold fr16
  go_wp2_with (first
    | (refine wpList_app_str rfl _ _ rfl B jv (l ++ outTo asc qn cs k) rfl hM.own ⟨#[92, 117, 50, 48, 50, 56]⟩ rfl (len2 _ _ 6 k hl (by omega) hol (by decide)) hM.size ?_; intro ao n c w1 happ))
  exact done16 hk (hM.app happ) (by unfold emAt; rw [hc]; rfl) (by kernel_rfl)

set_option maxRecDepth 1000000 in
set_option maxHeartbeats 2000000 in
theorem c16_8233 (b B g T dcap : Nat) (f : Int) (C : Array Value) (asc : Bool) (qn : Nat) (l : List UInt8) (cs : List Nat) (w0 : World) (jv : Value) (wr : World) (k : Nat) (U : Nat → Value) (Q0 : Exit → Act → World → Prop)
    (hM : Mid b B g T dcap C cs w0 jv (l ++ outTo asc qn cs k) wr) (hk : k < cs.length) (hl : l.length ≤ 16384) (hn : cs.length ≤ 16384) (hc : cs.getD k 0 = 8233) :
    Code.wp Tryz.prog body16 (Exit.then (fun a' w' => Inv16 b B g T dcap (qn : Int) f C asc qn l cs w0 a' w' ∧ mu16 cs.length a' w' < cs.length - k) Q0) (fr16 b g cs.length dcap T (qn : Int) f jv (.int .i64 k) U) wr := by
  conv => arg 2; whnf
  have hu := hM.unit hk
  rw [hc] at hu
  have hol := outTo_length asc qn cs k
  unfold fr16
  go_wp2_with (first
    | (refine wpList_app_str rfl _ _ rfl B jv (l ++ outTo asc qn cs k) rfl hM.own ⟨#[92, 117, 50, 48, 50, 57]⟩ rfl (len2 _ _ 6 k hl (by omega) hol (by decide)) hM.size ?_; intro ao n c w1 happ))
  exact done16 hk (hM.app happ) (by unfold emAt; rw [hc]; rfl) (by kernel_rfl)

set_option maxRecDepth 1000000 in
set_option maxHeartbeats 2000000 in
theorem c16_65279 (b B g T dcap : Nat) (f : Int) (C : Array Value) (asc : Bool) (qn : Nat) (l : List UInt8) (cs : List Nat) (w0 : World) (jv : Value) (wr : World) (k : Nat) (U : Nat → Value) (Q0 : Exit → Act → World → Prop)
    (hM : Mid b B g T dcap C cs w0 jv (l ++ outTo asc qn cs k) wr) (hk : k < cs.length) (hl : l.length ≤ 16384) (hn : cs.length ≤ 16384) (hc : cs.getD k 0 = 65279) :
    Code.wp Tryz.prog body16 (Exit.then (fun a' w' => Inv16 b B g T dcap (qn : Int) f C asc qn l cs w0 a' w' ∧ mu16 cs.length a' w' < cs.length - k) Q0) (fr16 b g cs.length dcap T (qn : Int) f jv (.int .i64 k) U) wr := by
  conv => arg 2; whnf
  have hu := hM.unit hk
  rw [hc] at hu
  have hol := outTo_length asc qn cs k
  unfold fr16
  go_wp2_with (first
    | (refine wpList_app_str rfl _ _ rfl B jv (l ++ outTo asc qn cs k) rfl hM.own ⟨#[92, 117, 70, 69, 70, 70]⟩ rfl (len2 _ _ 6 k hl (by omega) hol (by decide)) hM.size ?_; intro ao n c w1 happ))
  exact done16 hk (hM.app happ) (by unfold emAt; rw [hc]; rfl) (by kernel_rfl)

set_option maxRecDepth 1000000 in
set_option maxHeartbeats 2000000 in
theorem c16_0d (b B g T dcap : Nat) (f : Int) (C : Array Value) (asc : Bool) (qn : Nat) (l : List UInt8) (cs : List Nat) (w0 : World) (jv : Value) (wr : World) (k : Nat) (U : Nat → Value) (Q0 : Exit → Act → World → Prop)
    (hM : Mid b B g T dcap C cs w0 jv (l ++ outTo asc qn cs k) wr) (hk : k < cs.length) (hl : l.length ≤ 16384) (hn : cs.length ≤ 16384) (hc : cs.getD k 0 = 0) (hk1 : k + 1 < cs.length) (hdig : dig (cs.getD (k + 1) 0) = true) :
    Code.wp Tryz.prog body16 (Exit.then (fun a' w' => Inv16 b B g T dcap (qn : Int) f C asc qn l cs w0 a' w' ∧ mu16 cs.length a' w' < cs.length - k) Q0) (fr16 b g cs.length dcap T (qn : Int) f jv (.int .i64 k) U) wr := by
  conv => arg 2; whnf
  have hu := hM.unit hk
  rw [hc] at hu
  have hol := outTo_length asc qn cs k
  have hu1 := hM.unit hk1
  obtain ⟨d, hd⟩ : ∃ d : Int, d = ((cs.getD (k + 1) 0 : Nat) : Int) := ⟨_, rfl⟩
  rw [← hd] at hu1
  have hd0 : 48 ≤ d ∧ d ≤ 57 := by unfold dig at hdig; simp only [Bool.and_eq_true, decide_eq_true_eq] at hdig; omega
  obtain ⟨hd1, hd2⟩ := hd0
  have HD := Lib.hid hdig
  clear hdig hd
  unfold fr16
  go_wp2_with (first
    | (refine wpList_app_str rfl _ _ rfl B jv (l ++ outTo asc qn cs k) rfl hM.own ⟨#[92, 120, 48, 48]⟩ rfl (len2 _ _ 4 k hl (by omega) hol (by decide)) hM.size ?_; intro ao n c w1 happ))
  exact done16 hk (hM.app happ) (by exact em_0d asc qn cs k hc HD.out) (by kernel_rfl)

set_option maxRecDepth 1000000 in
set_option maxHeartbeats 2000000 in
theorem c16_0e (b B g T dcap : Nat) (f : Int) (C : Array Value) (asc : Bool) (qn : Nat) (l : List UInt8) (cs : List Nat) (w0 : World) (jv : Value) (wr : World) (k : Nat) (U : Nat → Value) (Q0 : Exit → Act → World → Prop)
    (hM : Mid b B g T dcap C cs w0 jv (l ++ outTo asc qn cs k) wr) (hk : k < cs.length) (hl : l.length ≤ 16384) (hn : cs.length ≤ 16384) (hc : cs.getD k 0 = 0) (hk1 : ¬ k + 1 < cs.length) (hdig : dig (cs.getD (k + 1) 0) = false) :
    Code.wp Tryz.prog body16 (Exit.then (fun a' w' => Inv16 b B g T dcap (qn : Int) f C asc qn l cs w0 a' w' ∧ mu16 cs.length a' w' < cs.length - k) Q0) (fr16 b g cs.length dcap T (qn : Int) f jv (.int .i64 k) U) wr := by
  conv => arg 2; whnf
  have hu := hM.unit hk
  rw [hc] at hu
  have hol := outTo_length asc qn cs k
  have HD := Lib.hid hdig
  clear hdig
  unfold fr16
  go_wp2_with (first
    | (refine wpList_app_str rfl _ _ rfl B jv (l ++ outTo asc qn cs k) rfl hM.own ⟨#[92, 48]⟩ rfl (len2 _ _ 2 k hl (by omega) hol (by decide)) hM.size ?_; intro ao n c w1 happ))
  exact done16 hk (hM.app happ) (by exact em_0n asc qn cs k hc HD.out) (by kernel_rfl)

set_option maxRecDepth 1000000 in
set_option maxHeartbeats 2000000 in
theorem c16_0l (b B g T dcap : Nat) (f : Int) (C : Array Value) (asc : Bool) (qn : Nat) (l : List UInt8) (cs : List Nat) (w0 : World) (jv : Value) (wr : World) (k : Nat) (U : Nat → Value) (Q0 : Exit → Act → World → Prop)
    (hM : Mid b B g T dcap C cs w0 jv (l ++ outTo asc qn cs k) wr) (hk : k < cs.length) (hl : l.length ≤ 16384) (hn : cs.length ≤ 16384) (hc : cs.getD k 0 = 0) (hk1 : k + 1 < cs.length) (hx : cs.getD (k + 1) 0 < 48) (hdig : dig (cs.getD (k + 1) 0) = false) :
    Code.wp Tryz.prog body16 (Exit.then (fun a' w' => Inv16 b B g T dcap (qn : Int) f C asc qn l cs w0 a' w' ∧ mu16 cs.length a' w' < cs.length - k) Q0) (fr16 b g cs.length dcap T (qn : Int) f jv (.int .i64 k) U) wr := by
  conv => arg 2; whnf
  have hu := hM.unit hk
  rw [hc] at hu
  have hol := outTo_length asc qn cs k
  have hu1 := hM.unit hk1
  obtain ⟨d, hd⟩ : ∃ d : Int, d = ((cs.getD (k + 1) 0 : Nat) : Int) := ⟨_, rfl⟩
  rw [← hd] at hu1
  have hd1 : d < 48 := by omega
  have HD := Lib.hid hdig
  clear hdig hd hx
  unfold fr16
  go_wp2_with (first
    | (refine wpList_app_str rfl _ _ rfl B jv (l ++ outTo asc qn cs k) rfl hM.own ⟨#[92, 48]⟩ rfl (len2 _ _ 2 k hl (by omega) hol (by decide)) hM.size ?_; intro ao n c w1 happ))
  exact done16 hk (hM.app happ) (by exact em_0n asc qn cs k hc HD.out) (by kernel_rfl)

set_option maxRecDepth 1000000 in
set_option maxHeartbeats 2000000 in
theorem c16_0g (b B g T dcap : Nat) (f : Int) (C : Array Value) (asc : Bool) (qn : Nat) (l : List UInt8) (cs : List Nat) (w0 : World) (jv : Value) (wr : World) (k : Nat) (U : Nat → Value) (Q0 : Exit → Act → World → Prop)
    (hM : Mid b B g T dcap C cs w0 jv (l ++ outTo asc qn cs k) wr) (hk : k < cs.length) (hl : l.length ≤ 16384) (hn : cs.length ≤ 16384) (hc : cs.getD k 0 = 0) (hk1 : k + 1 < cs.length) (hx : 57 < cs.getD (k + 1) 0) (hdig : dig (cs.getD (k + 1) 0) = false) :
    Code.wp Tryz.prog body16 (Exit.then (fun a' w' => Inv16 b B g T dcap (qn : Int) f C asc qn l cs w0 a' w' ∧ mu16 cs.length a' w' < cs.length - k) Q0) (fr16 b g cs.length dcap T (qn : Int) f jv (.int .i64 k) U) wr := by
  conv => arg 2; whnf
  have hu := hM.unit hk
  rw [hc] at hu
  have hol := outTo_length asc qn cs k
  have hu1 := hM.unit hk1
  obtain ⟨d, hd⟩ : ∃ d : Int, d = ((cs.getD (k + 1) 0 : Nat) : Int) := ⟨_, rfl⟩
  rw [← hd] at hu1
  have hd1 : 57 < d := by omega
  have HD := Lib.hid hdig
  clear hdig hd hx
  have hd2 : 48 ≤ d := by omega
  unfold fr16
  go_wp2_with (first
    | (refine wpList_app_str rfl _ _ rfl B jv (l ++ outTo asc qn cs k) rfl hM.own ⟨#[92, 48]⟩ rfl (len2 _ _ 2 k hl (by omega) hol (by decide)) hM.size ?_; intro ao n c w1 happ))
  exact done16 hk (hM.app happ) (by exact em_0n asc qn cs k hc HD.out) (by kernel_rfl)

end Go.Proofs.YtmfbgoikekmdkaaGreatFmt
