/-
  printUnquotedUTF16: rounds, at a unit that is written as it is, or behind a backslash. (Lines alike from case to case: written by gen_pr3.py.)
-/
import Derived.Test.YtmfbgoikekmdkaaGreatFmtPr3
namespace Go.Proofs.YtmfbgoikekmdkaaGreatFmt
open Go.RowKit Go.Lib Go.FQ

set_option maxRecDepth 1000000 in
set_option maxHeartbeats 2000000 in
theorem c16_10_34 (b B g T dcap : Nat) (f : Int) (C : Array Value) (asc : Bool) (l : List UInt8) (cs : List Nat) (w0 : World) (jv : Value) (wr : World) (k : Nat) (U : Nat → Value) (Q0 : Exit → Act → World → Prop)
    (hM : Mid b B g T dcap C cs w0 jv (l ++ outTo asc 34 cs k) wr) (hk : k < cs.length) (hl : l.length ≤ 16384) (hn : cs.length ≤ 16384) (hc : cs.getD k 0 = 10) :
    Code.wp Tryz.prog body16 (Exit.then (fun a' w' => Inv16 b B g T dcap 34 f C asc 34 l cs w0 a' w' ∧ mu16 cs.length a' w' < cs.length - k) Q0) (fr16 b g cs.length dcap T 34 f jv (.int .i64 k) U) wr := by
  conv => arg 2; whnf
  have hu := hM.unit hk
  rw [hc] at hu
  have hol := outTo_length asc 34 cs k
  unfold fr16
  go_wp2_with (first
    | (refine wpList_app_str rfl _ _ rfl B jv (l ++ outTo asc 34 cs k) rfl hM.own ⟨#[92, 110]⟩ rfl (len2 _ _ 2 k hl (by omega) hol (by decide)) hM.size ?_; intro ao n c w1 happ))
  exact done16 hk (hM.app happ) (by unfold emAt; rw [hc]; rfl) (by kernel_rfl)

set_option maxRecDepth 1000000 in
set_option maxHeartbeats 2000000 in
theorem c16_10_39 (b B g T dcap : Nat) (f : Int) (C : Array Value) (asc : Bool) (l : List UInt8) (cs : List Nat) (w0 : World) (jv : Value) (wr : World) (k : Nat) (U : Nat → Value) (Q0 : Exit → Act → World → Prop)
    (hM : Mid b B g T dcap C cs w0 jv (l ++ outTo asc 39 cs k) wr) (hk : k < cs.length) (hl : l.length ≤ 16384) (hn : cs.length ≤ 16384) (hc : cs.getD k 0 = 10) :
    Code.wp Tryz.prog body16 (Exit.then (fun a' w' => Inv16 b B g T dcap 39 f C asc 39 l cs w0 a' w' ∧ mu16 cs.length a' w' < cs.length - k) Q0) (fr16 b g cs.length dcap T 39 f jv (.int .i64 k) U) wr := by
  conv => arg 2; whnf
  have hu := hM.unit hk
  rw [hc] at hu
  have hol := outTo_length asc 39 cs k
  unfold fr16
  go_wp2_with (first
    | (refine wpList_app_str rfl _ _ rfl B jv (l ++ outTo asc 39 cs k) rfl hM.own ⟨#[92, 110]⟩ rfl (len2 _ _ 2 k hl (by omega) hol (by decide)) hM.size ?_; intro ao n c w1 happ))
  exact done16 hk (hM.app happ) (by unfold emAt; rw [hc]; rfl) (by kernel_rfl)

set_option maxRecDepth 1000000 in
set_option maxHeartbeats 2000000 in
theorem c16_10_96 (b B g T dcap : Nat) (f : Int) (C : Array Value) (asc : Bool) (l : List UInt8) (cs : List Nat) (w0 : World) (jv : Value) (wr : World) (k : Nat) (U : Nat → Value) (Q0 : Exit → Act → World → Prop)
    (hM : Mid b B g T dcap C cs w0 jv (l ++ outTo asc 96 cs k) wr) (hk : k < cs.length) (hl : l.length ≤ 16384) (hn : cs.length ≤ 16384) (hc : cs.getD k 0 = 10) :
    Code.wp Tryz.prog body16 (Exit.then (fun a' w' => Inv16 b B g T dcap 96 f C asc 96 l cs w0 a' w' ∧ mu16 cs.length a' w' < cs.length - k) Q0) (fr16 b g cs.length dcap T 96 f jv (.int .i64 k) U) wr := by
  conv => arg 2; whnf
  have hu := hM.unit hk
  rw [hc] at hu
  have hol := outTo_length asc 96 cs k
  unfold fr16
  go_wp2_with (first
    | (refine wpList_app_row rfl (.tmp 298) (.tmp 299) rfl B jv (l ++ outTo asc 96 cs k) rfl (hM.alloc _).own ⟨wr.heap.size, 0, none⟩ [10] 1 1 rfl rfl (new1 wr 10 (by decide)) (len2 _ _ 1 k hl (by omega) hol (by decide)) (hM.alloc _).size ?_; intro ao n c w1 happ))
  exact done16 hk ((hM.alloc _).app happ) (by unfold emAt; rw [hc]; rfl) (by kernel_rfl)

set_option maxRecDepth 1000000 in
set_option maxHeartbeats 2000000 in
theorem c16_39_34 (b B g T dcap : Nat) (f : Int) (C : Array Value) (asc : Bool) (l : List UInt8) (cs : List Nat) (w0 : World) (jv : Value) (wr : World) (k : Nat) (U : Nat → Value) (Q0 : Exit → Act → World → Prop)
    (hM : Mid b B g T dcap C cs w0 jv (l ++ outTo asc 34 cs k) wr) (hk : k < cs.length) (hl : l.length ≤ 16384) (hn : cs.length ≤ 16384) (hc : cs.getD k 0 = 39) :
    Code.wp Tryz.prog body16 (Exit.then (fun a' w' => Inv16 b B g T dcap 34 f C asc 34 l cs w0 a' w' ∧ mu16 cs.length a' w' < cs.length - k) Q0) (fr16 b g cs.length dcap T 34 f jv (.int .i64 k) U) wr := by
  conv => arg 2; whnf
  have hu := hM.unit hk
  rw [hc] at hu
  have hol := outTo_length asc 34 cs k
  unfold fr16
  go_wp2_with (first
    | (refine wpList_app_row rfl (.tmp 386) (.tmp 387) rfl B jv (l ++ outTo asc 34 cs k) rfl (hM.alloc _).own ⟨wr.heap.size, 0, none⟩ [39] 1 1 rfl rfl (new1 wr 39 (by decide)) (len2 _ _ 1 k hl (by omega) hol (by decide)) (hM.alloc _).size ?_; intro ao n c w1 happ))
  exact done16 hk ((hM.alloc _).app happ) (by unfold emAt; rw [hc]; rfl) (by kernel_rfl)

set_option maxRecDepth 1000000 in
set_option maxHeartbeats 2000000 in
theorem c16_39_39 (b B g T dcap : Nat) (f : Int) (C : Array Value) (asc : Bool) (l : List UInt8) (cs : List Nat) (w0 : World) (jv : Value) (wr : World) (k : Nat) (U : Nat → Value) (Q0 : Exit → Act → World → Prop)
    (hM : Mid b B g T dcap C cs w0 jv (l ++ outTo asc 39 cs k) wr) (hk : k < cs.length) (hl : l.length ≤ 16384) (hn : cs.length ≤ 16384) (hc : cs.getD k 0 = 39) :
    Code.wp Tryz.prog body16 (Exit.then (fun a' w' => Inv16 b B g T dcap 39 f C asc 39 l cs w0 a' w' ∧ mu16 cs.length a' w' < cs.length - k) Q0) (fr16 b g cs.length dcap T 39 f jv (.int .i64 k) U) wr := by
  conv => arg 2; whnf
  have hu := hM.unit hk
  rw [hc] at hu
  have hol := outTo_length asc 39 cs k
  unfold fr16
  go_wp2_with (first
    | (refine wpList_app_row rfl (.tmp 383) (.tmp 384) rfl B jv (l ++ outTo asc 39 cs k) rfl (hM.alloc _).own ⟨wr.heap.size, 0, none⟩ [92] 1 1 rfl rfl (new1 wr 92 (by decide)) (len2 _ _ 1 k hl (by omega) hol (by decide)) (hM.alloc _).size ?_; intro ao1 n1 c1 w1 happ1; have hM1 := (hM.alloc (.cells #[.int .u8 92] 5)).app happ1)
    | (refine wpList_app_row rfl (.tmp 386) (.tmp 387) rfl B _ ((l ++ outTo asc 39 cs k) ++ [92]) rfl (hM1.alloc _).own ⟨w1.heap.size, 0, none⟩ [39] 1 1 rfl rfl (new1 w1 39 (by decide)) (len3 _ _ _ 1 k hl (by omega) hol (by decide) (by decide)) (hM1.alloc _).size ?_; intro ao n c w2 happ))
  exact done16b hk ((hM1.alloc _).app happ) (by unfold emAt; rw [hc]; rfl) (by kernel_rfl)

set_option maxRecDepth 1000000 in
set_option maxHeartbeats 2000000 in
theorem c16_39_96 (b B g T dcap : Nat) (f : Int) (C : Array Value) (asc : Bool) (l : List UInt8) (cs : List Nat) (w0 : World) (jv : Value) (wr : World) (k : Nat) (U : Nat → Value) (Q0 : Exit → Act → World → Prop)
    (hM : Mid b B g T dcap C cs w0 jv (l ++ outTo asc 96 cs k) wr) (hk : k < cs.length) (hl : l.length ≤ 16384) (hn : cs.length ≤ 16384) (hc : cs.getD k 0 = 39) :
    Code.wp Tryz.prog body16 (Exit.then (fun a' w' => Inv16 b B g T dcap 96 f C asc 96 l cs w0 a' w' ∧ mu16 cs.length a' w' < cs.length - k) Q0) (fr16 b g cs.length dcap T 96 f jv (.int .i64 k) U) wr := by
  conv => arg 2; whnf
  have hu := hM.unit hk
  rw [hc] at hu
  have hol := outTo_length asc 96 cs k
  unfold fr16
  go_wp2_with (first
    | (refine wpList_app_row rfl (.tmp 386) (.tmp 387) rfl B jv (l ++ outTo asc 96 cs k) rfl (hM.alloc _).own ⟨wr.heap.size, 0, none⟩ [39] 1 1 rfl rfl (new1 wr 39 (by decide)) (len2 _ _ 1 k hl (by omega) hol (by decide)) (hM.alloc _).size ?_; intro ao n c w1 happ))
  exact done16 hk ((hM.alloc _).app happ) (by unfold emAt; rw [hc]; rfl) (by kernel_rfl)

set_option maxRecDepth 1000000 in
set_option maxHeartbeats 2000000 in
theorem c16_34_34 (b B g T dcap : Nat) (f : Int) (C : Array Value) (asc : Bool) (l : List UInt8) (cs : List Nat) (w0 : World) (jv : Value) (wr : World) (k : Nat) (U : Nat → Value) (Q0 : Exit → Act → World → Prop)
    (hM : Mid b B g T dcap C cs w0 jv (l ++ outTo asc 34 cs k) wr) (hk : k < cs.length) (hl : l.length ≤ 16384) (hn : cs.length ≤ 16384) (hc : cs.getD k 0 = 34) :
    Code.wp Tryz.prog body16 (Exit.then (fun a' w' => Inv16 b B g T dcap 34 f C asc 34 l cs w0 a' w' ∧ mu16 cs.length a' w' < cs.length - k) Q0) (fr16 b g cs.length dcap T 34 f jv (.int .i64 k) U) wr := by
  conv => arg 2; whnf
  have hu := hM.unit hk
  rw [hc] at hu
  have hol := outTo_length asc 34 cs k
  unfold fr16
  go_wp2_with (first
    | (refine wpList_app_row rfl (.tmp 393) (.tmp 394) rfl B jv (l ++ outTo asc 34 cs k) rfl (hM.alloc _).own ⟨wr.heap.size, 0, none⟩ [92] 1 1 rfl rfl (new1 wr 92 (by decide)) (len2 _ _ 1 k hl (by omega) hol (by decide)) (hM.alloc _).size ?_; intro ao1 n1 c1 w1 happ1; have hM1 := (hM.alloc (.cells #[.int .u8 92] 5)).app happ1)
    | (refine wpList_app_row rfl (.tmp 396) (.tmp 397) rfl B _ ((l ++ outTo asc 34 cs k) ++ [92]) rfl (hM1.alloc _).own ⟨w1.heap.size, 0, none⟩ [34] 1 1 rfl rfl (new1 w1 34 (by decide)) (len3 _ _ _ 1 k hl (by omega) hol (by decide) (by decide)) (hM1.alloc _).size ?_; intro ao n c w2 happ))
  exact done16b hk ((hM1.alloc _).app happ) (by unfold emAt; rw [hc]; rfl) (by kernel_rfl)

set_option maxRecDepth 1000000 in
set_option maxHeartbeats 2000000 in
theorem c16_34_39 (b B g T dcap : Nat) (f : Int) (C : Array Value) (asc : Bool) (l : List UInt8) (cs : List Nat) (w0 : World) (jv : Value) (wr : World) (k : Nat) (U : Nat → Value) (Q0 : Exit → Act → World → Prop)
    (hM : Mid b B g T dcap C cs w0 jv (l ++ outTo asc 39 cs k) wr) (hk : k < cs.length) (hl : l.length ≤ 16384) (hn : cs.length ≤ 16384) (hc : cs.getD k 0 = 34) :
    Code.wp Tryz.prog body16 (Exit.then (fun a' w' => Inv16 b B g T dcap 39 f C asc 39 l cs w0 a' w' ∧ mu16 cs.length a' w' < cs.length - k) Q0) (fr16 b g cs.length dcap T 39 f jv (.int .i64 k) U) wr := by
  conv => arg 2; whnf
  have hu := hM.unit hk
  rw [hc] at hu
  have hol := outTo_length asc 39 cs k
  unfold fr16
  go_wp2_with (first
    | (refine wpList_app_row rfl (.tmp 396) (.tmp 397) rfl B jv (l ++ outTo asc 39 cs k) rfl (hM.alloc _).own ⟨wr.heap.size, 0, none⟩ [34] 1 1 rfl rfl (new1 wr 34 (by decide)) (len2 _ _ 1 k hl (by omega) hol (by decide)) (hM.alloc _).size ?_; intro ao n c w1 happ))
  exact done16 hk ((hM.alloc _).app happ) (by unfold emAt; rw [hc]; rfl) (by kernel_rfl)

set_option maxRecDepth 1000000 in
set_option maxHeartbeats 2000000 in
theorem c16_34_96 (b B g T dcap : Nat) (f : Int) (C : Array Value) (asc : Bool) (l : List UInt8) (cs : List Nat) (w0 : World) (jv : Value) (wr : World) (k : Nat) (U : Nat → Value) (Q0 : Exit → Act → World → Prop)
    (hM : Mid b B g T dcap C cs w0 jv (l ++ outTo asc 96 cs k) wr) (hk : k < cs.length) (hl : l.length ≤ 16384) (hn : cs.length ≤ 16384) (hc : cs.getD k 0 = 34) :
    Code.wp Tryz.prog body16 (Exit.then (fun a' w' => Inv16 b B g T dcap 96 f C asc 96 l cs w0 a' w' ∧ mu16 cs.length a' w' < cs.length - k) Q0) (fr16 b g cs.length dcap T 96 f jv (.int .i64 k) U) wr := by
  conv => arg 2; whnf
  have hu := hM.unit hk
  rw [hc] at hu
  have hol := outTo_length asc 96 cs k
  unfold fr16
  go_wp2_with (first
    | (refine wpList_app_row rfl (.tmp 396) (.tmp 397) rfl B jv (l ++ outTo asc 96 cs k) rfl (hM.alloc _).own ⟨wr.heap.size, 0, none⟩ [34] 1 1 rfl rfl (new1 wr 34 (by decide)) (len2 _ _ 1 k hl (by omega) hol (by decide)) (hM.alloc _).size ?_; intro ao n c w1 happ))
  exact done16 hk ((hM.alloc _).app happ) (by unfold emAt; rw [hc]; rfl) (by kernel_rfl)

set_option maxRecDepth 1000000 in
set_option maxHeartbeats 2000000 in
theorem c16_96_34 (b B g T dcap : Nat) (f : Int) (C : Array Value) (asc : Bool) (l : List UInt8) (cs : List Nat) (w0 : World) (jv : Value) (wr : World) (k : Nat) (U : Nat → Value) (Q0 : Exit → Act → World → Prop)
    (hM : Mid b B g T dcap C cs w0 jv (l ++ outTo asc 34 cs k) wr) (hk : k < cs.length) (hl : l.length ≤ 16384) (hn : cs.length ≤ 16384) (hc : cs.getD k 0 = 96) :
    Code.wp Tryz.prog body16 (Exit.then (fun a' w' => Inv16 b B g T dcap 34 f C asc 34 l cs w0 a' w' ∧ mu16 cs.length a' w' < cs.length - k) Q0) (fr16 b g cs.length dcap T 34 f jv (.int .i64 k) U) wr := by
  conv => arg 2; whnf
  have hu := hM.unit hk
  rw [hc] at hu
  have hol := outTo_length asc 34 cs k
  unfold fr16
  go_wp2_with (first
    | (refine wpList_app_row rfl (.tmp 406) (.tmp 407) rfl B jv (l ++ outTo asc 34 cs k) rfl (hM.alloc _).own ⟨wr.heap.size, 0, none⟩ [96] 1 1 rfl rfl (new1 wr 96 (by decide)) (len2 _ _ 1 k hl (by omega) hol (by decide)) (hM.alloc _).size ?_; intro ao n c w1 happ))
  exact done16 hk ((hM.alloc _).app happ) (by unfold emAt; rw [hc]; rfl) (by kernel_rfl)

set_option maxRecDepth 1000000 in
set_option maxHeartbeats 2000000 in
theorem c16_96_39 (b B g T dcap : Nat) (f : Int) (C : Array Value) (asc : Bool) (l : List UInt8) (cs : List Nat) (w0 : World) (jv : Value) (wr : World) (k : Nat) (U : Nat → Value) (Q0 : Exit → Act → World → Prop)
    (hM : Mid b B g T dcap C cs w0 jv (l ++ outTo asc 39 cs k) wr) (hk : k < cs.length) (hl : l.length ≤ 16384) (hn : cs.length ≤ 16384) (hc : cs.getD k 0 = 96) :
    Code.wp Tryz.prog body16 (Exit.then (fun a' w' => Inv16 b B g T dcap 39 f C asc 39 l cs w0 a' w' ∧ mu16 cs.length a' w' < cs.length - k) Q0) (fr16 b g cs.length dcap T 39 f jv (.int .i64 k) U) wr := by
  conv => arg 2; whnf
  have hu := hM.unit hk
  rw [hc] at hu
  have hol := outTo_length asc 39 cs k
  unfold fr16
  go_wp2_with (first
    | (refine wpList_app_row rfl (.tmp 406) (.tmp 407) rfl B jv (l ++ outTo asc 39 cs k) rfl (hM.alloc _).own ⟨wr.heap.size, 0, none⟩ [96] 1 1 rfl rfl (new1 wr 96 (by decide)) (len2 _ _ 1 k hl (by omega) hol (by decide)) (hM.alloc _).size ?_; intro ao n c w1 happ))
  exact done16 hk ((hM.alloc _).app happ) (by unfold emAt; rw [hc]; rfl) (by kernel_rfl)

set_option maxRecDepth 1000000 in
set_option maxHeartbeats 2000000 in
theorem c16_96_96 (b B g T dcap : Nat) (f : Int) (C : Array Value) (asc : Bool) (l : List UInt8) (cs : List Nat) (w0 : World) (jv : Value) (wr : World) (k : Nat) (U : Nat → Value) (Q0 : Exit → Act → World → Prop)
    (hM : Mid b B g T dcap C cs w0 jv (l ++ outTo asc 96 cs k) wr) (hk : k < cs.length) (hl : l.length ≤ 16384) (hn : cs.length ≤ 16384) (hc : cs.getD k 0 = 96) :
    Code.wp Tryz.prog body16 (Exit.then (fun a' w' => Inv16 b B g T dcap 96 f C asc 96 l cs w0 a' w' ∧ mu16 cs.length a' w' < cs.length - k) Q0) (fr16 b g cs.length dcap T 96 f jv (.int .i64 k) U) wr := by
  conv => arg 2; whnf
  have hu := hM.unit hk
  rw [hc] at hu
  have hol := outTo_length asc 96 cs k
  unfold fr16
  go_wp2_with (first
    | (refine wpList_app_row rfl (.tmp 403) (.tmp 404) rfl B jv (l ++ outTo asc 96 cs k) rfl (hM.alloc _).own ⟨wr.heap.size, 0, none⟩ [92] 1 1 rfl rfl (new1 wr 92 (by decide)) (len2 _ _ 1 k hl (by omega) hol (by decide)) (hM.alloc _).size ?_; intro ao1 n1 c1 w1 happ1; have hM1 := (hM.alloc (.cells #[.int .u8 92] 5)).app happ1)
    | (refine wpList_app_row rfl (.tmp 406) (.tmp 407) rfl B _ ((l ++ outTo asc 96 cs k) ++ [92]) rfl (hM1.alloc _).own ⟨w1.heap.size, 0, none⟩ [96] 1 1 rfl rfl (new1 w1 96 (by decide)) (len3 _ _ _ 1 k hl (by omega) hol (by decide) (by decide)) (hM1.alloc _).size ?_; intro ao n c w2 happ))
  exact done16b hk ((hM1.alloc _).app happ) (by unfold emAt; rw [hc]; rfl) (by kernel_rfl)

set_option maxRecDepth 1000000 in
set_option maxHeartbeats 2000000 in
theorem c16_36_34 (b B g T dcap : Nat) (f : Int) (C : Array Value) (asc : Bool) (l : List UInt8) (cs : List Nat) (w0 : World) (jv : Value) (wr : World) (k : Nat) (U : Nat → Value) (Q0 : Exit → Act → World → Prop)
    (hM : Mid b B g T dcap C cs w0 jv (l ++ outTo asc 34 cs k) wr) (hk : k < cs.length) (hl : l.length ≤ 16384) (hn : cs.length ≤ 16384) (hc : cs.getD k 0 = 36) :
    Code.wp Tryz.prog body16 (Exit.then (fun a' w' => Inv16 b B g T dcap 34 f C asc 34 l cs w0 a' w' ∧ mu16 cs.length a' w' < cs.length - k) Q0) (fr16 b g cs.length dcap T 34 f jv (.int .i64 k) U) wr := by
  conv => arg 2; whnf
  have hu := hM.unit hk
  rw [hc] at hu
  have hol := outTo_length asc 34 cs k
  unfold fr16
  go_wp2_with (first
    | (refine wpList_app_row rfl (.tmp 428) (.tmp 429) rfl B jv (l ++ outTo asc 34 cs k) rfl (hM.alloc _).own ⟨wr.heap.size, 0, none⟩ [36] 1 1 rfl rfl (new1 wr 36 (by decide)) (len2 _ _ 1 k hl (by omega) hol (by decide)) (hM.alloc _).size ?_; intro ao n c w1 happ))
  exact done16 hk ((hM.alloc _).app happ) (by unfold emAt; rw [hc]; rfl) (by kernel_rfl)

set_option maxRecDepth 1000000 in
set_option maxHeartbeats 2000000 in
theorem c16_36_39 (b B g T dcap : Nat) (f : Int) (C : Array Value) (asc : Bool) (l : List UInt8) (cs : List Nat) (w0 : World) (jv : Value) (wr : World) (k : Nat) (U : Nat → Value) (Q0 : Exit → Act → World → Prop)
    (hM : Mid b B g T dcap C cs w0 jv (l ++ outTo asc 39 cs k) wr) (hk : k < cs.length) (hl : l.length ≤ 16384) (hn : cs.length ≤ 16384) (hc : cs.getD k 0 = 36) :
    Code.wp Tryz.prog body16 (Exit.then (fun a' w' => Inv16 b B g T dcap 39 f C asc 39 l cs w0 a' w' ∧ mu16 cs.length a' w' < cs.length - k) Q0) (fr16 b g cs.length dcap T 39 f jv (.int .i64 k) U) wr := by
  conv => arg 2; whnf
  have hu := hM.unit hk
  rw [hc] at hu
  have hol := outTo_length asc 39 cs k
  unfold fr16
  go_wp2_with (first
    | (refine wpList_app_row rfl (.tmp 428) (.tmp 429) rfl B jv (l ++ outTo asc 39 cs k) rfl (hM.alloc _).own ⟨wr.heap.size, 0, none⟩ [36] 1 1 rfl rfl (new1 wr 36 (by decide)) (len2 _ _ 1 k hl (by omega) hol (by decide)) (hM.alloc _).size ?_; intro ao n c w1 happ))
  exact done16 hk ((hM.alloc _).app happ) (by unfold emAt; rw [hc]; rfl) (by kernel_rfl)

set_option maxRecDepth 1000000 in
set_option maxHeartbeats 2000000 in
theorem c16_36_e (b B g T dcap : Nat) (f : Int) (C : Array Value) (asc : Bool) (l : List UInt8) (cs : List Nat) (w0 : World) (jv : Value) (wr : World) (k : Nat) (U : Nat → Value) (Q0 : Exit → Act → World → Prop)
    (hM : Mid b B g T dcap C cs w0 jv (l ++ outTo asc 96 cs k) wr) (hk : k < cs.length) (hl : l.length ≤ 16384) (hn : cs.length ≤ 16384) (hc : cs.getD k 0 = 36) (hk1 : ¬ k + 1 < cs.length) (hx : cs.getD (k + 1) 0 ≠ 123) :
    Code.wp Tryz.prog body16 (Exit.then (fun a' w' => Inv16 b B g T dcap 96 f C asc 96 l cs w0 a' w' ∧ mu16 cs.length a' w' < cs.length - k) Q0) (fr16 b g cs.length dcap T 96 f jv (.int .i64 k) U) wr := by
  conv => arg 2; whnf
  have hu := hM.unit hk
  rw [hc] at hu
  have hol := outTo_length asc 96 cs k
  have HD := Lib.hid hx
  clear hx
  unfold fr16
  go_wp2_with (first
    | (refine wpList_app_row rfl (.tmp 428) (.tmp 429) rfl B jv (l ++ outTo asc 96 cs k) rfl (hM.alloc _).own ⟨wr.heap.size, 0, none⟩ [36] 1 1 rfl rfl (new1 wr 36 (by decide)) (len2 _ _ 1 k hl (by omega) hol (by decide)) (hM.alloc _).size ?_; intro ao n c w1 happ))
  exact done16 hk ((hM.alloc _).app happ) (by exact em_36n asc cs k hc HD.out) (by kernel_rfl)

set_option maxRecDepth 1000000 in
set_option maxHeartbeats 2000000 in
theorem c16_36_n (b B g T dcap : Nat) (f : Int) (C : Array Value) (asc : Bool) (l : List UInt8) (cs : List Nat) (w0 : World) (jv : Value) (wr : World) (k : Nat) (U : Nat → Value) (Q0 : Exit → Act → World → Prop)
    (hM : Mid b B g T dcap C cs w0 jv (l ++ outTo asc 96 cs k) wr) (hk : k < cs.length) (hl : l.length ≤ 16384) (hn : cs.length ≤ 16384) (hc : cs.getD k 0 = 36) (hk1 : k + 1 < cs.length) (hx : cs.getD (k + 1) 0 ≠ 123) :
    Code.wp Tryz.prog body16 (Exit.then (fun a' w' => Inv16 b B g T dcap 96 f C asc 96 l cs w0 a' w' ∧ mu16 cs.length a' w' < cs.length - k) Q0) (fr16 b g cs.length dcap T 96 f jv (.int .i64 k) U) wr := by
  conv => arg 2; whnf
  have hu := hM.unit hk
  rw [hc] at hu
  have hol := outTo_length asc 96 cs k
  have hu1 := hM.unit hk1
  obtain ⟨d, hd⟩ : ∃ d : Int, d = ((cs.getD (k + 1) 0 : Nat) : Int) := ⟨_, rfl⟩
  rw [← hd] at hu1
  have hd1 : (d == 123) = false := by simp; omega
  have HD := Lib.hid hx
  clear hx hd
  unfold fr16
  go_wp2_with (first
    | (refine wpList_app_row rfl (.tmp 428) (.tmp 429) rfl B jv (l ++ outTo asc 96 cs k) rfl (hM.alloc _).own ⟨wr.heap.size, 0, none⟩ [36] 1 1 rfl rfl (new1 wr 36 (by decide)) (len2 _ _ 1 k hl (by omega) hol (by decide)) (hM.alloc _).size ?_; intro ao n c w1 happ))
  exact done16 hk ((hM.alloc _).app happ) (by exact em_36n asc cs k hc HD.out) (by kernel_rfl)

set_option maxRecDepth 1000000 in
set_option maxHeartbeats 2000000 in
theorem c16_36_y (b B g T dcap : Nat) (f : Int) (C : Array Value) (asc : Bool) (l : List UInt8) (cs : List Nat) (w0 : World) (jv : Value) (wr : World) (k : Nat) (U : Nat → Value) (Q0 : Exit → Act → World → Prop)
    (hM : Mid b B g T dcap C cs w0 jv (l ++ outTo asc 96 cs k) wr) (hk : k < cs.length) (hl : l.length ≤ 16384) (hn : cs.length ≤ 16384) (hc : cs.getD k 0 = 36) (hk1 : k + 1 < cs.length) (hx : cs.getD (k + 1) 0 = 123) :
    Code.wp Tryz.prog body16 (Exit.then (fun a' w' => Inv16 b B g T dcap 96 f C asc 96 l cs w0 a' w' ∧ mu16 cs.length a' w' < cs.length - k) Q0) (fr16 b g cs.length dcap T 96 f jv (.int .i64 k) U) wr := by
  conv => arg 2; whnf
  have hu := hM.unit hk
  rw [hc] at hu
  have hol := outTo_length asc 96 cs k
  have hu1 := hM.unit hk1
  rw [hx] at hu1
  have HD := Lib.hid hx
  clear hx
  unfold fr16
  go_wp2_with (first
    | (refine wpList_app_row rfl (.tmp 425) (.tmp 426) rfl B jv (l ++ outTo asc 96 cs k) rfl (hM.alloc _).own ⟨wr.heap.size, 0, none⟩ [92] 1 1 rfl rfl (new1 wr 92 (by decide)) (len2 _ _ 1 k hl (by omega) hol (by decide)) (hM.alloc _).size ?_; intro ao1 n1 c1 w1 happ1; have hM1 := (hM.alloc (.cells #[.int .u8 92] 5)).app happ1)
    | (refine wpList_app_row rfl (.tmp 428) (.tmp 429) rfl B _ ((l ++ outTo asc 96 cs k) ++ [92]) rfl (hM1.alloc _).own ⟨w1.heap.size, 0, none⟩ [36] 1 1 rfl rfl (new1 w1 36 (by decide)) (len3 _ _ _ 1 k hl (by omega) hol (by decide) (by decide)) (hM1.alloc _).size ?_; intro ao n c w2 happ))
  exact done16b hk ((hM1.alloc _).app happ) (by exact em_36y asc cs k hc HD.out) (by kernel_rfl)

end Go.Proofs.YtmfbgoikekmdkaaGreatFmt
