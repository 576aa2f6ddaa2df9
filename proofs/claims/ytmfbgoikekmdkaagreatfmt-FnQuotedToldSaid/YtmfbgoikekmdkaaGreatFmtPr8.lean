/-
  printUnquotedUTF16: the inner loop, whole; the rounds at a slash.
-/
import Derived.Test.YtmfbgoikekmdkaaGreatFmtPr7
namespace Go.Proofs.YtmfbgoikekmdkaaGreatFmt
open Go.RowKit Go.Lib Go.FQ

set_option maxRecDepth 1000000 in
set_option maxHeartbeats 2000000 in
theorem in16_end (b g n dcap T : Nat) (q f : Int) (jv i : Value) (U : Nat → Value) (Q0 : Exit → Act → World → Prop) (P0 : Act → World → Prop) (wr : World) (hexit : ∀ U', Q0 (.exit 4) (fr16s b g n dcap T q f jv i true 6 U') wr) :
    Code.wp Tryz.prog inner16 (Exit.then P0 Q0) (fr16s b g n dcap T q f jv i true 6 U) wr := by
  conv => arg 2; whnf
  have key : ∀ A : Act, A = fr16s b g n dcap T q f jv i true 6 (fun i => A.tmps.getD i undef) → Q0 (.exit 4) A wr := fun A hA => by rw [hA]; exact hexit _
  have KEY := Lib.hid key
  clear hexit key
  unfold fr16s
  go_wp2
  exact KEY.out _ (by kernel_rfl)

theorem inner_loop (b B g T dcap : Nat) (q f : Int) (C : Array Value) (l0 : List UInt8) (cs : List Nat) (w0 : World) (jv : Value) (wr : World) (k : Nat) (U : Nat → Value) (Q0 : Exit → Act → World → Prop)
    (hM : Mid b B g T dcap C cs w0 jv l0 wr) (hk : k + 7 ≤ cs.length) (hn : cs.length ≤ 16384)
    (hexit : ∀ j' U', Q0 (.exit 4) (fr16s b g cs.length dcap T q f jv (.int .i64 ((k : Int) + 1)) (isScript (cs.drop (k + 1))) j' U') wr) :
    Code.wp Tryz.prog (Code.loop inner16) Q0 (fr16s b g cs.length dcap T q f jv (.int .i64 ((k : Int) + 1)) true 0 U) wr := by
  refine wp_loop (InvS b g cs.length dcap T q f jv cs k wr) muS ⟨0, U, Nat.zero_le _, fun i h => by omega, rfl, rfl⟩ ?_
  rintro a w ⟨j, U', hj, hp, rfl, rfl⟩
  have hmu : muS (fr16s b g cs.length dcap T q f jv (.int .i64 ((k : Int) + 1)) true j U') w = 6 - j := by
    show 6 - ((j : Int)).toNat = _
    omega
  rw [hmu]
  by_cases hj6 : j < 6
  · by_cases hx : low (cs.getD (k + 1 + j) 0) = scr j
    · by_cases h1 : 65 ≤ cs.getD (k + 1 + j) 0 ∧ cs.getD (k + 1 + j) 0 ≤ 90
      · exact in16_um b B g T dcap q f C l0 cs w0 jv w k j U' Q0 hM hk hn hj6 hp h1 hx
      · have hs := scr_bd j hj6
        have h2 : 90 < cs.getD (k + 1 + j) 0 := by unfold low at hx; rw [if_neg h1] at hx; omega
        exact in16_gm b B g T dcap q f C l0 cs w0 jv w k j U' Q0 hM hk hn hj6 hp h2 hx
    · have hno : isScript (cs.drop (k + 1)) = false := by
        cases h : isScript (cs.drop (k + 1)) with
        | false => rfl
        | true => exact absurd ((isScript_iff cs k hk).1 h j hj6) hx
      rw [hno] at hexit
      by_cases h1 : 65 ≤ cs.getD (k + 1 + j) 0 ∧ cs.getD (k + 1 + j) 0 ≤ 90
      · exact in16_ux b B g T dcap q f C l0 cs w0 jv w k j U' Q0 hM hk hn hj6 hp h1 hx (hexit j)
      · by_cases h2 : 90 < cs.getD (k + 1 + j) 0
        · exact in16_gx b B g T dcap q f C l0 cs w0 jv w k j U' Q0 hM hk hn hj6 hp h2 hx (hexit j)
        · exact in16_lx b B g T dcap q f C l0 cs w0 jv w k j U' Q0 hM hk hn hj6 hp (by omega) hx (hexit j)
  · have h6 : j = 6 := by omega
    subst h6
    have hyes : isScript (cs.drop (k + 1)) = true := (isScript_iff cs k hk).2 fun j hj => hp j hj
    rw [hyes] at hexit
    exact in16_end b g cs.length dcap T q f jv _ U' Q0 _ w (hexit 6)

theorem inner_any (b B g T dcap : Nat) (q f : Int) (C : Array Value) (l0 : List UInt8) (cs : List Nat) (w0 : World) (jv : Value) (wr : World) (k : Nat) (A : Act) (Q0 : Exit → Act → World → Prop)
    (hM : Mid b B g T dcap C cs w0 jv l0 wr) (hk : k + 7 ≤ cs.length) (hn : cs.length ≤ 16384) (hA : A = fr16s b g cs.length dcap T q f jv (.int .i64 ((k : Int) + 1)) true 0 (fun i => A.tmps.getD i undef))
    (hexit : ∀ j' U', Q0 (.exit 4) (fr16s b g cs.length dcap T q f jv (.int .i64 ((k : Int) + 1)) (isScript (cs.drop (k + 1))) j' U') wr) :
    Code.wp Tryz.prog (Code.loop inner16) Q0 A wr := by
  rw [hA]
  exact inner_loop b B g T dcap q f C l0 cs w0 jv wr k _ Q0 hM hk hn hexit

set_option maxRecDepth 1000000 in
set_option maxHeartbeats 2000000 in
theorem c16_47a (b B g T dcap : Nat) (q f : Int) (C : Array Value) (asc mini : Bool) (qn : Nat) (l : List UInt8) (cs : List Nat) (w0 : World) (jv : Value) (wr : World) (k : Nat) (U : Nat → Value) (Q0 : Exit → Act → World → Prop)
    (hM : Mid b B g T dcap C cs w0 jv (l ++ outTo asc qn cs k) wr) (hO : Opts asc mini C) (hk : k < cs.length) (hl : l.length ≤ 16384) (_hn : cs.length ≤ 16384) (hc : cs.getD k 0 = 47) (h1 : k < 1) :
    Code.wp Tryz.prog body16 (Exit.then (fun a' w' => Inv16 b B g T dcap q f C asc qn l cs w0 a' w' ∧ mu16 cs.length a' w' < cs.length - k) Q0) (fr16 b g cs.length dcap T q f jv (.int .i64 k) U) wr := by
  conv => arg 2; whnf
  have hu := hM.unit hk
  rw [hc] at hu
  have hol := outTo_length asc qn cs k
  have hfe := hM.cellB hO.feat
  have z1 : (k : Int) < 1 := by omega
  have hem : emAt asc qn cs k = [47] := em_47n asc qn cs k hc (fun h => by have h2 := h.1; unfold prevAt at h2; rw [if_pos (by omega)] at h2; omega)
  have HEM := Lib.hid hem
  clear hem hc 
  unfold fr16
  go_wp2_with (first
    | (go_at_call 14; refine (has_zero 68719476736 _ (by decide) (by decide)).mono ?_; rintro e w' ⟨rfl, rfl⟩)
    | (refine wpList_app_row rfl (.tmp 376) (.tmp 377) rfl B jv (l ++ outTo asc qn cs k) rfl (hM.alloc _).own ⟨wr.heap.size, 0, none⟩ [47] 1 1 rfl rfl (new1 wr 47 (by decide)) (len2 _ _ 1 k hl (by omega) hol (by decide)) (hM.alloc _).size ?_; intro ao n c w1 happ))
  exact done16 hk ((hM.alloc _).app happ) HEM.out (by kernel_rfl)

set_option maxRecDepth 1000000 in
set_option maxHeartbeats 2000000 in
theorem c16_47b (b B g T dcap : Nat) (q f : Int) (C : Array Value) (asc mini : Bool) (qn : Nat) (l : List UInt8) (cs : List Nat) (w0 : World) (jv : Value) (wr : World) (k : Nat) (U : Nat → Value) (Q0 : Exit → Act → World → Prop)
    (hM : Mid b B g T dcap C cs w0 jv (l ++ outTo asc qn cs k) wr) (hO : Opts asc mini C) (hk : k < cs.length) (hl : l.length ≤ 16384) (hn : cs.length ≤ 16384) (hc : cs.getD k 0 = 47) (h1 : 1 ≤ k) (h2 : cs.getD (k - 1) 0 ≠ 60) :
    Code.wp Tryz.prog body16 (Exit.then (fun a' w' => Inv16 b B g T dcap q f C asc qn l cs w0 a' w' ∧ mu16 cs.length a' w' < cs.length - k) Q0) (fr16 b g cs.length dcap T q f jv (.int .i64 k) U) wr := by
  conv => arg 2; whnf
  have hu := hM.unit hk
  rw [hc] at hu
  have hol := outTo_length asc qn cs k
  have hfe := hM.cellB hO.feat
  have hu1 := hM.unit (k := k - 1) (by omega)
  obtain ⟨p, hpv⟩ : ∃ p : Int, p = ((cs.getD (k - 1) 0 : Nat) : Int) := ⟨_, rfl⟩
  rw [← hpv] at hu1
  have z1 : (1 : Int) ≤ (k : Int) := by omega
  have hpa : prevAt cs k = cs.getD (k - 1) 0 := by unfold prevAt; rw [if_neg (by omega)]
  have hpb : (p == 60) = false := by simp; omega
  have hem : emAt asc qn cs k = [47] := em_47n asc qn cs k hc (fun h => by have h3 := h.1; rw [hpa] at h3; exact h2 h3)
  have HEM := Lib.hid hem
  clear hem hc hpv hpa h2
  unfold fr16
  go_wp2_with (first
    | (go_at_call 14; refine (has_zero 68719476736 _ (by decide) (by decide)).mono ?_; rintro e w' ⟨rfl, rfl⟩)
    | (refine wpList_app_row rfl (.tmp 376) (.tmp 377) rfl B jv (l ++ outTo asc qn cs k) rfl (hM.alloc _).own ⟨wr.heap.size, 0, none⟩ [47] 1 1 rfl rfl (new1 wr 47 (by decide)) (len2 _ _ 1 k hl (by omega) hol (by decide)) (hM.alloc _).size ?_; intro ao n c w1 happ))
  exact done16 hk ((hM.alloc _).app happ) HEM.out (by kernel_rfl)

set_option maxRecDepth 1000000 in
set_option maxHeartbeats 2000000 in
theorem c16_47c (b B g T dcap : Nat) (q f : Int) (C : Array Value) (asc mini : Bool) (qn : Nat) (l : List UInt8) (cs : List Nat) (w0 : World) (jv : Value) (wr : World) (k : Nat) (U : Nat → Value) (Q0 : Exit → Act → World → Prop)
    (hM : Mid b B g T dcap C cs w0 jv (l ++ outTo asc qn cs k) wr) (hO : Opts asc mini C) (hk : k < cs.length) (hl : l.length ≤ 16384) (hn : cs.length ≤ 16384) (hc : cs.getD k 0 = 47) (h1 : 1 ≤ k) (h2 : cs.getD (k - 1) 0 = 60) (h3 : ¬ k + 7 ≤ cs.length) :
    Code.wp Tryz.prog body16 (Exit.then (fun a' w' => Inv16 b B g T dcap q f C asc qn l cs w0 a' w' ∧ mu16 cs.length a' w' < cs.length - k) Q0) (fr16 b g cs.length dcap T q f jv (.int .i64 k) U) wr := by
  conv => arg 2; whnf
  have hu := hM.unit hk
  rw [hc] at hu
  have hol := outTo_length asc qn cs k
  have hfe := hM.cellB hO.feat
  have hu1 := hM.unit (k := k - 1) (by omega)
  obtain ⟨p, hpv⟩ : ∃ p : Int, p = ((cs.getD (k - 1) 0 : Nat) : Int) := ⟨_, rfl⟩
  rw [← hpv] at hu1
  have z1 : (1 : Int) ≤ (k : Int) := by omega
  have hpa : prevAt cs k = cs.getD (k - 1) 0 := by unfold prevAt; rw [if_neg (by omega)]
  have hpb : (p == 60) = true := by simp; omega
  have h4 : ¬ ((k : Int) + 7 ≤ (cs.length : Int)) := by omega
  have hem : emAt asc qn cs k = [47] := em_47n asc qn cs k hc (fun h => by have h5 := h.2; unfold isScript at h5; simp at h5; omega)
  have HEM := Lib.hid hem
  clear hem hc hpv hpa h2
  unfold fr16
  go_wp2_with (first
    | (go_at_call 14; refine (has_zero 68719476736 _ (by decide) (by decide)).mono ?_; rintro e w' ⟨rfl, rfl⟩)
    | (refine wpList_app_row rfl (.tmp 376) (.tmp 377) rfl B jv (l ++ outTo asc qn cs k) rfl (hM.alloc _).own ⟨wr.heap.size, 0, none⟩ [47] 1 1 rfl rfl (new1 wr 47 (by decide)) (len2 _ _ 1 k hl (by omega) hol (by decide)) (hM.alloc _).size ?_; intro ao n c w1 happ))
  exact done16 hk ((hM.alloc _).app happ) HEM.out (by kernel_rfl)

set_option maxRecDepth 1000000 in
set_option maxHeartbeats 2000000 in
theorem c16_47d (b B g T dcap : Nat) (q f : Int) (C : Array Value) (asc mini : Bool) (qn : Nat) (l : List UInt8) (cs : List Nat) (w0 : World) (jv : Value) (wr : World) (k : Nat) (U : Nat → Value) (Q0 : Exit → Act → World → Prop)
    (hM : Mid b B g T dcap C cs w0 jv (l ++ outTo asc qn cs k) wr) (hO : Opts asc mini C) (hk : k < cs.length) (hl : l.length ≤ 16384) (hn : cs.length ≤ 16384) (hc : cs.getD k 0 = 47) (h1 : 1 ≤ k) (h2 : cs.getD (k - 1) 0 = 60) (h3 : k + 7 ≤ cs.length) :
    Code.wp Tryz.prog body16 (Exit.then (fun a' w' => Inv16 b B g T dcap q f C asc qn l cs w0 a' w' ∧ mu16 cs.length a' w' < cs.length - k) Q0) (fr16 b g cs.length dcap T q f jv (.int .i64 k) U) wr := by
  conv => arg 2; whnf
  have hu := hM.unit hk
  rw [hc] at hu
  have hol := outTo_length asc qn cs k
  have hfe := hM.cellB hO.feat
  have hu1 := hM.unit (k := k - 1) (by omega)
  obtain ⟨p, hpv⟩ : ∃ p : Int, p = ((cs.getD (k - 1) 0 : Nat) : Int) := ⟨_, rfl⟩
  rw [← hpv] at hu1
  have z1 : (1 : Int) ≤ (k : Int) := by omega
  have hpa : prevAt cs k = cs.getD (k - 1) 0 := by unfold prevAt; rw [if_neg (by omega)]
  have hpb : (p == 60) = true := by simp; omega
  have h4 : ((k : Int) + 7 ≤ (cs.length : Int)) := by omega
  have hey : isScript (cs.drop (k + 1)) = true → emAt asc qn cs k = [92] ++ [47] := fun h => em_47y asc qn cs k hc (hpa.trans h2) h
  have hen : isScript (cs.drop (k + 1)) = false → emAt asc qn cs k = [47] := fun h => em_47n asc qn cs k hc (fun h' => by rw [h] at h'; exact absurd h'.2 (by decide))
  have HEY := Lib.hid hey
  have HEN := Lib.hid hen
  clear hey hen hc hpv hpa h2
  unfold fr16
  go_wp2_with (first
    | (go_at_call 14; refine (has_zero 68719476736 _ (by decide) (by decide)).mono ?_; rintro e w' ⟨rfl, rfl⟩))
  show Code.wp Tryz.prog (Code.loop inner16) _ _ _
  refine inner_any b B g T dcap q f C _ cs w0 jv wr k _ _ hM h3 hn (by kernel_rfl) ?_
  intro j' U'
  unfold fr16s
  cases hS : isScript (cs.drop (k + 1)) with
  | false =>
    have hem := HEN.out hS
    clear hS
    go_wp2_with (first
      | (refine wpList_app_row rfl (.tmp 376) (.tmp 377) rfl B jv (l ++ outTo asc qn cs k) rfl (hM.alloc _).own ⟨wr.heap.size, 0, none⟩ [47] 1 1 rfl rfl (new1 wr 47 (by decide)) (len2 _ _ 1 k hl (by omega) hol (by decide)) (hM.alloc _).size ?_; intro ao n c w1 happ))
    exact done16 hk ((hM.alloc _).app happ) hem (by kernel_rfl)
  | true =>
    have hem := HEY.out hS
    clear hS
    go_wp2_with (first
      | (refine wpList_app_row rfl (.tmp 373) (.tmp 374) rfl B jv (l ++ outTo asc qn cs k) rfl (hM.alloc _).own ⟨wr.heap.size, 0, none⟩ [92] 1 1 rfl rfl (new1 wr 92 (by decide)) (len2 _ _ 1 k hl (by omega) hol (by decide)) (hM.alloc _).size ?_; intro ao1 n1 c1 w1 happ1; have hM1 := (hM.alloc (.cells #[.int .u8 92] 5)).app happ1)
      | (refine wpList_app_row rfl (.tmp 376) (.tmp 377) rfl B _ (l ++ outTo asc qn cs k ++ [92]) rfl (hM1.alloc _).own ⟨w1.heap.size, 0, none⟩ [47] 1 1 rfl rfl (new1 w1 47 (by decide)) (len3 _ _ _ 1 k hl (by omega) hol (by decide) (by decide)) (hM1.alloc _).size ?_; intro ao n c w2 happ))
    exact done16b hk ((hM1.alloc _).app happ) hem (by kernel_rfl)


end Go.Proofs.YtmfbgoikekmdkaaGreatFmt

