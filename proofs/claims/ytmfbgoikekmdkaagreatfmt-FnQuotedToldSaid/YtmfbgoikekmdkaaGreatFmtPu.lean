/-
  WALK: strconv.ParseUint(s, 16, 32) at one to four hexadecimal digits as they are written by the printer.
-/
import Derived.Test.YtmfbgoikekmdkaaGreatFmtRows
import Derived.Test.YtmfbgoikekmdkaaGreatFmtReads
import Derived.WalkKit
import Derived.WalkSpells
import Derived.WalkLawsBesides
import Derived.Lib.ConvBytes
import Derived.Lib.AtoiErrMem
import Derived.Lib.Strings
import Derived.Laws.Strings3
import Derived.Lib.Hide
namespace Go.Proofs.YtmfbgoikekmdkaaGreatFmt
open Go.RowKit Go.FQ

/-- The number that hexadecimal digits are. -/
def hexV (acc : Nat) : List Nat → Nat
  | [] => acc
  | x :: xs => hexV (16 * acc + x) xs

theorem or32 : ∀ X : Fin 6, bits .or .u8 ((65 + X.val : Nat) : Int) 32 = ((97 + X.val : Nat) : Int) := by decide
set_option maxHeartbeats 400000 in
theorem lower_up (c : Int) (w : World) (h0 : 65 ≤ c) (h1 : c ≤ 70) : Calls Tryz.prog 46 #[.int .u8 c] w fun e w' => e = .returned (.int .u8 (c + 32)) ∧ w = w' := by
  have hb : bits .or .u8 c 32 = c + 32 := by
    obtain ⟨n, hn⟩ : ∃ n : Nat, c = ((65 + n : Nat) : Int) := ⟨(c - 65).toNat, by omega⟩
    have := or32 ⟨n, by omega⟩
    rw [hn]
    simp only at this
    rw [this]
    omega
  go_enter Tryz.func46, Tryz.ntmps46
  go_wp2
  go_ret
  exact ⟨rfl, rfl⟩

theorem hexU_byte (x : Nat) (h : x < 16) : (x < 10 ∧ (hexU x).toNat = 48 + x) ∨ (10 ≤ x ∧ (hexU x).toNat = 55 + x) := by
  unfold hexU
  by_cases hx : x < 10
  · rw [if_pos hx, tn _ (by omega)]; exact .inl ⟨hx, rfl⟩
  · rw [if_neg hx, tn _ (by omega)]; exact .inr ⟨by omega, rfl⟩
theorem hexV_lt : ∀ (xs : List Nat) (acc : Nat), (∀ x ∈ xs, x < 16) → hexV acc xs < 16 ^ xs.length * (acc + 1)
  | [], acc, _ => by simp [hexV]
  | x :: xs, acc, h => by
    have hx := h x (by simp)
    have := hexV_lt xs (16 * acc + x) (fun y hy => h y (by simp [hy]))
    unfold hexV
    rw [List.length_cons, Nat.pow_succ]
    refine Nat.lt_of_lt_of_le this ?_
    rw [Nat.mul_assoc]
    exact Nat.mul_le_mul_left _ (by omega)
theorem hexV_ge : ∀ (xs : List Nat) (acc : Nat), acc ≤ hexV acc xs
  | [], acc => Nat.le_refl _
  | x :: xs, acc => by
    have := hexV_ge xs (16 * acc + x)
    unfold hexV
    omega

set_option maxRecDepth 1000000 in
set_option maxHeartbeats 4000000 in
theorem parse16_inner (s : ByteArray) (xs : List Nat) (w : World) (hx : ∀ x ∈ xs, x < 16) (hs : s.data.toList = xs.map hexU) (h1 : 1 ≤ xs.length) (h4 : xs.length ≤ 4) :
    Calls Tryz.prog 40 #[.string s, .int .i64 16, .int .i64 32] w fun e w' => e = .returned (.tuple #[.int .u64 (hexV 0 xs : Nat), .nilIface]) ∧ Lib.bytesWorld w 5 s = w' := by
  have hlen : s.size = xs.length := by
    have := congrArg List.length hs
    rw [List.length_map] at this
    rw [← this]; exact (Array.length_toList).symm
  have hemp : s.toList.isEmpty = false := by
    rw [← decide_eq_emptyBytes]
    exact decide_eq_false (fun h => by rw [h] at hlen; simp at hlen; omega)
  have hcv := Lib.run_convert_string_bytes (P := Tryz.prog) w 9 72 5 s (u := .string) Tryz.underlying9 Tryz.underlying72 Tryz.underlying5
  have hB : ∀ j, j < s.size → (Lib.bytesWorld w 5 s).cell? ⟨w.heap.size, j, none⟩ = some (.int .u8 (s.data.toList.getD j 0).toNat) := fun j hj => Lib.bytesWorld_cell w 5 s j hj
  obtain ⟨W1, hW1⟩ : ∃ W1, W1 = Lib.bytesWorld w 5 s := ⟨_, rfl⟩
  rw [← hW1] at hcv hB ⊢
  clear hW1
  have hmv : IntKind.u64.wrap (IntKind.u64.wrap 4294967296 - 1) = 4294967295 := by
    rw [IntKind.wrap_u64, IntKind.wrap_u64]
    decide
  have HX := Lib.hid hx
  have HS := Lib.hid hs
  have HLEN := Lib.hid hlen
  have HB := Lib.hid hB
  have z1 : 1 ≤ s.size := by omega
  have z4 : s.size ≤ 4 := by omega
  have HV := Lib.hid (show hexV 0 xs < 65536 from by
    have := hexV_lt xs 0 hx
    have h2 : 16 ^ xs.length ≤ 16 ^ 4 := Nat.pow_le_pow_right (by omega) h4
    have e : (16 : Nat) ^ 4 = 65536 := by decide
    omega)
  obtain ⟨ANS, hans⟩ : ∃ ANS : Int, ANS = ((hexV 0 xs : Nat) : Int) := ⟨_, rfl⟩
  rw [← hans]
  have HANS := Lib.hid hans
  clear hx hs hlen hB h1 h4 hans
  go_enter Tryz.func40, Tryz.ntmps40
  go_wp2
  go_loop [12, 13, 101] (fun vu vn vi => ∃ (k acc : Nat) (a : Int), vu = .bool false ∧ vn = .int .u64 a ∧ vi = .int .i64 k ∧ k ≤ s.size ∧ Hid (a = (acc : Int) ∧ hexV 0 xs = hexV acc (xs.drop k)))
    (fun _ _ vi => s.size - (intOf vi).toNat)
  case atStart => exact ⟨0, 0, 0, rfl, rfl, rfl, by omega, rfl, rfl⟩
  case round =>
    obtain ⟨k, acc, a, rfl, rfl, rfl, hk, hh⟩ := hrel
    obtain ⟨ha, hv⟩ := hh.out
    clear hh
    by_cases hkn : k < s.size
    · have hkx : k < xs.length := by have := HLEN.out; omega
      have hc := HB.out k hkn
      have hx16 := HX.out xs[k] (List.getElem_mem hkx)
      rw [HS.out, show (xs.map hexU).getD k 0 = hexU xs[k] by simp [List.getD, hkx]] at hc
      rw [List.drop_eq_getElem_cons hkx] at hv
      obtain ⟨x, hxe⟩ : ∃ x, x = xs[k] := ⟨_, rfl⟩
      rw [← hxe] at hc hx16 hv
      have hv' : hexV 0 xs = hexV (16 * acc + x) (xs.drop (k + 1)) := hv
      have hbd : 16 * acc + x < 65536 := by
        have h1 := hexV_ge (xs.drop (k + 1)) (16 * acc + x)
        have h2 := HV.out
        omega
      obtain ⟨c, hce⟩ : ∃ c : Int, c = ((hexU x).toNat : Int) := ⟨_, rfl⟩
      rw [← hce] at hc
      have a0 : 0 ≤ a := by omega
      have a1 : a ≤ 4096 := by omega
      rcases hexU_byte x hx16 with ⟨hx10, hxb⟩ | ⟨hx10, hxb⟩
      · have c0 : 48 ≤ c := by omega
        have c1 : c ≤ 57 := by omega
        have HN : Hid (a * 16 + (c - 48) = ((16 * acc + x : Nat) : Int) ∧ hexV 0 xs = hexV (16 * acc + x) (xs.drop (k + 1))) := Lib.hid ⟨by omega, hv'⟩
        clear hv hv' hbd hxe hce hx16 hxb hx10 ha hkx hmv
        go_wp2
        refine ⟨⟨k + 1, 16 * acc + x, a * 16 + (c - 48), rfl, (by first | rfl | (congr 1; omega)), (by first | rfl | (congr 1; omega)), by omega, HN⟩, by simp [intOf]; omega⟩
      · have c0 : 65 ≤ c := by omega
        have c1 : c ≤ 70 := by omega
        have HN : Hid (a * 16 + (c - 55) = ((16 * acc + x : Nat) : Int) ∧ hexV 0 xs = hexV (16 * acc + x) (xs.drop (k + 1))) := Lib.hid ⟨by omega, hv'⟩
        clear hv hv' hbd hxe hce hx16 hxb hx10 ha hkx hmv
        go_wp2_with (go_at_call 46; refine (lower_up _ _ (by omega) (by omega)).mono ?_; rintro e w' ⟨rfl, rfl⟩)
        refine ⟨⟨k + 1, 16 * acc + x, a * 16 + (c - 55), rfl, (by first | rfl | (congr 1; omega)), (by first | rfl | (congr 1; omega)), by omega, HN⟩, by simp [intOf]; omega⟩
    · have hkk : k = s.size := by omega
      subst hkk
      rw [List.drop_eq_nil_of_le (by have := HLEN.out; omega)] at hv
      have hv' : hexV 0 xs = acc := hv
      have HA : Hid (a = ANS) := Lib.hid (by rw [HANS.out, hv', ha])
      clear hv hv' ha hmv
      go_wp2
      go_ret2
      exact ⟨by rw [← HA.out]; rfl, rfl⟩

set_option maxHeartbeats 1000000 in
theorem parse16 (s : ByteArray) (xs : List Nat) (w : World) (hx : ∀ x ∈ xs, x < 16) (hs : s.data.toList = xs.map hexU) (h1 : 1 ≤ xs.length) (h4 : xs.length ≤ 4) :
    Calls Tryz.prog 33 #[.string s, .int .i64 16, .int .i64 32] w fun e w' => e = .returned (.tuple #[.int .u64 (hexV 0 xs : Nat), .nilIface]) ∧ Below w.heap.size w w' := by
  have H := Lib.hid (parse16_inner s xs w hx hs h1 h4)
  have hb := Lib.bytesWorld_below w 5 s
  obtain ⟨W1, hW1⟩ : ∃ W1, W1 = Lib.bytesWorld w 5 s := ⟨_, rfl⟩
  rw [← hW1] at H hb
  have HB := Lib.hid hb
  clear hx hs h1 h4 hW1 hb
  go_enter Tryz.func33, Tryz.ntmps33
  go_wp2_with fail
  refine H.out.mono ?_
  rintro e w' ⟨rfl, rfl⟩
  go_wp2
  go_ret2
  exact ⟨rfl, HB.out⟩
end Go.Proofs.YtmfbgoikekmdkaaGreatFmt
