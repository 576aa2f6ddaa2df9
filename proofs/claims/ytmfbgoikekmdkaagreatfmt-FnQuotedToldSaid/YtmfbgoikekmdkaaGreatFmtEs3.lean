/-
  WALK: (*lexer).escape at all that 'Esc' tells.
-/
import Derived.Test.YtmfbgoikekmdkaaGreatFmtEs2
import Derived.Test.YtmfbgoikekmdkaaGreatFmtReads
namespace Go.Proofs.YtmfbgoikekmdkaaGreatFmt
open Go.RowKit Go.Lib Go.FQ

theorem u8_of {x : UInt8} {n : Nat} (h : x.toNat = n) : x = UInt8.ofNat n := by rw [← h]; simp

theorem esc_any (tb : Bool) (b : Nat) (s : ByteArray) (p : Nat) (out : Value) (w : World) (hL : LexAt b s p out w) (hs : s.size ≤ 1099511627776) (hT : Lib.Utf8Tabs 0 1 w) (hB1 : 1 < b)
    (e R u : List UInt8) (he : Esc e R u) (hne : R ≠ []) (hR : s.data.toList.drop p = 92 :: (e ++ R)) :
    Calls Tryz.prog 29 #[.pointer (some ⟨b, 0, none⟩), .bool tb] w (Escaped b s (p + 1 + e.length) out w u) := by
  cases he with
  | letter x u R h =>
    simp only [List.mem_cons, Prod.mk.injEq, List.not_mem_nil, or_false] at h
    rcases h with ⟨h1, h2⟩ | ⟨h1, h2⟩ | ⟨h1, h2⟩ | ⟨h1, h2⟩ | ⟨h1, h2⟩ <;> (have e1 := u8_of h1; have e2 := u8_of h2; subst e1; subst e2)
    · exact esc_110 tb b s p out w hL hs R hR
    · exact esc_114 tb b s p out w hL hs R hR
    · exact esc_98 tb b s p out w hL hs R hR
    · exact esc_102 tb b s p out w hL hs R hR
    · exact esc_118 tb b s p out w hL hs R hR
  | zero R h =>
    obtain ⟨d, R', rfl⟩ : ∃ d R', R = d :: R' := by
      cases R with
      | nil => exact absurd rfl hne
      | cons d R' => exact ⟨d, R', rfl⟩
    exact esc_48 tb b s p out w hL hs d R' hR (h d R' rfl)
  | hex2 x y R hx hy => exact esc_120 tb b s p out w hL hs x y R hR hx hy
  | hex4 x y z v R hx hy hz hv hsc => exact esc_117 tb b s p out w hL hs x y z v R hR hx hy hz hv hsc
  | same x R h =>
    simp only [List.mem_cons, List.not_mem_nil, or_false] at h
    rcases h with h1 | h1 | h1 | h1 | h1 | h1 <;> (have e1 := u8_of h1; subst e1)
    · exact esc_92 tb b s p out w hL hs hT hB1 R hR
    · exact esc_47 tb b s p out w hL hs hT hB1 R hR
    · exact esc_39 tb b s p out w hL hs hT hB1 R hR
    · exact esc_34 tb b s p out w hL hs hT hB1 R hR
    · exact esc_96 tb b s p out w hL hs hT hB1 R hR
    · exact esc_36 tb b s p out w hL hs hT hB1 R hR
end Go.Proofs.YtmfbgoikekmdkaaGreatFmt
