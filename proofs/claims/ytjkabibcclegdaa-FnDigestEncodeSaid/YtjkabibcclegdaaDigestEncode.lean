/- The walk of the law FnDigestEncode: Encode writes bytes (up to 500) as two hexadecimal digits with small letters each. Conditions: none. -/
import Derived.Test.YtjkabibcclegdaaHex
namespace Go.Proofs.Ytjkabibcclegdaa.fnDigestEncode
open Go.RowKit Go.Proofs.Ytjkabibcclegdaa.Mem Go.Proofs.Ytjkabibcclegdaa.Hex

theorem algorithm_any (n : Int) (w : World) (_h : -9223372036854775808 ≤ n ∧ n ≤ 9223372036854775807) :
    Calls Try.prog 7 #[.int .i64 n] w fun e w' => (∃ s, e = .returned (.string s)) ∧ w = w' := by
  go_enter Try.func7, Try.ntmps7
  go_wp2
  all_goals
    go_ret
    exact ⟨⟨_, rfl⟩, rfl⟩

theorem walk (a0 : Int) (a1 : Option Addr) (len1 cap1 : Nat) (z1 : List Int) (w : World) (w0 : (Lit.int .i64 a0).wf = true) (w1 : IsRow .u8 w a1 len1 cap1 z1) :
    Calls Try.prog 3 #[.int .i64 a0, .slice a1 len1 cap1] w fun e w' => e = .returned (.bool true) ∧ Below w.heap.size w w' := by
  have b0 := bounds_i64 w0
  have hl : len1 ≤ maxLen := by rcases w1 with ⟨_, rfl, _⟩ | ⟨_, _, h1, h2, _⟩ <;> omega
  unfold maxLen at hl
  by_cases hbig : 2147483647 < len1
  · go_enter Try.func3, Try.ntmps3
    go_wp2_with fail
    go_ret
    exact ⟨rfl, Below.refl _ _⟩
  by_cases hbig2 : 500 < len1
  · go_enter Try.func3, Try.ntmps3
    go_wp2_with fail
    go_ret
    exact ⟨rfl, Below.refl _ _⟩
  · go_enter Try.func3, Try.ntmps3
    go_wp2_with (first
      | (go_at_call 7; refine (algorithm_any a0 _ b0).mono ?_; rintro e w' ⟨⟨s, rfl⟩, rfl⟩)
      | (go_at_call 6; refine (impl_any _ a1 len1 cap1 z1 _ w1 (by omega)).mono ?_; rintro e w1' ⟨rfl, hb1⟩; have w1x := w1.below hb1)
      | (go_at_call 8; refine (digestHex_any a1 len1 cap1 z1 _ w1x (by omega)).mono ?_; rintro e w2' ⟨rfl, hb2⟩))
    go_ret
    exact ⟨by simp, hb1.trans (hb2.mono hb1.size)⟩
end Go.Proofs.Ytjkabibcclegdaa.fnDigestEncode
