/- The contract of cron's getBits: the set of low, low + step, .. up to high; conditions: low to high within 0 to 63, a step of 1 to 2^63. -/
import Derived.Test.YtoekefbclkmchaaChecked
import Derived.Test.YtoekefbclkmchaaBits
import Derived.WalkKit
import Derived.Lib.Hide
import Derived.ProofKit
namespace Go.Proofs.Ytoekefbclkmchaa.GetBits
open Go.RowKit Go.Proofs.Ytoekefbclkmchaa.Bits

/-- The members of the set from a to b by s. -/
def inRange (a b s : Nat) (i : Nat) : Bool := decide (a ≤ i) && decide (i ≤ b) && decide ((i - a) % s = 0)

theorem inRange_one (a b : Nat) : bset (fun i => decide (a ≤ i) && decide (i ≤ b)) = bset (inRange a b 1) :=
  bset_congr fun i _ => by simp [inRange, Nat.mod_one]

theorem step_one (a b : Nat) : bits BinOp.and IntKind.u64 (bits BinOp.xor IntKind.u64 IntKind.u64.max (IntKind.u64.wrap (18446744073709551615 * 2 ^ (b + 1)))) (IntKind.u64.wrap (18446744073709551615 * 2 ^ a)) = bset (inRange a b 1) := by
  rw [wrap_max_shl, wrap_max_shl, max_eq, bits_xor, bits_and]
  refine bset_congr fun i _ => ?_
  simp only [inRange, Nat.mod_one, decide_true, Bool.and_true]
  by_cases h1 : a ≤ i <;> by_cases h2 : i ≤ b <;> simp [h1, h2] <;> omega

/-- What stands after k rounds. -/
def upTo (a s k : Nat) (i : Nat) : Bool := decide (a ≤ i) && decide (i < a + k * s) && decide ((i - a) % s = 0)

theorem upTo_zero (a s : Nat) : bset (upTo a s 0) = 0 := by
  rw [zero_eq]; exact bset_congr fun i _ => by simp [upTo]; omega

theorem upTo_succ (a s k : Nat) (hs : 1 ≤ s) : bits BinOp.or IntKind.u64 (bset (upTo a s k)) (IntKind.u64.wrap (2 ^ (a + k * s))) = bset (upTo a s (k + 1)) := by
  rw [wrap_pow, bits_or]
  refine bset_congr fun i _ => ?_
  rw [Bool.eq_iff_iff]
  simp only [upTo, Bool.or_eq_true, Bool.and_eq_true, decide_eq_true_eq, Nat.add_mul, Nat.one_mul]
  constructor
  · rintro (⟨⟨h1, h2⟩, h3⟩ | rfl)
    · exact ⟨⟨h1, by omega⟩, h3⟩
    · refine ⟨⟨by omega, by omega⟩, ?_⟩
      rw [Nat.add_sub_cancel_left]; exact Nat.mul_mod_left k s
  · rintro ⟨⟨h1, h2⟩, h3⟩
    by_cases h : i < a + k * s
    · exact .inl ⟨⟨h1, h⟩, h3⟩
    · right
      obtain ⟨d, hd⟩ : ∃ d, i = a + k * s + d := ⟨i - (a + k * s), by omega⟩
      have h4 : (k * s + d) % s = 0 := by rw [← h3]; congr 1; omega
      rw [Nat.add_comm, Nat.add_mul_mod_self_right, Nat.mod_eq_of_lt (by omega)] at h4
      omega

theorem upTo_end (a b s k : Nat) (h : b < a + k * s) (h2 : k = 0 ∨ a + (k - 1) * s ≤ b) : bset (upTo a s k) = bset (inRange a b s) := by
  refine bset_congr fun i _ => ?_
  rw [Bool.eq_iff_iff]
  simp only [upTo, inRange, Bool.and_eq_true, decide_eq_true_eq]
  constructor
  · rintro ⟨⟨h3, h4⟩, h5⟩
    refine ⟨⟨h3, ?_⟩, h5⟩
    rcases h2 with rfl | h2
    · omega
    · obtain ⟨q, hq⟩ := Nat.dvd_of_mod_eq_zero h5
      have h6 : q < k := by
        rcases Nat.lt_or_ge q k with h | h
        · exact h
        · have := Nat.mul_le_mul_left s h
          rw [Nat.mul_comm s k] at this; omega
      have h7 : s * q ≤ s * (k - 1) := Nat.mul_le_mul_left s (by omega)
      rw [Nat.mul_comm s (k - 1)] at h7
      omega
  · rintro ⟨⟨h3, h4⟩, h5⟩
    exact ⟨⟨h3, by omega⟩, h5⟩

set_option maxHeartbeats 400000 in
theorem getBits_one (a b : Nat) (w : World) (hab : a ≤ b) (hb : b ≤ 63) :
    Calls Try.prog 74 #[.int .u64 (a : Int), .int .u64 (b : Int), .int .u64 1] w fun e w' => e = .returned (.int .u64 (bset (inRange a b 1))) ∧ w = w' := by
  have h1 : (((1 : Int) == 1)) = true := rfl
  go_enter Try.func74, Try.ntmps74
  go_wp2
  go_ret
  refine ⟨?_, rfl⟩
  rw [← step_one]
  rfl

set_option maxHeartbeats 400000 in
theorem getBits_more (a b s : Nat) (w : World) (hab : a ≤ b) (hb : b ≤ 63) (hs1 : 1 ≤ s) (hs2 : s ≤ 9223372036854775808) (hne : (((s : Nat) : Int) == 1) = false) :
    Calls Try.prog 74 #[.int .u64 (a : Int), .int .u64 (b : Int), .int .u64 (s : Int)] w fun e w' => e = .returned (.int .u64 (bset (inRange a b s))) ∧ w = w' := by
  go_enter Try.func74, Try.ntmps74
  go_wp2
  go_loop [7, 8] (fun r i => ∃ (k j : Nat), Hid (j = a + k * s) ∧ Hid (k = 0 ∨ a + (k - 1) * s ≤ b) ∧ j ≤ b + s ∧ i = .int .u64 (j : Int) ∧ r = .int .u64 (bset (upTo a s k))) (fun _ i => (b + s + 1 - intOf i).toNat)
  case atStart => exact ⟨0, a, Lib.hid (by simp), Lib.hid (.inl rfl), by omega, rfl, by rw [upTo_zero]⟩
  case round =>
    obtain ⟨k, j, H5, H6, h7, rfl, rfl⟩ := hrel
    by_cases hlt : j ≤ b
    · go_wp2
      go_round
      case rel =>
        refine ⟨k + 1, j + s, Lib.hid ?_, Lib.hid (.inr ?_), by omega, by go_num, ?_⟩
        · rw [H5.out, Nat.add_mul]; omega
        · rw [Nat.add_sub_cancel, ← H5.out]; exact hlt
        · rw [← upTo_succ a s k hs1, ← H5.out]
      case measure => simp [intOf]; omega
    · go_wp2
      go_ret
      exact ⟨by rw [← upTo_end a b s k (by rw [← H5.out]; omega) H6.out]; rfl, rfl⟩

/-- The whole contract. -/
theorem getBits_any (a b s : Int) (w : World) (h0 : 0 ≤ a) (hab : a ≤ b) (hb : b ≤ 63) (hs1 : 1 ≤ s) (hs2 : s ≤ 9223372036854775808) :
    Calls Try.prog 74 #[.int .u64 a, .int .u64 b, .int .u64 s] w fun e w' => e = .returned (.int .u64 (bset (inRange a.toNat b.toNat s.toNat))) ∧ w = w' := by
  obtain ⟨a, rfl⟩ := Int.eq_ofNat_of_zero_le h0
  obtain ⟨b, rfl⟩ := Int.eq_ofNat_of_zero_le (Int.le_trans h0 hab)
  obtain ⟨s, rfl⟩ := Int.eq_ofNat_of_zero_le (show 0 ≤ s by omega)
  simp only [Int.toNat_natCast]
  by_cases h : s = 1
  · subst h
    exact getBits_one a b w (by omega) (by omega)
  · exact getBits_more a b s w (by omega) (by omega) (by omega) (by omega) (beq_eq_false_iff_ne.2 (by omega))

end Go.Proofs.Ytoekefbclkmchaa.GetBits
