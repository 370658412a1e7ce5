/- Plain lemmas on sets of bits: a number of 64 bits as the set of its bits. Conditions: none. · The contract of cron's getBits: the set of low, low + step, .. up to high; conditions: low to high within 0 to 63, a step of 1 to 2^63. -/
import Derived.WalkKit
import Derived.Test.YtmnjmhlodbifjaaGreatDoorChecked
import Derived.Lib.Hide
import Derived.ProofKit

namespace Go.Proofs.YtmnjmhlodbifjaaGreatDoor.Bits
open Go.RowKit

/-- The number below 2^n whose bits are p. -/
def setN (p : Nat → Bool) : Nat → Nat
  | 0 => 0
  | n + 1 => setN p n ||| (if p n then 2 ^ n else 0)

theorem testBit_setN (p : Nat → Bool) (n i : Nat) : (setN p n).testBit i = (decide (i < n) && p i) := by
  induction n with
  | zero => simp [setN]
  | succ n ih =>
    simp only [setN, Nat.testBit_or, ih]
    by_cases h : i = n
    · subst h
      cases hp : p i <;> simp
    · have h2 : decide (i < n + 1) = decide (i < n) := by rw [decide_eq_decide]; omega
      rw [h2]
      cases hp : p n
      · simp
      · simp [Nat.testBit_two_pow]; omega

theorem setN_lt (p : Nat → Bool) (n : Nat) : setN p n < 2 ^ n := by
  induction n with
  | zero => simp [setN]
  | succ n ih =>
    simp only [setN]
    apply Nat.or_lt_two_pow
    · exact Nat.lt_of_lt_of_le ih (Nat.pow_le_pow_right (by decide) (by omega))
    · split
      · exact Nat.pow_lt_pow_right (by decide) (by omega)
      · exact Nat.two_pow_pos _

/-- The uint64 whose bits are p. -/
def bset (p : Nat → Bool) : Int := (setN p 64 : Int)

theorem bset_nonneg (p : Nat → Bool) : 0 ≤ bset p := by unfold bset; omega
theorem bset_lt (p : Nat → Bool) : bset p < 18446744073709551616 := by
  have := setN_lt p 64
  unfold bset; omega
theorem bset_bd (p : Nat → Bool) : 0 ≤ bset p ∧ bset p ≤ 18446744073709551615 := ⟨bset_nonneg p, by have := bset_lt p; omega⟩

theorem setN_congr {p q : Nat → Bool} {n : Nat} (h : ∀ i, i < n → p i = q i) : setN p n = setN q n := by
  apply Nat.eq_of_testBit_eq
  intro i
  rw [testBit_setN, testBit_setN]
  by_cases hi : i < n
  · rw [h i hi]
  · simp [hi]

theorem bset_congr {p q : Nat → Bool} (h : ∀ i, i < 64 → p i = q i) : bset p = bset q := by
  unfold bset; rw [setN_congr h]

theorem bset_inj {p q : Nat → Bool} (h : bset p = bset q) (i : Nat) (hi : i < 64) : p i = q i := by
  have h1 : setN p 64 = setN q 64 := by unfold bset at h; omega
  have h2 := congrArg (fun n => Nat.testBit n i) h1
  simpa [testBit_setN, hi] using h2

theorem bset_beq (p q : Nat → Bool) : (bset p == bset q) = true ↔ ∀ i, i < 64 → p i = q i :=
  ⟨fun h => bset_inj (beq_iff_eq.1 h), fun h => beq_iff_eq.2 (bset_congr h)⟩

theorem ofNat_eq_bset (n : Nat) (h : n < 18446744073709551616) : (n : Int) = bset (fun i => n.testBit i) := by
  unfold bset
  congr 1
  apply Nat.eq_of_testBit_eq
  intro i
  rw [testBit_setN]
  by_cases hi : i < 64
  · simp [hi]
  · simp only [hi, decide_false, Bool.false_and]
    exact Nat.testBit_lt_two_pow (Nat.lt_of_lt_of_le (m := 2 ^ 64) (by simpa using h) (Nat.pow_le_pow_right (by decide) (by omega)))

/-- Every number in the range of uint64 is the set of its bits. -/
theorem eq_bset (x : Int) (h0 : 0 ≤ x) (h : x < 18446744073709551616) : x = bset (fun i => x.toNat.testBit i) := by
  obtain ⟨n, rfl⟩ := Int.eq_ofNat_of_zero_le h0
  simpa using ofNat_eq_bset n (by omega)

theorem toNat_bset (p : Nat → Bool) : (bset p).toNat = setN p 64 := by unfold bset; omega

theorem wrap_u64_nat (n : Nat) : IntKind.u64.wrap (n : Int) = ((n % 18446744073709551616 : Nat) : Int) := by
  unfold IntKind.wrap
  simp [IntKind.bits, IntKind.signed]

theorem wrap_u64_in (x : Int) (h0 : 0 ≤ x) (h : x < 18446744073709551616) : IntKind.u64.wrap x = x := by
  unfold IntKind.wrap
  simp [IntKind.bits, IntKind.signed]
  omega

theorem ofInt_bset (p : Nat → Bool) : (BitVec.ofInt 64 (bset p)) = BitVec.ofNat 64 (setN p 64) := by
  unfold bset; exact BitVec.ofInt_natCast 64 _

theorem toNat_ofInt_bset (p : Nat → Bool) : (BitVec.ofInt 64 (bset p)).toNat = setN p 64 := by
  rw [ofInt_bset, BitVec.toNat_ofNat]
  exact Nat.mod_eq_of_lt (setN_lt p 64)

theorem wrap_toNat (b : BitVec 64) : IntKind.u64.wrap (b.toNat : Int) = (b.toNat : Int) :=
  wrap_u64_in _ (by omega) (by have := b.isLt; omega)

theorem bits_and (p q : Nat → Bool) : Go.bits .and .u64 (bset p) (bset q) = bset fun i => p i && q i := by
  show IntKind.u64.wrap (((BitVec.ofInt 64 (bset p)) &&& (BitVec.ofInt 64 (bset q))).toNat : Int) = _
  rw [wrap_toNat, BitVec.toNat_and, toNat_ofInt_bset, toNat_ofInt_bset]
  unfold bset
  congr 1
  apply Nat.eq_of_testBit_eq
  intro i
  simp only [Nat.testBit_and, testBit_setN]
  cases decide (i < 64) <;> simp

theorem bits_or (p q : Nat → Bool) : Go.bits .or .u64 (bset p) (bset q) = bset fun i => p i || q i := by
  show IntKind.u64.wrap (((BitVec.ofInt 64 (bset p)) ||| (BitVec.ofInt 64 (bset q))).toNat : Int) = _
  rw [wrap_toNat, BitVec.toNat_or, toNat_ofInt_bset, toNat_ofInt_bset]
  unfold bset
  congr 1
  apply Nat.eq_of_testBit_eq
  intro i
  simp only [Nat.testBit_or, testBit_setN]
  cases decide (i < 64) <;> simp

theorem bits_xor (p q : Nat → Bool) : Go.bits .xor .u64 (bset p) (bset q) = bset fun i => p i ^^ q i := by
  show IntKind.u64.wrap (((BitVec.ofInt 64 (bset p)) ^^^ (BitVec.ofInt 64 (bset q))).toNat : Int) = _
  rw [wrap_toNat, BitVec.toNat_xor, toNat_ofInt_bset, toNat_ofInt_bset]
  unfold bset
  congr 1
  apply Nat.eq_of_testBit_eq
  intro i
  simp only [Nat.testBit_xor, testBit_setN]
  cases decide (i < 64) <;> simp

theorem bits_andNot (p q : Nat → Bool) : Go.bits .andNot .u64 (bset p) (bset q) = bset fun i => p i && !q i := by
  show IntKind.u64.wrap (((BitVec.ofInt 64 (bset p)) &&& ~~~(BitVec.ofInt 64 (bset q))).toNat : Int) = _
  rw [wrap_toNat]
  unfold bset
  congr 1
  apply Nat.eq_of_testBit_eq
  intro i
  rw [testBit_setN, ← BitVec.getLsbD]
  simp only [BitVec.getLsbD_and, BitVec.getLsbD_not]
  have h : (BitVec.ofInt 64 (bset q)).getLsbD i = (decide (i < 64) && q i) := by
    rw [BitVec.getLsbD, toNat_ofInt_bset, testBit_setN]
  have h' : (BitVec.ofInt 64 (bset p)).getLsbD i = (decide (i < 64) && p i) := by
    rw [BitVec.getLsbD, toNat_ofInt_bset, testBit_setN]
  show (BitVec.getLsbD (BitVec.ofInt 64 (bset p)) i && (decide (i < 64) && !BitVec.getLsbD (BitVec.ofInt 64 (bset q)) i)) = _
  rw [h, h']
  cases decide (i < 64) <;> cases p i <;> cases q i <;> rfl

/-- 1 << k -/
theorem wrap_pow (k : Nat) : IntKind.u64.wrap (2 ^ k) = bset fun i => decide (i = k) := by
  rw [show ((2 : Int) ^ k) = ((2 ^ k : Nat) : Int) by simp, wrap_u64_nat]
  unfold bset
  congr 1
  apply Nat.eq_of_testBit_eq
  intro i
  rw [testBit_setN, show (18446744073709551616 : Nat) = 2 ^ 64 by decide, Nat.testBit_mod_two_pow, Nat.testBit_two_pow]
  congr 1
  rw [decide_eq_decide]; omega

/-- MaxUint64 << k -/
theorem wrap_max_shl (k : Nat) : IntKind.u64.wrap (18446744073709551615 * 2 ^ k) = bset fun i => decide (k ≤ i) := by
  rw [show ((18446744073709551615 : Int) * 2 ^ k) = (((2 ^ 64 - 1) * 2 ^ k : Nat) : Int) by simp, wrap_u64_nat]
  unfold bset
  congr 1
  apply Nat.eq_of_testBit_eq
  intro i
  rw [testBit_setN, show (18446744073709551616 : Nat) = 2 ^ 64 by decide, Nat.testBit_mod_two_pow, Nat.testBit_mul_two_pow,
    Nat.testBit_two_pow_sub_one]
  by_cases h : i < 64
  · by_cases h2 : k ≤ i
    · simp [h, h2]; omega
    · simp [h2]
  · simp [h]

theorem max_eq : IntKind.u64.max = bset fun _ => true := by
  have h := wrap_max_shl 0
  rw [show (18446744073709551615 * 2 ^ 0 : Int) = 18446744073709551615 by decide, wrap_u64_in _ (by decide) (by decide)] at h
  show (2 ^ 64 - 1 : Int) = _
  rw [show (2 ^ 64 - 1 : Int) = 18446744073709551615 by decide, h]
  exact bset_congr fun i _ => by simp

theorem zero_eq : (0 : Int) = bset fun _ => false := by
  unfold bset
  have : setN (fun _ => false) 64 = 0 := by
    apply Nat.eq_of_testBit_eq; intro i; rw [testBit_setN]; simp
  rw [this]; rfl

theorem bset_ne_zero (p : Nat → Bool) (i : Nat) (hi : i < 64) (h : p i = true) : bset p ≠ 0 := by
  intro e
  rw [zero_eq] at e
  have := bset_inj e i hi
  rw [h] at this; cases this

theorem testBit_toNat_bset (p : Nat → Bool) (i : Nat) : (bset p).toNat.testBit i = (decide (i < 64) && p i) := by
  rw [toNat_bset, testBit_setN]

end Go.Proofs.YtmnjmhlodbifjaaGreatDoor.Bits

namespace Go.Proofs.YtmnjmhlodbifjaaGreatDoor.GetBits
open Go.RowKit Go.Proofs.YtmnjmhlodbifjaaGreatDoor.Bits

/-- The members of the set from a to b by s. -/
def inRange (a b s : Nat) (i : Nat) : Bool := decide (a ≤ i) && decide (i ≤ b) && decide ((i - a) % s = 0)

theorem inRange_one (a b : Nat) : bset (fun i => decide (a ≤ i) && decide (i ≤ b)) = bset (inRange a b 1) :=
  bset_congr fun i _ => by simp [inRange, Nat.mod_one]

theorem step_one (a b : Nat) : bits BinOp.and IntKind.u64 (bits BinOp.xor IntKind.u64 IntKind.u64.max (IntKind.u64.wrap (18446744073709551615 * 2 ^ (b + 1)))) (IntKind.u64.wrap (18446744073709551615 * 2 ^ a)) = bset (inRange a b 1) := by
  rw [wrap_max_shl, wrap_max_shl, max_eq, bits_xor, bits_and]
  refine bset_congr fun i _ => ?_
  simp only [inRange, Nat.mod_one, decide_true, Bool.and_true]
  by_cases h1 : a ≤ i <;> by_cases h2 : i ≤ b <;> simp [h1, h2] <;> omega

/-- What stands after k rounds. -/
def upTo (a s k : Nat) (i : Nat) : Bool := decide (a ≤ i) && decide (i < a + k * s) && decide ((i - a) % s = 0)

theorem upTo_zero (a s : Nat) : bset (upTo a s 0) = 0 := by
  rw [zero_eq]; exact bset_congr fun i _ => by simp [upTo]; omega

theorem upTo_succ (a s k : Nat) (hs : 1 ≤ s) : bits BinOp.or IntKind.u64 (bset (upTo a s k)) (IntKind.u64.wrap (2 ^ (a + k * s))) = bset (upTo a s (k + 1)) := by
  rw [wrap_pow, bits_or]
  refine bset_congr fun i _ => ?_
  rw [Bool.eq_iff_iff]
  simp only [upTo, Bool.or_eq_true, Bool.and_eq_true, decide_eq_true_eq, Nat.add_mul, Nat.one_mul]
  constructor
  · rintro (⟨⟨h1, h2⟩, h3⟩ | rfl)
    · exact ⟨⟨h1, by omega⟩, h3⟩
    · refine ⟨⟨by omega, by omega⟩, ?_⟩
      rw [Nat.add_sub_cancel_left]; exact Nat.mul_mod_left k s
  · rintro ⟨⟨h1, h2⟩, h3⟩
    by_cases h : i < a + k * s
    · exact .inl ⟨⟨h1, h⟩, h3⟩
    · right
      obtain ⟨d, hd⟩ : ∃ d, i = a + k * s + d := ⟨i - (a + k * s), by omega⟩
      have h4 : (k * s + d) % s = 0 := by rw [← h3]; congr 1; omega
      rw [Nat.add_comm, Nat.add_mul_mod_self_right, Nat.mod_eq_of_lt (by omega)] at h4
      omega

theorem upTo_end (a b s k : Nat) (h : b < a + k * s) (h2 : k = 0 ∨ a + (k - 1) * s ≤ b) : bset (upTo a s k) = bset (inRange a b s) := by
  refine bset_congr fun i _ => ?_
  rw [Bool.eq_iff_iff]
  simp only [upTo, inRange, Bool.and_eq_true, decide_eq_true_eq]
  constructor
  · rintro ⟨⟨h3, h4⟩, h5⟩
    refine ⟨⟨h3, ?_⟩, h5⟩
    rcases h2 with rfl | h2
    · omega
    · obtain ⟨q, hq⟩ := Nat.dvd_of_mod_eq_zero h5
      have h6 : q < k := by
        rcases Nat.lt_or_ge q k with h | h
        · exact h
        · have := Nat.mul_le_mul_left s h
          rw [Nat.mul_comm s k] at this; omega
      have h7 : s * q ≤ s * (k - 1) := Nat.mul_le_mul_left s (by omega)
      rw [Nat.mul_comm s (k - 1)] at h7
      omega
  · rintro ⟨⟨h3, h4⟩, h5⟩
    exact ⟨⟨h3, by omega⟩, h5⟩

set_option maxHeartbeats 400000 in
theorem getBits_one (a b : Nat) (w : World) (hab : a ≤ b) (hb : b ≤ 63) :
    Calls Tryz.prog 123 #[.int .u64 (a : Int), .int .u64 (b : Int), .int .u64 1] w fun e w' => e = .returned (.int .u64 (bset (inRange a b 1))) ∧ w = w' := by
  have h1 : (((1 : Int) == 1)) = true := rfl
  go_enter Tryz.func123, Tryz.ntmps123
  go_wp2
  go_ret
  refine ⟨?_, rfl⟩
  rw [← step_one]
  rfl

set_option maxHeartbeats 400000 in
theorem getBits_more (a b s : Nat) (w : World) (hab : a ≤ b) (hb : b ≤ 63) (hs1 : 1 ≤ s) (hs2 : s ≤ 9223372036854775808) (hne : (((s : Nat) : Int) == 1) = false) :
    Calls Tryz.prog 123 #[.int .u64 (a : Int), .int .u64 (b : Int), .int .u64 (s : Int)] w fun e w' => e = .returned (.int .u64 (bset (inRange a b s))) ∧ w = w' := by
  go_enter Tryz.func123, Tryz.ntmps123
  go_wp2
  go_loop [7, 8] (fun r i => ∃ (k j : Nat), Hid (j = a + k * s) ∧ Hid (k = 0 ∨ a + (k - 1) * s ≤ b) ∧ j ≤ b + s ∧ i = .int .u64 (j : Int) ∧ r = .int .u64 (bset (upTo a s k))) (fun _ i => (b + s + 1 - intOf i).toNat)
  case atStart => exact ⟨0, a, Lib.hid (by simp), Lib.hid (.inl rfl), by omega, rfl, by rw [upTo_zero]⟩
  case round =>
    obtain ⟨k, j, H5, H6, h7, rfl, rfl⟩ := hrel
    by_cases hlt : j ≤ b
    · go_wp2
      go_round
      case rel =>
        refine ⟨k + 1, j + s, Lib.hid ?_, Lib.hid (.inr ?_), by omega, by go_num, ?_⟩
        · rw [H5.out, Nat.add_mul]; omega
        · rw [Nat.add_sub_cancel, ← H5.out]; exact hlt
        · rw [← upTo_succ a s k hs1, ← H5.out]
      case measure => simp [intOf]; omega
    · go_wp2
      go_ret
      exact ⟨by rw [← upTo_end a b s k (by rw [← H5.out]; omega) H6.out]; rfl, rfl⟩

/-- The whole contract. -/
theorem getBits_any (a b s : Int) (w : World) (h0 : 0 ≤ a) (hab : a ≤ b) (hb : b ≤ 63) (hs1 : 1 ≤ s) (hs2 : s ≤ 9223372036854775808) :
    Calls Tryz.prog 123 #[.int .u64 a, .int .u64 b, .int .u64 s] w fun e w' => e = .returned (.int .u64 (bset (inRange a.toNat b.toNat s.toNat))) ∧ w = w' := by
  obtain ⟨a, rfl⟩ := Int.eq_ofNat_of_zero_le h0
  obtain ⟨b, rfl⟩ := Int.eq_ofNat_of_zero_le (Int.le_trans h0 hab)
  obtain ⟨s, rfl⟩ := Int.eq_ofNat_of_zero_le (show 0 ≤ s by omega)
  simp only [Int.toNat_natCast]
  by_cases h : s = 1
  · subst h
    exact getBits_one a b w (by omega) (by omega)
  · exact getBits_more a b s w (by omega) (by omega) (by omega) (by omega) (beq_eq_false_iff_ne.2 (by omega))

end Go.Proofs.YtmnjmhlodbifjaaGreatDoor.GetBits
