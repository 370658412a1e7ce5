/- Two sets of steps from one value on meet in the set whose step is their steps' least common multiple: the law FnCronBitsMet returns true for every input. Conditions: none. -/
import Derived.Test.YtjkabibcclegdaaRows
import Derived.Test.YtjkabibcclegdaaGetBits
import Derived.WalkKit
import Derived.Lib.Hide
import Derived.ProofKit
import Derived.OpenShut
namespace Go.Proofs.Ytjkabibcclegdaa.fnCronBitsMet
open Go.ChangeShapes Go.WideShapes Go.ChangeAt Go.RowKit Go.Proofs.Ytjkabibcclegdaa.Bits Go.Proofs.Ytjkabibcclegdaa.GetBits
set_option linter.unusedVariables false

theorem own : ownKnob Try.prog.godebug = none := by kernel_rfl

theorem zzBits_any (a b s : Int) (w : World) (h0 : 0 ≤ a) (hab : a ≤ b) (hb : b ≤ 63) (hs1 : 1 ≤ s) (hs2 : s ≤ 9223372036854775808) :
    Calls Try.prog 14 #[.int .u64 a, .int .u64 b, .int .u64 s] w fun e w' => e = .returned (.int .u64 (bset (inRange a.toNat b.toNat s.toNat))) ∧ w = w' := by
  go_enter Try.func14, Try.ntmps14
  go_wp2_with (go_at_call 20; refine (getBits_any a b s _ h0 hab hb hs1 hs2).mono ?_; rintro e w' ⟨rfl, rfl⟩)
  go_ret
  exact ⟨rfl, rfl⟩

theorem cronBits_any (a b s : Int) (w : World) (h0 : 0 ≤ a) (hab : a ≤ b) (hb : b ≤ 63) (hs1 : 1 ≤ s) (hs2 : s ≤ 9223372036854775808) :
    Calls Try.prog 9 #[.int .u64 a, .int .u64 b, .int .u64 s] w fun e w' => e = .returned (.int .u64 (bset (inRange a.toNat b.toNat s.toNat))) ∧ w = w' := by
  go_enter Try.func9, Try.ntmps9
  go_wp2_with (go_at_call 14; refine (zzBits_any a b s _ h0 hab hb hs1 hs2).mono ?_; rintro e w' ⟨rfl, rfl⟩)
  go_ret
  exact ⟨rfl, rfl⟩

/-- The first multiple of a that b divides is their least common multiple. -/
theorem least_lcm (a b k : Nat) (ha : 1 ≤ a) (hk : 1 ≤ k) (hd : k * a % b = 0) (hmin : ∀ j, 1 ≤ j → j < k → ¬ j * a % b = 0) : k * a = Nat.lcm a b := by
  apply Nat.le_antisymm
  · obtain ⟨j, hj⟩ := Nat.dvd_lcm_left a b
    rcases Nat.eq_zero_or_pos b with rfl | hb
    · have h0 : k * a = 0 := by simpa using hd
      rw [h0]; omega
    · have hpos : 0 < Nat.lcm a b := Nat.lcm_pos ha hb
      have hj1 : 1 ≤ j := by
        rcases Nat.eq_zero_or_pos j with rfl | h
        · rw [Nat.mul_zero] at hj; omega
        · exact h
      have hjk : k ≤ j := by
        rcases Nat.lt_or_ge j k with h | h
        · refine absurd ?_ (hmin j hj1 h)
          rw [Nat.mul_comm, ← hj]
          exact Nat.mod_eq_zero_of_dvd (Nat.dvd_lcm_right a b)
        · exact h
      rw [hj, Nat.mul_comm a j]
      exact Nat.mul_le_mul_right a hjk
  · have hpos : 0 < k * a := Nat.mul_pos hk ha
    exact Nat.le_of_dvd hpos (Nat.lcm_dvd (Nat.dvd_mul_left a k) (Nat.dvd_of_mod_eq_zero hd))

theorem met_eq (l h a b m : Nat) (hm : m = Nat.lcm a b) : Go.bits .and .u64 (bset (inRange l h a)) (bset (inRange l h b)) = bset (inRange l h m) := by
  rw [bits_and]
  refine bset_congr fun i _ => ?_
  rw [Bool.eq_iff_iff]
  simp only [inRange, Bool.and_eq_true, decide_eq_true_eq, hm]
  constructor
  · rintro ⟨⟨h1, h2⟩, ⟨_, h3⟩⟩
    exact ⟨h1, Nat.mod_eq_zero_of_dvd (Nat.lcm_dvd (Nat.dvd_of_mod_eq_zero h2) (Nat.dvd_of_mod_eq_zero h3))⟩
  · rintro ⟨h1, h2⟩
    have hd := Nat.dvd_of_mod_eq_zero h2
    exact ⟨⟨h1, Nat.mod_eq_zero_of_dvd (Nat.dvd_trans (Nat.dvd_lcm_left a b) hd)⟩, h1, Nat.mod_eq_zero_of_dvd (Nat.dvd_trans (Nat.dvd_lcm_right a b) hd)⟩

theorem low_in (l h m : Nat) (hl : l ≤ h) (hh : h ≤ 63) : ((bset (inRange l h m)) == 0) = false := by
  rw [beq_eq_false_iff_ne]
  exact bset_ne_zero _ l (by omega) (by simp [inRange]; omega)

/-- The loop's relation: v is the k-th multiple of a, and none before it is one of b. -/
def Tried (a b n : Nat) : Prop := ∃ k : Nat, 1 ≤ k ∧ k ≤ b ∧ n = k * a ∧ ∀ j, 1 ≤ j → j < k → ¬ j * a % b = 0

theorem tried_one (a b : Nat) (hb : 1 ≤ b) : Tried a b a := ⟨1, by omega, hb, by omega, fun j h1 h2 => by omega⟩

theorem tried_next (a b n : Nat) (hb : 1 ≤ b) (h : Tried a b n) (hn : ¬ n % b = 0) : Tried a b (n + a) := by
  obtain ⟨k, h1, h2, rfl, h4⟩ := h
  refine ⟨k + 1, by omega, ?_, by rw [Nat.add_mul, Nat.one_mul], fun j h5 h6 => ?_⟩
  · rcases Nat.lt_or_ge k b with h | h
    · omega
    · have : k = b := by omega
      subst this
      exact absurd (Nat.mul_mod_right k a) hn
  · by_cases e : j = k
    · subst e; exact hn
    · exact h4 j h5 (by omega)

theorem tried_le (a b n : Nat) (h : Tried a b n) : n ≤ b * a ∧ a ≤ n := by
  obtain ⟨k, h1, h2, rfl, h4⟩ := h
  exact ⟨Nat.mul_le_mul_right a h2, Nat.le_mul_of_pos_left a (by omega)⟩

theorem tried_end (a b n : Nat) (ha : 1 ≤ a) (h : Tried a b n) (hn : n % b = 0) : n = Nat.lcm a b := by
  obtain ⟨k, h1, h2, rfl, h4⟩ := h
  exact least_lcm a b k ha h1 hn h4

set_option maxHeartbeats 400000 in
theorem walkInside (l h a b : Nat) (hl : l ≤ h) (hh : h ≤ 63) (ha : 1 ≤ a) (hb : 1 ≤ b) (ha2 : a ≤ 65536) (hb2 : b ≤ 65536) (w : World) :
    Calls Try.prog 4 #[.int .u64 (l : Int), .int .u64 (h : Int), .int .u64 (a : Int), .int .u64 (b : Int)] w fun e w' => e = .returned (.bool true) ∧ w = w' := by
  have g1 : decide (h < l) = false := decide_eq_false (by omega)
  have g2 : decide (63 < (h : Int)) = false := decide_eq_false (by omega)
  have g3 : decide ((a : Int) < 1) = false := decide_eq_false (by omega)
  have g4 : decide ((b : Int) < 1) = false := decide_eq_false (by omega)
  have g5 : decide (65536 < (a : Int)) = false := decide_eq_false (by omega)
  have g6 : decide (65536 < (b : Int)) = false := decide_eq_false (by omega)
  have hb0 : (((b : Nat) : Int) == 0) = false := beq_eq_false_iff_ne.2 (by omega)
  obtain ⟨M, HM⟩ : ∃ M : Nat, Hid (M = b * a) := ⟨_, Lib.hid rfl⟩
  have hM : M ≤ 4294967296 := by rw [HM.out]; exact Nat.mul_le_mul hb2 ha2
  go_enter Try.func4, Try.ntmps4
  go_wp2_with fail
  go_loop [9] (fun v => ∃ n : Nat, v = .int .u64 (n : Int) ∧ Hid (Tried a b n) ∧ n ≤ M) (fun v => (M + a - (intOf v).toNat))
  case atStart => exact ⟨a, rfl, Lib.hid (tried_one a b hb), by have := tried_le a b a (tried_one a b hb); rw [HM.out]; exact this.1⟩
  case round =>
    obtain ⟨n, rfl, HT, hn⟩ := hrel
    have hle := (tried_le a b n HT.out).2
    by_cases hd : n % b = 0
    · have hd1 : ((n : Int) % (b : Int) == 0) = true := beq_iff_eq.2 (by omega)
      have hd2 : ((n : Int) % (b : Int) != 0) = false := by rw [bne, hd1]; rfl
      have hmet := met_eq l h a b n (tried_end a b n ha HT.out hd)
      have low0 := low_in l h n hl hh
      have low1 : (bset (inRange l h n) != 0) = true := by rw [bne, low0]; rfl
      clear hd
      go_wp2_with (go_at_call 9; refine (cronBits_any _ _ _ _ (by omega) (by omega) (by omega) (by omega) (by omega)).mono ?_; rintro e w' ⟨rfl, rfl⟩)
      go_ret
      exact ⟨by simp, rfl⟩
    · have hd1 : ((n : Int) % (b : Int) == 0) = false := beq_eq_false_iff_ne.2 (by omega)
      have hd2 : ((n : Int) % (b : Int) != 0) = true := by rw [bne, hd1]; rfl
      have HT2 := Lib.hid (tried_next a b n hb HT.out hd)
      have hle2 : n + a ≤ M := by have := (tried_le a b _ HT2.out).1; rw [HM.out]; exact this
      clear hd
      go_wp2
      go_round
      case rel => exact ⟨n + a, by go_num, HT2, hle2⟩
      case measure => simp [intOf]; omega

/-- Where the guard lets nothing in. -/
theorem walkOutside (a0 a1 a2 a3 : Int) (h : a1 < a0 ∨ 63 < a1 ∨ a2 < 1 ∨ a3 < 1 ∨ 65536 < a2 ∨ 65536 < a3) (w : World) :
    Calls Try.prog 4 #[.int .u64 a0, .int .u64 a1, .int .u64 a2, .int .u64 a3] w fun e w' => e = .returned (.bool true) ∧ w = w' := by
  by_cases h1 : a1 < a0
  · go_enter Try.func4, Try.ntmps4
    go_wp2_with fail
    go_ret; exact ⟨rfl, rfl⟩
  by_cases h2 : 63 < a1
  · go_enter Try.func4, Try.ntmps4
    go_wp2_with fail
    go_ret; exact ⟨rfl, rfl⟩
  by_cases h3 : a2 < 1
  · go_enter Try.func4, Try.ntmps4
    go_wp2_with fail
    go_ret; exact ⟨rfl, rfl⟩
  by_cases h4 : a3 < 1
  · go_enter Try.func4, Try.ntmps4
    go_wp2_with fail
    go_ret; exact ⟨rfl, rfl⟩
  by_cases h5 : 65536 < a2
  · go_enter Try.func4, Try.ntmps4
    go_wp2_with fail
    go_ret; exact ⟨rfl, rfl⟩
  · have h6 : 65536 < a3 := by omega
    go_enter Try.func4, Try.ntmps4
    go_wp2_with fail
    go_ret; exact ⟨rfl, rfl⟩

theorem walk (a0 : Int) (a1 : Int) (a2 : Int) (a3 : Int) (w0 : (Lit.int .u64 a0).wf = true) (w1 : (Lit.int .u64 a1).wf = true) (w2 : (Lit.int .u64 a2).wf = true) (w3 : (Lit.int .u64 a3).wf = true) (w : World) :
    Calls Try.prog 4 #[.int .u64 a0, .int .u64 a1, .int .u64 a2, .int .u64 a3] w fun e w' => e = .returned (.bool true) ∧ Grown w w' := by
  have b0 := bounds_u64 w0
  have b1 := bounds_u64 w1
  have b2 := bounds_u64 w2
  have b3 := bounds_u64 w3
  by_cases h : a1 < a0 ∨ 63 < a1 ∨ a2 < 1 ∨ a3 < 1 ∨ 65536 < a2 ∨ 65536 < a3
  · refine (walkOutside a0 a1 a2 a3 h w).mono ?_
    rintro e w' ⟨rfl, rfl⟩
    exact ⟨rfl, Grown.refl _⟩
  · obtain ⟨l, rfl⟩ := Int.eq_ofNat_of_zero_le b0.1
    obtain ⟨u, rfl⟩ := Int.eq_ofNat_of_zero_le b1.1
    obtain ⟨a, rfl⟩ := Int.eq_ofNat_of_zero_le b2.1
    obtain ⟨b, rfl⟩ := Int.eq_ofNat_of_zero_le b3.1
    refine (walkInside l u a b (by omega) (by omega) (by omega) (by omega) (by omega) (by omega) w).mono ?_
    rintro e w' ⟨rfl, rfl⟩
    exact ⟨rfl, Grown.refl _⟩

end Go.Proofs.Ytjkabibcclegdaa.fnCronBitsMet
