/- The reference's calendar. Conditions: numbers within 10^15. -/
import Derived.Test.YtoekefbclkmchaaTimeNum
import Derived.Below
import Derived.Deep.QuietTactic
import Derived.BigQuiet
import Derived.WalkSpells
import Derived.Deep.RegionHeld3
namespace Go.Proofs.Ytoekefbclkmchaa.SpecCal
open Go Go.RowKit Go.Proofs.Ytoekefbclkmchaa.Cal Go.Proofs.Ytoekefbclkmchaa.TimeNum
set_option linter.unusedVariables false

def Sm (a : Int) : Prop := -1000000000000000 ≤ a ∧ a ≤ 1000000000000000
theorem neg_div (c b q r : Int) (hq : c / b = q) (hr : c % b = r) (hb : 0 < b) : (r = 0 → -c / b = -q) ∧ (0 < r → -c / b = -q - 1) := by
  have e := Int.emod_add_mul_ediv c b
  have hr1 := Int.emod_nonneg c (show b ≠ 0 by omega)
  have hr2 := Int.emod_lt_of_pos c hb
  rw [hq, hr] at e
  rw [hr] at hr1 hr2
  constructor
  · intro h0
    rw [Int.ediv_eq_iff_of_pos hb, Int.neg_mul, Int.mul_comm q b]
    generalize b * q = m at *
    omega
  · intro h0
    rw [Int.ediv_eq_iff_of_pos hb, Int.sub_mul, Int.neg_mul, Int.mul_comm q b]
    generalize b * q = m at *
    omega

theorem floorDiv_any (a b : Int) (w : World) (ha : Sm a) (hb : 0 < b) (hb2 : b ≤ 1000000) :
    Calls Try.prog 50 #[.int .i64 a, .int .i64 b] w fun e w' => e = .returned (.int .i64 (a / b)) ∧ w = w' := by
  obtain ⟨h1, h2⟩ := ha
  by_cases h : 0 ≤ a
  · have hq := Int.ediv_le_self b h
    have hq0 := Int.ediv_nonneg h (show 0 ≤ b by omega)
    have hm := Int.emod_nonneg a (show b ≠ 0 by omega)
    go_enter Try.func50, Try.ntmps50
    go_wp2
    go_ret
    exact ⟨rfl, rfl⟩
  · obtain ⟨c, hc⟩ : ∃ c, a = -c := ⟨-a, by omega⟩
    subst hc
    have h3 : 0 ≤ c := by omega
    have hq := Int.ediv_le_self b h3
    have hq0 := Int.ediv_nonneg h3 (show 0 ≤ b by omega)
    have hm0 := Int.emod_nonneg c (show b ≠ 0 by omega)
    have hm1 := Int.emod_lt_of_pos c hb
    have e1 : (-c).tdiv b = -(c / b) := by rw [Int.neg_tdiv, Int.tdiv_eq_ediv_of_nonneg h3]
    have e2 : (-c).tmod b = -(c % b) := by rw [Int.neg_tmod, Int.tmod_eq_emod_of_nonneg h3]
    have HE := Lib.hid (neg_div c b _ _ rfl rfl hb)
    by_cases h0 : 0 < c % b
    · go_enter Try.func50, Try.ntmps50
      go_wp2
      go_ret
      exact ⟨ret_i (HE.out.2 h0).symm, rfl⟩
    · have h00 : c % b = 0 := by omega
      go_enter Try.func50, Try.ntmps50
      go_wp2
      go_ret
      exact ⟨ret_i (HE.out.1 h00).symm, rfl⟩

theorem floorMod_any (a b : Int) (w : World) (ha : Sm a) (hb : 0 < b) (hb2 : b ≤ 1000000) :
    Calls Try.prog 49 #[.int .i64 a, .int .i64 b] w fun e w' => e = .returned (.int .i64 (a % b)) ∧ w = w' := by
  have HE := Lib.hid (Int.emod_def a b)
  have hm0 := Int.emod_nonneg a (show b ≠ 0 by omega)
  have hm1 := Int.emod_lt_of_pos a hb
  have hs : a - b * (a / b) = a % b := (Int.emod_def a b).symm
  have hx : -2000000000000000 ≤ b * (a / b) ∧ b * (a / b) ≤ 2000000000000000 := by obtain ⟨h1, h2⟩ := ha; omega
  go_enter Try.func49, Try.ntmps49
  go_wp2_with (go_at_call 50; refine (floorDiv_any a b _ ha hb hb2).mono ?_; rintro e w' ⟨rfl, rfl⟩)
  go_ret
  exact ⟨rfl, rfl⟩

theorem tmod_zero (y k : Int) : y.tmod k = 0 ↔ y % k = 0 :=
  ⟨fun h => Int.emod_eq_zero_of_dvd (Int.dvd_of_tmod_eq_zero h), fun h => Int.tmod_eq_zero_of_dvd (Int.dvd_of_emod_eq_zero h)⟩
theorem leap_any (y : Int) (w : World) (h0 : -1000000000000 ≤ y) (h1 : y ≤ 1000000000000) :
    Calls Try.prog 44 #[.int .i64 y] w fun e w' => e = .returned (.bool (decide (lp y = 1))) ∧ w = w' := by
  have m4 := tmod_zero y 4
  have m100 := tmod_zero y 100
  have m400 := tmod_zero y 400
  by_cases c4 : y % 4 = 0
  · have b4 : (y.tmod 4 == 0) = true := beq_iff_eq.2 (m4.2 c4)
    by_cases c100 : y % 100 = 0
    · have b100 : (y.tmod 100 != 0) = false := by rw [bne_eq_false_iff_eq]; exact m100.2 c100
      by_cases c400 : y % 400 = 0
      · have b400 : (y.tmod 400 == 0) = true := beq_iff_eq.2 (m400.2 c400)
        have HF := Lib.hid (show lp y = 1 by unfold lp; rw [if_pos (by omega)])
        clear m4 m100 m400 c4 c100 c400
        go_enter Try.func44, Try.ntmps44
        go_wp2
        go_ret
        exact ⟨by rw [HF.out]; rfl, rfl⟩
      · have b400 : (y.tmod 400 == 0) = false := beq_eq_false_iff_ne.2 (fun h => c400 (m400.1 h))
        have HF := Lib.hid (show lp y = 0 by unfold lp; rw [if_neg (by omega)])
        clear m4 m100 m400 c4 c100 c400
        go_enter Try.func44, Try.ntmps44
        go_wp2
        go_ret
        exact ⟨by rw [HF.out]; rfl, rfl⟩
    · have b100 : (y.tmod 100 != 0) = true := by rw [bne_iff_ne]; exact fun h => c100 (m100.1 h)
      have HF := Lib.hid (show lp y = 1 by unfold lp; rw [if_pos (by omega)])
      clear m4 m100 m400 c4 c100
      go_enter Try.func44, Try.ntmps44
      go_wp2
      go_ret
      exact ⟨by rw [HF.out]; rfl, rfl⟩
  · have b4 : (y.tmod 4 == 0) = false := beq_eq_false_iff_ne.2 (fun h => c4 (m4.1 h))
    have HF := Lib.hid (show lp y = 0 by unfold lp; rw [if_neg (by omega)])
    clear m4 m100 m400 c4
    go_enter Try.func44, Try.ntmps44
    go_wp2
    go_ret
    exact ⟨by rw [HF.out]; rfl, rfl⟩

theorem monthDays_any (y m : Int) (w : World) (h0 : -1000000000000 ≤ y) (h1 : y ≤ 1000000000000) (m0 : 1 ≤ m) (m1 : m ≤ 12) :
    Calls Try.prog 17 #[.int .i64 y, .int .i64 m] w fun e w' => e = .returned (.int .i64 (mlen y m)) ∧ w = w' := by
  have HL := Lib.hid (fun w => leap_any y w h0 h1)
  have hm : m = 1 ∨ m = 2 ∨ m = 3 ∨ m = 4 ∨ m = 5 ∨ m = 6 ∨ m = 7 ∨ m = 8 ∨ m = 9 ∨ m = 10 ∨ m = 11 ∨ m = 12 := by omega
  rcases hm with rfl | rfl | rfl | rfl | rfl | rfl | rfl | rfl | rfl | rfl | rfl | rfl
  case inr.inl =>
    rcases lp_01 y with h | h
    · have HF := Lib.hid (show mlen y 2 = 28 by simp [mlen, h])
      rw [h] at HL
      go_enter Try.func17, Try.ntmps17
      go_wp2_with (go_at_call 44; refine (HL.out _).mono ?_; rintro e w' ⟨rfl, rfl⟩)
      go_ret
      exact ⟨ret_i HF.out.symm, rfl⟩
    · have HF := Lib.hid (show mlen y 2 = 29 by simp [mlen, h])
      rw [h] at HL
      go_enter Try.func17, Try.ntmps17
      go_wp2_with (go_at_call 44; refine (HL.out _).mono ?_; rintro e w' ⟨rfl, rfl⟩)
      go_ret
      exact ⟨ret_i HF.out.symm, rfl⟩
  all_goals
    go_enter Try.func17, Try.ntmps17
    go_wp2
    go_ret
    exact ⟨rfl, rfl⟩

theorem yearStart_any (y : Int) (w : World) (h0 : -1000000000 ≤ y) (h1 : y ≤ 1000000000) :
    Calls Try.prog 62 #[.int .i64 y] w fun e w' => e = .returned (.int .i64 (ys y)) ∧ w = w' := by
  have HY : Hid (ys y = 365 * (y - 1) + (y - 1) / 4 - (y - 1) / 100 + (y - 1) / 400 - 719162) := Lib.hid rfl
  go_enter Try.func62, Try.ntmps62
  go_wp2_with (go_at_call 50; refine (floorDiv_any _ _ _ ⟨by omega, by omega⟩ (by omega) (by omega)).mono ?_; rintro e w' ⟨rfl, rfl⟩)
  go_ret
  exact ⟨ret_i HY.out.symm, rfl⟩

theorem weekday_any (n : Int) (w : World) (hn : Dn n) :
    Calls Try.prog 57 #[.int .i64 n] w fun e w' => e = .returned (.int .i64 (wdOf n)) ∧ w = w' := by
  obtain ⟨h0, h1⟩ := hn
  go_enter Try.func57, Try.ntmps57
  go_wp2_with (go_at_call 49; refine (floorMod_any _ _ _ ⟨by omega, by omega⟩ (by omega) (by omega)).mono ?_; rintro e w' ⟨rfl, rfl⟩)
  go_ret
  exact ⟨rfl, rfl⟩

theorem year_of {n y : Int} (h1 : ys y ≤ n) (h2 : n < ys (y + 1)) : yOf n = y := by
  have h := year_in n
  by_cases c : yOf n < y
  · have := ys_mono (yOf n) y c
    have := ys_succ (yOf n)
    omega
  · by_cases c' : y < yOf n
    · have := ys_mono y (yOf n) c'
      have := ys_succ y
      omega
    · omega
theorem date_from {n y m r : Int} (hy : yOf n = y) (h1 : 1 ≤ m) (h2 : m ≤ 12) (hr : r = n - ys y - cum y m) (h3 : 0 ≤ r) (h4 : r < mlen y m) : mOf n = m ∧ dOf n = r + 1 := by
  have := of_eq (n := n) (y := y) (m := m) (d := r + 1) ⟨h1, h2, by omega, by omega⟩ (by unfold dnum; omega)
  exact ⟨this.2.1, this.2.2⟩

theorem guess_le {n : Int} : (0 ≤ n → ys (1970 + n / 366) ≤ n) ∧ (n < 0 → ys (1970 + n / 365 - 1) ≤ n) := by
  unfold ys
  constructor
  · intro h; omega
  · intro h; omega

set_option maxHeartbeats 1000000 in
theorem dateOf_any (n : Int) (w : World) (hn : Dn n) :
    Calls Try.prog 51 #[.int .i64 n] w fun e w' => e = .returned (.agg #[.int .i64 (yOf n), .int .i64 (mOf n), .int .i64 (dOf n)]) ∧ Below w.heap.size w w' := by
  obtain ⟨h0, h1⟩ := hn
  have HG := Lib.hid (guess_le (n := n))
  have HF := Lib.hid (fun a b w ha hb hb2 => floorDiv_any a b w ha hb hb2)
  by_cases hs : 0 ≤ n
  all_goals
    go_enter Try.func51, Try.ntmps51
    go_wp2_with (go_at_call 50; refine (HF.out _ _ _ ⟨by omega, by omega⟩ (by omega) (by omega)).mono ?_; rintro e w' ⟨rfl, rfl⟩)
    go_loop [3] (fun y => ∃ k : Int, y = .int .i64 k ∧ -100000 ≤ k ∧ k ≤ 100000 ∧ Hid (ys k ≤ n)) (fun y => (100000 - intOf y).toNat)
    case atStart =>
      first
        | exact ⟨_, rfl, by omega, by omega, Lib.hid (HG.out.1 (by omega))⟩
        | exact ⟨_, rfl, by omega, by omega, Lib.hid (HG.out.2 (by omega))⟩
    case round =>
      obtain ⟨y, rfl, y0, y1, HY⟩ := hrel
      have HB := Lib.hid (show y ≤ 90000 by have := HY.out; unfold ys at this; omega)
      by_cases hlt : ys (y + 1) ≤ n
      · have hy2 := HB.out
        go_wp2_with (go_at_call 62; refine (yearStart_any _ _ (by omega) (by omega)).mono ?_; rintro e w' ⟨rfl, rfl⟩)
        go_round
        case rel => exact ⟨y + 1, rfl, by omega, by omega, Lib.hid hlt⟩
        case measure => simp [intOf]; omega
      · have HYo := Lib.hid (year_of HY.out (by omega))
        have hy2 := HB.out
        have hyb : -100000000 ≤ ys y ∧ ys y ≤ n := ⟨by unfold ys; omega, HY.out⟩
        have HS := Lib.hid (ys_succ y)
        go_wp2_with (go_at_call 62; refine (yearStart_any _ _ (by omega) (by omega)).mono ?_; rintro e w' ⟨rfl, rfl⟩)
        go_loop [4, 5] (fun r m => ∃ a b : Int, r = .int .i64 a ∧ m = .int .i64 b ∧ 1 ≤ b ∧ b ≤ 12 ∧ 0 ≤ a ∧ a ≤ 400 ∧ Hid (a = n - ys y - cum y b)) (fun _ m => (13 - intOf m).toNat)
        case atStart => exact ⟨_, 1, rfl, rfl, by omega, by omega, by omega, by have := lp_01 y; have := HS.out; omega, Lib.hid (by rw [cum_one]; omega)⟩
        case round =>
          obtain ⟨a, m, rfl, rfl, m1, m2, a0, a1, HA⟩ := hrel
          have hml := mlen_bd y m
          by_cases hd : mlen y m ≤ a
          · have HC := Lib.hid (cum_succ y m m1 m2)
            have hm12 : m < 12 := by
              by_cases e : m = 12
              · subst e
                have := cum_13 y
                have h2 := HC.out
                rw [show (12 : Int) + 1 = 13 from rfl] at h2
                have := HA.out
                have := HS.out
                omega
              · omega
            go_wp2_with (go_at_call 17; refine (monthDays_any y m _ (by omega) (by omega) m1 m2).mono ?_; rintro e w' ⟨rfl, rfl⟩)
            go_round
            case rel => exact ⟨a - mlen y m, m + 1, rfl, rfl, by omega, by omega, by omega, by omega, Lib.hid (by rw [HC.out, HA.out]; omega)⟩
            case measure => simp [intOf]; omega
          · have HD := Lib.hid (date_from HYo.out m1 m2 HA.out a0 (by omega))
            go_wp2_with (go_at_call 17; refine (monthDays_any y m _ (by omega) (by omega) m1 m2).mono ?_; rintro e w' ⟨rfl, rfl⟩)
            refine bodyPost_ret (v := .agg #[.int .i64 y, .int .i64 m, .int .i64 (a + 1)]) (by simp [results, Try.results51, go_sem]) rfl ⟨by rw [HYo.out, HD.out.1, HD.out.2], ?_⟩
            exact (Below.refl _ _).alloc (Nat.le_refl _) _

end Go.Proofs.Ytoekefbclkmchaa.SpecCal
