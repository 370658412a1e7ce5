/- The program's own reckoning of days, dates and times of day. Conditions: instants within 10^12 seconds of 1970. -/
import Derived.Test.YtoekefbclkmchaaChecked
import Derived.Test.YtoekefbclkmchaaCal
import Derived.Test.YtoekefbclkmchaaOff
import Derived.WalkKit
import Derived.Lib.Hide
import Derived.ProofKit
namespace Go.Proofs.Ytoekefbclkmchaa.TimeNum
set_option linter.unusedVariables false
open Go Go.RowKit Go.Proofs.Ytoekefbclkmchaa.Cal Go.Proofs.Ytoekefbclkmchaa.Off

theorem ret_i {k : IntKind} {a b : Int} (h : a = b) : Ending.returned (.int k a) = .returned (.int k b) := by rw [h]

theorem ret_2 {k k' : IntKind} {a b a' b' : Int} (h : a = b) (h' : a' = b') : Ending.returned (.tuple #[.int k a, .int k' a']) = .returned (.tuple #[.int k b, .int k' b']) := by rw [h, h']
theorem ret_3 {k k' k'' : IntKind} {a b a' b' a'' b'' : Int} (h : a = b) (h' : a' = b') (h'' : a'' = b'') : Ending.returned (.tuple #[.int k a, .int k' a', .int k'' a'']) = .returned (.tuple #[.int k b, .int k' b', .int k'' b'']) := by rw [h, h', h'']

theorem or3_nat (n : Nat) : n ||| 3 = 4 * (n / 4) + 3 := by
  have key : ∀ b, b < 4 → (n / 4) * 4 + b = (n / 4) * 4 ||| b := fun b hb => by
    have := Nat.shiftLeft_add_eq_or_of_lt (b := b) (i := 2) hb (n / 4)
    rwa [Nat.shiftLeft_eq] at this
  have h1 : n = (n / 4) * 4 + n % 4 := by omega
  have h3 : (n % 4) ||| 3 = 3 := by
    have : n % 4 = 0 ∨ n % 4 = 1 ∨ n % 4 = 2 ∨ n % 4 = 3 := by omega
    rcases this with e | e | e | e <;> rw [e] <;> rfl
  calc n ||| 3 = ((n / 4) * 4 + n % 4) ||| 3 := by rw [← h1]
    _ = ((n / 4) * 4 ||| n % 4) ||| 3 := by rw [key (n % 4) (by omega)]
    _ = (n / 4) * 4 ||| 3 := by rw [Nat.or_assoc, h3]
    _ = 4 * (n / 4) + 3 := by rw [← key 3 (by omega)]; omega
theorem u64_mod (x : Int) : IntKind.u64.wrap x = x % 18446744073709551616 := by
  unfold IntKind.wrap
  simp [IntKind.bits, IntKind.signed]
theorem and16 (x : Int) (h0 : 0 ≤ x) (h1 : x < 4294967296) : Go.bits .and .u32 x 65535 = x % 65536 := by
  obtain ⟨n, rfl⟩ := Int.eq_ofNat_of_zero_le h0
  show IntKind.u32.wrap (((BitVec.ofInt 32 (n : Int)) &&& (BitVec.ofInt 32 65535)).toNat : Int) = _
  have e : (BitVec.ofInt 32 (n : Int) &&& BitVec.ofInt 32 65535).toNat = n % 65536 := by
    rw [BitVec.ofInt_natCast, BitVec.toNat_and, BitVec.toNat_ofNat, Nat.mod_eq_of_lt (by omega), show (BitVec.ofInt 32 65535).toNat = 2 ^ 16 - 1 by decide, Nat.and_two_pow_sub_one_eq_mod]
  rw [e]
  rw [IntWalk.u32_in _ (by omega)]
  omega
theorem or3 (x : Int) (h0 : 0 ≤ x) (h1 : x < 4294967296) : Go.bits .or .u32 x 3 = 4 * (x / 4) + 3 := by
  obtain ⟨n, rfl⟩ := Int.eq_ofNat_of_zero_le h0
  show IntKind.u32.wrap (((BitVec.ofInt 32 (n : Int)) ||| (BitVec.ofInt 32 3)).toNat : Int) = _
  have e : (BitVec.ofInt 32 (n : Int) ||| BitVec.ofInt 32 3).toNat = 4 * (n / 4) + 3 := by
    rw [BitVec.ofInt_natCast, BitVec.toNat_or, BitVec.toNat_ofNat, Nat.mod_eq_of_lt (by omega), show (BitVec.ofInt 32 3).toNat = 3 by decide, or3_nat]
  rw [e]
  rw [IntWalk.u32_in _ (by omega)]
  omega

/-- A product's upper half is a quotient. -/
theorem mul_hi (y : Int) (h0 : 0 ≤ y) (h1 : y < 146100) : 2939745 * y / 4294967296 = y / 1461 ∧ 2939745 * y % 4294967296 / 2939745 = y % 1461 := by
  have e := Int.emod_add_mul_ediv y 1461
  generalize y % 1461 = r at *
  have hr : 0 ≤ r ∧ r < 1461 := by omega
  generalize y / 1461 = q at *
  subst e
  have e2 : 2939745 * (r + 1461 * q) = 4294967296 * q + (2939745 * r + 149 * q) := by omega
  rw [e2]
  have e3 : (4294967296 * q + (2939745 * r + 149 * q)) % 4294967296 = 2939745 * r + 149 * q := by omega
  rw [e3]
  clear e2 e3
  omega

theorem mul32_any (y : Int) (w : World) (h0 : 0 ≤ y) (h1 : y < 146100) :
    Calls Try.prog 105 #[.int .u32 2939745, .int .u32 y] w fun e w' => e = .returned (.tuple #[.int .u32 (y / 1461), .int .u32 (2939745 * y % 4294967296)]) ∧ w = w' := by
  have hm := (mul_hi y h0 h1).1
  go_enter Try.func105, Try.ntmps105
  go_wp2
  go_ret2
  exact ⟨rfl, rfl⟩

theorem split_any (d : Int) (w : World) (h0 : 0 ≤ d) (h1 : d ≤ 200000000000000) :
    Calls Try.prog 87 #[.int .u64 d] w fun e w' => e = .returned (.tuple #[.int .u64 ((4 * d + 3) / 146097), .int .i64 ((4 * ((4 * d + 3) % 146097 / 4) + 3) / 1461), .int .i64 ((4 * ((4 * d + 3) % 146097 / 4) + 3) % 1461 / 4)]) ∧ w = w' := by
  have hor := or3 ((4 * d + 3) % 146097) (by omega) (by omega)
  have HM := Lib.hid ((mul_hi (4 * ((4 * d + 3) % 146097 / 4) + 3) (by omega) (by omega)).2)
  go_enter Try.func87, Try.ntmps87
  go_wp2_with (go_at_call 105; refine (mul32_any (4 * ((4 * d + 3) % 146097 / 4) + 3) _ (by omega) (by omega)).mono ?_; rintro e w' ⟨rfl, rfl⟩)
  go_ret3
  exact ⟨ret_3 rfl rfl (by rw [HM.out]), rfl⟩

theorem ysplit_any (a : Int) (w : World) (h0 : 0 ≤ a) (h1 : a ≤ 365) :
    Calls Try.prog 88 #[.int .i64 a] w fun e w' => e = .returned (.tuple #[.int .i64 ((2141 * a + 197913) / 65536), .int .i64 (1 + (2141 * a + 197913) % 65536 / 2141)]) ∧ w = w' := by
  have hand := and16 (2141 * a + 197913) (by omega) (by omega)
  go_enter Try.func88, Try.ntmps88
  go_wp2
  go_ret2
  exact ⟨rfl, rfl⟩

theorem jf_any (a : Int) (w : World) : Calls Try.prog 143 #[.int .i64 a] w fun e w' => e = .returned (.int .i64 (if 306 ≤ a then 1 else 0)) ∧ w = w' := by
  by_cases h : 306 ≤ a
  · rw [if_pos h]
    go_enter Try.func143, Try.ntmps143
    go_wp2
    go_ret
    exact ⟨rfl, rfl⟩
  · rw [if_neg h]
    go_enter Try.func143, Try.ntmps143
    go_wp2
    go_ret
    exact ⟨rfl, rfl⟩

theorem month_any (m j : Int) (w : World) (h0 : 0 ≤ m) (h1 : m ≤ 15) (h2 : 0 ≤ j) (h3 : j ≤ 1) : Calls Try.prog 145 #[.int .i64 m, .int .i64 j] w fun e w' => e = .returned (.int .i64 (m - 12 * j)) ∧ w = w' := by
  go_enter Try.func145, Try.ntmps145
  go_wp2
  go_ret
  exact ⟨ret_i (by omega), rfl⟩

theorem year_any (c y j : Int) (w : World) (h0 : 2922769000 ≤ c) (h1 : c ≤ 2922771000) (h2 : 0 ≤ y) (h3 : y ≤ 99) (h4 : 0 ≤ j) (h5 : j ≤ 1) :
    Calls Try.prog 144 #[.int .u64 c, .int .i64 y, .int .i64 j] w fun e w' => e = .returned (.int .i64 (100 * c - 292277022400 + y + j)) ∧ w = w' := by
  go_enter Try.func144, Try.ntmps144
  go_wp2
  go_ret
  exact ⟨ret_i (by simp only [u64_mod, wrap64]; omega), rfl⟩

/-! ### The same in the calendar's words -/
/-- Seconds on the clocks, as the program counts them. -/
def abs (l : Int) : Int := l + 9223372028741760000
/-- A day's number within what the calendar is asked for. -/
def Dn (n : Int) : Prop := -20000000 ≤ n ∧ n ≤ 20000000
def wdOf (n : Int) : Int := (n + 4) % 7

theorem days_any (l : Int) (w : World) (h0 : -1728000000000 ≤ l) (h1 : l ≤ 1728000000000) :
    Calls Try.prog 86 #[.int .u64 (abs l)] w fun e w' => e = .returned (.int .u64 (aday (l / 86400))) ∧ w = w' := by
  have hb : 0 ≤ abs l ∧ abs l ≤ 18446744073709551615 := by unfold abs; omega
  have HE : Hid (abs l / 86400 = aday (l / 86400)) := Lib.hid (by unfold abs aday; omega)
  go_enter Try.func86, Try.ntmps86
  go_wp2
  go_ret
  exact ⟨ret_i (by rw [HE.out]), rfl⟩

theorem split_cal (n : Int) (w : World) (hn : Dn n) :
    Calls Try.prog 87 #[.int .u64 (aday n)] w fun e w' => e = .returned (.tuple #[.int .u64 (acent n), .int .i64 (acy n), .int .i64 (ayd n)]) ∧ w = w' :=
  split_any (aday n) w (by unfold aday; have := hn.1; omega) (by unfold aday; have := hn.2; omega)
theorem ysplit_cal (n : Int) (w : World) :
    Calls Try.prog 88 #[.int .i64 (ayd n)] w fun e w' => e = .returned (.tuple #[.int .i64 (amon n), .int .i64 (dOf n)]) ∧ w = w' :=
  ysplit_any (ayd n) w (ayd_bd n).1 (ayd_bd n).2
theorem jf_cal (n : Int) (w : World) : Calls Try.prog 143 #[.int .i64 (ayd n)] w fun e w' => e = .returned (.int .i64 (jf n)) ∧ w = w' := jf_any (ayd n) w
theorem jf_bd (n : Int) : 0 ≤ jf n ∧ jf n ≤ 1 := by unfold jf; split <;> omega
theorem amon_bd (n : Int) : 0 ≤ amon n ∧ amon n ≤ 15 := by have := ayd_bd n; unfold amon; omega
theorem month_cal (n : Int) (w : World) : Calls Try.prog 145 #[.int .i64 (amon n), .int .i64 (jf n)] w fun e w' => e = .returned (.int .i64 (mOf n)) ∧ w = w' :=
  month_any (amon n) (jf n) w (amon_bd n).1 (amon_bd n).2 (jf_bd n).1 (jf_bd n).2
theorem acent_bd (n : Int) (hn : Dn n) : 2922769000 ≤ acent n ∧ acent n ≤ 2922771000 := by obtain ⟨h1, h2⟩ := hn; unfold acent aday; omega
theorem year_cal (n : Int) (w : World) (hn : Dn n) : Calls Try.prog 144 #[.int .u64 (acent n), .int .i64 (acy n), .int .i64 (jf n)] w fun e w' => e = .returned (.int .i64 (yOf n)) ∧ w = w' :=
  year_any (acent n) (acy n) (jf n) w (acent_bd n hn).1 (acent_bd n hn).2 (acy_bd n).1 (acy_bd n).2 (jf_bd n).1 (jf_bd n).2

theorem date_cal (n : Int) (w : World) (hn : Dn n) :
    Calls Try.prog 151 #[.int .u64 (aday n)] w fun e w' => e = .returned (.tuple #[.int .i64 (yOf n), .int .i64 (mOf n), .int .i64 (dOf n)]) ∧ w = w' := by
  go_enter Try.func151, Try.ntmps151
  go_wp2_with (first
    | (go_at_call 87; refine (split_cal n _ hn).mono ?_; rintro e w' ⟨rfl, rfl⟩)
    | (go_at_call 88; refine (ysplit_cal n _).mono ?_; rintro e w' ⟨rfl, rfl⟩)
    | (go_at_call 143; refine (jf_cal n _).mono ?_; rintro e w' ⟨rfl, rfl⟩)
    | (go_at_call 144; refine (year_cal n _ hn).mono ?_; rintro e w' ⟨rfl, rfl⟩)
    | (go_at_call 145; refine (month_cal n _).mono ?_; rintro e w' ⟨rfl, rfl⟩))
  go_ret3
  exact ⟨rfl, rfl⟩

theorem weekday_cal (n : Int) (w : World) (hn : Dn n) :
    Calls Try.prog 89 #[.int .u64 (aday n)] w fun e w' => e = .returned (.int .i64 (wdOf n)) ∧ w = w' := by
  have hb : 0 ≤ aday n ∧ aday n ≤ 200000000000000 := by obtain ⟨h1, h2⟩ := hn; unfold aday; omega
  have HE : Hid ((aday n + 3) % 7 = wdOf n) := Lib.hid (by unfold aday wdOf; omega)
  go_enter Try.func89, Try.ntmps89
  go_wp2
  go_ret
  exact ⟨ret_i (by rw [HE.out]), rfl⟩

theorem clock_any (l : Int) (w : World) (h0 : -1728000000000 ≤ l) (h1 : l ≤ 1728000000000) :
    Calls Try.prog 152 #[.int .u64 (abs l)] w fun e w' => e = .returned (.tuple #[.int .i64 (l % 86400 / 3600), .int .i64 (l % 86400 % 3600 / 60), .int .i64 (l % 86400 % 60)]) ∧ w = w' := by
  have hb : 0 ≤ abs l ∧ abs l ≤ 18446744073709551615 := by unfold abs; omega
  have HE : Hid (abs l % 86400 = l % 86400) := Lib.hid (by unfold abs; omega)
  have hr : 0 ≤ abs l % 86400 ∧ abs l % 86400 < 86400 := by omega
  go_enter Try.func152, Try.ntmps152
  go_wp2
  go_ret3
  refine ⟨ret_3 ?_ ?_ ?_, rfl⟩
  all_goals (have := HE.out; omega)

/-- norm -/
theorem norm_in (hi lo base : Int) (w : World) (h0 : 0 ≤ lo) (h1 : lo < base) (hb : base ≤ 1000000000) :
    Calls Try.prog 146 #[.int .i64 hi, .int .i64 lo, .int .i64 base] w fun e w' => e = .returned (.tuple #[.int .i64 hi, .int .i64 lo]) ∧ w = w' := by
  go_enter Try.func146, Try.ntmps146
  go_wp2
  go_ret2
  exact ⟨rfl, rfl⟩
theorem norm_up (hi lo base : Int) (w : World) (h0 : base ≤ lo) (h1 : lo < 2 * base) (h2 : 0 < base) (hb : base ≤ 1000000000) (h3 : -1000000000000 ≤ hi) (h4 : hi ≤ 1000000000000) :
    Calls Try.prog 146 #[.int .i64 hi, .int .i64 lo, .int .i64 base] w fun e w' => e = .returned (.tuple #[.int .i64 (hi + 1), .int .i64 (lo - base)]) ∧ w = w' := by
  have hq : lo / base = 1 := by
    rw [Int.ediv_eq_iff_of_pos h2]; omega
  go_enter Try.func146, Try.ntmps146
  go_wp2
  go_ret2
  exact ⟨rfl, rfl⟩

/-- dateToAbsDays -/
theorem toDays_1 (y m d : Int) (h0 : -20000 ≤ y) (h1 : y ≤ 50000) (h2 : 1 ≤ m) (h3 : m ≤ 2) (h4 : 0 ≤ d) (h5 : d ≤ 1000) :
    IntKind.u64.wrap (IntKind.u64.wrap ((IntKind.u64.wrap (146097 * IntKind.u64.wrap ((IntKind.u64.wrap (IntKind.u64.wrap (IntKind.u64.wrap y - 1) + 292277022400)).tdiv 100))).tdiv 4) +
        (1461 * ((IntKind.u64.wrap (IntKind.u64.wrap (IntKind.u64.wrap y - 1) + 292277022400)).tmod 100 % 4294967296) % 4294967296 / 4 + (979 * (m + 12) - 2919) / 32 + d - 1)) = gday y m d := by
  have e1 : IntKind.u64.wrap (IntKind.u64.wrap (IntKind.u64.wrap y - 1) + 292277022400) = y - 1 + 292277022400 := by simp only [u64_mod]; omega
  have e0 : gday y m d = 146097 * ((y - 1 + 292277022400) / 100) / 4 + (1461 * ((y - 1 + 292277022400) % 100) / 4 + (979 * (m + 12) - 2919) / 32) + d - 1 := by unfold gday; rw [if_pos (by omega)]; rfl
  rw [e0, e1, Int.tdiv_eq_ediv_of_nonneg (a := y - 1 + 292277022400) (b := 100) (by omega), Int.tmod_eq_emod_of_nonneg (a := y - 1 + 292277022400) (b := 100) (by omega)]
  have hq : 2922770000 ≤ (y - 1 + 292277022400) / 100 ∧ (y - 1 + 292277022400) / 100 ≤ 2922771000 := by omega
  have hr : 0 ≤ (y - 1 + 292277022400) % 100 ∧ (y - 1 + 292277022400) % 100 ≤ 99 := by omega
  generalize (y - 1 + 292277022400) / 100 = q at *
  generalize (y - 1 + 292277022400) % 100 = r at *
  have e2 : IntKind.u64.wrap (146097 * IntKind.u64.wrap q) = 146097 * q := by simp only [u64_mod]; omega
  have e3 : 1461 * (r % 4294967296) % 4294967296 = 1461 * r := by omega
  rw [e2, e3, Int.tdiv_eq_ediv_of_nonneg (a := 146097 * q) (b := 4) (by omega)]
  have hg : 100000000000000 ≤ 146097 * q / 4 ∧ 146097 * q / 4 ≤ 200000000000000 := by omega
  have hh : 0 ≤ 1461 * r / 4 ∧ 1461 * r / 4 ≤ 40000 := by omega
  have hi : 0 ≤ (979 * (m + 12) - 2919) / 32 ∧ (979 * (m + 12) - 2919) / 32 ≤ 400 := by omega
  generalize 146097 * q / 4 = g at *
  generalize 1461 * r / 4 = k at *
  generalize (979 * (m + 12) - 2919) / 32 = i at *
  clear e0 e1 e2 e3 hq hr
  simp only [u64_mod]
  omega
theorem toDays_0 (y m d : Int) (h0 : -20000 ≤ y) (h1 : y ≤ 50000) (h2 : 3 ≤ m) (h3 : m ≤ 12) (h4 : 0 ≤ d) (h5 : d ≤ 1000) :
    IntKind.u64.wrap (IntKind.u64.wrap ((IntKind.u64.wrap (146097 * IntKind.u64.wrap ((IntKind.u64.wrap (IntKind.u64.wrap (IntKind.u64.wrap y) + 292277022400)).tdiv 100))).tdiv 4) +
        IntKind.u64.wrap ((1461 * ((IntKind.u64.wrap (IntKind.u64.wrap (IntKind.u64.wrap y) + 292277022400)).tmod 100 % 4294967296) % 4294967296 / 4 + (979 * m - 2919) / 32) % 4294967296 + d - 1)) = gday y m d := by
  have e1 : IntKind.u64.wrap (IntKind.u64.wrap (IntKind.u64.wrap y) + 292277022400) = y - 0 + 292277022400 := by simp only [u64_mod]; omega
  have e0 : gday y m d = 146097 * ((y - 0 + 292277022400) / 100) / 4 + (1461 * ((y - 0 + 292277022400) % 100) / 4 + (979 * m - 2919) / 32) + d - 1 := by unfold gday; rw [if_neg (by omega)]; simp
  rw [e0, e1, Int.tdiv_eq_ediv_of_nonneg (a := y - 0 + 292277022400) (b := 100) (by omega), Int.tmod_eq_emod_of_nonneg (a := y - 0 + 292277022400) (b := 100) (by omega)]
  have hq : 2922770000 ≤ (y - 0 + 292277022400) / 100 ∧ (y - 0 + 292277022400) / 100 ≤ 2922771000 := by omega
  have hr : 0 ≤ (y - 0 + 292277022400) % 100 ∧ (y - 0 + 292277022400) % 100 ≤ 99 := by omega
  generalize (y - 0 + 292277022400) / 100 = q at *
  generalize (y - 0 + 292277022400) % 100 = r at *
  have e2 : IntKind.u64.wrap (146097 * IntKind.u64.wrap q) = 146097 * q := by simp only [u64_mod]; omega
  have e3 : 1461 * (r % 4294967296) % 4294967296 = 1461 * r := by omega
  rw [e2, e3, Int.tdiv_eq_ediv_of_nonneg (a := 146097 * q) (b := 4) (by omega)]
  have hg : 100000000000000 ≤ 146097 * q / 4 ∧ 146097 * q / 4 ≤ 200000000000000 := by omega
  have hh : 0 ≤ 1461 * r / 4 ∧ 1461 * r / 4 ≤ 40000 := by omega
  have hi : 0 ≤ (979 * m - 2919) / 32 ∧ (979 * m - 2919) / 32 ≤ 400 := by omega
  generalize 146097 * q / 4 = g at *
  generalize 1461 * r / 4 = k at *
  generalize (979 * m - 2919) / 32 = i at *
  clear e0 e1 e2 e3 hq hr
  have e4 : (k + i) % 4294967296 = k + i := by omega
  rw [e4]
  simp only [u64_mod]
  omega
theorem toDays_any (y m d : Int) (w : World) (h0 : -20000 ≤ y) (h1 : y ≤ 50000) (h2 : 1 ≤ m) (h3 : m ≤ 12) (h4 : 0 ≤ d) (h5 : d ≤ 1000) :
    Calls Try.prog 147 #[.int .i64 y, .int .i64 m, .int .i64 d] w fun e w' => e = .returned (.int .u64 (gday y m d)) ∧ w = w' := by
  by_cases h : m < 3
  · have HV := Lib.hid (toDays_1 y m d h0 h1 (by omega) (by omega) h4 h5)
    go_enter Try.func147, Try.ntmps147
    go_wp2
    go_ret
    exact ⟨ret_i HV.out, rfl⟩
  · have HV := Lib.hid (toDays_0 y m d h0 h1 (by omega) (by omega) h4 h5)
    go_enter Try.func147, Try.ntmps147
    go_wp2
    go_ret
    exact ⟨ret_i HV.out, rfl⟩

end Go.Proofs.Ytoekefbclkmchaa.TimeNum
