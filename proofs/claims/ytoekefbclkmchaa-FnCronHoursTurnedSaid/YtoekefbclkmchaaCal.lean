/- Plain lemmas: the calendar: days, months, years, and the program's own reckoning of them. Conditions: none. -/
import Derived.IntWalk
namespace Go.Proofs.Ytoekefbclkmchaa.Cal

/-- 1 in leap years. -/
def lp (y : Int) : Int := if y % 4 = 0 ∧ (y % 100 ≠ 0 ∨ y % 400 = 0) then 1 else 0
/-- The length of a month. -/
def mlen (y m : Int) : Int := if m = 2 then 28 + lp y else if m = 4 ∨ m = 6 ∨ m = 9 ∨ m = 11 then 30 else 31
/-- Days ahead of a year. -/
def ys (y : Int) : Int := 365 * (y - 1) + (y - 1) / 4 - (y - 1) / 100 + (y - 1) / 400 - 719162
/-- Days ahead of a month in its year. -/
def cum (y m : Int) : Int := if m ≤ 2 then 31 * (m - 1) else 59 + lp y + (979 * m - 2919) / 32
def dnum (y m d : Int) : Int := ys y + cum y m + d - 1
def Valid (y m d : Int) : Prop := 1 ≤ m ∧ m ≤ 12 ∧ 1 ≤ d ∧ d ≤ mlen y m

theorem lp_01 (y : Int) : lp y = 0 ∨ lp y = 1 := by unfold lp; split <;> simp
theorem mlen_bd (y m : Int) : 28 ≤ mlen y m ∧ mlen y m ≤ 31 := by
  have := lp_01 y
  unfold mlen; split
  · omega
  · split <;> omega
theorem ys_succ (y : Int) : ys (y + 1) = ys y + 365 + lp y := by
  unfold ys lp
  split <;> omega
theorem cum_one (y : Int) : cum y 1 = 0 := by unfold cum; simp
theorem cum_succ (y m : Int) (h1 : 1 ≤ m) (h2 : m ≤ 12) : cum y (m + 1) = cum y m + mlen y m := by
  have h : m = 1 ∨ m = 2 ∨ m = 3 ∨ m = 4 ∨ m = 5 ∨ m = 6 ∨ m = 7 ∨ m = 8 ∨ m = 9 ∨ m = 10 ∨ m = 11 ∨ m = 12 := by omega
  rcases h with rfl | rfl | rfl | rfl | rfl | rfl | rfl | rfl | rfl | rfl | rfl | rfl <;> simp [cum, mlen] <;> omega
theorem cum_13 (y : Int) : cum y 13 = 365 + lp y := by simp [cum]; omega
theorem cum_mono (y m k : Int) (h1 : 1 ≤ m) (h2 : m < k) (h3 : k ≤ 13) : cum y m + mlen y m ≤ cum y k := by
  rw [← cum_succ y m h1 (by omega)]
  have key : ∀ j : Nat, m + 1 + j ≤ 13 → cum y (m + 1) ≤ cum y (m + 1 + j) := by
    intro j
    induction j with
    | zero => intro _; simp
    | succ j ih =>
      intro hj
      have a := ih (by omega)
      have b := cum_succ y (m + 1 + j) (by omega) (by omega)
      have c := mlen_bd y (m + 1 + j)
      rw [show (m + 1 + ((j + 1 : Nat) : Int)) = m + 1 + j + 1 by omega]
      omega
  have := key (k - (m + 1)).toNat (by omega)
  rw [show m + 1 + ((k - (m + 1)).toNat : Int) = k by omega] at this
  exact this
theorem ys_mono (y z : Int) (h : y < z) : ys y + 365 + lp y ≤ ys z := by
  rw [← ys_succ]
  unfold ys; omega

/-- A date lies in its year. -/
theorem dnum_in (y m d : Int) (h : Valid y m d) : ys y ≤ dnum y m d ∧ dnum y m d < ys (y + 1) := by
  obtain ⟨h1, h2, h3, h4⟩ := h
  have a := cum_mono y m 13 h1 (by omega) (by omega)
  have b := ys_succ y
  have c := cum_13 y
  have d0 : 0 ≤ cum y m := by
    by_cases e : m = 1
    · subst e; rw [cum_one]; omega
    · have := cum_mono y 1 m (by omega) (by omega) (by omega); have := mlen_bd y 1; rw [cum_one] at *; omega
  unfold dnum
  omega
/-- A day has one date. -/
theorem dnum_inj {y m d z k e : Int} (h : Valid y m d) (h' : Valid z k e) (he : dnum y m d = dnum z k e) : y = z ∧ m = k ∧ d = e := by
  have a := dnum_in y m d h
  have b := dnum_in z k e h'
  have hy : y = z := by
    by_cases c : y < z
    · have := ys_mono y z c; have := ys_succ y; omega
    · by_cases c' : z < y
      · have := ys_mono z y c'; have := ys_succ z; omega
      · omega
  subst hy
  obtain ⟨h1, h2, h3, h4⟩ := h
  obtain ⟨g1, g2, g3, g4⟩ := h'
  unfold dnum at he
  have hm : m = k := by
    by_cases c : m < k
    · have := cum_mono y m k h1 c (by omega); omega
    · by_cases c' : k < m
      · have := cum_mono y k m g1 c' (by omega); omega
      · omega
  subst hm
  exact ⟨rfl, rfl, by omega⟩

/-! The program's own reckoning: days from March 1 of year -292277022400 on. -/
def aday (n : Int) : Int := n + 106751991073400
def acent (n : Int) : Int := (4 * aday n + 3) / 146097
def acd (n : Int) : Int := 4 * ((4 * aday n + 3) % 146097 / 4) + 3
def acy (n : Int) : Int := acd n / 1461
def ayd (n : Int) : Int := acd n % 1461 / 4
def jf (n : Int) : Int := if 306 ≤ ayd n then 1 else 0
def amon (n : Int) : Int := (2141 * ayd n + 197913) / 65536
def yOf (n : Int) : Int := 100 * acent n - 292277022400 + acy n + jf n
def mOf (n : Int) : Int := amon n - 12 * jf n
def dOf (n : Int) : Int := 1 + (2141 * ayd n + 197913) % 65536 / 2141

theorem ayd_bd (n : Int) : 0 ≤ ayd n ∧ ayd n ≤ 365 := by unfold ayd; omega
theorem acy_bd (n : Int) : 0 ≤ acy n ∧ acy n ≤ 99 := by unfold acy acd; omega
theorem floor4 (a b f : Int) (h : 4 * a + 3 = b) (c : Int) (hc : c % 4 = 1) (hf : f = b / c) : a = c * f / 4 + b % c / 4 := by
  have e := Int.emod_add_mul_ediv b c
  rw [← hf] at e
  obtain ⟨k, hk⟩ : ∃ k, c = 4 * k + 1 := ⟨c / 4, by omega⟩
  have h2 : c * f = 4 * (k * f) + f := by rw [hk, Int.add_mul, Int.mul_assoc, Int.one_mul]
  generalize b % c = r at *
  generalize c * f = cf at *
  generalize k * f = kf at *
  have : f % 4 = 0 ∨ f % 4 = 1 ∨ f % 4 = 2 ∨ f % 4 = 3 := by omega
  rcases this with j | j | j | j <;> omega
/-- The days' number out of century, year and day of the year. -/
theorem aday_back (n : Int) : aday n = 146097 * acent n / 4 + 1461 * acy n / 4 + ayd n := by
  have a := floor4 (aday n) (4 * aday n + 3) (acent n) rfl 146097 (by decide) rfl
  have b := floor4 ((4 * aday n + 3) % 146097 / 4) (acd n) (acy n) rfl 1461 (by decide) rfl
  unfold ayd
  omega
/-- the last day of February is there in a leap year alone -/
theorem ayd_last (n : Int) (h : ayd n = 365) : lp (100 * acent n - 292277022400 + acy n + 1) = 1 := by
  have hb := acy_bd n
  have e1 := Int.emod_add_mul_ediv (acd n) 1461
  have e2 := Int.emod_add_mul_ediv (4 * aday n + 3) 146097
  have f1 : acd n / 1461 = acy n := rfl
  have f2 : (4 * aday n + 3) / 146097 = acent n := rfl
  have f3 : acd n = 4 * ((4 * aday n + 3) % 146097 / 4) + 3 := rfl
  have f4 : ayd n = acd n % 1461 / 4 := rfl
  rw [f1] at e1
  rw [f2] at e2
  have g1 : acd n % 1461 = 1460 := by omega
  have g2 : acy n % 4 = 3 := by omega
  have g3 : acy n = 99 → acent n % 4 = 3 := by
    intro h9
    have g4 : (4 * aday n + 3) % 146097 = 146096 := by omega
    rw [g4] at e2
    clear f3 e1 g4
    omega
  clear e1 e2 f1 f2 f3 f4 g1
  unfold lp
  rw [if_pos]
  by_cases h9 : acy n = 99
  · have := g3 h9; omega
  · omega

theorem amon_eq (a : Int) (h0 : 0 ≤ a) (h1 : a ≤ 365) :
    3 ≤ (2141 * a + 197913) / 65536 ∧ (2141 * a + 197913) / 65536 ≤ 14 ∧ (306 ≤ a ↔ 13 ≤ (2141 * a + 197913) / 65536) ∧ a = (979 * ((2141 * a + 197913) / 65536) - 2919) / 32 + (2141 * a + 197913) % 65536 / 2141 ∧ ((2141 * a + 197913) / 65536 ≤ 13 → a < (979 * ((2141 * a + 197913) / 65536 + 1) - 2919) / 32) := by
  have key : ∀ k : Fin 366, 3 ≤ (2141 * (k.val : Int) + 197913) / 65536 ∧ (2141 * (k.val : Int) + 197913) / 65536 ≤ 14 ∧ (306 ≤ (k.val : Int) ↔ 13 ≤ (2141 * (k.val : Int) + 197913) / 65536) ∧ (k.val : Int) = (979 * ((2141 * (k.val : Int) + 197913) / 65536) - 2919) / 32 + (2141 * (k.val : Int) + 197913) % 65536 / 2141 ∧ ((2141 * (k.val : Int) + 197913) / 65536 ≤ 13 → (k.val : Int) < (979 * ((2141 * (k.val : Int) + 197913) / 65536 + 1) - 2919) / 32) := by decide +kernel
  have := key ⟨a.toNat, by omega⟩
  rw [show ((a.toNat : Nat) : Int) = a by omega] at this
  exact this

/-- March 1. -/
theorem march (c s : Int) (h0 : 0 ≤ s) (h1 : s ≤ 99) : ys (100 * c - 292277022400 + s) + lp (100 * c - 292277022400 + s) + 59 = 146097 * c / 4 + 1461 * s / 4 - 106751991073400 := by
  obtain ⟨q, j, hc, hj⟩ : ∃ q j, c = 4 * q + j ∧ (j = 0 ∨ j = 1 ∨ j = 2 ∨ j = 3) := ⟨c / 4, c % 4, by omega, by omega⟩
  obtain ⟨p, i, hs, hi⟩ : ∃ p i, s = 4 * p + i ∧ (i = 0 ∨ i = 1 ∨ i = 2 ∨ i = 3) := ⟨s / 4, s % 4, by omega, by omega⟩
  subst hc; subst hs
  by_cases hz : 4 * p + i = 0
  · have hp : p = 0 := by omega
    have hi0 : i = 0 := by omega
    subst hp; subst hi0
    rcases hj with rfl | rfl | rfl | rfl
    · have e : lp (100 * (4 * q + 0) - 292277022400 + (4 * 0 + 0)) = 1 := by unfold lp; rw [if_pos]; omega
      rw [e]; unfold ys; omega
    all_goals
      rw [show lp _ = 0 by unfold lp; rw [if_neg]; omega]
      unfold ys; omega
  · rcases hi with rfl | rfl | rfl | rfl
    · rw [show lp _ = 1 by unfold lp; rw [if_pos]; omega]
      rcases hj with rfl | rfl | rfl | rfl <;> (unfold ys; omega)
    all_goals
      rw [show lp _ = 0 by unfold lp; rw [if_neg]; omega]
      rcases hj with rfl | rfl | rfl | rfl <;> (unfold ys; omega)

/-- The year, the month and the day of a day. -/
theorem date_of (n : Int) : Valid (yOf n) (mOf n) (dOf n) ∧ dnum (yOf n) (mOf n) (dOf n) = n := by
  have hb := ayd_bd n
  have hc := acy_bd n
  have hl := ayd_last n
  have hk := aday_back n
  obtain ⟨a1, a2, a3, a4, a5⟩ := amon_eq (ayd n) hb.1 hb.2
  have e1 : amon n = (2141 * ayd n + 197913) / 65536 := rfl
  have e2 : dOf n = 1 + (2141 * ayd n + 197913) % 65536 / 2141 := rfl
  rw [← e1] at a1 a2 a3 a4 a5
  have e3 : ayd n = (979 * amon n - 2919) / 32 + dOf n - 1 := by omega
  have hd : 1 ≤ dOf n := by omega
  have hn : aday n = n + 106751991073400 := rfl
  have ey : yOf n = 100 * acent n - 292277022400 + acy n + jf n := rfl
  have em : mOf n = amon n - 12 * jf n := rfl
  clear e1 e2 a4
  have hm : amon n = 3 ∨ amon n = 4 ∨ amon n = 5 ∨ amon n = 6 ∨ amon n = 7 ∨ amon n = 8 ∨ amon n = 9 ∨ amon n = 10 ∨ amon n = 11 ∨ amon n = 12 ∨ amon n = 13 ∨ amon n = 14 := by omega
  have hM := march (acent n) (acy n) hc.1 hc.2
  have hS := ys_succ (100 * acent n - 292277022400 + acy n)
  have h01 := lp_01 (100 * acent n - 292277022400 + acy n)
  have h02 := lp_01 (100 * acent n - 292277022400 + acy n + 1)
  have ej : jf n = if 306 ≤ ayd n then 1 else 0 := rfl
  by_cases h6 : 306 ≤ ayd n
  · rw [if_pos h6] at ej
    rw [ej] at ey em
    have h13 := a3.1 h6
    rw [show mOf n = amon n - 12 by omega, ey]
    generalize 100 * acent n - 292277022400 + acy n = Y at *
    have hm' : amon n = 13 ∨ amon n = 14 := by omega
    clear hm
    generalize amon n = k at *
    rcases hm' with rfl | rfl
    · refine ⟨⟨by omega, by omega, hd, ?_⟩, ?_⟩
      · simp [mlen]; omega
      · simp only [dnum, cum]; omega
    · refine ⟨⟨by omega, by omega, hd, ?_⟩, ?_⟩
      · simp only [mlen]
        by_cases h365 : ayd n = 365
        · have := hl h365; simp; omega
        · simp; omega
      · simp only [dnum, cum]; omega
  · rw [if_neg h6] at ej
    rw [ej] at ey em
    have h12 : amon n ≤ 12 := by omega
    rw [show mOf n = amon n by omega, show yOf n = 100 * acent n - 292277022400 + acy n by omega]
    generalize 100 * acent n - 292277022400 + acy n = Y at *
    clear hl h02 a3 em ey ej hS
    generalize amon n = k at *
    rcases hm with rfl | rfl | rfl | rfl | rfl | rfl | rfl | rfl | rfl | rfl | rfl | rfl
    all_goals (try omega)
    all_goals
      refine ⟨⟨by omega, by omega, hd, ?_⟩, ?_⟩
      · simp [mlen]; omega
      · simp only [dnum, cum]; simp; omega

theorem of_date {y m d : Int} (h : Valid y m d) : yOf (dnum y m d) = y ∧ mOf (dnum y m d) = m ∧ dOf (dnum y m d) = d :=
  dnum_inj (date_of _).1 h (date_of _).2
theorem of_eq {n y m d : Int} (h : Valid y m d) (he : dnum y m d = n) : yOf n = y ∧ mOf n = m ∧ dOf n = d := by
  subst he; exact of_date h
/-- A day of the same month. -/
theorem same_month (n k : Int) (h1 : 1 ≤ dOf n + k) (h2 : dOf n + k ≤ mlen (yOf n) (mOf n)) : yOf (n + k) = yOf n ∧ mOf (n + k) = mOf n ∧ dOf (n + k) = dOf n + k := by
  obtain ⟨⟨a1, a2, a3, a4⟩, e⟩ := date_of n
  exact of_eq ⟨a1, a2, h1, h2⟩ (by unfold dnum at *; omega)
/-- The first day of the next month. -/
theorem next_month (n : Int) (h : mOf n < 12) : yOf (n - dOf n + 1 + mlen (yOf n) (mOf n)) = yOf n ∧ mOf (n - dOf n + 1 + mlen (yOf n) (mOf n)) = mOf n + 1 ∧ dOf (n - dOf n + 1 + mlen (yOf n) (mOf n)) = 1 := by
  obtain ⟨⟨a1, a2, a3, a4⟩, e⟩ := date_of n
  have hs := cum_succ (yOf n) (mOf n) a1 a2
  have hb := mlen_bd (yOf n) (mOf n + 1)
  exact of_eq ⟨by omega, by omega, by omega, by omega⟩ (by unfold dnum at *; omega)
theorem next_year (n : Int) (h : mOf n = 12) : yOf (n - dOf n + 1 + mlen (yOf n) (mOf n)) = yOf n + 1 ∧ mOf (n - dOf n + 1 + mlen (yOf n) (mOf n)) = 1 ∧ dOf (n - dOf n + 1 + mlen (yOf n) (mOf n)) = 1 := by
  obtain ⟨⟨a1, a2, a3, a4⟩, e⟩ := date_of n
  have hs := cum_succ (yOf n) (mOf n) a1 a2
  have h13 := cum_13 (yOf n)
  have hy := ys_succ (yOf n)
  have h1 := cum_one (yOf n + 1)
  have hb := mlen_bd (yOf n + 1) 1
  rw [h] at hs
  rw [show (12 : Int) + 1 = 13 from rfl] at hs
  refine of_eq ⟨by omega, by omega, by omega, by omega⟩ ?_
  unfold dnum at *
  rw [h] at e ⊢
  omega
theorem year_in (n : Int) : ys (yOf n) ≤ n ∧ n < ys (yOf n + 1) := by
  obtain ⟨hv, e⟩ := date_of n
  have := dnum_in _ _ _ hv
  rw [e] at this; exact this
theorem year_mono {n k : Int} (h : n ≤ k) : yOf n ≤ yOf k := by
  have a := year_in n
  have b := year_in k
  by_cases c : yOf k < yOf n
  · have d : ys (yOf k + 1) ≤ ys (yOf n) := by
      by_cases e : yOf k + 1 = yOf n
      · rw [e]; omega
      · have := ys_mono (yOf k + 1) (yOf n) (by omega); have := lp_01 (yOf k + 1); omega
    omega
  · omega
/-- The program's number of a date. -/
def gday (y m d : Int) : Int :=
  let j : Int := if m < 3 then 1 else 0
  146097 * ((y - j + 292277022400) / 100) / 4 + (1461 * ((y - j + 292277022400) % 100) / 4 + (979 * (m + 12 * j) - 2919) / 32) + d - 1
theorem gday_eq (y m d : Int) (h1 : 1 ≤ m) (h2 : m ≤ 12) : gday y m d = dnum y m d + 106751991073400 := by
  unfold gday dnum
  by_cases h : m < 3
  · rw [if_pos h]
    have hM := march ((y - 1 + 292277022400) / 100) ((y - 1 + 292277022400) % 100) (by omega) (by omega)
    rw [show 100 * ((y - 1 + 292277022400) / 100) - 292277022400 + (y - 1 + 292277022400) % 100 = y - 1 by omega] at hM
    have hS := ys_succ (y - 1)
    rw [show y - 1 + 1 = y by omega] at hS
    have hc : cum y m = 31 * (m - 1) := by unfold cum; rw [if_pos (by omega)]
    have hm : m = 1 ∨ m = 2 := by omega
    simp only
    generalize (y - 1 + 292277022400) / 100 = c at *
    generalize (y - 1 + 292277022400) % 100 = s at *
    rcases hm with rfl | rfl <;> omega
  · rw [if_neg h]
    have hM := march ((y - 0 + 292277022400) / 100) ((y - 0 + 292277022400) % 100) (by omega) (by omega)
    rw [show 100 * ((y - 0 + 292277022400) / 100) - 292277022400 + (y - 0 + 292277022400) % 100 = y by omega] at hM
    have hc : cum y m = 59 + lp y + (979 * m - 2919) / 32 := by unfold cum; rw [if_neg (by omega)]
    simp only
    generalize (y - 0 + 292277022400) / 100 = c at *
    generalize (y - 0 + 292277022400) % 100 = s at *
    rw [show 12 * (0 : Int) = 0 from rfl, Int.add_zero]
    omega

end Go.Proofs.Ytoekefbclkmchaa.Cal
