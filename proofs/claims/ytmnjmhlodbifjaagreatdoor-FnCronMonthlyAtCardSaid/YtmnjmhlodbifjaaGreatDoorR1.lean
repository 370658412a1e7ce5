/- Plain lemmas: the calendar: days, months, years, and the program's own reckoning of them. Conditions: none. · Plain lemmas: clocks by their offsets: what a plain zone's clocks show from second to second, and the second that the program takes for what clocks show. Conditions: a plain zone in the window. · The program's own reckoning of days, dates and times of day. Conditions: instants within 10^12 seconds of 1970. -/
import Derived.IntWalk
import Derived.Test.YtmnjmhlodbifjaaGreatDoorChecked
import Derived.WalkKit
import Derived.Lib.Hide
import Derived.ProofKit

namespace Go.Proofs.YtmnjmhlodbifjaaGreatDoor.Cal
def lp (y : Int) : Int := if y % 4 = 0 ∧ (y % 100 ≠ 0 ∨ y % 400 = 0) then 1 else 0
def mlen (y m : Int) : Int := if m = 2 then 28 + lp y else if m = 4 ∨ m = 6 ∨ m = 9 ∨ m = 11 then 30 else 31
def ys (y : Int) : Int := 365 * (y - 1) + (y - 1) / 4 - (y - 1) / 100 + (y - 1) / 400 - 719162
def cum (y m : Int) : Int := if m ≤ 2 then 31 * (m - 1) else 59 + lp y + (979 * m - 2919) / 32
def dnum (y m d : Int) : Int := ys y + cum y m + d - 1
def Valid (y m d : Int) : Prop := 1 ≤ m ∧ m ≤ 12 ∧ 1 ≤ d ∧ d ≤ mlen y m
theorem lp_01 (y : Int) : lp y = 0 ∨ lp y = 1 := by unfold lp; split <;> simp
theorem mlen_bd (y m : Int) : 28 ≤ mlen y m ∧ mlen y m ≤ 31 := by
  have := lp_01 y
  unfold mlen; split
  · omega
  · split <;> omega
theorem ys_succ (y : Int) : ys (y + 1) = ys y + 365 + lp y := by
  unfold ys lp
  split <;> omega
theorem cum_one (y : Int) : cum y 1 = 0 := by unfold cum; simp
theorem cum_succ (y m : Int) (h1 : 1 ≤ m) (h2 : m ≤ 12) : cum y (m + 1) = cum y m + mlen y m := by
  have h : m = 1 ∨ m = 2 ∨ m = 3 ∨ m = 4 ∨ m = 5 ∨ m = 6 ∨ m = 7 ∨ m = 8 ∨ m = 9 ∨ m = 10 ∨ m = 11 ∨ m = 12 := by omega
  rcases h with rfl | rfl | rfl | rfl | rfl | rfl | rfl | rfl | rfl | rfl | rfl | rfl <;> simp [cum, mlen] <;> omega
theorem cum_13 (y : Int) : cum y 13 = 365 + lp y := by simp [cum]; omega
theorem cum_mono (y m k : Int) (h1 : 1 ≤ m) (h2 : m < k) (h3 : k ≤ 13) : cum y m + mlen y m ≤ cum y k := by
  rw [← cum_succ y m h1 (by omega)]
  have key : ∀ j : Nat, m + 1 + j ≤ 13 → cum y (m + 1) ≤ cum y (m + 1 + j) := by
    intro j
    induction j with
    | zero => intro _; simp
    | succ j ih =>
      intro hj
      have a := ih (by omega)
      have b := cum_succ y (m + 1 + j) (by omega) (by omega)
      have c := mlen_bd y (m + 1 + j)
      rw [show (m + 1 + ((j + 1 : Nat) : Int)) = m + 1 + j + 1 by omega]
      omega
  have := key (k - (m + 1)).toNat (by omega)
  rw [show m + 1 + ((k - (m + 1)).toNat : Int) = k by omega] at this
  exact this
theorem ys_mono (y z : Int) (h : y < z) : ys y + 365 + lp y ≤ ys z := by
  rw [← ys_succ]
  unfold ys; omega
theorem dnum_in (y m d : Int) (h : Valid y m d) : ys y ≤ dnum y m d ∧ dnum y m d < ys (y + 1) := by
  obtain ⟨h1, h2, h3, h4⟩ := h
  have a := cum_mono y m 13 h1 (by omega) (by omega)
  have b := ys_succ y
  have c := cum_13 y
  have d0 : 0 ≤ cum y m := by
    by_cases e : m = 1
    · subst e; rw [cum_one]; omega
    · have := cum_mono y 1 m (by omega) (by omega) (by omega); have := mlen_bd y 1; rw [cum_one] at *; omega
  unfold dnum
  omega
theorem dnum_inj {y m d z k e : Int} (h : Valid y m d) (h' : Valid z k e) (he : dnum y m d = dnum z k e) : y = z ∧ m = k ∧ d = e := by
  have a := dnum_in y m d h
  have b := dnum_in z k e h'
  have hy : y = z := by
    by_cases c : y < z
    · have := ys_mono y z c; have := ys_succ y; omega
    · by_cases c' : z < y
      · have := ys_mono z y c'; have := ys_succ z; omega
      · omega
  subst hy
  obtain ⟨h1, h2, h3, h4⟩ := h
  obtain ⟨g1, g2, g3, g4⟩ := h'
  unfold dnum at he
  have hm : m = k := by
    by_cases c : m < k
    · have := cum_mono y m k h1 c (by omega); omega
    · by_cases c' : k < m
      · have := cum_mono y k m g1 c' (by omega); omega
      · omega
  subst hm
  exact ⟨rfl, rfl, by omega⟩
def aday (n : Int) : Int := n + 106751991073400
def acent (n : Int) : Int := (4 * aday n + 3) / 146097
def acd (n : Int) : Int := 4 * ((4 * aday n + 3) % 146097 / 4) + 3
def acy (n : Int) : Int := acd n / 1461
def ayd (n : Int) : Int := acd n % 1461 / 4
def jf (n : Int) : Int := if 306 ≤ ayd n then 1 else 0
def amon (n : Int) : Int := (2141 * ayd n + 197913) / 65536
def yOf (n : Int) : Int := 100 * acent n - 292277022400 + acy n + jf n
def mOf (n : Int) : Int := amon n - 12 * jf n
def dOf (n : Int) : Int := 1 + (2141 * ayd n + 197913) % 65536 / 2141
theorem ayd_bd (n : Int) : 0 ≤ ayd n ∧ ayd n ≤ 365 := by unfold ayd; omega
theorem acy_bd (n : Int) : 0 ≤ acy n ∧ acy n ≤ 99 := by unfold acy acd; omega
theorem floor4 (a b f : Int) (h : 4 * a + 3 = b) (c : Int) (hc : c % 4 = 1) (hf : f = b / c) : a = c * f / 4 + b % c / 4 := by
  have e := Int.emod_add_mul_ediv b c
  rw [← hf] at e
  obtain ⟨k, hk⟩ : ∃ k, c = 4 * k + 1 := ⟨c / 4, by omega⟩
  have h2 : c * f = 4 * (k * f) + f := by rw [hk, Int.add_mul, Int.mul_assoc, Int.one_mul]
  generalize b % c = r at *
  generalize c * f = cf at *
  generalize k * f = kf at *
  have : f % 4 = 0 ∨ f % 4 = 1 ∨ f % 4 = 2 ∨ f % 4 = 3 := by omega
  rcases this with j | j | j | j <;> omega
theorem aday_back (n : Int) : aday n = 146097 * acent n / 4 + 1461 * acy n / 4 + ayd n := by
  have a := floor4 (aday n) (4 * aday n + 3) (acent n) rfl 146097 (by decide) rfl
  have b := floor4 ((4 * aday n + 3) % 146097 / 4) (acd n) (acy n) rfl 1461 (by decide) rfl
  unfold ayd
  omega
theorem ayd_last (n : Int) (h : ayd n = 365) : lp (100 * acent n - 292277022400 + acy n + 1) = 1 := by
  have hb := acy_bd n
  have e1 := Int.emod_add_mul_ediv (acd n) 1461
  have e2 := Int.emod_add_mul_ediv (4 * aday n + 3) 146097
  have f1 : acd n / 1461 = acy n := rfl
  have f2 : (4 * aday n + 3) / 146097 = acent n := rfl
  have f3 : acd n = 4 * ((4 * aday n + 3) % 146097 / 4) + 3 := rfl
  have f4 : ayd n = acd n % 1461 / 4 := rfl
  rw [f1] at e1
  rw [f2] at e2
  have g1 : acd n % 1461 = 1460 := by omega
  have g2 : acy n % 4 = 3 := by omega
  have g3 : acy n = 99 → acent n % 4 = 3 := by
    intro h9
    have g4 : (4 * aday n + 3) % 146097 = 146096 := by omega
    rw [g4] at e2
    clear f3 e1 g4
    omega
  clear e1 e2 f1 f2 f3 f4 g1
  unfold lp
  rw [if_pos]
  by_cases h9 : acy n = 99
  · have := g3 h9; omega
  · omega
theorem amon_eq (a : Int) (h0 : 0 ≤ a) (h1 : a ≤ 365) :
    3 ≤ (2141 * a + 197913) / 65536 ∧ (2141 * a + 197913) / 65536 ≤ 14 ∧ (306 ≤ a ↔ 13 ≤ (2141 * a + 197913) / 65536) ∧ a = (979 * ((2141 * a + 197913) / 65536) - 2919) / 32 + (2141 * a + 197913) % 65536 / 2141 ∧ ((2141 * a + 197913) / 65536 ≤ 13 → a < (979 * ((2141 * a + 197913) / 65536 + 1) - 2919) / 32) := by
  have key : ∀ k : Fin 366, 3 ≤ (2141 * (k.val : Int) + 197913) / 65536 ∧ (2141 * (k.val : Int) + 197913) / 65536 ≤ 14 ∧ (306 ≤ (k.val : Int) ↔ 13 ≤ (2141 * (k.val : Int) + 197913) / 65536) ∧ (k.val : Int) = (979 * ((2141 * (k.val : Int) + 197913) / 65536) - 2919) / 32 + (2141 * (k.val : Int) + 197913) % 65536 / 2141 ∧ ((2141 * (k.val : Int) + 197913) / 65536 ≤ 13 → (k.val : Int) < (979 * ((2141 * (k.val : Int) + 197913) / 65536 + 1) - 2919) / 32) := by decide +kernel
  have := key ⟨a.toNat, by omega⟩
  rw [show ((a.toNat : Nat) : Int) = a by omega] at this
  exact this
theorem march (c s : Int) (h0 : 0 ≤ s) (h1 : s ≤ 99) : ys (100 * c - 292277022400 + s) + lp (100 * c - 292277022400 + s) + 59 = 146097 * c / 4 + 1461 * s / 4 - 106751991073400 := by
  obtain ⟨q, j, hc, hj⟩ : ∃ q j, c = 4 * q + j ∧ (j = 0 ∨ j = 1 ∨ j = 2 ∨ j = 3) := ⟨c / 4, c % 4, by omega, by omega⟩
  obtain ⟨p, i, hs, hi⟩ : ∃ p i, s = 4 * p + i ∧ (i = 0 ∨ i = 1 ∨ i = 2 ∨ i = 3) := ⟨s / 4, s % 4, by omega, by omega⟩
  subst hc; subst hs
  by_cases hz : 4 * p + i = 0
  · have hp : p = 0 := by omega
    have hi0 : i = 0 := by omega
    subst hp; subst hi0
    rcases hj with rfl | rfl | rfl | rfl
    · have e : lp (100 * (4 * q + 0) - 292277022400 + (4 * 0 + 0)) = 1 := by unfold lp; rw [if_pos]; omega
      rw [e]; unfold ys; omega
    all_goals
      rw [show lp _ = 0 by unfold lp; rw [if_neg]; omega]
      unfold ys; omega
  · rcases hi with rfl | rfl | rfl | rfl
    · rw [show lp _ = 1 by unfold lp; rw [if_pos]; omega]
      rcases hj with rfl | rfl | rfl | rfl <;> (unfold ys; omega)
    all_goals
      rw [show lp _ = 0 by unfold lp; rw [if_neg]; omega]
      rcases hj with rfl | rfl | rfl | rfl <;> (unfold ys; omega)
theorem date_of (n : Int) : Valid (yOf n) (mOf n) (dOf n) ∧ dnum (yOf n) (mOf n) (dOf n) = n := by
  have hb := ayd_bd n
  have hc := acy_bd n
  have hl := ayd_last n
  have hk := aday_back n
  obtain ⟨a1, a2, a3, a4, a5⟩ := amon_eq (ayd n) hb.1 hb.2
  have e1 : amon n = (2141 * ayd n + 197913) / 65536 := rfl
  have e2 : dOf n = 1 + (2141 * ayd n + 197913) % 65536 / 2141 := rfl
  rw [← e1] at a1 a2 a3 a4 a5
  have e3 : ayd n = (979 * amon n - 2919) / 32 + dOf n - 1 := by omega
  have hd : 1 ≤ dOf n := by omega
  have hn : aday n = n + 106751991073400 := rfl
  have ey : yOf n = 100 * acent n - 292277022400 + acy n + jf n := rfl
  have em : mOf n = amon n - 12 * jf n := rfl
  clear e1 e2 a4
  have hm : amon n = 3 ∨ amon n = 4 ∨ amon n = 5 ∨ amon n = 6 ∨ amon n = 7 ∨ amon n = 8 ∨ amon n = 9 ∨ amon n = 10 ∨ amon n = 11 ∨ amon n = 12 ∨ amon n = 13 ∨ amon n = 14 := by omega
  have hM := march (acent n) (acy n) hc.1 hc.2
  have hS := ys_succ (100 * acent n - 292277022400 + acy n)
  have h01 := lp_01 (100 * acent n - 292277022400 + acy n)
  have h02 := lp_01 (100 * acent n - 292277022400 + acy n + 1)
  have ej : jf n = if 306 ≤ ayd n then 1 else 0 := rfl
  by_cases h6 : 306 ≤ ayd n
  · rw [if_pos h6] at ej
    rw [ej] at ey em
    have h13 := a3.1 h6
    rw [show mOf n = amon n - 12 by omega, ey]
    generalize 100 * acent n - 292277022400 + acy n = Y at *
    have hm' : amon n = 13 ∨ amon n = 14 := by omega
    clear hm
    generalize amon n = k at *
    rcases hm' with rfl | rfl
    · refine ⟨⟨by omega, by omega, hd, ?_⟩, ?_⟩
      · simp [mlen]; omega
      · simp only [dnum, cum]; omega
    · refine ⟨⟨by omega, by omega, hd, ?_⟩, ?_⟩
      · simp only [mlen]
        by_cases h365 : ayd n = 365
        · have := hl h365; simp; omega
        · simp; omega
      · simp only [dnum, cum]; omega
  · rw [if_neg h6] at ej
    rw [ej] at ey em
    have h12 : amon n ≤ 12 := by omega
    rw [show mOf n = amon n by omega, show yOf n = 100 * acent n - 292277022400 + acy n by omega]
    generalize 100 * acent n - 292277022400 + acy n = Y at *
    clear hl h02 a3 em ey ej hS
    generalize amon n = k at *
    rcases hm with rfl | rfl | rfl | rfl | rfl | rfl | rfl | rfl | rfl | rfl | rfl | rfl
    all_goals (try omega)
    all_goals
      refine ⟨⟨by omega, by omega, hd, ?_⟩, ?_⟩
      · simp [mlen]; omega
      · simp only [dnum, cum]; simp; omega
theorem of_date {y m d : Int} (h : Valid y m d) : yOf (dnum y m d) = y ∧ mOf (dnum y m d) = m ∧ dOf (dnum y m d) = d :=
  dnum_inj (date_of _).1 h (date_of _).2
theorem of_eq {n y m d : Int} (h : Valid y m d) (he : dnum y m d = n) : yOf n = y ∧ mOf n = m ∧ dOf n = d := by
  subst he; exact of_date h
theorem same_month (n k : Int) (h1 : 1 ≤ dOf n + k) (h2 : dOf n + k ≤ mlen (yOf n) (mOf n)) : yOf (n + k) = yOf n ∧ mOf (n + k) = mOf n ∧ dOf (n + k) = dOf n + k := by
  obtain ⟨⟨a1, a2, a3, a4⟩, e⟩ := date_of n
  exact of_eq ⟨a1, a2, h1, h2⟩ (by unfold dnum at *; omega)
theorem next_month (n : Int) (h : mOf n < 12) : yOf (n - dOf n + 1 + mlen (yOf n) (mOf n)) = yOf n ∧ mOf (n - dOf n + 1 + mlen (yOf n) (mOf n)) = mOf n + 1 ∧ dOf (n - dOf n + 1 + mlen (yOf n) (mOf n)) = 1 := by
  obtain ⟨⟨a1, a2, a3, a4⟩, e⟩ := date_of n
  have hs := cum_succ (yOf n) (mOf n) a1 a2
  have hb := mlen_bd (yOf n) (mOf n + 1)
  exact of_eq ⟨by omega, by omega, by omega, by omega⟩ (by unfold dnum at *; omega)
theorem next_year (n : Int) (h : mOf n = 12) : yOf (n - dOf n + 1 + mlen (yOf n) (mOf n)) = yOf n + 1 ∧ mOf (n - dOf n + 1 + mlen (yOf n) (mOf n)) = 1 ∧ dOf (n - dOf n + 1 + mlen (yOf n) (mOf n)) = 1 := by
  obtain ⟨⟨a1, a2, a3, a4⟩, e⟩ := date_of n
  have hs := cum_succ (yOf n) (mOf n) a1 a2
  have h13 := cum_13 (yOf n)
  have hy := ys_succ (yOf n)
  have h1 := cum_one (yOf n + 1)
  have hb := mlen_bd (yOf n + 1) 1
  rw [h] at hs
  rw [show (12 : Int) + 1 = 13 from rfl] at hs
  refine of_eq ⟨by omega, by omega, by omega, by omega⟩ ?_
  unfold dnum at *
  rw [h] at e ⊢
  omega
theorem year_in (n : Int) : ys (yOf n) ≤ n ∧ n < ys (yOf n + 1) := by
  obtain ⟨hv, e⟩ := date_of n
  have := dnum_in _ _ _ hv
  rw [e] at this; exact this
theorem year_mono {n k : Int} (h : n ≤ k) : yOf n ≤ yOf k := by
  have a := year_in n
  have b := year_in k
  by_cases c : yOf k < yOf n
  · have d : ys (yOf k + 1) ≤ ys (yOf n) := by
      by_cases e : yOf k + 1 = yOf n
      · rw [e]; omega
      · have := ys_mono (yOf k + 1) (yOf n) (by omega); have := lp_01 (yOf k + 1); omega
    omega
  · omega
def gday (y m d : Int) : Int :=
  let j : Int := if m < 3 then 1 else 0
  146097 * ((y - j + 292277022400) / 100) / 4 + (1461 * ((y - j + 292277022400) % 100) / 4 + (979 * (m + 12 * j) - 2919) / 32) + d - 1
theorem gday_eq (y m d : Int) (h1 : 1 ≤ m) (h2 : m ≤ 12) : gday y m d = dnum y m d + 106751991073400 := by
  unfold gday dnum
  by_cases h : m < 3
  · rw [if_pos h]
    have hM := march ((y - 1 + 292277022400) / 100) ((y - 1 + 292277022400) % 100) (by omega) (by omega)
    rw [show 100 * ((y - 1 + 292277022400) / 100) - 292277022400 + (y - 1 + 292277022400) % 100 = y - 1 by omega] at hM
    have hS := ys_succ (y - 1)
    rw [show y - 1 + 1 = y by omega] at hS
    have hc : cum y m = 31 * (m - 1) := by unfold cum; rw [if_pos (by omega)]
    have hm : m = 1 ∨ m = 2 := by omega
    simp only
    generalize (y - 1 + 292277022400) / 100 = c at *
    generalize (y - 1 + 292277022400) % 100 = s at *
    rcases hm with rfl | rfl <;> omega
  · rw [if_neg h]
    have hM := march ((y - 0 + 292277022400) / 100) ((y - 0 + 292277022400) % 100) (by omega) (by omega)
    rw [show 100 * ((y - 0 + 292277022400) / 100) - 292277022400 + (y - 0 + 292277022400) % 100 = y by omega] at hM
    have hc : cum y m = 59 + lp y + (979 * m - 2919) / 32 := by unfold cum; rw [if_neg (by omega)]
    simp only
    generalize (y - 0 + 292277022400) / 100 = c at *
    generalize (y - 0 + 292277022400) % 100 = s at *
    rw [show 12 * (0 : Int) = 0 from rfl, Int.add_zero]
    omega
end Go.Proofs.YtmnjmhlodbifjaaGreatDoor.Cal
namespace Go.Proofs.YtmnjmhlodbifjaaGreatDoor.Off
structure Plain (off : Int → Int) (A B : Int) : Prop where
  bd : ∀ s, -86400 ≤ off s ∧ off s ≤ 86400
  m60 : ∀ s, A ≤ s → s ≤ B → off s % 60 = 0
  far : ∀ v w, A < v → v < w → w ≤ B → off (v - 1) ≠ off v → off (w - 1) ≠ off w → 345600 ≤ w - v
  ch : ∀ w, A < w → w ≤ B → off (w - 1) ≠ off w → (w + off (w - 1)) % 3600 = 0 ∧ (w + off w) % 3600 = 0 ∧ off (w - 1) - 3600 ≤ off w ∧ (w + off (w - 1)) / 86400 = (w + off w) / 86400 ∧ 3600 ≤ (w + off (w - 1)) % 86400 ∧ 3600 ≤ (w + off w) % 86400
def lo (off : Int → Int) (s : Int) : Int := s + off s
def day (off : Int → Int) (s : Int) : Int := lo off s / 86400
def tod (off : Int → Int) (s : Int) : Int := lo off s % 86400
variable {off : Int → Int} {A B : Int}
theorem const (a : Int) (n : Nat) (h : ∀ w, a < w → w ≤ a + n → off (w - 1) = off w) : off (a + n) = off a := by
  induction n with
  | zero => simp
  | succ n ih =>
    have h1 := ih (fun w h1 h2 => h w h1 (by omega))
    have h2 := h (a + (n + 1 : Nat)) (by omega) (by omega)
    rw [← h2, show a + ((n + 1 : Nat) : Int) - 1 = a + n by omega, h1]
theorem const' {a b : Int} (hab : a ≤ b) (h : ∀ w, a < w → w ≤ b → off (w - 1) = off w) : off b = off a := by
  have := const (off := off) a (b - a).toNat (fun w h1 h2 => h w h1 (by omega))
  rwa [show a + ((b - a).toNat : Int) = b by omega] at this
structure Ch (w p q : Int) : Prop where
  hp : (w + p) % 3600 = 0
  hq : (w + q) % 3600 = 0
  back : p - 3600 ≤ q
  same : (w + p) / 86400 = (w + q) / 86400
  ep : 3600 ≤ (w + p) % 86400
  eq : 3600 ≤ (w + q) % 86400
  ne : p ≠ q
theorem near (hP : Plain off A B) {a b : Int} (hA : A ≤ a) (hab : a ≤ b) (hB : b ≤ B) (hd : b - a < 345600) :
    (∀ x, a ≤ x → x ≤ b → off x = off a) ∨ ∃ w, a < w ∧ w ≤ b ∧ (∀ x, a ≤ x → x < w → off x = off a) ∧ (∀ x, w ≤ x → x ≤ b → off x = off w) ∧ Ch w (off a) (off w) := by
  by_cases hc : ∃ w, a < w ∧ w ≤ b ∧ off (w - 1) ≠ off w
  · obtain ⟨w, h1, h2, h3⟩ := hc
    right
    have e1 : ∀ x, a ≤ x → x < w → off x = off a := fun x hx1 hx2 => const' hx1 fun v v1 v2 => by
      by_cases hv : off (v - 1) = off v
      · exact hv
      · have := hP.far v w (by omega) (by omega) (by omega) hv h3; omega
    have e2 : ∀ x, w ≤ x → x ≤ b → off x = off w := fun x hx1 hx2 => const' hx1 fun v v1 v2 => by
      by_cases hv : off (v - 1) = off v
      · exact hv
      · have := hP.far w v (by omega) (by omega) (by omega) h3 hv; omega
    obtain ⟨c1, c2, c3, c4, c5, c6⟩ := hP.ch w (by omega) (by omega) h3
    rw [e1 (w - 1) (by omega) (by omega)] at c1 c3 c4 c5 h3
    exact ⟨w, h1, h2, e1, e2, c1, c2, c3, c4, c5, c6, h3⟩
  · left
    exact fun x hx1 hx2 => const' hx1 fun v v1 v2 => by
      by_cases hv : off (v - 1) = off v
      · exact hv
      · exact absurd ⟨v, by omega, by omega, hv⟩ hc
theorem day_mono_near (hP : Plain off A B) {a b : Int} (hA : A ≤ a) (hab : a ≤ b) (hB : b ≤ B) (hd : b - a < 345600) : day off a ≤ day off b := by
  unfold day lo
  rcases near hP hA hab hB hd with h | ⟨w, h1, h2, h3, h4, c⟩
  · rw [h b hab (Int.le_refl _)]; omega
  · obtain ⟨c1, c2, c3, c4, c5, c6, c7⟩ := c
    rw [h4 b h2 (Int.le_refl _)]; omega
theorem day_mono (hP : Plain off A B) {a b : Int} (hA : A ≤ a) (hab : a ≤ b) (hB : b ≤ B) : day off a ≤ day off b := by
  have key : ∀ n : Nat, a + n ≤ B → day off a ≤ day off (a + n) := by
    intro n
    induction n with
    | zero => intro _; simp
    | succ n ih =>
      intro hn
      have h1 := ih (by omega)
      have h2 := day_mono_near hP (a := a + n) (b := a + (n + 1 : Nat)) (by omega) (by omega) hn (by omega)
      omega
  have := key (b - a).toNat (by omega)
  rwa [show a + ((b - a).toNat : Int) = b by omega] at this
theorem unit_step (hP : Plain off A B) (d : Int) (hd : d = 1 ∨ d = 60 ∨ d = 3600) {t : Int} (hA : A ≤ t) (hB : t + d ≤ B) (h0 : lo off t % d = 0) :
    (∀ y, t ≤ y → y < t + d → lo off y = lo off t + (y - t)) ∧
    (lo off (t + d) = lo off t + d ∨ (lo off (t + d) % 3600 = 0 ∧ (lo off t + d) % 3600 = 0 ∧ day off (t + d) = day off t ∧ 3600 ≤ tod off (t + d) ∧ (lo off t + d) % 86400 ≠ 0)) := by
  unfold lo day tod lo at *
  rcases near hP hA (show t ≤ t + d by omega) hB (by omega) with h | ⟨w, h1, h2, h3, h4, c⟩
  · refine ⟨fun y y1 y2 => by rw [h y y1 (by omega)]; omega, .inl ?_⟩
    rw [h (t + d) (by omega) (Int.le_refl _)]; omega
  · obtain ⟨c1, c2, c3, c4, c5, c6, c7⟩ := c
    have hw : w = t + d := by rcases hd with rfl | rfl | rfl <;> omega
    subst hw
    refine ⟨fun y y1 y2 => by rw [h3 y y1 y2]; omega, .inr ?_⟩
    rcases hd with rfl | rfl | rfl <;> omega
theorem minute_back (hP : Plain off A B) {s : Int} (hA : A + 60 ≤ s) (hB : s ≤ B) :
    ∀ y, s - lo off s % 60 ≤ y → y ≤ s → lo off y = lo off s - (s - y) := by
  unfold lo
  intro y y1 y2
  rcases near hP (show A ≤ y by omega) y2 hB (by omega) with h | ⟨w, h1, h2, h3, h4, c⟩
  · rw [h s y2 (Int.le_refl _)]; omega
  · obtain ⟨c1, c2, c3, c4, c5, c6, c7⟩ := c
    rw [h4 s h2 (Int.le_refl _)] at *
    omega
theorem hour_back (hP : Plain off A B) {s : Int} (hA : A + 3600 ≤ s) (hB : s ≤ B) :
    ∀ y, s - lo off s % 3600 ≤ y → y ≤ s → lo off y = lo off s - (s - y) := by
  unfold lo
  intro y y1 y2
  rcases near hP (show A ≤ y by omega) y2 hB (by omega) with h | ⟨w, h1, h2, h3, h4, c⟩
  · rw [h s y2 (Int.le_refl _)]; omega
  · obtain ⟨c1, c2, c3, c4, c5, c6, c7⟩ := c
    rw [h4 s h2 (Int.le_refl _)] at *
    omega
theorem day_back (hP : Plain off A B) {s : Int} (hA : A + 172800 ≤ s) (hB : s ≤ B) :
    ∃ x, s - 89999 ≤ x ∧ x ≤ s ∧ lo off x = 86400 * day off s ∧ ∀ y, x ≤ y → y ≤ s → day off y = day off s := by
  have hb := hP.bd
  unfold day lo
  rcases near hP (show A ≤ s - 172800 by omega) (show s - 172800 ≤ s by omega) hB (by omega) with h | ⟨w, h1, h2, h3, h4, c⟩
  · have e := h s (by omega) (Int.le_refl _)
    refine ⟨s - (s + off s) % 86400, by omega, by omega, ?_, fun y y1 y2 => ?_⟩
    · rw [h (s - (s + off s) % 86400) (by omega) (by omega)]; omega
    · rw [h y (by omega) y2]; omega
  · obtain ⟨c1, c2, c3, c4, c5, c6, c7⟩ := c
    have e := h4 s h2 (Int.le_refl _)
    by_cases hw : w ≤ s - (s + off s) % 86400
    · refine ⟨s - (s + off s) % 86400, by omega, by omega, ?_, fun y y1 y2 => ?_⟩
      · rw [h4 _ hw (by omega)]; omega
      · rw [h4 y (by omega) y2]; omega
    · generalize off (s - 172800) = oa at *
      have hx1 : s - 89999 ≤ w - (w + oa) % 86400 := by omega
      refine ⟨w - (w + oa) % 86400, hx1, by omega, ?_, fun y y1 y2 => ?_⟩
      · rw [h3 _ (by omega) (by omega)]; omega
      · by_cases hy : y < w
        · rw [h3 y (by omega) hy]; omega
        · rw [h4 y (by omega) y2]; omega
theorem day_next (hP : Plain off A B) {t N : Int} (hA : A ≤ t) (hB : t + 172800 ≤ B) (h0 : lo off t = 86400 * N) :
    ∃ x, t < x ∧ x ≤ t + 90000 ∧ lo off x = 86400 * (N + 1) ∧ ∀ y, t ≤ y → y < x → day off y = N := by
  have hb := hP.bd
  unfold day lo at *
  rcases near hP hA (show t ≤ t + 172800 by omega) hB (by omega) with h | ⟨w, h1, h2, h3, h4, c⟩
  · refine ⟨t + 86400, by omega, by omega, ?_, fun y y1 y2 => ?_⟩
    · rw [h _ (by omega) (by omega)]; omega
    · rw [h y (by omega) (by omega)]; omega
  · obtain ⟨c1, c2, c3, c4, c5, c6, c7⟩ := c
    by_cases hw : t + 86400 < w
    · refine ⟨t + 86400, by omega, by omega, ?_, fun y y1 y2 => ?_⟩
      · rw [h3 _ (by omega) (by omega)]; omega
      · rw [h3 y (by omega) (by omega)]; omega
    · generalize off w = ob at *
      refine ⟨w + (86400 - (w + ob) % 86400), by omega, by omega, ?_, fun y y1 y2 => ?_⟩
      · rw [h4 _ (by omega) (by omega)]; omega
      · by_cases hy : y < w
        · rw [h3 y (by omega) hy]; omega
        · rw [h4 y (by omega) (by omega)]; omega
def resolve (off : Int → Int) (u : Int) : Int := u - off (u - off u)
theorem resolve_shows (hP : Plain off A B) {x : Int} (hA : A + 172800 ≤ x) (hB : x + 172800 ≤ B) (h6 : lo off x % 3600 = 0) :
    lo off (resolve off (lo off x)) = lo off x ∧ (resolve off (lo off x) = x ∨
      (resolve off (lo off x) = x + 3600 ∧ (∀ y, x ≤ y → y < x + 3600 → lo off y = lo off x + (y - x)) ∧ 3600 ≤ tod off x) ∨
      (resolve off (lo off x) = x - 3600 ∧ (∀ y, x - 3600 ≤ y → y < x → lo off y = lo off x + (y - (x - 3600))) ∧ 3600 ≤ tod off x)) := by
  have hb := hP.bd
  have hx := hb x
  have hu := hb (x + off x)
  have hr := hb (x + off x - off (x + off x))
  unfold resolve tod lo at *
  -- all of it within a day of x + off x
  by_cases e1 : off (x + off x) = off x
  · have e3 : x + off x - off (x + off x - off (x + off x)) = x := by rw [e1, show x + off x - off x = x by omega]; omega
    rw [e3]
    exact ⟨rfl, .inl rfl⟩
  · by_cases e2 : off (x + off x - off (x + off x)) = off x
    · rw [e2, show x + off x - off x = x by omega]
      exact ⟨rfl, .inl rfl⟩
    · rcases near hP (show A ≤ x + off x - 86400 by omega) (show x + off x - 86400 ≤ x + off x + 86400 by omega) (by omega) (by omega) with h | ⟨w, h1, h2, h3, h4, c⟩
      · have a1 := h x (by omega) (by omega)
        have a2 := h (x + off x) (by omega) (by omega)
        omega
      · generalize hu' : x + off x = u at *
        generalize hoa : off (u - 86400) = oa at *
        generalize hob : off w = ob at *
        have val : ∀ z, u - 86400 ≤ z → z ≤ u + 86400 → (z < w ∧ off z = oa) ∨ (w ≤ z ∧ off z = ob) := fun z z1 z2 => by
          by_cases hz : z < w
          · exact .inl ⟨hz, h3 z z1 hz⟩
          · exact .inr ⟨by omega, h4 z (by omega) z2⟩
        have vx := val x (by omega) (by omega)
        have vu := val u (by omega) (by omega)
        have vr := val (u - off u) (by omega) (by omega)
        obtain ⟨c1, c2, c3, c4, c5, c6, c7⟩ := c
        rcases vx with ⟨x1, x2⟩ | ⟨x1, x2⟩
        · have g1 : off u = ob := by omega
          have g2 : off (u - off u) = ob := by omega
          have g3 : w = x + 3600 := by omega
          rw [g2]
          refine ⟨?_, .inr (.inl ⟨by omega, fun y y1 y2 => ?_, by omega⟩)⟩
          · rw [g1] at g2; rw [g2]; omega
          · rw [h3 y (by omega) (by omega)]; omega
        · have g1 : off u = oa := by omega
          have g2 : off (u - off u) = oa := by omega
          have g3 : w = x := by omega
          rw [g2]
          refine ⟨?_, .inr (.inr ⟨by omega, fun y y1 y2 => ?_, by omega⟩)⟩
          · rw [g1] at g2; rw [g2]; omega
          · rw [h3 y (by omega) (by omega)]; omega
end Go.Proofs.YtmnjmhlodbifjaaGreatDoor.Off
namespace Go.Proofs.YtmnjmhlodbifjaaGreatDoor.TimeNum
set_option linter.unusedVariables false
open Go Go.RowKit Go.Proofs.YtmnjmhlodbifjaaGreatDoor.Cal Go.Proofs.YtmnjmhlodbifjaaGreatDoor.Off
theorem ret_i {k : IntKind} {a b : Int} (h : a = b) : Ending.returned (.int k a) = .returned (.int k b) := by rw [h]
theorem ret_2 {k k' : IntKind} {a b a' b' : Int} (h : a = b) (h' : a' = b') : Ending.returned (.tuple #[.int k a, .int k' a']) = .returned (.tuple #[.int k b, .int k' b']) := by rw [h, h']
theorem ret_3 {k k' k'' : IntKind} {a b a' b' a'' b'' : Int} (h : a = b) (h' : a' = b') (h'' : a'' = b'') : Ending.returned (.tuple #[.int k a, .int k' a', .int k'' a'']) = .returned (.tuple #[.int k b, .int k' b', .int k'' b'']) := by rw [h, h', h'']
theorem or3_nat (n : Nat) : n ||| 3 = 4 * (n / 4) + 3 := by
  have key : ∀ b, b < 4 → (n / 4) * 4 + b = (n / 4) * 4 ||| b := fun b hb => by
    have := Nat.shiftLeft_add_eq_or_of_lt (b := b) (i := 2) hb (n / 4)
    rwa [Nat.shiftLeft_eq] at this
  have h1 : n = (n / 4) * 4 + n % 4 := by omega
  have h3 : (n % 4) ||| 3 = 3 := by
    have : n % 4 = 0 ∨ n % 4 = 1 ∨ n % 4 = 2 ∨ n % 4 = 3 := by omega
    rcases this with e | e | e | e <;> rw [e] <;> rfl
  calc n ||| 3 = ((n / 4) * 4 + n % 4) ||| 3 := by rw [← h1]
    _ = ((n / 4) * 4 ||| n % 4) ||| 3 := by rw [key (n % 4) (by omega)]
    _ = (n / 4) * 4 ||| 3 := by rw [Nat.or_assoc, h3]
    _ = 4 * (n / 4) + 3 := by rw [← key 3 (by omega)]; omega
theorem u64_mod (x : Int) : IntKind.u64.wrap x = x % 18446744073709551616 := by
  unfold IntKind.wrap
  simp [IntKind.bits, IntKind.signed]
theorem and16 (x : Int) (h0 : 0 ≤ x) (h1 : x < 4294967296) : Go.bits .and .u32 x 65535 = x % 65536 := by
  obtain ⟨n, rfl⟩ := Int.eq_ofNat_of_zero_le h0
  show IntKind.u32.wrap (((BitVec.ofInt 32 (n : Int)) &&& (BitVec.ofInt 32 65535)).toNat : Int) = _
  have e : (BitVec.ofInt 32 (n : Int) &&& BitVec.ofInt 32 65535).toNat = n % 65536 := by
    rw [BitVec.ofInt_natCast, BitVec.toNat_and, BitVec.toNat_ofNat, Nat.mod_eq_of_lt (by omega), show (BitVec.ofInt 32 65535).toNat = 2 ^ 16 - 1 by decide, Nat.and_two_pow_sub_one_eq_mod]
  rw [e]
  rw [IntWalk.u32_in _ (by omega)]
  omega
theorem or3 (x : Int) (h0 : 0 ≤ x) (h1 : x < 4294967296) : Go.bits .or .u32 x 3 = 4 * (x / 4) + 3 := by
  obtain ⟨n, rfl⟩ := Int.eq_ofNat_of_zero_le h0
  show IntKind.u32.wrap (((BitVec.ofInt 32 (n : Int)) ||| (BitVec.ofInt 32 3)).toNat : Int) = _
  have e : (BitVec.ofInt 32 (n : Int) ||| BitVec.ofInt 32 3).toNat = 4 * (n / 4) + 3 := by
    rw [BitVec.ofInt_natCast, BitVec.toNat_or, BitVec.toNat_ofNat, Nat.mod_eq_of_lt (by omega), show (BitVec.ofInt 32 3).toNat = 3 by decide, or3_nat]
  rw [e]
  rw [IntWalk.u32_in _ (by omega)]
  omega
theorem mul_hi (y : Int) (h0 : 0 ≤ y) (h1 : y < 146100) : 2939745 * y / 4294967296 = y / 1461 ∧ 2939745 * y % 4294967296 / 2939745 = y % 1461 := by
  have e := Int.emod_add_mul_ediv y 1461
  generalize y % 1461 = r at *
  have hr : 0 ≤ r ∧ r < 1461 := by omega
  generalize y / 1461 = q at *
  subst e
  have e2 : 2939745 * (r + 1461 * q) = 4294967296 * q + (2939745 * r + 149 * q) := by omega
  rw [e2]
  have e3 : (4294967296 * q + (2939745 * r + 149 * q)) % 4294967296 = 2939745 * r + 149 * q := by omega
  rw [e3]
  clear e2 e3
  omega
theorem mul32_any (y : Int) (w : World) (h0 : 0 ≤ y) (h1 : y < 146100) :
    Calls Tryz.prog 217 #[.int .u32 2939745, .int .u32 y] w fun e w' => e = .returned (.tuple #[.int .u32 (y / 1461), .int .u32 (2939745 * y % 4294967296)]) ∧ w = w' := by
  have hm := (mul_hi y h0 h1).1
  go_enter Tryz.func217, Tryz.ntmps217
  go_wp2
  go_ret2
  exact ⟨rfl, rfl⟩
theorem split_any (d : Int) (w : World) (h0 : 0 ≤ d) (h1 : d ≤ 200000000000000) :
    Calls Tryz.prog 203 #[.int .u64 d] w fun e w' => e = .returned (.tuple #[.int .u64 ((4 * d + 3) / 146097), .int .i64 ((4 * ((4 * d + 3) % 146097 / 4) + 3) / 1461), .int .i64 ((4 * ((4 * d + 3) % 146097 / 4) + 3) % 1461 / 4)]) ∧ w = w' := by
  have hor := or3 ((4 * d + 3) % 146097) (by omega) (by omega)
  have HM := Lib.hid ((mul_hi (4 * ((4 * d + 3) % 146097 / 4) + 3) (by omega) (by omega)).2)
  go_enter Tryz.func203, Tryz.ntmps203
  go_wp2_with (go_at_call 217; refine (mul32_any (4 * ((4 * d + 3) % 146097 / 4) + 3) _ (by omega) (by omega)).mono ?_; rintro e w' ⟨rfl, rfl⟩)
  go_ret3
  exact ⟨ret_3 rfl rfl (by rw [HM.out]), rfl⟩
theorem ysplit_any (a : Int) (w : World) (h0 : 0 ≤ a) (h1 : a ≤ 365) :
    Calls Tryz.prog 204 #[.int .i64 a] w fun e w' => e = .returned (.tuple #[.int .i64 ((2141 * a + 197913) / 65536), .int .i64 (1 + (2141 * a + 197913) % 65536 / 2141)]) ∧ w = w' := by
  have hand := and16 (2141 * a + 197913) (by omega) (by omega)
  go_enter Tryz.func204, Tryz.ntmps204
  go_wp2
  go_ret2
  exact ⟨rfl, rfl⟩
theorem jf_any (a : Int) (w : World) : Calls Tryz.prog 206 #[.int .i64 a] w fun e w' => e = .returned (.int .i64 (if 306 ≤ a then 1 else 0)) ∧ w = w' := by
  by_cases h : 306 ≤ a
  · rw [if_pos h]
    go_enter Tryz.func206, Tryz.ntmps206
    go_wp2
    go_ret
    exact ⟨rfl, rfl⟩
  · rw [if_neg h]
    go_enter Tryz.func206, Tryz.ntmps206
    go_wp2
    go_ret
    exact ⟨rfl, rfl⟩
theorem month_any (m j : Int) (w : World) (h0 : 0 ≤ m) (h1 : m ≤ 15) (h2 : 0 ≤ j) (h3 : j ≤ 1) : Calls Tryz.prog 208 #[.int .i64 m, .int .i64 j] w fun e w' => e = .returned (.int .i64 (m - 12 * j)) ∧ w = w' := by
  go_enter Tryz.func208, Tryz.ntmps208
  go_wp2
  go_ret
  exact ⟨ret_i (by omega), rfl⟩
theorem year_any (c y j : Int) (w : World) (h0 : 2922769000 ≤ c) (h1 : c ≤ 2922771000) (h2 : 0 ≤ y) (h3 : y ≤ 99) (h4 : 0 ≤ j) (h5 : j ≤ 1) :
    Calls Tryz.prog 207 #[.int .u64 c, .int .i64 y, .int .i64 j] w fun e w' => e = .returned (.int .i64 (100 * c - 292277022400 + y + j)) ∧ w = w' := by
  go_enter Tryz.func207, Tryz.ntmps207
  go_wp2
  go_ret
  exact ⟨ret_i (by simp only [u64_mod, wrap64]; omega), rfl⟩
def abs (l : Int) : Int := l + 9223372028741760000
def Dn (n : Int) : Prop := -20000000 ≤ n ∧ n ≤ 20000000
def wdOf (n : Int) : Int := (n + 4) % 7
theorem days_any (l : Int) (w : World) (h0 : -1728000000000 ≤ l) (h1 : l ≤ 1728000000000) :
    Calls Tryz.prog 202 #[.int .u64 (abs l)] w fun e w' => e = .returned (.int .u64 (aday (l / 86400))) ∧ w = w' := by
  have hb : 0 ≤ abs l ∧ abs l ≤ 18446744073709551615 := by unfold abs; omega
  have HE : Hid (abs l / 86400 = aday (l / 86400)) := Lib.hid (by unfold abs aday; omega)
  go_enter Tryz.func202, Tryz.ntmps202
  go_wp2
  go_ret
  exact ⟨ret_i (by rw [HE.out]), rfl⟩
theorem split_cal (n : Int) (w : World) (hn : Dn n) :
    Calls Tryz.prog 203 #[.int .u64 (aday n)] w fun e w' => e = .returned (.tuple #[.int .u64 (acent n), .int .i64 (acy n), .int .i64 (ayd n)]) ∧ w = w' :=
  split_any (aday n) w (by unfold aday; have := hn.1; omega) (by unfold aday; have := hn.2; omega)
theorem ysplit_cal (n : Int) (w : World) :
    Calls Tryz.prog 204 #[.int .i64 (ayd n)] w fun e w' => e = .returned (.tuple #[.int .i64 (amon n), .int .i64 (dOf n)]) ∧ w = w' :=
  ysplit_any (ayd n) w (ayd_bd n).1 (ayd_bd n).2
theorem jf_cal (n : Int) (w : World) : Calls Tryz.prog 206 #[.int .i64 (ayd n)] w fun e w' => e = .returned (.int .i64 (jf n)) ∧ w = w' := jf_any (ayd n) w
theorem jf_bd (n : Int) : 0 ≤ jf n ∧ jf n ≤ 1 := by unfold jf; split <;> omega
theorem amon_bd (n : Int) : 0 ≤ amon n ∧ amon n ≤ 15 := by have := ayd_bd n; unfold amon; omega
theorem month_cal (n : Int) (w : World) : Calls Tryz.prog 208 #[.int .i64 (amon n), .int .i64 (jf n)] w fun e w' => e = .returned (.int .i64 (mOf n)) ∧ w = w' :=
  month_any (amon n) (jf n) w (amon_bd n).1 (amon_bd n).2 (jf_bd n).1 (jf_bd n).2
theorem acent_bd (n : Int) (hn : Dn n) : 2922769000 ≤ acent n ∧ acent n ≤ 2922771000 := by obtain ⟨h1, h2⟩ := hn; unfold acent aday; omega
theorem year_cal (n : Int) (w : World) (hn : Dn n) : Calls Tryz.prog 207 #[.int .u64 (acent n), .int .i64 (acy n), .int .i64 (jf n)] w fun e w' => e = .returned (.int .i64 (yOf n)) ∧ w = w' :=
  year_any (acent n) (acy n) (jf n) w (acent_bd n hn).1 (acent_bd n hn).2 (acy_bd n).1 (acy_bd n).2 (jf_bd n).1 (jf_bd n).2
theorem date_cal (n : Int) (w : World) (hn : Dn n) :
    Calls Tryz.prog 219 #[.int .u64 (aday n)] w fun e w' => e = .returned (.tuple #[.int .i64 (yOf n), .int .i64 (mOf n), .int .i64 (dOf n)]) ∧ w = w' := by
  go_enter Tryz.func219, Tryz.ntmps219
  go_wp2_with (first
    | (go_at_call 203; refine (split_cal n _ hn).mono ?_; rintro e w' ⟨rfl, rfl⟩)
    | (go_at_call 204; refine (ysplit_cal n _).mono ?_; rintro e w' ⟨rfl, rfl⟩)
    | (go_at_call 206; refine (jf_cal n _).mono ?_; rintro e w' ⟨rfl, rfl⟩)
    | (go_at_call 207; refine (year_cal n _ hn).mono ?_; rintro e w' ⟨rfl, rfl⟩)
    | (go_at_call 208; refine (month_cal n _).mono ?_; rintro e w' ⟨rfl, rfl⟩))
  go_ret3
  exact ⟨rfl, rfl⟩
theorem weekday_cal (n : Int) (w : World) (hn : Dn n) :
    Calls Tryz.prog 221 #[.int .u64 (aday n)] w fun e w' => e = .returned (.int .i64 (wdOf n)) ∧ w = w' := by
  have hb : 0 ≤ aday n ∧ aday n ≤ 200000000000000 := by obtain ⟨h1, h2⟩ := hn; unfold aday; omega
  have HE : Hid ((aday n + 3) % 7 = wdOf n) := Lib.hid (by unfold aday wdOf; omega)
  go_enter Tryz.func221, Tryz.ntmps221
  go_wp2
  go_ret
  exact ⟨ret_i (by rw [HE.out]), rfl⟩
theorem clock_any (l : Int) (w : World) (h0 : -1728000000000 ≤ l) (h1 : l ≤ 1728000000000) :
    Calls Tryz.prog 220 #[.int .u64 (abs l)] w fun e w' => e = .returned (.tuple #[.int .i64 (l % 86400 / 3600), .int .i64 (l % 86400 % 3600 / 60), .int .i64 (l % 86400 % 60)]) ∧ w = w' := by
  have hb : 0 ≤ abs l ∧ abs l ≤ 18446744073709551615 := by unfold abs; omega
  have HE : Hid (abs l % 86400 = l % 86400) := Lib.hid (by unfold abs; omega)
  have hr : 0 ≤ abs l % 86400 ∧ abs l % 86400 < 86400 := by omega
  go_enter Tryz.func220, Tryz.ntmps220
  go_wp2
  go_ret3
  refine ⟨ret_3 ?_ ?_ ?_, rfl⟩
  all_goals (have := HE.out; omega)
theorem norm_in (hi lo base : Int) (w : World) (h0 : 0 ≤ lo) (h1 : lo < base) (hb : base ≤ 1000000000) :
    Calls Tryz.prog 209 #[.int .i64 hi, .int .i64 lo, .int .i64 base] w fun e w' => e = .returned (.tuple #[.int .i64 hi, .int .i64 lo]) ∧ w = w' := by
  go_enter Tryz.func209, Tryz.ntmps209
  go_wp2
  go_ret2
  exact ⟨rfl, rfl⟩
theorem norm_up (hi lo base : Int) (w : World) (h0 : base ≤ lo) (h1 : lo < 2 * base) (h2 : 0 < base) (hb : base ≤ 1000000000) (h3 : -1000000000000 ≤ hi) (h4 : hi ≤ 1000000000000) :
    Calls Tryz.prog 209 #[.int .i64 hi, .int .i64 lo, .int .i64 base] w fun e w' => e = .returned (.tuple #[.int .i64 (hi + 1), .int .i64 (lo - base)]) ∧ w = w' := by
  have hq : lo / base = 1 := by
    rw [Int.ediv_eq_iff_of_pos h2]; omega
  go_enter Tryz.func209, Tryz.ntmps209
  go_wp2
  go_ret2
  exact ⟨rfl, rfl⟩
theorem toDays_1 (y m d : Int) (h0 : -20000 ≤ y) (h1 : y ≤ 50000) (h2 : 1 ≤ m) (h3 : m ≤ 2) (h4 : 0 ≤ d) (h5 : d ≤ 1000) :
    IntKind.u64.wrap (IntKind.u64.wrap ((IntKind.u64.wrap (146097 * IntKind.u64.wrap ((IntKind.u64.wrap (IntKind.u64.wrap (IntKind.u64.wrap y - 1) + 292277022400)).tdiv 100))).tdiv 4) +
        (1461 * ((IntKind.u64.wrap (IntKind.u64.wrap (IntKind.u64.wrap y - 1) + 292277022400)).tmod 100 % 4294967296) % 4294967296 / 4 + (979 * (m + 12) - 2919) / 32 + d - 1)) = gday y m d := by
  have e1 : IntKind.u64.wrap (IntKind.u64.wrap (IntKind.u64.wrap y - 1) + 292277022400) = y - 1 + 292277022400 := by simp only [u64_mod]; omega
  have e0 : gday y m d = 146097 * ((y - 1 + 292277022400) / 100) / 4 + (1461 * ((y - 1 + 292277022400) % 100) / 4 + (979 * (m + 12) - 2919) / 32) + d - 1 := by unfold gday; rw [if_pos (by omega)]; rfl
  rw [e0, e1, Int.tdiv_eq_ediv_of_nonneg (a := y - 1 + 292277022400) (b := 100) (by omega), Int.tmod_eq_emod_of_nonneg (a := y - 1 + 292277022400) (b := 100) (by omega)]
  have hq : 2922770000 ≤ (y - 1 + 292277022400) / 100 ∧ (y - 1 + 292277022400) / 100 ≤ 2922771000 := by omega
  have hr : 0 ≤ (y - 1 + 292277022400) % 100 ∧ (y - 1 + 292277022400) % 100 ≤ 99 := by omega
  generalize (y - 1 + 292277022400) / 100 = q at *
  generalize (y - 1 + 292277022400) % 100 = r at *
  have e2 : IntKind.u64.wrap (146097 * IntKind.u64.wrap q) = 146097 * q := by simp only [u64_mod]; omega
  have e3 : 1461 * (r % 4294967296) % 4294967296 = 1461 * r := by omega
  rw [e2, e3, Int.tdiv_eq_ediv_of_nonneg (a := 146097 * q) (b := 4) (by omega)]
  have hg : 100000000000000 ≤ 146097 * q / 4 ∧ 146097 * q / 4 ≤ 200000000000000 := by omega
  have hh : 0 ≤ 1461 * r / 4 ∧ 1461 * r / 4 ≤ 40000 := by omega
  have hi : 0 ≤ (979 * (m + 12) - 2919) / 32 ∧ (979 * (m + 12) - 2919) / 32 ≤ 400 := by omega
  generalize 146097 * q / 4 = g at *
  generalize 1461 * r / 4 = k at *
  generalize (979 * (m + 12) - 2919) / 32 = i at *
  clear e0 e1 e2 e3 hq hr
  simp only [u64_mod]
  omega
theorem toDays_0 (y m d : Int) (h0 : -20000 ≤ y) (h1 : y ≤ 50000) (h2 : 3 ≤ m) (h3 : m ≤ 12) (h4 : 0 ≤ d) (h5 : d ≤ 1000) :
    IntKind.u64.wrap (IntKind.u64.wrap ((IntKind.u64.wrap (146097 * IntKind.u64.wrap ((IntKind.u64.wrap (IntKind.u64.wrap (IntKind.u64.wrap y) + 292277022400)).tdiv 100))).tdiv 4) +
        IntKind.u64.wrap ((1461 * ((IntKind.u64.wrap (IntKind.u64.wrap (IntKind.u64.wrap y) + 292277022400)).tmod 100 % 4294967296) % 4294967296 / 4 + (979 * m - 2919) / 32) % 4294967296 + d - 1)) = gday y m d := by
  have e1 : IntKind.u64.wrap (IntKind.u64.wrap (IntKind.u64.wrap y) + 292277022400) = y - 0 + 292277022400 := by simp only [u64_mod]; omega
  have e0 : gday y m d = 146097 * ((y - 0 + 292277022400) / 100) / 4 + (1461 * ((y - 0 + 292277022400) % 100) / 4 + (979 * m - 2919) / 32) + d - 1 := by unfold gday; rw [if_neg (by omega)]; simp
  rw [e0, e1, Int.tdiv_eq_ediv_of_nonneg (a := y - 0 + 292277022400) (b := 100) (by omega), Int.tmod_eq_emod_of_nonneg (a := y - 0 + 292277022400) (b := 100) (by omega)]
  have hq : 2922770000 ≤ (y - 0 + 292277022400) / 100 ∧ (y - 0 + 292277022400) / 100 ≤ 2922771000 := by omega
  have hr : 0 ≤ (y - 0 + 292277022400) % 100 ∧ (y - 0 + 292277022400) % 100 ≤ 99 := by omega
  generalize (y - 0 + 292277022400) / 100 = q at *
  generalize (y - 0 + 292277022400) % 100 = r at *
  have e2 : IntKind.u64.wrap (146097 * IntKind.u64.wrap q) = 146097 * q := by simp only [u64_mod]; omega
  have e3 : 1461 * (r % 4294967296) % 4294967296 = 1461 * r := by omega
  rw [e2, e3, Int.tdiv_eq_ediv_of_nonneg (a := 146097 * q) (b := 4) (by omega)]
  have hg : 100000000000000 ≤ 146097 * q / 4 ∧ 146097 * q / 4 ≤ 200000000000000 := by omega
  have hh : 0 ≤ 1461 * r / 4 ∧ 1461 * r / 4 ≤ 40000 := by omega
  have hi : 0 ≤ (979 * m - 2919) / 32 ∧ (979 * m - 2919) / 32 ≤ 400 := by omega
  generalize 146097 * q / 4 = g at *
  generalize 1461 * r / 4 = k at *
  generalize (979 * m - 2919) / 32 = i at *
  clear e0 e1 e2 e3 hq hr
  have e4 : (k + i) % 4294967296 = k + i := by omega
  rw [e4]
  simp only [u64_mod]
  omega
theorem toDays_any (y m d : Int) (w : World) (h0 : -20000 ≤ y) (h1 : y ≤ 50000) (h2 : 1 ≤ m) (h3 : m ≤ 12) (h4 : 0 ≤ d) (h5 : d ≤ 1000) :
    Calls Tryz.prog 210 #[.int .i64 y, .int .i64 m, .int .i64 d] w fun e w' => e = .returned (.int .u64 (gday y m d)) ∧ w = w' := by
  by_cases h : m < 3
  · have HV := Lib.hid (toDays_1 y m d h0 h1 (by omega) (by omega) h4 h5)
    go_enter Tryz.func210, Tryz.ntmps210
    go_wp2
    go_ret
    exact ⟨ret_i HV.out, rfl⟩
  · have HV := Lib.hid (toDays_0 y m d h0 h1 (by omega) (by omega) h4 h5)
    go_enter Tryz.func210, Tryz.ntmps210
    go_wp2
    go_ret
    exact ⟨ret_i HV.out, rfl⟩
end Go.Proofs.YtmnjmhlodbifjaaGreatDoor.TimeNum
