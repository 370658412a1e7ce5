/- What the star's sets hold; UTC; the laws of FnCronDaysOfMonth. Conditions: none. -/
import Derived.Test.YtoekefbclkmchaaBnd
import Derived.Test.YtoekefbclkmchaaInst
import Derived.Test.YtoekefbclkmchaaDayImpl
import Derived.Test.YtoekefbclkmchaaSetOf
namespace Go.Proofs.Ytoekefbclkmchaa.Stars
open Go Go.RowKit Go.Proofs.Ytoekefbclkmchaa.Bits Go.Proofs.Ytoekefbclkmchaa.GetBits Go.Proofs.Ytoekefbclkmchaa.Bnd Go.Proofs.Ytoekefbclkmchaa.Moment Go.Proofs.Ytoekefbclkmchaa.DayM Go.Proofs.Ytoekefbclkmchaa.Cal Go.Proofs.Ytoekefbclkmchaa.Off Go.Proofs.Ytoekefbclkmchaa.TimeNum Go.Proofs.Ytoekefbclkmchaa.Zone Go.Proofs.Ytoekefbclkmchaa.Zone2 Go.Proofs.Ytoekefbclkmchaa.Inst
set_option linter.unusedVariables false

theorem star_u64 (k : Nat) : U64 (starSet k) := bset_bd _
theorem has_bset (p : Nat → Bool) (i : Nat) (h : i < 64) : has (bset p) (i : Int) = p i := by
  unfold has
  rw [Int.toNat_natCast, testBit_toNat_bset]
  simp [h]
theorem star_mark (k : Nat) : has (starSet k) 63 = true := by
  have := has_bset (fun i => inRange (lowOf k) (highOf k) 1 i || decide (i = 63)) 63 (by omega)
  rw [show ((63 : Nat) : Int) = 63 from rfl] at this
  unfold starSet
  rw [this]; simp
theorem star_has (k : Nat) (v : Int) (h0 : (lowOf k : Int) ≤ v) (h1 : v ≤ (highOf k : Int)) (h2 : highOf k ≤ 62) : has (starSet k) v = true := by
  obtain ⟨n, rfl⟩ := Int.eq_ofNat_of_zero_le (show 0 ≤ v by omega)
  unfold starSet
  rw [has_bset _ n (by omega)]
  simp [inRange, Nat.mod_one]
  omega

/-- UTC as a zone that comes in. -/
def utc : Raw := ⟨none, none, none, none, 0, 0, 0, 0, fun _ => 0, fun _ => false, fun _ => 0, fun _ => 0⟩
theorem utc_at (w : World) : utc.At w := by
  constructor <;> first | (intro k hk; exact absurd hk (Nat.not_lt_zero k)) | (show (0 : Nat) ≤ 2147483647; omega)
theorem utc_ok : utc.Ok := .inl ⟨rfl, rfl, rfl, rfl⟩
theorem utc_off : Raw.off utc = fun _ => 0 := off_utc rfl
theorem utc_day (n x : Int) (h0 : 0 ≤ x) (h1 : x < 86400) : day (Raw.off utc) (86400 * n + x) = n := by
  rw [utc_off]
  show (86400 * n + x + 0) / 86400 = n
  omega

theorem cronUTC_any (w : World) :
    Calls Try.prog 20 #[] w fun e w' => e = .returned (.agg #[.slice none 0 0, .slice none 0 0, .slice none 0 0, .slice none 0 0]) ∧ Below w.heap.size w w' := by
  go_enter Try.func20, Try.ntmps20
  go_wp2
  refine bodyPost_ret (v := .agg #[.slice none 0 0, .slice none 0 0, .slice none 0 0, .slice none 0 0]) ?hres rfl ?_
  case hres => simp [results, Try.results20, go_sem, *]
  exact ⟨rfl, (Below.refl _ _).alloc (Nat.le_refl _) _⟩

/-- By the day of the month alone. -/
theorem by_dom (dom n : Int) : dayOK dom (starSet 5) n = has dom (dOf n) := by
  unfold dayOK
  rw [star_mark]
  have h : has (starSet 5) (wdOf n) = true := star_has 5 _ (by show (0 : Int) ≤ _; unfold wdOf; omega) (by show _ ≤ (6 : Int); unfold wdOf; omega) (by decide)
  simp [h]
/-- By the day of the week alone. -/
theorem by_dow (dow n : Int) : dayOK (starSet 3) dow n = has dow (wdOf n) := by
  unfold dayOK
  rw [star_mark]
  have hv := (date_of n).1
  have hm := mlen_bd (yOf n) (mOf n)
  have h : has (starSet 3) (dOf n) = true := star_has 3 _ (by show (1 : Int) ≤ _; exact hv.2.2.1) (by show _ ≤ (31 : Int); have := hv.2.2.2; omega) (by decide)
  simp [h]
theorem by_both (n : Int) : dayOK (starSet 3) (starSet 5) n = true := by
  rw [by_dow]
  exact star_has 5 _ (by show (0 : Int) ≤ _; unfold wdOf; omega) (by show _ ≤ (6 : Int); unfold wdOf; omega) (by decide)

/-- How many of the first k days from n on have a weekday in the set. -/
def b1 (b : Bool) : Int := if b then 1 else 0
def cw (dow n : Int) : Nat → Int
  | 0 => 0
  | k + 1 => cw dow n k + b1 (has dow (wdOf (n + k)))
def wk (dow : Int) : Nat → Int
  | 0 => 0
  | k + 1 => wk dow k + b1 (has dow (k : Int))
theorem b1_bd (b : Bool) : 0 ≤ b1 b ∧ b1 b ≤ 1 := by cases b <;> simp [b1]
theorem cw_bd (dow n : Int) (k : Nat) : 0 ≤ cw dow n k ∧ cw dow n k ≤ k := by
  induction k with
  | zero => simp [cw]
  | succ k ih => have := b1_bd (has dow (wdOf (n + k))); simp only [cw]; omega
theorem wk_bd (dow : Int) (k : Nat) : 0 ≤ wk dow k ∧ wk dow k ≤ k := by
  induction k with
  | zero => simp [wk]
  | succ k ih => have := b1_bd (has dow (k : Int)); simp only [wk]; omega
theorem cw_seven (dow n : Int) : cw dow n 7 = wk dow 7 := by
  simp only [cw, wk]
  have h : wdOf n = 0 ∨ wdOf n = 1 ∨ wdOf n = 2 ∨ wdOf n = 3 ∨ wdOf n = 4 ∨ wdOf n = 5 ∨ wdOf n = 6 := by unfold wdOf; omega
  have hk : ∀ j : Int, wdOf (n + j) = (wdOf n + j) % 7 := fun j => by unfold wdOf; omega
  simp only [hk]
  rcases h with h | h | h | h | h | h | h <;> rw [h] <;> simp <;> omega
theorem cw_add (dow n : Int) (k : Nat) : cw dow n (7 + k) = cw dow n 7 + cw dow (n + 7) k := by
  induction k with
  | zero => simp [cw]
  | succ k ih =>
    rw [show 7 + (k + 1) = (7 + k) + 1 by omega]
    simp only [cw] at ih ⊢
    rw [ih]
    rw [show n + ((7 + k : Nat) : Int) = n + 7 + (k : Int) by omega]
    omega
theorem cw_28 (dow n : Int) : cw dow n 28 = 4 * wk dow 7 := by
  rw [show (28 : Nat) = 7 + 21 from rfl, cw_add, show (21 : Nat) = 7 + 14 from rfl, cw_add, show (14 : Nat) = 7 + 7 from rfl, cw_add, cw_seven, cw_seven, cw_seven, cw_seven]
  omega

theorem shr_num (S : Int) (v : Nat) (hS : U64 S) (hv : v ≤ 63) : Go.bits .and .u64 (S / 2 ^ v) 1 = b1 (has S (v : Int)) := by
  have h1 := Go.Proofs.Ytoekefbclkmchaa.SetOf.shr_bit S v hS hv
  have h0 : 0 ≤ S / 2 ^ v := Int.ediv_nonneg hS.1 (Int.le_of_lt (Int.pow_pos (by decide)))
  have h2 : S / 2 ^ v ≤ S := Int.ediv_le_self _ hS.1
  have h := and_bit (S / 2 ^ v) 0 h0 (by have := hS.2; omega) (by omega) (by omega)
  have hc : Go.bits .and .u64 (S / 2 ^ v) 1 = Go.bits .and .u64 (IntKind.u64.wrap (2 ^ (0 : Int).toNat)) (S / 2 ^ v) := by
    have e := Bits.eq_bset (S / 2 ^ v) h0 (by have := hS.2; omega)
    rw [Bits.wrap_pow]
    have e2 : (1 : Int) = Bits.bset fun i => decide (i = 0) := by rw [← Bits.wrap_pow]; decide
    conv => lhs; rw [e2, e]
    conv => rhs; rw [e]
    rw [Bits.bits_and, Bits.bits_and]
    exact Bits.bset_congr fun i _ => by rw [Bool.and_comm]; rfl
  rw [← h1]
  rw [hc, h]
  split <;> simp [b1]

/-- The rule of the days, in UTC. -/
theorem utcDay_any (dom dow n x : Int) (w : World) (hd : U64 dom) (hw : U64 dow) (n0 : -8000000 ≤ n) (n1 : n ≤ 8000000) (x0 : 0 ≤ x) (x1 : x < 86400) :
    Calls Try.prog 15 #[.int .u64 dom, .int .u64 dow, .agg #[.int .i64 (86400 * n + x), .int .i64 0], .agg #[.slice none 0 0, .slice none 0 0, .slice none 0 0, .slice none 0 0]] w fun e w' => e = .returned (.bool (dayOK dom dow n)) ∧ Below w.heap.size w w' := by
  have h := Go.Proofs.Ytoekefbclkmchaa.DayImpl.implDay_any utc 0 0 0 0 dom dow (86400 * n + x) 0 w (utc_at w) utc_ok hd hw (by omega) (by omega) (by omega) (by omega)
  rw [utc_day n x x0 x1] at h
  exact h

end Go.Proofs.Ytoekefbclkmchaa.Stars
