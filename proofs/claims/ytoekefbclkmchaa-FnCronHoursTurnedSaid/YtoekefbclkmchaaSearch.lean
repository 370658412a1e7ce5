/- Plain lemmas: the search for the next activation, step by step: months, days, hours, minutes, seconds. Conditions: a plain zone in the window. -/
import Derived.Test.YtoekefbclkmchaaCal
import Derived.Test.YtoekefbclkmchaaOff
namespace Go.Proofs.Ytoekefbclkmchaa.Search
open Go.Proofs.Ytoekefbclkmchaa.Cal Go.Proofs.Ytoekefbclkmchaa.Off

/-- What a schedule allows: months, days by their number, hours, minutes, seconds. -/
structure Sched where
  mon : Int → Bool
  dy : Int → Bool
  hr : Int → Bool
  mi : Int → Bool
  se : Int → Bool

variable (off : Int → Int) (S : Sched)
def monF (x : Int) : Bool := S.mon (mOf (day off x))
def dyF (x : Int) : Bool := S.dy (day off x)
def hrF (x : Int) : Bool := S.hr (tod off x / 3600)
def miF (x : Int) : Bool := S.mi (tod off x % 3600 / 60)
def seF (x : Int) : Bool := S.se (tod off x % 60)
def Fit (x : Int) : Prop := monF off S x = true ∧ dyF off S x = true ∧ hrF off S x = true ∧ miF off S x = true ∧ seF off S x = true
/-- The year that the clocks show. -/
def yr (x : Int) : Int := yOf (day off x)

structure Ctx (A B first hi Y5 : Int) : Prop where
  hP : Plain off A B
  hA : A + 3456000 ≤ first
  hB : hi + 172800 ≤ B
  fh : first ≤ hi
  stop : Fit off S hi ∨ Y5 < yr off hi

/-- Nothing between the beginning and t. -/
structure Seen (first hi t : Int) : Prop where
  le : t ≤ hi
  bef : ∀ x, first ≤ x → x < t → ¬ Fit off S x
  aft : ∀ x, t ≤ x → x < first → ¬ Fit off S x

variable {off : Int → Int} {S : Sched} {A B first hi Y5 : Int}

theorem Ctx.adv (h : Ctx off S A B first hi Y5) {t r : Int} (hs : Seen off S first hi t) (ht : t < r)
    (hn : ∀ y, t ≤ y → y < r → ¬ Fit off S y ∧ yr off y ≤ Y5) : Seen off S first hi r := by
  refine ⟨?_, fun x h1 h2 => ?_, fun x h1 h2 => hs.aft x (by omega) h2⟩
  · by_cases c : r ≤ hi
    · exact c
    · have := hn hi hs.le (by omega)
      rcases h.stop with s | s
      · exact absurd s this.1
      · omega
  · by_cases c : x < t
    · exact hs.bef x h1 c
    · exact (hn x (by omega) h2).1

theorem lo_of (t : Int) : lo off t = 86400 * day off t + tod off t := by unfold day tod; omega
theorem tod_bd (t : Int) : 0 ≤ tod off t ∧ tod off t < 86400 := by unfold tod; omega
theorem day_of {t N : Int} (h : lo off t = 86400 * N) : day off t = N ∧ tod off t = 0 := by unfold day tod; omega
theorem day_of' {t N e : Int} (h : lo off t = 86400 * N + e) (h0 : 0 ≤ e) (h1 : e < 86400) : day off t = N ∧ tod off t = e := by unfold day tod; omega

/-- A day's beginning is found. -/
theorem resolve_day (hP : Plain off A B) {x N : Int} (hA : A + 172800 ≤ x) (hB : x + 172800 ≤ B) (h : lo off x = 86400 * N) : Off.resolve off (86400 * N) = x := by
  have hd := day_of h
  have := resolve_shows hP hA hB (by omega)
  rw [h] at this
  omega

theorem days_back (hP : Plain off A B) (N : Int) (k : Nat) : ∀ {x : Int}, A + 172800 + 90000 * k ≤ x → x ≤ B → lo off x = 86400 * N →
    ∃ z, x - 90000 * k ≤ z ∧ z ≤ x ∧ lo off z = 86400 * (N - k) ∧ ∀ y, z ≤ y → y ≤ x → N - k ≤ day off y ∧ day off y ≤ N := by
  induction k with
  | zero => intro x h1 h2 h3; exact ⟨x, by simp, Int.le_refl _, by rw [h3]; simp, fun y y1 y2 => by
      have := day_of h3
      have e : y = x := by omega
      rw [e]; simp; omega⟩
  | succ k ih =>
    intro x h1 h2 h3
    obtain ⟨z, a1, a2, a3, a4⟩ := ih (x := x) (by omega) h2 h3
    -- the second ahead of z lies in the day before
    have hz := day_of a3
    have hzm : day off (z - 1) = N - k - 1 := by
      have hn := near hP (show A ≤ z - 1 by omega) (show z - 1 ≤ z by omega) (by omega) (by omega)
      unfold day lo at *
      rcases hn with h | ⟨w, w1, w2, w3, w4, c⟩
      · rw [h z (by omega) (by omega)] at *; omega
      · obtain ⟨c1, c2, c3, c4, c5, c6, c7⟩ := c
        have : w = z := by omega
        subst this
        omega
    obtain ⟨v, b1, b2, b3, b4⟩ := day_back hP (s := z - 1) (by omega) (by omega)
    rw [hzm] at b3 b4
    refine ⟨v, by omega, by omega, by rw [b3]; congr 1; omega, fun y y1 y2 => ?_⟩
    by_cases c : y < z
    · have := b4 y y1 (by omega); omega
    · have := a4 y (by omega) y2; omega

theorem days_next (hP : Plain off A B) (N : Int) (hB : hi + 172800 ≤ B) (k : Nat) : ∀ {t : Int}, A ≤ t → t ≤ hi → lo off t = 86400 * N → (day off hi < N ∨ N + k ≤ day off hi) →
    ∃ z, t ≤ z ∧ z ≤ hi ∧ (1 ≤ k → t < z) ∧ lo off z = 86400 * (N + k) ∧ ∀ y, t ≤ y → y < z → N ≤ day off y ∧ day off y < N + k := by
  induction k with
  | zero => intro t h1 h2 h3 h4; exact ⟨t, Int.le_refl _, h2, by omega, by rw [h3]; simp, fun y y1 y2 => by omega⟩
  | succ k ih =>
    intro t h1 h2 h3 h4
    obtain ⟨z, a1, a2, a5, a3, a4⟩ := ih (t := t) h1 h2 h3 (by omega)
    obtain ⟨x, b1, b2, b3, b4⟩ := day_next hP (show A ≤ z by omega) (by omega) a3
    have hm := day_mono hP (a := t) (b := hi) h1 h2 (by omega)
    have ht := day_of h3
    refine ⟨x, by omega, ?_, fun _ => by omega, by rw [b3]; congr 1; omega, fun y y1 y2 => ?_⟩
    · by_cases c : x ≤ hi
      · exact c
      · have := b4 hi a2 (by omega); omega
    · by_cases c : y < z
      · have := a4 y y1 c; omega
      · have := b4 y (by omega) y2; omega

theorem same_days {n k : Int} (h : n - dOf n + 1 ≤ k) (h2 : k < n - dOf n + 1 + mlen (yOf n) (mOf n)) : yOf k = yOf n ∧ mOf k = mOf n := by
  have := same_month n (k - n) (by omega) (by omega)
  rw [show n + (k - n) = k by omega] at this
  exact ⟨this.1, this.2.1⟩

/-- The first day of a month, ahead of second x. -/
theorem Ctx.first_of (h : Ctx off S A B first hi Y5) :
    lo off (Off.resolve off (86400 * (day off first - dOf (day off first) + 1))) = 86400 * (day off first - dOf (day off first) + 1) ∧
    first - 3000000 ≤ Off.resolve off (86400 * (day off first - dOf (day off first) + 1)) ∧ Off.resolve off (86400 * (day off first - dOf (day off first) + 1)) ≤ first ∧
    ∀ y, Off.resolve off (86400 * (day off first - dOf (day off first) + 1)) ≤ y → y ≤ first → yOf (day off y) = yOf (day off first) ∧ mOf (day off y) = mOf (day off first) := by
  have hA := h.hA
  have hB := h.hB
  have hfh := h.fh
  obtain ⟨⟨d1, d2, d3, d4⟩, -⟩ := date_of (day off first)
  have hml := mlen_bd (yOf (day off first)) (mOf (day off first))
  obtain ⟨x, a1, a2, a3, a4⟩ := day_back h.hP (s := first) (by omega) (by omega)
  obtain ⟨z, b1, b2, b3, b4⟩ := days_back h.hP (day off first) (dOf (day off first) - 1).toNat (x := x) (by omega) (by omega) a3
  rw [show day off first - ((dOf (day off first) - 1).toNat : Int) = day off first - dOf (day off first) + 1 by omega] at b3 b4
  have e := resolve_day h.hP (x := z) (by omega) (by omega) b3
  rw [e]
  refine ⟨b3, by omega, by omega, fun y y1 y2 => ?_⟩
  have hy : day off first - dOf (day off first) + 1 ≤ day off y ∧ day off y ≤ day off first := by
    by_cases c : y ≤ x
    · exact b4 y y1 c
    · have := a4 y (by omega) y2; omega
  exact same_days (by omega) (by omega)

/-! ### The month -/
theorem Ctx.month_trunc (h : Ctx off S A B first hi Y5) (hf : monF off S first = false) :
    Seen off S first hi (Off.resolve off (86400 * (day off first - dOf (day off first) + 1))) := by
  obtain ⟨h1, h2, h3, h4⟩ := h.first_of
  have hfh := h.fh
  refine ⟨by omega, fun x x1 x2 => by omega, fun x x1 x2 hx => ?_⟩
  have := (h4 x x1 (by omega)).2
  have hx1 := hx.1
  unfold monF at *
  rw [this] at hx1
  rw [hx1] at hf
  cases hf
theorem Ctx.month_next (h : Ctx off S A B first hi Y5) {t : Int} (hs : Seen off S first hi t) (hlo : first - 3100000 ≤ t) (h0 : tod off t = 0) (h1 : dOf (day off t) = 1) (hf : monF off S t = false) (hy : yr off t ≤ Y5) :
    lo off (Off.resolve off (86400 * (day off t + mlen (yOf (day off t)) (mOf (day off t))))) = 86400 * (day off t + mlen (yOf (day off t)) (mOf (day off t))) ∧
    t < Off.resolve off (86400 * (day off t + mlen (yOf (day off t)) (mOf (day off t)))) ∧ Seen off S first hi (Off.resolve off (86400 * (day off t + mlen (yOf (day off t)) (mOf (day off t))))) := by
  have hA := h.hA
  have hB := h.hB
  have hml := mlen_bd (yOf (day off t)) (mOf (day off t))
  have hno : ∀ y, day off t ≤ day off y → day off y < day off t + mlen (yOf (day off t)) (mOf (day off t)) → ¬ Fit off S y ∧ yr off y ≤ Y5 := fun y y1 y2 => by
    have := same_days (n := day off t) (k := day off y) (by omega) (by omega)
    unfold Fit monF yr at *
    rw [this.1, this.2, hf]
    exact ⟨(fun x => by cases x.1), hy⟩
  have hlt := lo_of (off := off) t
  obtain ⟨z, b1, b2, b3, b4, b5⟩ := days_next h.hP (day off t) h.hB (mlen (yOf (day off t)) (mOf (day off t))).toNat (t := t) (by omega) hs.le (by omega) (by
    by_cases c : day off t ≤ day off hi ∧ day off hi < day off t + mlen (yOf (day off t)) (mOf (day off t))
    · have := hno hi c.1 c.2
      rcases h.stop with s | s
      · exact absurd s this.1
      · omega
    · omega)
  rw [show ((mlen (yOf (day off t)) (mOf (day off t))).toNat : Int) = mlen (yOf (day off t)) (mOf (day off t)) by omega] at b4 b5
  rw [resolve_day h.hP (x := z) (by omega) (by omega) b4]
  exact ⟨b4, b3 (by omega), h.adv hs (b3 (by omega)) fun y y1 y2 => by
    have := b5 y y1 y2
    exact hno y this.1 this.2⟩

/-! ### The day -/
theorem Ctx.day_trunc (h : Ctx off S A B first hi Y5) (hf : dyF off S first = false) :
    lo off (Off.resolve off (86400 * day off first)) = 86400 * day off first ∧ first - 90000 ≤ Off.resolve off (86400 * day off first) ∧ Seen off S first hi (Off.resolve off (86400 * day off first)) := by
  have hA := h.hA
  have hB := h.hB
  have hfh := h.fh
  obtain ⟨x, a1, a2, a3, a4⟩ := day_back h.hP (s := first) (by omega) (by omega)
  rw [resolve_day h.hP (x := x) (by omega) (by omega) a3]
  refine ⟨a3, by omega, by omega, fun y y1 y2 => by omega, fun y y1 y2 hx => ?_⟩
  have := a4 y y1 (by omega)
  have hx2 := hx.2.1
  unfold dyF at *
  rw [this, hf] at hx2
  cases hx2
theorem Ctx.day_next (h : Ctx off S A B first hi Y5) {t : Int} (hs : Seen off S first hi t) (hlo : first - 3100000 ≤ t) (h0 : tod off t = 0) (hf : dyF off S t = false) (hy : yr off t ≤ Y5) :
    lo off (Off.resolve off (86400 * (day off t + 1))) = 86400 * (day off t + 1) ∧ t < Off.resolve off (86400 * (day off t + 1)) ∧ Seen off S first hi (Off.resolve off (86400 * (day off t + 1))) := by
  have hA := h.hA
  have hB := h.hB
  have hle := hs.le
  have hlt := lo_of (off := off) t
  obtain ⟨z, b1, b2, b3, b4⟩ := Off.day_next h.hP (t := t) (N := day off t) (by omega) (by omega) (by omega)
  have hS := h.adv hs b1 fun y y1 y2 => by
    have := b4 y y1 y2
    unfold Fit dyF yr at *
    rw [this, hf]
    exact ⟨(fun x => by cases x.2.1), hy⟩
  rw [resolve_day h.hP (x := z) (by omega) (by have := hS.le; omega) b3]
  exact ⟨b3, b1, hS⟩

/-! ### The hour -/
theorem hour_of {x y : Int} (h : lo off x / 3600 = lo off y / 3600) : tod off x / 3600 = tod off y / 3600 ∧ day off x = day off y := by
  unfold tod day; omega
theorem Ctx.seen_first (h : Ctx off S A B first hi Y5) : Seen off S first hi first := ⟨h.fh, fun x h1 h2 => by omega, fun x h1 h2 => by omega⟩
theorem Ctx.hour_trunc (h : Ctx off S A B first hi Y5) (hf : hrF off S first = false) (hy : yr off first ≤ Y5) :
    lo off (Off.resolve off (lo off first - lo off first % 3600)) = lo off first - lo off first % 3600 ∧ first - 7200 ≤ Off.resolve off (lo off first - lo off first % 3600) ∧
    Seen off S first hi (Off.resolve off (lo off first - lo off first % 3600)) := by
  have hA := h.hA
  have hB := h.hB
  have hfh := h.fh
  have hk := hour_back h.hP (s := first) (by omega) (by omega)
  have hk0 := hk (first - lo off first % 3600) (by omega) (by omega)
  rw [show lo off first - (first - (first - lo off first % 3600)) = lo off first - lo off first % 3600 by omega] at hk0
  have hno : ∀ y, lo off y / 3600 = lo off first / 3600 → ¬ Fit off S y ∧ yr off y ≤ Y5 := fun y hy1 => by
    obtain ⟨e1, e2⟩ := hour_of hy1
    unfold Fit hrF yr at *
    rw [e1, e2, hf]
    exact ⟨(fun x => by cases x.2.2.1), hy⟩
  have hr := resolve_shows h.hP (x := first - lo off first % 3600) (by omega) (by omega) (by omega)
  rw [hk0] at hr
  refine ⟨hr.1, by omega, ?_⟩
  by_cases c : Off.resolve off (lo off first - lo off first % 3600) ≤ first
  · refine ⟨by omega, fun y y1 y2 => by omega, fun y y1 y2 => (hno y ?_).1⟩
    by_cases c2 : y < first - lo off first % 3600
    · rcases hr.2 with e | ⟨e, e2, -⟩ | ⟨e, e2, -⟩
      · omega
      · omega
      · rw [e2 y (by omega) c2]; omega
    · rw [hk y (by omega) (by omega)]; omega
  · refine h.adv h.seen_first (by omega) fun y y1 y2 => hno y ?_
    rcases hr.2 with e | ⟨e, e2, -⟩ | ⟨e, e2, -⟩
    · omega
    · rw [e2 y (by omega) (by omega)]; omega
    · omega
/-- On to the next hour. -/
theorem Ctx.hour_next (h : Ctx off S A B first hi Y5) {t : Int} (hs : Seen off S first hi t) (hlo : first - 3100000 ≤ t) (h0 : tod off t % 3600 = 0) (hf : hrF off S t = false) (hy : yr off t ≤ Y5) :
    tod off (t + 3600) % 3600 = 0 ∧ Seen off S first hi (t + 3600) ∧ ((day off (t + 3600) = day off t ∧ 3600 ≤ tod off (t + 3600)) ∨ (day off (t + 3600) = day off t + 1 ∧ tod off (t + 3600) = 0)) := by
  have hA := h.hA
  have hB := h.hB
  have hle := hs.le
  obtain ⟨u1, u2⟩ := unit_step h.hP 3600 (.inr (.inr rfl)) (t := t) (by omega) (by omega) (by unfold tod at h0; omega)
  have h1 := lo_of (off := off) t
  have h2 := lo_of (off := off) (t + 3600)
  have h3 := tod_bd (off := off) t
  have h4 := tod_bd (off := off) (t + 3600)
  refine ⟨?_, h.adv hs (by omega) fun y y1 y2 => ?_, ?_⟩
  · rcases u2 with u2 | ⟨u2, u3, u4, u5, u6⟩ <;> omega
  · have := u1 y y1 y2
    obtain ⟨e1, e2⟩ := hour_of (off := off) (x := y) (y := t) (by omega)
    unfold Fit hrF yr at *
    rw [e1, e2, hf]
    exact ⟨(fun x => by cases x.2.2.1), hy⟩
  · rcases u2 with u2 | ⟨u2, u3, u4, u5, u6⟩ <;> omega

/-! ### The minute -/
theorem min_of {x y : Int} (h : lo off x / 60 = lo off y / 60) : tod off x % 3600 / 60 = tod off y % 3600 / 60 ∧ tod off x / 3600 = tod off y / 3600 ∧ day off x = day off y := by
  unfold tod day; omega
theorem Ctx.min_trunc (h : Ctx off S A B first hi Y5) (hf : miF off S first = false) :
    tod off (first - tod off first % 60) = tod off first - tod off first % 60 ∧ day off (first - tod off first % 60) = day off first ∧ Seen off S first hi (first - tod off first % 60) := by
  have hA := h.hA
  have hB := h.hB
  have hfh := h.fh
  have hk := minute_back h.hP (s := first) (by omega) (by omega)
  have h1 := lo_of (off := off) first
  have h3 := tod_bd (off := off) first
  have e60 : lo off first % 60 = tod off first % 60 := by omega
  rw [e60] at hk
  have h2 := lo_of (off := off) (first - tod off first % 60)
  have h4 := tod_bd (off := off) (first - tod off first % 60)
  have hk0 := hk (first - tod off first % 60) (by omega) (by omega)
  refine ⟨by omega, by omega, by omega, fun y y1 y2 => by omega, fun y y1 y2 hx => ?_⟩
  have := hk y y1 (by omega)
  obtain ⟨e1, e2, e3⟩ := min_of (off := off) (x := y) (y := first) (by omega)
  have hx2 := hx.2.2.2.1
  unfold miF at *
  rw [e1, hf] at hx2
  cases hx2
/-- On to the next minute: with a minute above 0 it is of the same hour; else an hour begins, of the same day, or a day. -/
theorem Ctx.min_next (h : Ctx off S A B first hi Y5) {t : Int} (hs : Seen off S first hi t) (hlo : first - 3100000 ≤ t) (h0 : tod off t % 60 = 0) (hf : miF off S t = false) (hy : yr off t ≤ Y5) :
    tod off (t + 60) % 60 = 0 ∧ Seen off S first hi (t + 60) ∧ (day off (t + 60) = day off t ∨ (day off (t + 60) = day off t + 1 ∧ tod off (t + 60) = 0)) ∧ ((day off (t + 60) = day off t ∧ tod off (t + 60) / 3600 = tod off t / 3600) ∨ tod off (t + 60) % 3600 = 0) := by
  have hA := h.hA
  have hB := h.hB
  have hle := hs.le
  have h1 := lo_of (off := off) t
  have h2 := lo_of (off := off) (t + 60)
  have h3 := tod_bd (off := off) t
  have h4 := tod_bd (off := off) (t + 60)
  obtain ⟨u1, u2⟩ := unit_step h.hP 60 (.inr (.inl rfl)) (t := t) (by omega) (by omega) (by omega)
  refine ⟨?_, h.adv hs (by omega) fun y y1 y2 => ?_, ?_, ?_⟩
  · rcases u2 with u2 | ⟨u2, u3, u4, u5, u6⟩ <;> omega
  · have := u1 y y1 y2
    obtain ⟨e1, e2, e3⟩ := min_of (off := off) (x := y) (y := t) (by omega)
    unfold Fit miF yr at *
    rw [e1, e3, hf]
    exact ⟨(fun x => by cases x.2.2.2.1), hy⟩
  · rcases u2 with u2 | ⟨u2, u3, u4, u5, u6⟩ <;> omega
  · rcases u2 with u2 | ⟨u2, u3, u4, u5, u6⟩ <;> omega

/-! ### The second -/
theorem Ctx.sec_next (h : Ctx off S A B first hi Y5) {t : Int} (hs : Seen off S first hi t) (hlo : first - 3100000 ≤ t) (hf : seF off S t = false) (hy : yr off t ≤ Y5) :
    Seen off S first hi (t + 1) ∧ (day off (t + 1) = day off t ∨ (day off (t + 1) = day off t + 1 ∧ tod off (t + 1) = 0)) ∧ ((day off (t + 1) = day off t ∧ tod off (t + 1) / 3600 = tod off t / 3600) ∨ tod off (t + 1) % 3600 = 0) ∧
    ((day off (t + 1) = day off t ∧ tod off (t + 1) / 60 = tod off t / 60) ∨ tod off (t + 1) % 60 = 0) := by
  have hA := h.hA
  have hB := h.hB
  have hle := hs.le
  have h1 := lo_of (off := off) t
  have h2 := lo_of (off := off) (t + 1)
  have h3 := tod_bd (off := off) t
  have h4 := tod_bd (off := off) (t + 1)
  obtain ⟨u1, u2⟩ := unit_step h.hP 1 (.inl rfl) (t := t) (by omega) (by omega) (by omega)
  refine ⟨h.adv hs (by omega) fun y y1 y2 => ?_, ?_, ?_, ?_⟩
  · have e : y = t := by omega
    rw [e]
    unfold Fit yr at *
    rw [hf]
    exact ⟨(fun x => by cases x.2.2.2.2), hy⟩
  · rcases u2 with u2 | ⟨u2, u3, u4, u5, u6⟩ <;> omega
  · rcases u2 with u2 | ⟨u2, u3, u4, u5, u6⟩ <;> omega
  · rcases u2 with u2 | ⟨u2, u3, u4, u5, u6⟩ <;> omega

end Go.Proofs.Ytoekefbclkmchaa.Search
