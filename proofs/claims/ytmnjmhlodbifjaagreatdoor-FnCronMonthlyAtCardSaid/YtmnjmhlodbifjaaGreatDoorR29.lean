/- Plain lemmas: the search for the next activation, step by step: months, days, hours, minutes, seconds. Conditions: a plain zone in the window. · The frame of (*SpecSchedule).Next at its label. Conditions: none. · Plain lemmas: the rounds of the search for the next activation, as the program's own dates. Conditions: a plain zone in the window. -/
import Derived.Test.YtmnjmhlodbifjaaGreatDoorR1
import Derived.Test.YtmnjmhlodbifjaaGreatDoorR28
import Derived.WalkMore
import Derived.ScopeJumps

namespace Go.Proofs.YtmnjmhlodbifjaaGreatDoor.Search
open Go.Proofs.YtmnjmhlodbifjaaGreatDoor.Cal Go.Proofs.YtmnjmhlodbifjaaGreatDoor.Off
structure Sched where
  mon : Int → Bool
  dy : Int → Bool
  hr : Int → Bool
  mi : Int → Bool
  se : Int → Bool
variable (off : Int → Int) (S : Sched)
def monF (x : Int) : Bool := S.mon (mOf (day off x))
def dyF (x : Int) : Bool := S.dy (day off x)
def hrF (x : Int) : Bool := S.hr (tod off x / 3600)
def miF (x : Int) : Bool := S.mi (tod off x % 3600 / 60)
def seF (x : Int) : Bool := S.se (tod off x % 60)
def Fit (x : Int) : Prop := monF off S x = true ∧ dyF off S x = true ∧ hrF off S x = true ∧ miF off S x = true ∧ seF off S x = true
def yr (x : Int) : Int := yOf (day off x)
structure Ctx (A B first hi Y5 : Int) : Prop where
  hP : Plain off A B
  hA : A + 3456000 ≤ first
  hB : hi + 172800 ≤ B
  fh : first ≤ hi
  stop : Fit off S hi ∨ Y5 < yr off hi
structure Seen (first hi t : Int) : Prop where
  le : t ≤ hi
  bef : ∀ x, first ≤ x → x < t → ¬ Fit off S x
  aft : ∀ x, t ≤ x → x < first → ¬ Fit off S x
variable {off : Int → Int} {S : Sched} {A B first hi Y5 : Int}
theorem Ctx.adv (h : Ctx off S A B first hi Y5) {t r : Int} (hs : Seen off S first hi t) (ht : t < r)
    (hn : ∀ y, t ≤ y → y < r → ¬ Fit off S y ∧ yr off y ≤ Y5) : Seen off S first hi r := by
  refine ⟨?_, fun x h1 h2 => ?_, fun x h1 h2 => hs.aft x (by omega) h2⟩
  · by_cases c : r ≤ hi
    · exact c
    · have := hn hi hs.le (by omega)
      rcases h.stop with s | s
      · exact absurd s this.1
      · omega
  · by_cases c : x < t
    · exact hs.bef x h1 c
    · exact (hn x (by omega) h2).1
theorem lo_of (t : Int) : lo off t = 86400 * day off t + tod off t := by unfold day tod; omega
theorem tod_bd (t : Int) : 0 ≤ tod off t ∧ tod off t < 86400 := by unfold tod; omega
theorem day_of {t N : Int} (h : lo off t = 86400 * N) : day off t = N ∧ tod off t = 0 := by unfold day tod; omega
theorem day_of' {t N e : Int} (h : lo off t = 86400 * N + e) (h0 : 0 ≤ e) (h1 : e < 86400) : day off t = N ∧ tod off t = e := by unfold day tod; omega
theorem resolve_day (hP : Plain off A B) {x N : Int} (hA : A + 172800 ≤ x) (hB : x + 172800 ≤ B) (h : lo off x = 86400 * N) : Off.resolve off (86400 * N) = x := by
  have hd := day_of h
  have := resolve_shows hP hA hB (by omega)
  rw [h] at this
  omega
theorem days_back (hP : Plain off A B) (N : Int) (k : Nat) : ∀ {x : Int}, A + 172800 + 90000 * k ≤ x → x ≤ B → lo off x = 86400 * N →
    ∃ z, x - 90000 * k ≤ z ∧ z ≤ x ∧ lo off z = 86400 * (N - k) ∧ ∀ y, z ≤ y → y ≤ x → N - k ≤ day off y ∧ day off y ≤ N := by
  induction k with
  | zero => intro x h1 h2 h3; exact ⟨x, by simp, Int.le_refl _, by rw [h3]; simp, fun y y1 y2 => by
      have := day_of h3
      have e : y = x := by omega
      rw [e]; simp; omega⟩
  | succ k ih =>
    intro x h1 h2 h3
    obtain ⟨z, a1, a2, a3, a4⟩ := ih (x := x) (by omega) h2 h3
    -- the second ahead of z lies in the day before
    have hz := day_of a3
    have hzm : day off (z - 1) = N - k - 1 := by
      have hn := near hP (show A ≤ z - 1 by omega) (show z - 1 ≤ z by omega) (by omega) (by omega)
      unfold day lo at *
      rcases hn with h | ⟨w, w1, w2, w3, w4, c⟩
      · rw [h z (by omega) (by omega)] at *; omega
      · obtain ⟨c1, c2, c3, c4, c5, c6, c7⟩ := c
        have : w = z := by omega
        subst this
        omega
    obtain ⟨v, b1, b2, b3, b4⟩ := day_back hP (s := z - 1) (by omega) (by omega)
    rw [hzm] at b3 b4
    refine ⟨v, by omega, by omega, by rw [b3]; congr 1; omega, fun y y1 y2 => ?_⟩
    by_cases c : y < z
    · have := b4 y y1 (by omega); omega
    · have := a4 y (by omega) y2; omega
theorem days_next (hP : Plain off A B) (N : Int) (hB : hi + 172800 ≤ B) (k : Nat) : ∀ {t : Int}, A ≤ t → t ≤ hi → lo off t = 86400 * N → (day off hi < N ∨ N + k ≤ day off hi) →
    ∃ z, t ≤ z ∧ z ≤ hi ∧ (1 ≤ k → t < z) ∧ lo off z = 86400 * (N + k) ∧ ∀ y, t ≤ y → y < z → N ≤ day off y ∧ day off y < N + k := by
  induction k with
  | zero => intro t h1 h2 h3 h4; exact ⟨t, Int.le_refl _, h2, by omega, by rw [h3]; simp, fun y y1 y2 => by omega⟩
  | succ k ih =>
    intro t h1 h2 h3 h4
    obtain ⟨z, a1, a2, a5, a3, a4⟩ := ih (t := t) h1 h2 h3 (by omega)
    obtain ⟨x, b1, b2, b3, b4⟩ := day_next hP (show A ≤ z by omega) (by omega) a3
    have hm := day_mono hP (a := t) (b := hi) h1 h2 (by omega)
    have ht := day_of h3
    refine ⟨x, by omega, ?_, fun _ => by omega, by rw [b3]; congr 1; omega, fun y y1 y2 => ?_⟩
    · by_cases c : x ≤ hi
      · exact c
      · have := b4 hi a2 (by omega); omega
    · by_cases c : y < z
      · have := a4 y y1 c; omega
      · have := b4 y (by omega) y2; omega
theorem same_days {n k : Int} (h : n - dOf n + 1 ≤ k) (h2 : k < n - dOf n + 1 + mlen (yOf n) (mOf n)) : yOf k = yOf n ∧ mOf k = mOf n := by
  have := same_month n (k - n) (by omega) (by omega)
  rw [show n + (k - n) = k by omega] at this
  exact ⟨this.1, this.2.1⟩
theorem Ctx.first_of (h : Ctx off S A B first hi Y5) :
    lo off (Off.resolve off (86400 * (day off first - dOf (day off first) + 1))) = 86400 * (day off first - dOf (day off first) + 1) ∧
    first - 3000000 ≤ Off.resolve off (86400 * (day off first - dOf (day off first) + 1)) ∧ Off.resolve off (86400 * (day off first - dOf (day off first) + 1)) ≤ first ∧
    ∀ y, Off.resolve off (86400 * (day off first - dOf (day off first) + 1)) ≤ y → y ≤ first → yOf (day off y) = yOf (day off first) ∧ mOf (day off y) = mOf (day off first) := by
  have hA := h.hA
  have hB := h.hB
  have hfh := h.fh
  obtain ⟨⟨d1, d2, d3, d4⟩, -⟩ := date_of (day off first)
  have hml := mlen_bd (yOf (day off first)) (mOf (day off first))
  obtain ⟨x, a1, a2, a3, a4⟩ := day_back h.hP (s := first) (by omega) (by omega)
  obtain ⟨z, b1, b2, b3, b4⟩ := days_back h.hP (day off first) (dOf (day off first) - 1).toNat (x := x) (by omega) (by omega) a3
  rw [show day off first - ((dOf (day off first) - 1).toNat : Int) = day off first - dOf (day off first) + 1 by omega] at b3 b4
  have e := resolve_day h.hP (x := z) (by omega) (by omega) b3
  rw [e]
  refine ⟨b3, by omega, by omega, fun y y1 y2 => ?_⟩
  have hy : day off first - dOf (day off first) + 1 ≤ day off y ∧ day off y ≤ day off first := by
    by_cases c : y ≤ x
    · exact b4 y y1 c
    · have := a4 y (by omega) y2; omega
  exact same_days (by omega) (by omega)
theorem Ctx.month_trunc (h : Ctx off S A B first hi Y5) (hf : monF off S first = false) :
    Seen off S first hi (Off.resolve off (86400 * (day off first - dOf (day off first) + 1))) := by
  obtain ⟨h1, h2, h3, h4⟩ := h.first_of
  have hfh := h.fh
  refine ⟨by omega, fun x x1 x2 => by omega, fun x x1 x2 hx => ?_⟩
  have := (h4 x x1 (by omega)).2
  have hx1 := hx.1
  unfold monF at *
  rw [this] at hx1
  rw [hx1] at hf
  cases hf
theorem Ctx.month_next (h : Ctx off S A B first hi Y5) {t : Int} (hs : Seen off S first hi t) (hlo : first - 3100000 ≤ t) (h0 : tod off t = 0) (h1 : dOf (day off t) = 1) (hf : monF off S t = false) (hy : yr off t ≤ Y5) :
    lo off (Off.resolve off (86400 * (day off t + mlen (yOf (day off t)) (mOf (day off t))))) = 86400 * (day off t + mlen (yOf (day off t)) (mOf (day off t))) ∧
    t < Off.resolve off (86400 * (day off t + mlen (yOf (day off t)) (mOf (day off t)))) ∧ Seen off S first hi (Off.resolve off (86400 * (day off t + mlen (yOf (day off t)) (mOf (day off t))))) := by
  have hA := h.hA
  have hB := h.hB
  have hml := mlen_bd (yOf (day off t)) (mOf (day off t))
  have hno : ∀ y, day off t ≤ day off y → day off y < day off t + mlen (yOf (day off t)) (mOf (day off t)) → ¬ Fit off S y ∧ yr off y ≤ Y5 := fun y y1 y2 => by
    have := same_days (n := day off t) (k := day off y) (by omega) (by omega)
    unfold Fit monF yr at *
    rw [this.1, this.2, hf]
    exact ⟨(fun x => by cases x.1), hy⟩
  have hlt := lo_of (off := off) t
  obtain ⟨z, b1, b2, b3, b4, b5⟩ := days_next h.hP (day off t) h.hB (mlen (yOf (day off t)) (mOf (day off t))).toNat (t := t) (by omega) hs.le (by omega) (by
    by_cases c : day off t ≤ day off hi ∧ day off hi < day off t + mlen (yOf (day off t)) (mOf (day off t))
    · have := hno hi c.1 c.2
      rcases h.stop with s | s
      · exact absurd s this.1
      · omega
    · omega)
  rw [show ((mlen (yOf (day off t)) (mOf (day off t))).toNat : Int) = mlen (yOf (day off t)) (mOf (day off t)) by omega] at b4 b5
  rw [resolve_day h.hP (x := z) (by omega) (by omega) b4]
  exact ⟨b4, b3 (by omega), h.adv hs (b3 (by omega)) fun y y1 y2 => by
    have := b5 y y1 y2
    exact hno y this.1 this.2⟩
theorem Ctx.day_trunc (h : Ctx off S A B first hi Y5) (hf : dyF off S first = false) :
    lo off (Off.resolve off (86400 * day off first)) = 86400 * day off first ∧ first - 90000 ≤ Off.resolve off (86400 * day off first) ∧ Seen off S first hi (Off.resolve off (86400 * day off first)) := by
  have hA := h.hA
  have hB := h.hB
  have hfh := h.fh
  obtain ⟨x, a1, a2, a3, a4⟩ := day_back h.hP (s := first) (by omega) (by omega)
  rw [resolve_day h.hP (x := x) (by omega) (by omega) a3]
  refine ⟨a3, by omega, by omega, fun y y1 y2 => by omega, fun y y1 y2 hx => ?_⟩
  have := a4 y y1 (by omega)
  have hx2 := hx.2.1
  unfold dyF at *
  rw [this, hf] at hx2
  cases hx2
theorem Ctx.day_next (h : Ctx off S A B first hi Y5) {t : Int} (hs : Seen off S first hi t) (hlo : first - 3100000 ≤ t) (h0 : tod off t = 0) (hf : dyF off S t = false) (hy : yr off t ≤ Y5) :
    lo off (Off.resolve off (86400 * (day off t + 1))) = 86400 * (day off t + 1) ∧ t < Off.resolve off (86400 * (day off t + 1)) ∧ Seen off S first hi (Off.resolve off (86400 * (day off t + 1))) := by
  have hA := h.hA
  have hB := h.hB
  have hle := hs.le
  have hlt := lo_of (off := off) t
  obtain ⟨z, b1, b2, b3, b4⟩ := Off.day_next h.hP (t := t) (N := day off t) (by omega) (by omega) (by omega)
  have hS := h.adv hs b1 fun y y1 y2 => by
    have := b4 y y1 y2
    unfold Fit dyF yr at *
    rw [this, hf]
    exact ⟨(fun x => by cases x.2.1), hy⟩
  rw [resolve_day h.hP (x := z) (by omega) (by have := hS.le; omega) b3]
  exact ⟨b3, b1, hS⟩
theorem hour_of {x y : Int} (h : lo off x / 3600 = lo off y / 3600) : tod off x / 3600 = tod off y / 3600 ∧ day off x = day off y := by
  unfold tod day; omega
theorem Ctx.seen_first (h : Ctx off S A B first hi Y5) : Seen off S first hi first := ⟨h.fh, fun x h1 h2 => by omega, fun x h1 h2 => by omega⟩
theorem Ctx.hour_trunc (h : Ctx off S A B first hi Y5) (hf : hrF off S first = false) (hy : yr off first ≤ Y5) :
    lo off (Off.resolve off (lo off first - lo off first % 3600)) = lo off first - lo off first % 3600 ∧ first - 7200 ≤ Off.resolve off (lo off first - lo off first % 3600) ∧
    Seen off S first hi (Off.resolve off (lo off first - lo off first % 3600)) := by
  have hA := h.hA
  have hB := h.hB
  have hfh := h.fh
  have hk := hour_back h.hP (s := first) (by omega) (by omega)
  have hk0 := hk (first - lo off first % 3600) (by omega) (by omega)
  rw [show lo off first - (first - (first - lo off first % 3600)) = lo off first - lo off first % 3600 by omega] at hk0
  have hno : ∀ y, lo off y / 3600 = lo off first / 3600 → ¬ Fit off S y ∧ yr off y ≤ Y5 := fun y hy1 => by
    obtain ⟨e1, e2⟩ := hour_of hy1
    unfold Fit hrF yr at *
    rw [e1, e2, hf]
    exact ⟨(fun x => by cases x.2.2.1), hy⟩
  have hr := resolve_shows h.hP (x := first - lo off first % 3600) (by omega) (by omega) (by omega)
  rw [hk0] at hr
  refine ⟨hr.1, by omega, ?_⟩
  by_cases c : Off.resolve off (lo off first - lo off first % 3600) ≤ first
  · refine ⟨by omega, fun y y1 y2 => by omega, fun y y1 y2 => (hno y ?_).1⟩
    by_cases c2 : y < first - lo off first % 3600
    · rcases hr.2 with e | ⟨e, e2, -⟩ | ⟨e, e2, -⟩
      · omega
      · omega
      · rw [e2 y (by omega) c2]; omega
    · rw [hk y (by omega) (by omega)]; omega
  · refine h.adv h.seen_first (by omega) fun y y1 y2 => hno y ?_
    rcases hr.2 with e | ⟨e, e2, -⟩ | ⟨e, e2, -⟩
    · omega
    · rw [e2 y (by omega) (by omega)]; omega
    · omega
theorem Ctx.hour_next (h : Ctx off S A B first hi Y5) {t : Int} (hs : Seen off S first hi t) (hlo : first - 3100000 ≤ t) (h0 : tod off t % 3600 = 0) (hf : hrF off S t = false) (hy : yr off t ≤ Y5) :
    tod off (t + 3600) % 3600 = 0 ∧ Seen off S first hi (t + 3600) ∧ ((day off (t + 3600) = day off t ∧ 3600 ≤ tod off (t + 3600)) ∨ (day off (t + 3600) = day off t + 1 ∧ tod off (t + 3600) = 0)) := by
  have hA := h.hA
  have hB := h.hB
  have hle := hs.le
  obtain ⟨u1, u2⟩ := unit_step h.hP 3600 (.inr (.inr rfl)) (t := t) (by omega) (by omega) (by unfold tod at h0; omega)
  have h1 := lo_of (off := off) t
  have h2 := lo_of (off := off) (t + 3600)
  have h3 := tod_bd (off := off) t
  have h4 := tod_bd (off := off) (t + 3600)
  refine ⟨?_, h.adv hs (by omega) fun y y1 y2 => ?_, ?_⟩
  · rcases u2 with u2 | ⟨u2, u3, u4, u5, u6⟩ <;> omega
  · have := u1 y y1 y2
    obtain ⟨e1, e2⟩ := hour_of (off := off) (x := y) (y := t) (by omega)
    unfold Fit hrF yr at *
    rw [e1, e2, hf]
    exact ⟨(fun x => by cases x.2.2.1), hy⟩
  · rcases u2 with u2 | ⟨u2, u3, u4, u5, u6⟩ <;> omega
theorem min_of {x y : Int} (h : lo off x / 60 = lo off y / 60) : tod off x % 3600 / 60 = tod off y % 3600 / 60 ∧ tod off x / 3600 = tod off y / 3600 ∧ day off x = day off y := by
  unfold tod day; omega
theorem Ctx.min_trunc (h : Ctx off S A B first hi Y5) (hf : miF off S first = false) :
    tod off (first - tod off first % 60) = tod off first - tod off first % 60 ∧ day off (first - tod off first % 60) = day off first ∧ Seen off S first hi (first - tod off first % 60) := by
  have hA := h.hA
  have hB := h.hB
  have hfh := h.fh
  have hk := minute_back h.hP (s := first) (by omega) (by omega)
  have h1 := lo_of (off := off) first
  have h3 := tod_bd (off := off) first
  have e60 : lo off first % 60 = tod off first % 60 := by omega
  rw [e60] at hk
  have h2 := lo_of (off := off) (first - tod off first % 60)
  have h4 := tod_bd (off := off) (first - tod off first % 60)
  have hk0 := hk (first - tod off first % 60) (by omega) (by omega)
  refine ⟨by omega, by omega, by omega, fun y y1 y2 => by omega, fun y y1 y2 hx => ?_⟩
  have := hk y y1 (by omega)
  obtain ⟨e1, e2, e3⟩ := min_of (off := off) (x := y) (y := first) (by omega)
  have hx2 := hx.2.2.2.1
  unfold miF at *
  rw [e1, hf] at hx2
  cases hx2
theorem Ctx.min_next (h : Ctx off S A B first hi Y5) {t : Int} (hs : Seen off S first hi t) (hlo : first - 3100000 ≤ t) (h0 : tod off t % 60 = 0) (hf : miF off S t = false) (hy : yr off t ≤ Y5) :
    tod off (t + 60) % 60 = 0 ∧ Seen off S first hi (t + 60) ∧ (day off (t + 60) = day off t ∨ (day off (t + 60) = day off t + 1 ∧ tod off (t + 60) = 0)) ∧ ((day off (t + 60) = day off t ∧ tod off (t + 60) / 3600 = tod off t / 3600) ∨ tod off (t + 60) % 3600 = 0) := by
  have hA := h.hA
  have hB := h.hB
  have hle := hs.le
  have h1 := lo_of (off := off) t
  have h2 := lo_of (off := off) (t + 60)
  have h3 := tod_bd (off := off) t
  have h4 := tod_bd (off := off) (t + 60)
  obtain ⟨u1, u2⟩ := unit_step h.hP 60 (.inr (.inl rfl)) (t := t) (by omega) (by omega) (by omega)
  refine ⟨?_, h.adv hs (by omega) fun y y1 y2 => ?_, ?_, ?_⟩
  · rcases u2 with u2 | ⟨u2, u3, u4, u5, u6⟩ <;> omega
  · have := u1 y y1 y2
    obtain ⟨e1, e2, e3⟩ := min_of (off := off) (x := y) (y := t) (by omega)
    unfold Fit miF yr at *
    rw [e1, e3, hf]
    exact ⟨(fun x => by cases x.2.2.2.1), hy⟩
  · rcases u2 with u2 | ⟨u2, u3, u4, u5, u6⟩ <;> omega
  · rcases u2 with u2 | ⟨u2, u3, u4, u5, u6⟩ <;> omega
theorem Ctx.sec_next (h : Ctx off S A B first hi Y5) {t : Int} (hs : Seen off S first hi t) (hlo : first - 3100000 ≤ t) (hf : seF off S t = false) (hy : yr off t ≤ Y5) :
    Seen off S first hi (t + 1) ∧ (day off (t + 1) = day off t ∨ (day off (t + 1) = day off t + 1 ∧ tod off (t + 1) = 0)) ∧ ((day off (t + 1) = day off t ∧ tod off (t + 1) / 3600 = tod off t / 3600) ∨ tod off (t + 1) % 3600 = 0) ∧
    ((day off (t + 1) = day off t ∧ tod off (t + 1) / 60 = tod off t / 60) ∨ tod off (t + 1) % 60 = 0) := by
  have hA := h.hA
  have hB := h.hB
  have hle := hs.le
  have h1 := lo_of (off := off) t
  have h2 := lo_of (off := off) (t + 1)
  have h3 := tod_bd (off := off) t
  have h4 := tod_bd (off := off) (t + 1)
  obtain ⟨u1, u2⟩ := unit_step h.hP 1 (.inl rfl) (t := t) (by omega) (by omega) (by omega)
  refine ⟨h.adv hs (by omega) fun y y1 y2 => ?_, ?_, ?_, ?_⟩
  · have e : y = t := by omega
    rw [e]
    unfold Fit yr at *
    rw [hf]
    exact ⟨(fun x => by cases x.2.2.2.2), hy⟩
  · rcases u2 with u2 | ⟨u2, u3, u4, u5, u6⟩ <;> omega
  · rcases u2 with u2 | ⟨u2, u3, u4, u5, u6⟩ <;> omega
  · rcases u2 with u2 | ⟨u2, u3, u4, u5, u6⟩ <;> omega
end Go.Proofs.YtmnjmhlodbifjaaGreatDoor.Search
namespace Go.Proofs.YtmnjmhlodbifjaaGreatDoor.NextA
open Go Go.RowKit Go.Proofs.YtmnjmhlodbifjaaGreatDoor.TimeNum Go.Proofs.YtmnjmhlodbifjaaGreatDoor.Time
set_option linter.unusedVariables false
set_option maxRecDepth 100000
def frame (sb b rb : Nat) (ol loc : Option Addr) (added : Bool) (lim : Int) (u : Nat → Value) : Act := { tmps := #[.pointer (some ⟨sb, 0, none⟩), u 1, u 2, .pointer (some ⟨b, 0, none⟩), .pointer (some ⟨rb, 0, none⟩), .pointer ol, .pointer loc, .bool added, .int .i64 lim, u 9, u 10, u 11, u 12, u 13, u 14, u 15, u 16, u 17, u 18, u 19, u 20, u 21, u 22, u 23, u 24, u 25, u 26, u 27, u 28, u 29, u 30, u 31, u 32, u 33, u 34, u 35, u 36, u 37, u 38, u 39, u 40, u 41, u 42, u 43, u 44, u 45, u 46, u 47, u 48, u 49, u 50, u 51, u 52, u 53, u 54, u 55, u 56, u 57, u 58, u 59, u 60, u 61, u 62, u 63, u 64, u 65, u 66, u 67, u 68, u 69, u 70, u 71, u 72, u 73, u 74, u 75, u 76, u 77, u 78, u 79, u 80, u 81, u 82, u 83, u 84, u 85, u 86, u 87, u 88, u 89, u 90, u 91, u 92, u 93, u 94, u 95, u 96, u 97, u 98, u 99, u 100, u 101, u 102, u 103, u 104, u 105, u 106, u 107, u 108, u 109, u 110, u 111, u 112, u 113, u 114, u 115, u 116, u 117, u 118, u 119, u 120, u 121, u 122, u 123, u 124, u 125, u 126, u 127, u 128, u 129, u 130, u 131, u 132, u 133, u 134, u 135, u 136, u 137, u 138, u 139, u 140, u 141, u 142, u 143, u 144, u 145, u 146, u 147, u 148, u 149, u 150, u 151, u 152, u 153, u 154, u 155, u 156, u 157, u 158, u 159, u 160, u 161, u 162, u 163, u 164, u 165, u 166, u 167, u 168, u 169, u 170, u 171], defers := [] }
theorem frame_eq (sb b rb : Nat) (ol loc : Option Addr) (added : Bool) (lim : Int) (u : Nat → Value) : frame sb b rb ol loc added lim u = { tmps := #[.pointer (some ⟨sb, 0, none⟩), u 1, u 2, .pointer (some ⟨b, 0, none⟩), .pointer (some ⟨rb, 0, none⟩), .pointer ol, .pointer loc, .bool added, .int .i64 lim, u 9, u 10, u 11, u 12, u 13, u 14, u 15, u 16, u 17, u 18, u 19, u 20, u 21, u 22, u 23, u 24, u 25, u 26, u 27, u 28, u 29, u 30, u 31, u 32, u 33, u 34, u 35, u 36, u 37, u 38, u 39, u 40, u 41, u 42, u 43, u 44, u 45, u 46, u 47, u 48, u 49, u 50, u 51, u 52, u 53, u 54, u 55, u 56, u 57, u 58, u 59, u 60, u 61, u 62, u 63, u 64, u 65, u 66, u 67, u 68, u 69, u 70, u 71, u 72, u 73, u 74, u 75, u 76, u 77, u 78, u 79, u 80, u 81, u 82, u 83, u 84, u 85, u 86, u 87, u 88, u 89, u 90, u 91, u 92, u 93, u 94, u 95, u 96, u 97, u 98, u 99, u 100, u 101, u 102, u 103, u 104, u 105, u 106, u 107, u 108, u 109, u 110, u 111, u 112, u 113, u 114, u 115, u 116, u 117, u 118, u 119, u 120, u 121, u 122, u 123, u 124, u 125, u 126, u 127, u 128, u 129, u 130, u 131, u 132, u 133, u 134, u 135, u 136, u 137, u 138, u 139, u 140, u 141, u 142, u 143, u 144, u 145, u 146, u 147, u 148, u 149, u 150, u 151, u 152, u 153, u 154, u 155, u 156, u 157, u 158, u 159, u 160, u 161, u 162, u 163, u 164, u 165, u 166, u 167, u 168, u 169, u 170, u 171], defers := [] } := rfl
end Go.Proofs.YtmnjmhlodbifjaaGreatDoor.NextA
namespace Go.Proofs.YtmnjmhlodbifjaaGreatDoor.NextP
open Go.Proofs.YtmnjmhlodbifjaaGreatDoor.Cal Go.Proofs.YtmnjmhlodbifjaaGreatDoor.Off Go.Proofs.YtmnjmhlodbifjaaGreatDoor.Search Go.Proofs.YtmnjmhlodbifjaaGreatDoor.Time3
set_option linter.unusedVariables false
structure Good (off : Int → Int) (S : Sched) (first hi : Int) (added : Bool) (t : Int) : Prop where
  seen : Seen off S first hi t
  low : first - 3100000 ≤ t
  ini : added = false → t = first
  mo : added = true → monF off S t = true ∨ (dOf (day off t) = 1 ∧ tod off t = 0)
  dy : added = true → dyF off S t = true ∨ tod off t = 0
  hr : added = true → hrF off S t = true ∨ tod off t % 3600 = 0
  mi : added = true → miF off S t = true ∨ tod off t % 60 = 0
def mu (hi : Int) (added : Bool) (t : Int) : Nat := (hi - t).toNat + if added then 0 else 3456000
variable {off : Int → Int} {S : Sched} {A B first hi Y5 : Int}
theorem mu_lt {added : Bool} {t t1 : Int} (h0 : t1 ≤ hi) (h1 : added = true → t < t1) (h2 : added = false → t - 3200000 < t1) : mu hi true t1 < mu hi added t := by
  cases added
  · have := h2 rfl
    simp only [mu, if_true, Bool.false_eq_true, if_false]
    omega
  · have := h1 rfl
    simp only [mu, if_true]
    omega
theorem clean {x : Int} {t : Int} (h : lo off x = 86400 * t) : day off x = t ∧ tod off x = 0 := day_of h
theorem month_first (h : Ctx off S A B first hi Y5) (hf : monF off S first = false) :
    ∃ t0, dateE off (yOf (day off first)) (mOf (day off first)) 1 0 0 0 = t0 + 62135596800 ∧ Good off S first hi true t0 ∧ monF off S t0 = false ∧ yr off t0 = yr off first ∧ first - 3000000 ≤ t0 ∧ t0 ≤ first ∧ dOf (day off t0) = 1 ∧ tod off t0 = 0 := by
  have hs := h.month_trunc hf
  obtain ⟨h1, h2, h3, h4⟩ := h.first_of
  obtain ⟨hv, hn⟩ := date_of (day off first)
  obtain ⟨m1, m2, m3, m4⟩ := hv
  have e : 86400 * dn2 (yOf (day off first)) (mOf (day off first)) 1 + 3600 * 0 + 60 * 0 + 0 = 86400 * (day off first - dOf (day off first) + 1) := by
    unfold dn2
    rw [if_pos m2]
    unfold dnum at *
    omega
  refine ⟨Off.resolve off (86400 * (day off first - dOf (day off first) + 1)), ?_, ?_⟩
  · unfold dateE
    rw [e]
  · have hc := clean h1
    have h5 := h4 _ (Int.le_refl _) h3
    have hd : dOf (day off first - dOf (day off first) + 1) = 1 := by
      have := (same_month (day off first) (1 - dOf (day off first)) (by omega) (by have := mlen_bd (yOf (day off first)) (mOf (day off first)); omega)).2.2
      rw [show day off first + (1 - dOf (day off first)) = day off first - dOf (day off first) + 1 by omega] at this
      omega
    refine ⟨⟨hs, by omega, (fun x => by cases x), fun _ => .inr ⟨?_, hc.2⟩, fun _ => .inr hc.2, fun _ => .inr (by omega), fun _ => .inr (by omega)⟩, ?_, ?_, h2, h3, ?_, hc.2⟩
    · rw [hc.1]; exact hd
    · unfold monF at *
      rw [h5.2]; exact hf
    · unfold yr
      rw [h5.1]
    · rw [hc.1]; exact hd
theorem month_up (h : Ctx off S A B first hi Y5) {t : Int} (hg : Good off S first hi true t) (hf : monF off S t = false) (hy : yr off t ≤ Y5) :
    ∃ t1, dateE off (yOf (day off t)) (mOf (day off t) + 1) (dOf (day off t) + 0) (tod off t / 3600) (tod off t % 3600 / 60) (tod off t % 60) = t1 + 62135596800 ∧ Good off S first hi true t1 ∧ t < t1 ∧ (mOf (day off t1) = 1 ∨ yr off t1 = yr off t) := by
  have hd := hg.mo rfl
  rw [hf] at hd
  obtain ⟨hd1, hd0⟩ : dOf (day off t) = 1 ∧ tod off t = 0 := by simpa using hd
  obtain ⟨h1, h2, h3⟩ := h.month_next hg.seen hg.low hd0 hd1 hf hy
  obtain ⟨hv, hn⟩ := date_of (day off t)
  obtain ⟨m1, m2, m3, m4⟩ := hv
  have e1 : day off t - dOf (day off t) + 1 + mlen (yOf (day off t)) (mOf (day off t)) = day off t + mlen (yOf (day off t)) (mOf (day off t)) := by omega
  have hc := clean h1
  have hnew : dOf (day off t + mlen (yOf (day off t)) (mOf (day off t))) = 1 ∧ (mOf (day off t + mlen (yOf (day off t)) (mOf (day off t))) = 1 ∨ yOf (day off t + mlen (yOf (day off t)) (mOf (day off t))) = yOf (day off t)) ∧ dn2 (yOf (day off t)) (mOf (day off t) + 1) (dOf (day off t) + 0) = day off t + mlen (yOf (day off t)) (mOf (day off t)) := by
    have hcs := cum_succ (yOf (day off t)) (mOf (day off t)) m1 m2
    by_cases c : mOf (day off t) < 12
    · have := next_month (day off t) c
      rw [e1] at this
      refine ⟨this.2.2, .inr this.1, ?_⟩
      unfold dn2
      rw [if_pos (by omega)]
      unfold dnum at *
      omega
    · have c12 : mOf (day off t) = 12 := by omega
      have := next_year (day off t) c12
      rw [e1] at this
      refine ⟨this.2.2, .inl this.2.1, ?_⟩
      unfold dn2
      rw [if_neg (by omega)]
      have a := ys_succ (yOf (day off t))
      have b := cum_13 (yOf (day off t))
      have g := cum_one (yOf (day off t) + 1)
      rw [c12, show (12 : Int) + 1 = 13 by omega] at hcs
      rw [c12] at hn ⊢
      unfold dnum at *
      omega
  refine ⟨Off.resolve off (86400 * (day off t + mlen (yOf (day off t)) (mOf (day off t)))), ?_, ?_⟩
  rotate_left
  · refine ⟨⟨h3, by have := hg.low; omega, (fun x => by cases x), fun _ => .inr ⟨?_, hc.2⟩, fun _ => .inr hc.2, fun _ => .inr (by omega), fun _ => .inr (by omega)⟩, h2, ?_⟩
    · rw [hc.1]; exact hnew.1
    · unfold yr
      rw [hc.1]; exact hnew.2.1
  · unfold dateE
    rw [hnew.2.2, hd0]
    congr 2
    omega
theorem day_first (h : Ctx off S A B first hi Y5) (hm : monF off S first = true) (hf : dyF off S first = false) :
    ∃ t0, dateE off (yOf (day off first)) (mOf (day off first)) (dOf (day off first)) 0 0 0 = t0 + 62135596800 ∧ Good off S first hi true t0 ∧ monF off S t0 = true ∧ dyF off S t0 = false ∧ yr off t0 = yr off first ∧ first - 90000 ≤ t0 ∧ t0 ≤ hi := by
  obtain ⟨h1, h2, hs⟩ := h.day_trunc hf
  obtain ⟨⟨m1, m2, m3, m4⟩, hn⟩ := date_of (day off first)
  have hc := clean h1
  have hm0 : monF off S (Off.resolve off (86400 * day off first)) = true := by unfold monF at *; rw [hc.1]; exact hm
  refine ⟨Off.resolve off (86400 * day off first), ?_, ⟨hs, by omega, (fun x => by cases x), fun _ => .inl hm0, fun _ => .inr hc.2, fun _ => .inr (by omega), fun _ => .inr (by omega)⟩, hm0, ?_, ?_, h2, hs.le⟩
  · unfold dateE dn2
    rw [if_pos m2, hn]
    congr 2
    omega
  · unfold dyF at *; rw [hc.1]; exact hf
  · unfold yr; rw [hc.1]
theorem day_up (h : Ctx off S A B first hi Y5) {t : Int} (hg : Good off S first hi true t) (hm : monF off S t = true) (hf : dyF off S t = false) (hy : yr off t ≤ Y5) :
    ∃ t1, dateE off (yOf (day off t)) (mOf (day off t) + 0) (dOf (day off t) + 1) (tod off t / 3600) (tod off t % 3600 / 60) (tod off t % 60) = t1 + 62135596800 ∧ Good off S first hi true t1 ∧ t < t1 ∧ tod off t1 = 0 ∧ (dOf (day off t1) = 1 ∨ (monF off S t1 = true ∧ yr off t1 = yr off t)) := by
  have hd := hg.dy rfl
  rw [hf] at hd
  have hd0 : tod off t = 0 := by simpa using hd
  obtain ⟨h1, h2, h3⟩ := h.day_next hg.seen hg.low hd0 hf hy
  obtain ⟨⟨m1, m2, m3, m4⟩, hn⟩ := date_of (day off t)
  have hc := clean h1
  have hnew : dOf (day off t + 1) = 1 ∨ (mOf (day off t + 1) = mOf (day off t) ∧ yOf (day off t + 1) = yOf (day off t)) := by
    by_cases c : dOf (day off t) < mlen (yOf (day off t)) (mOf (day off t))
    · have := same_month (day off t) 1 (by omega) (by omega)
      exact .inr ⟨this.2.1, this.1⟩
    · refine .inl ?_
      have e1 : day off t - dOf (day off t) + 1 + mlen (yOf (day off t)) (mOf (day off t)) = day off t + 1 := by omega
      by_cases c2 : mOf (day off t) < 12
      · have := next_month (day off t) c2
        rw [e1] at this; exact this.2.2
      · have := next_year (day off t) (by omega)
        rw [e1] at this; exact this.2.2
  have hor : dOf (day off (Off.resolve off (86400 * (day off t + 1)))) = 1 ∨ (monF off S (Off.resolve off (86400 * (day off t + 1))) = true ∧ yr off (Off.resolve off (86400 * (day off t + 1))) = yr off t) := by
    rw [hc.1]
    rcases hnew with e | ⟨e, e2⟩
    · exact .inl e
    · refine .inr ⟨?_, ?_⟩
      · unfold monF at *; rw [hc.1, e]; exact hm
      · unfold yr; rw [hc.1, e2]
  refine ⟨Off.resolve off (86400 * (day off t + 1)), ?_, ⟨h3, by have := hg.low; omega, (fun x => by cases x), fun _ => ?_, fun _ => .inr hc.2, fun _ => .inr (by omega), fun _ => .inr (by omega)⟩, h2, hc.2, hor⟩
  · unfold dateE dn2
    rw [if_pos (by omega), show dnum (yOf (day off t)) (mOf (day off t) + 0) (dOf (day off t) + 1) = day off t + 1 by unfold dnum at *; rw [show mOf (day off t) + 0 = mOf (day off t) by omega]; omega, hd0]
    congr 2
    omega
  · rcases hor with e | e
    · exact .inr ⟨e, hc.2⟩
    · exact .inl e.1
theorem hour_first (h : Ctx off S A B first hi Y5) (hm : monF off S first = true) (hd : dyF off S first = true) (hf : hrF off S first = false) (hy : yr off first ≤ Y5) :
    ∃ t0, dateE off (yOf (day off first)) (mOf (day off first)) (dOf (day off first)) (tod off first / 3600) 0 0 = t0 + 62135596800 ∧ Good off S first hi true t0 ∧ monF off S t0 = true ∧ dyF off S t0 = true ∧ hrF off S t0 = false ∧ yr off t0 = yr off first ∧ first - 7200 ≤ t0 ∧ t0 ≤ hi := by
  obtain ⟨h1, h2, hs⟩ := h.hour_trunc hf hy
  obtain ⟨⟨m1, m2, m3, m4⟩, hn⟩ := date_of (day off first)
  have hl := lo_of (off := off) first
  have ht := tod_bd (off := off) first
  have hc := day_of' (off := off) (t := Off.resolve off (lo off first - lo off first % 3600)) (N := day off first) (e := tod off first / 3600 * 3600) (by rw [h1]; omega) (by omega) (by omega)
  have hm0 : monF off S (Off.resolve off (lo off first - lo off first % 3600)) = true := by unfold monF at *; rw [hc.1]; exact hm
  have hd0 : dyF off S (Off.resolve off (lo off first - lo off first % 3600)) = true := by unfold dyF at *; rw [hc.1]; exact hd
  refine ⟨Off.resolve off (lo off first - lo off first % 3600), ?_, ⟨hs, by omega, (fun x => by cases x), fun _ => .inl hm0, fun _ => .inl hd0, fun _ => .inr (by rw [hc.2]; omega), fun _ => .inr (by rw [hc.2]; omega)⟩, hm0, hd0, ?_, ?_, h2, hs.le⟩
  · unfold dateE dn2
    rw [if_pos m2, hn]
    congr 2
    omega
  · unfold hrF at *; rw [hc.2, show tod off first / 3600 * 3600 / 3600 = tod off first / 3600 by omega]; exact hf
  · unfold yr; rw [hc.1]
theorem hour_up (h : Ctx off S A B first hi Y5) {t : Int} (hg : Good off S first hi true t) (hm : monF off S t = true) (hd : dyF off S t = true) (hf : hrF off S t = false) (hy : yr off t ≤ Y5) :
    Good off S first hi true (t + 3600) ∧ (tod off (t + 3600) / 3600 = 0 ∨ (monF off S (t + 3600) = true ∧ dyF off S (t + 3600) = true ∧ yr off (t + 3600) = yr off t)) := by
  have hd' := hg.hr rfl
  rw [hf] at hd'
  have hd0 : tod off t % 3600 = 0 := by simpa using hd'
  obtain ⟨h1, h2, h3⟩ := h.hour_next hg.seen hg.low hd0 hf hy
  obtain ⟨⟨m1, m2, m3, m4⟩, hn⟩ := date_of (day off t)
  have hg0 := hg.low
  rcases h3 with ⟨e, e2⟩ | ⟨e, e2⟩
  · have a : monF off S (t + 3600) = true := by unfold monF at *; rw [e]; exact hm
    have b : dyF off S (t + 3600) = true := by unfold dyF at *; rw [e]; exact hd
    exact ⟨⟨h2, by omega, (fun x => by cases x), fun _ => .inl a, fun _ => .inl b, fun _ => .inr h1, fun _ => .inr (by omega)⟩, .inr ⟨a, b, by unfold yr; rw [e]⟩⟩
  · refine ⟨⟨h2, by omega, (fun x => by cases x), fun _ => ?_, fun _ => .inr e2, fun _ => .inr h1, fun _ => .inr (by omega)⟩, .inl (by omega)⟩
    by_cases c : dOf (day off t) < mlen (yOf (day off t)) (mOf (day off t))
    · have := same_month (day off t) 1 (by omega) (by omega)
      refine .inl ?_
      unfold monF at *
      rw [e, this.2.1]; exact hm
    · refine .inr ⟨?_, e2⟩
      have e1 : day off t - dOf (day off t) + 1 + mlen (yOf (day off t)) (mOf (day off t)) = day off t + 1 := by omega
      rw [e]
      by_cases c2 : mOf (day off t) < 12
      · have := next_month (day off t) c2
        rw [e1] at this; exact this.2.2
      · have := next_year (day off t) (by omega)
        rw [e1] at this; exact this.2.2
theorem same_or_next {t t1 : Int} (hm : monF off S t = true) (hd : dyF off S t = true) (h : day off t1 = day off t ∨ (day off t1 = day off t + 1 ∧ tod off t1 = 0)) :
    (monF off S t1 = true ∨ (dOf (day off t1) = 1 ∧ tod off t1 = 0)) ∧ (dyF off S t1 = true ∨ tod off t1 = 0) := by
  obtain ⟨⟨m1, m2, m3, m4⟩, hn⟩ := date_of (day off t)
  rcases h with e | ⟨e, e2⟩
  · exact ⟨.inl (by unfold monF at *; rw [e]; exact hm), .inl (by unfold dyF at *; rw [e]; exact hd)⟩
  · refine ⟨?_, .inr e2⟩
    by_cases c : dOf (day off t) < mlen (yOf (day off t)) (mOf (day off t))
    · have := same_month (day off t) 1 (by omega) (by omega)
      refine .inl ?_
      unfold monF at *
      rw [e, this.2.1]; exact hm
    · refine .inr ⟨?_, e2⟩
      have e1 : day off t - dOf (day off t) + 1 + mlen (yOf (day off t)) (mOf (day off t)) = day off t + 1 := by omega
      rw [e]
      by_cases c2 : mOf (day off t) < 12
      · have := next_month (day off t) c2
        rw [e1] at this; exact this.2.2
      · have := next_year (day off t) (by omega)
        rw [e1] at this; exact this.2.2
theorem min_first (h : Ctx off S A B first hi Y5) (h60 : off first % 60 = 0) (hm : monF off S first = true) (hd : dyF off S first = true) (hh : hrF off S first = true) (hf : miF off S first = false) :
    ∃ t0, first + 62135596800 - (first + 62135596800) % 60 = t0 + 62135596800 ∧ Good off S first hi true t0 ∧ monF off S t0 = true ∧ dyF off S t0 = true ∧ hrF off S t0 = true ∧ miF off S t0 = false ∧ yr off t0 = yr off first ∧ first - 60 ≤ t0 ∧ t0 ≤ hi := by
  obtain ⟨h1, h2, hs⟩ := h.min_trunc hf
  have hl := lo_of (off := off) first
  have ht := tod_bd (off := off) first
  have hm0 : monF off S (first - tod off first % 60) = true := by unfold monF at *; rw [h2]; exact hm
  have hd0 : dyF off S (first - tod off first % 60) = true := by unfold dyF at *; rw [h2]; exact hd
  have hh0 : hrF off S (first - tod off first % 60) = true := by unfold hrF at *; rw [h1, show (tod off first - tod off first % 60) / 3600 = tod off first / 3600 by omega]; exact hh
  have hlo : lo off first = first + off first := rfl
  refine ⟨first - tod off first % 60, by omega, ⟨hs, by omega, (fun x => by cases x), fun _ => .inl hm0, fun _ => .inl hd0, fun _ => .inl hh0, fun _ => .inr (by omega)⟩, hm0, hd0, hh0, ?_, ?_, by omega, hs.le⟩
  · unfold miF at *; rw [h1, show (tod off first - tod off first % 60) % 3600 / 60 = tod off first % 3600 / 60 by omega]; exact hf
  · unfold yr; rw [h2]
theorem min_up (h : Ctx off S A B first hi Y5) {t : Int} (hg : Good off S first hi true t) (hm : monF off S t = true) (hd : dyF off S t = true) (hh : hrF off S t = true) (hf : miF off S t = false) (hy : yr off t ≤ Y5) :
    Good off S first hi true (t + 60) ∧ (tod off (t + 60) % 3600 / 60 = 0 ∨ (monF off S (t + 60) = true ∧ dyF off S (t + 60) = true ∧ hrF off S (t + 60) = true ∧ yr off (t + 60) = yr off t)) := by
  have hd' := hg.mi rfl
  rw [hf] at hd'
  have hd0 : tod off t % 60 = 0 := by simpa using hd'
  obtain ⟨h1, h2, h3, h4⟩ := h.min_next hg.seen hg.low hd0 hf hy
  have hg0 := hg.low
  obtain ⟨a, b⟩ := same_or_next (S := S) hm hd h3
  rcases h4 with ⟨e, e2⟩ | e2
  · have c : hrF off S (t + 60) = true := by unfold hrF at *; rw [e2]; exact hh
    exact ⟨⟨h2, by omega, (fun x => by cases x), fun _ => a, fun _ => b, fun _ => .inl c, fun _ => .inr h1⟩, .inr ⟨by unfold monF at *; rw [e]; exact hm, by unfold dyF at *; rw [e]; exact hd, c, by unfold yr; rw [e]⟩⟩
  · exact ⟨⟨h2, by omega, (fun x => by cases x), fun _ => a, fun _ => b, fun _ => .inr e2, fun _ => .inr h1⟩, .inl (by omega)⟩
theorem sec_first (h : Ctx off S A B first hi Y5) (hg : Good off S first hi false first) (hm : monF off S first = true) (hd : dyF off S first = true) (hh : hrF off S first = true) (hi' : miF off S first = true) :
    Good off S first hi true first :=
  ⟨hg.seen, by omega, (fun x => by cases x), fun _ => .inl hm, fun _ => .inl hd, fun _ => .inl hh, fun _ => .inl hi'⟩
theorem sec_up (h : Ctx off S A B first hi Y5) {t : Int} (hg : Good off S first hi true t) (hm : monF off S t = true) (hd : dyF off S t = true) (hh : hrF off S t = true) (hmi : miF off S t = true) (hf : seF off S t = false) (hy : yr off t ≤ Y5) :
    Good off S first hi true (t + 1) ∧ (tod off (t + 1) % 60 = 0 ∨ (monF off S (t + 1) = true ∧ dyF off S (t + 1) = true ∧ hrF off S (t + 1) = true ∧ miF off S (t + 1) = true ∧ yr off (t + 1) = yr off t)) := by
  obtain ⟨h2, h3, h4, h5⟩ := h.sec_next hg.seen hg.low hf hy
  have hg0 := hg.low
  obtain ⟨a, b⟩ := same_or_next (S := S) hm hd h3
  have hH : hrF off S (t + 1) = true ∨ tod off (t + 1) % 3600 = 0 := by
    rcases h4 with ⟨e, e2⟩ | e2
    · exact .inl (by unfold hrF at *; rw [e2]; exact hh)
    · exact .inr e2
  rcases h5 with ⟨e, e2⟩ | e2
  · have ee : tod off (t + 1) % 3600 / 60 = tod off t % 3600 / 60 := by omega
    have eh : tod off (t + 1) / 3600 = tod off t / 3600 := by omega
    have c : miF off S (t + 1) = true := by unfold miF at *; rw [ee]; exact hmi
    exact ⟨⟨h2, by omega, (fun x => by cases x), fun _ => a, fun _ => b, fun _ => hH, fun _ => .inl c⟩, .inr ⟨by unfold monF at *; rw [e]; exact hm, by unfold dyF at *; rw [e]; exact hd, by unfold hrF at *; rw [eh]; exact hh, c, by unfold yr; rw [e]⟩⟩
  · exact ⟨⟨h2, by omega, (fun x => by cases x), fun _ => a, fun _ => b, fun _ => hH, fun _ => .inr e2⟩, .inl e2⟩
end Go.Proofs.YtmnjmhlodbifjaaGreatDoor.NextP
