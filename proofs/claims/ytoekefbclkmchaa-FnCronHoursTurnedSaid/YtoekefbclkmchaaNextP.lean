/- Plain lemmas: the rounds of the search for the next activation, as the program's own dates. Conditions: a plain zone in the window. -/
import Derived.Test.YtoekefbclkmchaaSearch
import Derived.Test.YtoekefbclkmchaaTime3
namespace Go.Proofs.Ytoekefbclkmchaa.NextP
open Go.Proofs.Ytoekefbclkmchaa.Cal Go.Proofs.Ytoekefbclkmchaa.Off Go.Proofs.Ytoekefbclkmchaa.Search Go.Proofs.Ytoekefbclkmchaa.Time3
set_option linter.unusedVariables false

/-- What is known of the time in hand. -/
structure Good (off : Int → Int) (S : Sched) (first hi : Int) (added : Bool) (t : Int) : Prop where
  seen : Seen off S first hi t
  low : first - 3100000 ≤ t
  ini : added = false → t = first
  mo : added = true → monF off S t = true ∨ (dOf (day off t) = 1 ∧ tod off t = 0)
  dy : added = true → dyF off S t = true ∨ tod off t = 0
  hr : added = true → hrF off S t = true ∨ tod off t % 3600 = 0
  mi : added = true → miF off S t = true ∨ tod off t % 60 = 0

def mu (hi : Int) (added : Bool) (t : Int) : Nat := (hi - t).toNat + if added then 0 else 3456000

variable {off : Int → Int} {S : Sched} {A B first hi Y5 : Int}

theorem mu_lt {added : Bool} {t t1 : Int} (h0 : t1 ≤ hi) (h1 : added = true → t < t1) (h2 : added = false → t - 3200000 < t1) : mu hi true t1 < mu hi added t := by
  cases added
  · have := h2 rfl
    simp only [mu, if_true, Bool.false_eq_true, if_false]
    omega
  · have := h1 rfl
    simp only [mu, if_true]
    omega

theorem clean {x : Int} {t : Int} (h : lo off x = 86400 * t) : day off x = t ∧ tod off x = 0 := day_of h

/-! ### The month -/
theorem month_first (h : Ctx off S A B first hi Y5) (hf : monF off S first = false) :
    ∃ t0, dateE off (yOf (day off first)) (mOf (day off first)) 1 0 0 0 = t0 + 62135596800 ∧ Good off S first hi true t0 ∧ monF off S t0 = false ∧ yr off t0 = yr off first ∧ first - 3000000 ≤ t0 ∧ t0 ≤ first ∧ dOf (day off t0) = 1 ∧ tod off t0 = 0 := by
  have hs := h.month_trunc hf
  obtain ⟨h1, h2, h3, h4⟩ := h.first_of
  obtain ⟨hv, hn⟩ := date_of (day off first)
  obtain ⟨m1, m2, m3, m4⟩ := hv
  have e : 86400 * dn2 (yOf (day off first)) (mOf (day off first)) 1 + 3600 * 0 + 60 * 0 + 0 = 86400 * (day off first - dOf (day off first) + 1) := by
    unfold dn2
    rw [if_pos m2]
    unfold dnum at *
    omega
  refine ⟨Off.resolve off (86400 * (day off first - dOf (day off first) + 1)), ?_, ?_⟩
  · unfold dateE
    rw [e]
  · have hc := clean h1
    have h5 := h4 _ (Int.le_refl _) h3
    have hd : dOf (day off first - dOf (day off first) + 1) = 1 := by
      have := (same_month (day off first) (1 - dOf (day off first)) (by omega) (by have := mlen_bd (yOf (day off first)) (mOf (day off first)); omega)).2.2
      rw [show day off first + (1 - dOf (day off first)) = day off first - dOf (day off first) + 1 by omega] at this
      omega
    refine ⟨⟨hs, by omega, (fun x => by cases x), fun _ => .inr ⟨?_, hc.2⟩, fun _ => .inr hc.2, fun _ => .inr (by omega), fun _ => .inr (by omega)⟩, ?_, ?_, h2, h3, ?_, hc.2⟩
    · rw [hc.1]; exact hd
    · unfold monF at *
      rw [h5.2]; exact hf
    · unfold yr
      rw [h5.1]
    · rw [hc.1]; exact hd

theorem month_up (h : Ctx off S A B first hi Y5) {t : Int} (hg : Good off S first hi true t) (hf : monF off S t = false) (hy : yr off t ≤ Y5) :
    ∃ t1, dateE off (yOf (day off t)) (mOf (day off t) + 1) (dOf (day off t) + 0) (tod off t / 3600) (tod off t % 3600 / 60) (tod off t % 60) = t1 + 62135596800 ∧ Good off S first hi true t1 ∧ t < t1 ∧ (mOf (day off t1) = 1 ∨ yr off t1 = yr off t) := by
  have hd := hg.mo rfl
  rw [hf] at hd
  obtain ⟨hd1, hd0⟩ : dOf (day off t) = 1 ∧ tod off t = 0 := by simpa using hd
  obtain ⟨h1, h2, h3⟩ := h.month_next hg.seen hg.low hd0 hd1 hf hy
  obtain ⟨hv, hn⟩ := date_of (day off t)
  obtain ⟨m1, m2, m3, m4⟩ := hv
  have e1 : day off t - dOf (day off t) + 1 + mlen (yOf (day off t)) (mOf (day off t)) = day off t + mlen (yOf (day off t)) (mOf (day off t)) := by omega
  have hc := clean h1
  have hnew : dOf (day off t + mlen (yOf (day off t)) (mOf (day off t))) = 1 ∧ (mOf (day off t + mlen (yOf (day off t)) (mOf (day off t))) = 1 ∨ yOf (day off t + mlen (yOf (day off t)) (mOf (day off t))) = yOf (day off t)) ∧ dn2 (yOf (day off t)) (mOf (day off t) + 1) (dOf (day off t) + 0) = day off t + mlen (yOf (day off t)) (mOf (day off t)) := by
    have hcs := cum_succ (yOf (day off t)) (mOf (day off t)) m1 m2
    by_cases c : mOf (day off t) < 12
    · have := next_month (day off t) c
      rw [e1] at this
      refine ⟨this.2.2, .inr this.1, ?_⟩
      unfold dn2
      rw [if_pos (by omega)]
      unfold dnum at *
      omega
    · have c12 : mOf (day off t) = 12 := by omega
      have := next_year (day off t) c12
      rw [e1] at this
      refine ⟨this.2.2, .inl this.2.1, ?_⟩
      unfold dn2
      rw [if_neg (by omega)]
      have a := ys_succ (yOf (day off t))
      have b := cum_13 (yOf (day off t))
      have g := cum_one (yOf (day off t) + 1)
      rw [c12, show (12 : Int) + 1 = 13 by omega] at hcs
      rw [c12] at hn ⊢
      unfold dnum at *
      omega
  refine ⟨Off.resolve off (86400 * (day off t + mlen (yOf (day off t)) (mOf (day off t)))), ?_, ?_⟩
  rotate_left
  · refine ⟨⟨h3, by have := hg.low; omega, (fun x => by cases x), fun _ => .inr ⟨?_, hc.2⟩, fun _ => .inr hc.2, fun _ => .inr (by omega), fun _ => .inr (by omega)⟩, h2, ?_⟩
    · rw [hc.1]; exact hnew.1
    · unfold yr
      rw [hc.1]; exact hnew.2.1
  · unfold dateE
    rw [hnew.2.2, hd0]
    congr 2
    omega

/-! ### The day -/
theorem day_first (h : Ctx off S A B first hi Y5) (hm : monF off S first = true) (hf : dyF off S first = false) :
    ∃ t0, dateE off (yOf (day off first)) (mOf (day off first)) (dOf (day off first)) 0 0 0 = t0 + 62135596800 ∧ Good off S first hi true t0 ∧ monF off S t0 = true ∧ dyF off S t0 = false ∧ yr off t0 = yr off first ∧ first - 90000 ≤ t0 ∧ t0 ≤ hi := by
  obtain ⟨h1, h2, hs⟩ := h.day_trunc hf
  obtain ⟨⟨m1, m2, m3, m4⟩, hn⟩ := date_of (day off first)
  have hc := clean h1
  have hm0 : monF off S (Off.resolve off (86400 * day off first)) = true := by unfold monF at *; rw [hc.1]; exact hm
  refine ⟨Off.resolve off (86400 * day off first), ?_, ⟨hs, by omega, (fun x => by cases x), fun _ => .inl hm0, fun _ => .inr hc.2, fun _ => .inr (by omega), fun _ => .inr (by omega)⟩, hm0, ?_, ?_, h2, hs.le⟩
  · unfold dateE dn2
    rw [if_pos m2, hn]
    congr 2
    omega
  · unfold dyF at *; rw [hc.1]; exact hf
  · unfold yr; rw [hc.1]

theorem day_up (h : Ctx off S A B first hi Y5) {t : Int} (hg : Good off S first hi true t) (hm : monF off S t = true) (hf : dyF off S t = false) (hy : yr off t ≤ Y5) :
    ∃ t1, dateE off (yOf (day off t)) (mOf (day off t) + 0) (dOf (day off t) + 1) (tod off t / 3600) (tod off t % 3600 / 60) (tod off t % 60) = t1 + 62135596800 ∧ Good off S first hi true t1 ∧ t < t1 ∧ tod off t1 = 0 ∧ (dOf (day off t1) = 1 ∨ (monF off S t1 = true ∧ yr off t1 = yr off t)) := by
  have hd := hg.dy rfl
  rw [hf] at hd
  have hd0 : tod off t = 0 := by simpa using hd
  obtain ⟨h1, h2, h3⟩ := h.day_next hg.seen hg.low hd0 hf hy
  obtain ⟨⟨m1, m2, m3, m4⟩, hn⟩ := date_of (day off t)
  have hc := clean h1
  have hnew : dOf (day off t + 1) = 1 ∨ (mOf (day off t + 1) = mOf (day off t) ∧ yOf (day off t + 1) = yOf (day off t)) := by
    by_cases c : dOf (day off t) < mlen (yOf (day off t)) (mOf (day off t))
    · have := same_month (day off t) 1 (by omega) (by omega)
      exact .inr ⟨this.2.1, this.1⟩
    · refine .inl ?_
      have e1 : day off t - dOf (day off t) + 1 + mlen (yOf (day off t)) (mOf (day off t)) = day off t + 1 := by omega
      by_cases c2 : mOf (day off t) < 12
      · have := next_month (day off t) c2
        rw [e1] at this; exact this.2.2
      · have := next_year (day off t) (by omega)
        rw [e1] at this; exact this.2.2
  have hor : dOf (day off (Off.resolve off (86400 * (day off t + 1)))) = 1 ∨ (monF off S (Off.resolve off (86400 * (day off t + 1))) = true ∧ yr off (Off.resolve off (86400 * (day off t + 1))) = yr off t) := by
    rw [hc.1]
    rcases hnew with e | ⟨e, e2⟩
    · exact .inl e
    · refine .inr ⟨?_, ?_⟩
      · unfold monF at *; rw [hc.1, e]; exact hm
      · unfold yr; rw [hc.1, e2]
  refine ⟨Off.resolve off (86400 * (day off t + 1)), ?_, ⟨h3, by have := hg.low; omega, (fun x => by cases x), fun _ => ?_, fun _ => .inr hc.2, fun _ => .inr (by omega), fun _ => .inr (by omega)⟩, h2, hc.2, hor⟩
  · unfold dateE dn2
    rw [if_pos (by omega), show dnum (yOf (day off t)) (mOf (day off t) + 0) (dOf (day off t) + 1) = day off t + 1 by unfold dnum at *; rw [show mOf (day off t) + 0 = mOf (day off t) by omega]; omega, hd0]
    congr 2
    omega
  · rcases hor with e | e
    · exact .inr ⟨e, hc.2⟩
    · exact .inl e.1

/-! ### The hour -/
theorem hour_first (h : Ctx off S A B first hi Y5) (hm : monF off S first = true) (hd : dyF off S first = true) (hf : hrF off S first = false) (hy : yr off first ≤ Y5) :
    ∃ t0, dateE off (yOf (day off first)) (mOf (day off first)) (dOf (day off first)) (tod off first / 3600) 0 0 = t0 + 62135596800 ∧ Good off S first hi true t0 ∧ monF off S t0 = true ∧ dyF off S t0 = true ∧ hrF off S t0 = false ∧ yr off t0 = yr off first ∧ first - 7200 ≤ t0 ∧ t0 ≤ hi := by
  obtain ⟨h1, h2, hs⟩ := h.hour_trunc hf hy
  obtain ⟨⟨m1, m2, m3, m4⟩, hn⟩ := date_of (day off first)
  have hl := lo_of (off := off) first
  have ht := tod_bd (off := off) first
  have hc := day_of' (off := off) (t := Off.resolve off (lo off first - lo off first % 3600)) (N := day off first) (e := tod off first / 3600 * 3600) (by rw [h1]; omega) (by omega) (by omega)
  have hm0 : monF off S (Off.resolve off (lo off first - lo off first % 3600)) = true := by unfold monF at *; rw [hc.1]; exact hm
  have hd0 : dyF off S (Off.resolve off (lo off first - lo off first % 3600)) = true := by unfold dyF at *; rw [hc.1]; exact hd
  refine ⟨Off.resolve off (lo off first - lo off first % 3600), ?_, ⟨hs, by omega, (fun x => by cases x), fun _ => .inl hm0, fun _ => .inl hd0, fun _ => .inr (by rw [hc.2]; omega), fun _ => .inr (by rw [hc.2]; omega)⟩, hm0, hd0, ?_, ?_, h2, hs.le⟩
  · unfold dateE dn2
    rw [if_pos m2, hn]
    congr 2
    omega
  · unfold hrF at *; rw [hc.2, show tod off first / 3600 * 3600 / 3600 = tod off first / 3600 by omega]; exact hf
  · unfold yr; rw [hc.1]

theorem hour_up (h : Ctx off S A B first hi Y5) {t : Int} (hg : Good off S first hi true t) (hm : monF off S t = true) (hd : dyF off S t = true) (hf : hrF off S t = false) (hy : yr off t ≤ Y5) :
    Good off S first hi true (t + 3600) ∧ (tod off (t + 3600) / 3600 = 0 ∨ (monF off S (t + 3600) = true ∧ dyF off S (t + 3600) = true ∧ yr off (t + 3600) = yr off t)) := by
  have hd' := hg.hr rfl
  rw [hf] at hd'
  have hd0 : tod off t % 3600 = 0 := by simpa using hd'
  obtain ⟨h1, h2, h3⟩ := h.hour_next hg.seen hg.low hd0 hf hy
  obtain ⟨⟨m1, m2, m3, m4⟩, hn⟩ := date_of (day off t)
  have hg0 := hg.low
  rcases h3 with ⟨e, e2⟩ | ⟨e, e2⟩
  · have a : monF off S (t + 3600) = true := by unfold monF at *; rw [e]; exact hm
    have b : dyF off S (t + 3600) = true := by unfold dyF at *; rw [e]; exact hd
    exact ⟨⟨h2, by omega, (fun x => by cases x), fun _ => .inl a, fun _ => .inl b, fun _ => .inr h1, fun _ => .inr (by omega)⟩, .inr ⟨a, b, by unfold yr; rw [e]⟩⟩
  · refine ⟨⟨h2, by omega, (fun x => by cases x), fun _ => ?_, fun _ => .inr e2, fun _ => .inr h1, fun _ => .inr (by omega)⟩, .inl (by omega)⟩
    by_cases c : dOf (day off t) < mlen (yOf (day off t)) (mOf (day off t))
    · have := same_month (day off t) 1 (by omega) (by omega)
      refine .inl ?_
      unfold monF at *
      rw [e, this.2.1]; exact hm
    · refine .inr ⟨?_, e2⟩
      have e1 : day off t - dOf (day off t) + 1 + mlen (yOf (day off t)) (mOf (day off t)) = day off t + 1 := by omega
      rw [e]
      by_cases c2 : mOf (day off t) < 12
      · have := next_month (day off t) c2
        rw [e1] at this; exact this.2.2
      · have := next_year (day off t) (by omega)
        rw [e1] at this; exact this.2.2

/-- A day later or the same day: the months and days of the invariant. -/
theorem same_or_next {t t1 : Int} (hm : monF off S t = true) (hd : dyF off S t = true) (h : day off t1 = day off t ∨ (day off t1 = day off t + 1 ∧ tod off t1 = 0)) :
    (monF off S t1 = true ∨ (dOf (day off t1) = 1 ∧ tod off t1 = 0)) ∧ (dyF off S t1 = true ∨ tod off t1 = 0) := by
  obtain ⟨⟨m1, m2, m3, m4⟩, hn⟩ := date_of (day off t)
  rcases h with e | ⟨e, e2⟩
  · exact ⟨.inl (by unfold monF at *; rw [e]; exact hm), .inl (by unfold dyF at *; rw [e]; exact hd)⟩
  · refine ⟨?_, .inr e2⟩
    by_cases c : dOf (day off t) < mlen (yOf (day off t)) (mOf (day off t))
    · have := same_month (day off t) 1 (by omega) (by omega)
      refine .inl ?_
      unfold monF at *
      rw [e, this.2.1]; exact hm
    · refine .inr ⟨?_, e2⟩
      have e1 : day off t - dOf (day off t) + 1 + mlen (yOf (day off t)) (mOf (day off t)) = day off t + 1 := by omega
      rw [e]
      by_cases c2 : mOf (day off t) < 12
      · have := next_month (day off t) c2
        rw [e1] at this; exact this.2.2
      · have := next_year (day off t) (by omega)
        rw [e1] at this; exact this.2.2

/-! ### The minute -/
theorem min_first (h : Ctx off S A B first hi Y5) (h60 : off first % 60 = 0) (hm : monF off S first = true) (hd : dyF off S first = true) (hh : hrF off S first = true) (hf : miF off S first = false) :
    ∃ t0, first + 62135596800 - (first + 62135596800) % 60 = t0 + 62135596800 ∧ Good off S first hi true t0 ∧ monF off S t0 = true ∧ dyF off S t0 = true ∧ hrF off S t0 = true ∧ miF off S t0 = false ∧ yr off t0 = yr off first ∧ first - 60 ≤ t0 ∧ t0 ≤ hi := by
  obtain ⟨h1, h2, hs⟩ := h.min_trunc hf
  have hl := lo_of (off := off) first
  have ht := tod_bd (off := off) first
  have hm0 : monF off S (first - tod off first % 60) = true := by unfold monF at *; rw [h2]; exact hm
  have hd0 : dyF off S (first - tod off first % 60) = true := by unfold dyF at *; rw [h2]; exact hd
  have hh0 : hrF off S (first - tod off first % 60) = true := by unfold hrF at *; rw [h1, show (tod off first - tod off first % 60) / 3600 = tod off first / 3600 by omega]; exact hh
  have hlo : lo off first = first + off first := rfl
  refine ⟨first - tod off first % 60, by omega, ⟨hs, by omega, (fun x => by cases x), fun _ => .inl hm0, fun _ => .inl hd0, fun _ => .inl hh0, fun _ => .inr (by omega)⟩, hm0, hd0, hh0, ?_, ?_, by omega, hs.le⟩
  · unfold miF at *; rw [h1, show (tod off first - tod off first % 60) % 3600 / 60 = tod off first % 3600 / 60 by omega]; exact hf
  · unfold yr; rw [h2]

theorem min_up (h : Ctx off S A B first hi Y5) {t : Int} (hg : Good off S first hi true t) (hm : monF off S t = true) (hd : dyF off S t = true) (hh : hrF off S t = true) (hf : miF off S t = false) (hy : yr off t ≤ Y5) :
    Good off S first hi true (t + 60) ∧ (tod off (t + 60) % 3600 / 60 = 0 ∨ (monF off S (t + 60) = true ∧ dyF off S (t + 60) = true ∧ hrF off S (t + 60) = true ∧ yr off (t + 60) = yr off t)) := by
  have hd' := hg.mi rfl
  rw [hf] at hd'
  have hd0 : tod off t % 60 = 0 := by simpa using hd'
  obtain ⟨h1, h2, h3, h4⟩ := h.min_next hg.seen hg.low hd0 hf hy
  have hg0 := hg.low
  obtain ⟨a, b⟩ := same_or_next (S := S) hm hd h3
  rcases h4 with ⟨e, e2⟩ | e2
  · have c : hrF off S (t + 60) = true := by unfold hrF at *; rw [e2]; exact hh
    exact ⟨⟨h2, by omega, (fun x => by cases x), fun _ => a, fun _ => b, fun _ => .inl c, fun _ => .inr h1⟩, .inr ⟨by unfold monF at *; rw [e]; exact hm, by unfold dyF at *; rw [e]; exact hd, c, by unfold yr; rw [e]⟩⟩
  · exact ⟨⟨h2, by omega, (fun x => by cases x), fun _ => a, fun _ => b, fun _ => .inr e2, fun _ => .inr h1⟩, .inl (by omega)⟩

/-! ### The second -/
theorem sec_first (h : Ctx off S A B first hi Y5) (hg : Good off S first hi false first) (hm : monF off S first = true) (hd : dyF off S first = true) (hh : hrF off S first = true) (hi' : miF off S first = true) :
    Good off S first hi true first :=
  ⟨hg.seen, by omega, (fun x => by cases x), fun _ => .inl hm, fun _ => .inl hd, fun _ => .inl hh, fun _ => .inl hi'⟩

theorem sec_up (h : Ctx off S A B first hi Y5) {t : Int} (hg : Good off S first hi true t) (hm : monF off S t = true) (hd : dyF off S t = true) (hh : hrF off S t = true) (hmi : miF off S t = true) (hf : seF off S t = false) (hy : yr off t ≤ Y5) :
    Good off S first hi true (t + 1) ∧ (tod off (t + 1) % 60 = 0 ∨ (monF off S (t + 1) = true ∧ dyF off S (t + 1) = true ∧ hrF off S (t + 1) = true ∧ miF off S (t + 1) = true ∧ yr off (t + 1) = yr off t)) := by
  obtain ⟨h2, h3, h4, h5⟩ := h.sec_next hg.seen hg.low hf hy
  have hg0 := hg.low
  obtain ⟨a, b⟩ := same_or_next (S := S) hm hd h3
  have hH : hrF off S (t + 1) = true ∨ tod off (t + 1) % 3600 = 0 := by
    rcases h4 with ⟨e, e2⟩ | e2
    · exact .inl (by unfold hrF at *; rw [e2]; exact hh)
    · exact .inr e2
  rcases h5 with ⟨e, e2⟩ | e2
  · have ee : tod off (t + 1) % 3600 / 60 = tod off t % 3600 / 60 := by omega
    have eh : tod off (t + 1) / 3600 = tod off t / 3600 := by omega
    have c : miF off S (t + 1) = true := by unfold miF at *; rw [ee]; exact hmi
    exact ⟨⟨h2, by omega, (fun x => by cases x), fun _ => a, fun _ => b, fun _ => hH, fun _ => .inl c⟩, .inr ⟨by unfold monF at *; rw [e]; exact hm, by unfold dyF at *; rw [e]; exact hd, by unfold hrF at *; rw [eh]; exact hh, c, by unfold yr; rw [e]⟩⟩
  · exact ⟨⟨h2, by omega, (fun x => by cases x), fun _ => a, fun _ => b, fun _ => hH, fun _ => .inr e2⟩, .inl e2⟩

end Go.Proofs.Ytoekefbclkmchaa.NextP
