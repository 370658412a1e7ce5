/- Plain lemmas: on all days the activations of hours a number of hours later; and the laws' comparison of two answers. Conditions: at most 100 hours. -/
import Derived.Test.YtoekefbclkmchaaTurned
namespace Go.Proofs.Ytoekefbclkmchaa.HoursP
open Go Go.RowKit Go.Proofs.Ytoekefbclkmchaa.TimeNum Go.Proofs.Ytoekefbclkmchaa.Cal Go.Proofs.Ytoekefbclkmchaa.Off Go.Proofs.Ytoekefbclkmchaa.Search Go.Proofs.Ytoekefbclkmchaa.Bits Go.Proofs.Ytoekefbclkmchaa.Bnd Go.Proofs.Ytoekefbclkmchaa.Moment Go.Proofs.Ytoekefbclkmchaa.DayM Go.Proofs.Ytoekefbclkmchaa.SetOf Go.Proofs.Ytoekefbclkmchaa.Zone Go.Proofs.Ytoekefbclkmchaa.Zone2 Go.Proofs.Ytoekefbclkmchaa.Stars Go.Proofs.Ytoekefbclkmchaa.FieldsOf Go.Proofs.Ytoekefbclkmchaa.Never Go.Proofs.Ytoekefbclkmchaa.Local Go.Proofs.Ytoekefbclkmchaa.NextC Go.Proofs.Ytoekefbclkmchaa.NextI Go.Proofs.Ytoekefbclkmchaa.SpecNext Go.Proofs.Ytoekefbclkmchaa.Turned Go.Proofs.Ytoekefbclkmchaa.CronTime
set_option linter.unusedVariables false

theorem day0 (y : Int) : day (Raw.off utc) y = y / 86400 := by rw [utc_off]; unfold day lo; rw [Int.add_zero]
theorem tod0 (y : Int) : tod (Raw.off utc) y = y % 86400 := by rw [utc_off]; unfold tod lo; rw [Int.add_zero]
/-- Every day's seconds in the sets. -/
def tf (se mi hr : Int) (e : Int) : Bool := has hr (e / 3600) && has mi (e % 3600 / 60) && has se (e % 60)
/-- The schedule on all days. -/
def allS (se mi hr : Int) : Sched := sched se mi hr (starSet 3) (starSet 4) (starSet 5)
theorem fit_all (se mi hr y : Int) : Fit (Raw.off utc) (allS se mi hr) y ↔ tf se mi hr (y % 86400) = true := by
  obtain ⟨⟨p1, p2, p3, p4⟩, -⟩ := date_of (y / 86400)
  have hml := mlen_bd (yOf (y / 86400)) (mOf (y / 86400))
  have h4 : has (starSet 4) (mOf (y / 86400)) = true := star_has 4 _ (by show (1 : Int) ≤ _; omega) (by show _ ≤ (12 : Int); omega) (by decide)
  have h3 : has (starSet 3) (dOf (y / 86400)) = true := star_has 3 _ (by show (1 : Int) ≤ _; omega) (by show _ ≤ (31 : Int); omega) (by decide)
  have h5 : has (starSet 5) (wdOf (y / 86400)) = true := star_has 5 _ (by show (0 : Int) ≤ _; unfold wdOf; omega) (by show _ ≤ (6 : Int); unfold wdOf; omega) (by decide)
  have hd : dayOK (starSet 3) (starSet 5) (y / 86400) = true := by unfold dayOK; rw [star_mark, h3, h5]; rfl
  unfold Fit monF dyF hrF miF seF allS sched tf
  rw [day0, tod0]
  dsimp only
  rw [h4, hd]
  simp only [Bool.and_eq_true]
  constructor
  · rintro ⟨-, -, a, b, c⟩
    exact ⟨⟨a, b⟩, c⟩
  · rintro ⟨⟨a, b⟩, c⟩
    exact ⟨trivial, trivial, a, b, c⟩
theorem has_turned (hr h : Int) (v : Nat) (hv : v < 24) : has (bset (turnB (fun v => has hr (v : Int)) h 24)) (v : Int) = has hr (((v : Int) - h) % 24) := by
  rw [has_bset _ v (by omega)]
  unfold turnB
  have h1 : ((v : Int) - h) % 24 < ((24 : Nat) : Int) := by omega
  have h2 : ¬ v = 63 := by omega
  have h3 : ((((v : Int) - h) % 24).toNat : Int) = ((v : Int) - h) % 24 := by omega
  rw [decide_eq_true hv, decide_eq_true h1, decide_eq_false h2]
  dsimp only
  rw [h3]
  simp
theorem tf_turned (se mi hr h y : Int) : tf se mi (bset (turnB (fun v => has hr (v : Int)) h 24)) ((y + 3600 * h) % 86400) = tf se mi hr (y % 86400) := by
  obtain ⟨v, hv⟩ : ∃ v : Nat, (y + 3600 * h) % 86400 / 3600 = v := ⟨((y + 3600 * h) % 86400 / 3600).toNat, by omega⟩
  unfold tf
  rw [hv, has_turned hr h v (by omega), show ((v : Int) - h) % 24 = y % 86400 / 3600 by omega, show (y + 3600 * h) % 86400 % 3600 / 60 = y % 86400 % 3600 / 60 by omega, show (y + 3600 * h) % 86400 % 60 = y % 86400 % 60 by omega]

theorem year_next (n : Int) : yOf (n + 1) ≤ yOf n + 1 := by
  rcases Tomorrow.next_day n with ⟨-, h, -⟩ | ⟨-, -, h, -⟩ | ⟨-, -, h, -⟩ <;> omega
section
variable {se mi hr s h : Int} {o : Option Int}
/-- A fitting second within a day. -/
theorem within {x : Int} (hx : tf se mi hr (x % 86400) = true) (a : Int) : ∃ z, a ≤ z ∧ z < a + 86400 ∧ tf se mi hr (z % 86400) = true :=
  ⟨a + (x - a) % 86400, by omega, by omega, by rw [show (a + (x - a) % 86400) % 86400 = x % 86400 by omega]; exact hx⟩
theorem near_year {a z : Int} (h1 : a ≤ z) (h2 : z < a + 86400) : yr (Raw.off utc) z ≤ yOf (day (Raw.off utc) a) + 5 := by
  unfold yr
  rw [day0, day0]
  by_cases c : z / 86400 = a / 86400
  · rw [c]; omega
  · rw [show z / 86400 = a / 86400 + 1 by omega]
    have := year_next (a / 86400)
    omega
theorem none_no (hn : IsNext (Raw.off utc) (allS se mi hr) (s + 1) (yOf (day (Raw.off utc) (s + 1)) + 5) none) (y : Int) : tf se mi hr (y % 86400) = false := by
  cases c : tf se mi hr (y % 86400)
  · rfl
  · obtain ⟨z, z1, z2, z3⟩ := within c (s + 1)
    exact absurd ((fit_all se mi hr z).2 z3) (hn z z1 (near_year z1 z2))
theorem some_near {x : Int} (hn : IsNext (Raw.off utc) (allS se mi hr) (s + 1) (yOf (day (Raw.off utc) (s + 1)) + 5) (some x)) : x < s + 1 + 86400 := by
  obtain ⟨h1, h2, h3, h4⟩ := hn
  obtain ⟨z, z1, z2, z3⟩ := within ((fit_all se mi hr x).1 h2) (s + 1)
  by_cases c : z < x
  · exact absurd ((fit_all se mi hr z).2 z3) (h4 z z1 c)
  · omega
theorem shifted (hn : IsNext (Raw.off utc) (allS se mi hr) (s + 1) (yOf (day (Raw.off utc) (s + 1)) + 5) o) :
    IsNext (Raw.off utc) (allS se mi (bset (turnB (fun v => has hr (v : Int)) h 24))) (s + 3600 * h + 1) (yOf (day (Raw.off utc) (s + 3600 * h + 1)) + 5) (o.map (· + 3600 * h)) := by
  have key : ∀ y, Fit (Raw.off utc) (allS se mi (bset (turnB (fun v => has hr (v : Int)) h 24))) y ↔ Fit (Raw.off utc) (allS se mi hr) (y - 3600 * h) := fun y => by
    rw [fit_all, fit_all]
    have := tf_turned se mi hr h (y - 3600 * h)
    rw [show y - 3600 * h + 3600 * h = y by omega] at this
    rw [this]
  cases o with
  | none =>
    intro y y1 y2 y3
    have := (fit_all se mi hr _).1 ((key y).1 y3)
    rw [none_no hn] at this
    cases this
  | some x =>
    have hx := some_near hn
    obtain ⟨h1, h2, h3, h4⟩ := hn
    show IsNext _ _ _ _ (some (x + 3600 * h))
    refine ⟨by omega, (key _).2 (by rw [show x + 3600 * h - 3600 * h = x by omega]; exact h2), near_year (by omega) (by omega), fun y y1 y2 y3 => h4 (y - 3600 * h) (by omega) (by omega) ((key y).1 y3)⟩
theorem never_iff (hn : IsNext (Raw.off utc) (allS se mi hr) (s + 1) (yOf (day (Raw.off utc) (s + 1)) + 5) o) : o.isSome = !neverB (fS (six se mi hr (starSet 3) (starSet 4) (starSet 5))) := by
  obtain ⟨f, hf⟩ : ∃ f, fS (six se mi hr (starSet 3) (starSet 4) (starSet 5)) = f := ⟨_, rfl⟩
  have f2 : ∀ v, f 2 v = inK 2 hr v := fun v => by rw [← hf]; rfl
  have f1 : ∀ v, f 1 v = inK 1 mi v := fun v => by rw [← hf]; rfl
  have f0 : ∀ v, f 0 v = inK 0 se v := fun v => by rw [← hf]; rfl
  rw [hf]
  cases hv : neverB f
  · have h2 : emptyB (f 2) = false ∧ emptyB (f 1) = false ∧ emptyB (f 0) = false := by
      unfold neverB at hv
      simp only [Bool.or_eq_false_iff] at hv
      exact ⟨hv.1.1, hv.1.2, hv.2⟩
    have ex : ∀ g : Nat → Bool, emptyB g = false → ∃ v, v ≤ 62 ∧ g v = true := fun g hg => by
      by_cases c : ∃ v, v ≤ 62 ∧ g v = true
      · exact c
      · have : emptyB g = true := (emptyB_iff g).2 (fun i hi => by
          cases hgi : g i
          · rfl
          · exact absurd ⟨i, hi, hgi⟩ c)
        rw [this] at hg
        cases hg
    obtain ⟨a, -, ha⟩ := ex _ h2.1
    obtain ⟨b, -, hb⟩ := ex _ h2.2.1
    obtain ⟨c, -, hc⟩ := ex _ h2.2.2
    rw [f2] at ha
    rw [f1] at hb
    rw [f0] at hc
    unfold inK at ha hb hc
    simp only [Bool.and_eq_true, decide_eq_true_eq] at ha hb hc
    have a24 : a ≤ 23 := ha.1.2
    have b60 : b ≤ 59 := hb.1.2
    have c60 : c ≤ 59 := hc.1.2
    cases o with
    | some x => rfl
    | none =>
      have := none_no hn (3600 * (a : Int) + 60 * (b : Int) + (c : Int))
      unfold tf at this
      rw [show (3600 * (a : Int) + 60 * (b : Int) + (c : Int)) % 86400 / 3600 = a by omega, show (3600 * (a : Int) + 60 * (b : Int) + (c : Int)) % 86400 % 3600 / 60 = b by omega, show (3600 * (a : Int) + 60 * (b : Int) + (c : Int)) % 86400 % 60 = c by omega, ha.2, hb.2, hc.2] at this
      cases this
  · cases o with
    | none => rfl
    | some x =>
      have h1 := (lfit_fit se mi hr (starSet 3) (starSet 4) (starSet 5) (Raw.off utc) x).2 hn.2.1
      rw [hf] at h1
      rw [never_no hv] at h1
      cases h1
end

theorem moved_any (o : Option Int) (k : Int) (w : World) (ho : ∀ x, o = some x → -70000000000 ≤ x ∧ x ≤ 270000000000) (k0 : -1000000 ≤ k) (k1 : k ≤ 1000000) :
    Calls Try.prog 34 #[.agg (ansA o), .bool o.isSome, .agg (ansA (o.map (· + k))), .bool (o.map (· + k)).isSome, .int .i64 k] w fun e w' => e = .returned (.bool true) ∧ Below w.heap.size w w' := by
  cases o with
  | none =>
    have hb : Below w.heap.size w ((w.alloc (.cells #[.int .i64 0, .int .i64 0] 24)).alloc (.cells #[.int .i64 0, .int .i64 0] 24)) := ((Below.refl _ _).alloc (Nat.le_refl _) _).alloc (by simp) _
    simp only [Option.map_none, ansA, Option.isSome_none]
    go_enter Try.func34, Try.ntmps34
    go_wp2_with fail
    go_ret
    exact ⟨rfl, hb⟩
  | some x =>
    obtain ⟨x0, x1⟩ := ho x rfl
    have hb : Below w.heap.size w ((w.alloc (.cells #[.int .i64 x, .int .i64 0] 24)).alloc (.cells #[.int .i64 (x + k), .int .i64 0] 24)) := ((Below.refl _ _).alloc (Nat.le_refl _) _).alloc (by simp) _
    have hk : (x + k == x + k) = true := by simp
    simp only [Option.map_some, ansA, Option.isSome_some]
    go_enter Try.func34, Try.ntmps34
    go_wp2_with fail
    go_ret
    exact ⟨rfl, hb⟩

end Go.Proofs.Ytoekefbclkmchaa.HoursP
