/- There is an answer: a least fitting second, or none for five years. Conditions: a plain zone, instants from year 1 to 9999. -/
import Derived.Test.YtoekefbclkmchaaSpecNext
namespace Go.Proofs.Ytoekefbclkmchaa.Ask
open Go Go.RowKit Go.Proofs.Ytoekefbclkmchaa.TimeNum Go.Proofs.Ytoekefbclkmchaa.Cal Go.Proofs.Ytoekefbclkmchaa.Off Go.Proofs.Ytoekefbclkmchaa.Search Go.Proofs.Ytoekefbclkmchaa.NextI Go.Proofs.Ytoekefbclkmchaa.NextJ Go.Proofs.Ytoekefbclkmchaa.SpecNext
set_option linter.unusedVariables false

theorem year_far (n : Int) : yOf n + 6 ≤ yOf (n + 2196) := by
  have h1 := year_in n
  have h2 := year_in (n + 2196)
  by_cases c : yOf n + 6 ≤ yOf (n + 2196)
  · exact c
  · exfalso
    have h3 : ys (yOf (n + 2196) + 1) ≤ ys (yOf n + 6) := by
      by_cases e : yOf (n + 2196) + 1 = yOf n + 6
      · rw [e]; exact Int.le_refl _
      · have := ys_mono (yOf (n + 2196) + 1) (yOf n + 6) (by omega)
        have := lp_01 (yOf (n + 2196) + 1)
        omega
    have h4 : ys (yOf n + 6) ≤ ys (yOf n) + 2196 := by unfold ys; omega
    omega

open Classical in
theorem least (P : Int → Prop) (a : Int) (h : ∃ y, a ≤ y ∧ P y) : ∃ y, a ≤ y ∧ P y ∧ ∀ z, a ≤ z → z < y → ¬ P z := by
  obtain ⟨y, h1, h2⟩ := h
  have key : ∀ n : Nat, P (a + n) → ∃ y, a ≤ y ∧ P y ∧ ∀ z, a ≤ z → z < y → ¬ P z := by
    intro n
    induction n using Nat.strongRecOn with
    | _ n ih =>
      intro hp
      by_cases c : ∃ m : Nat, m < n ∧ P (a + m)
      · obtain ⟨m, hm, hp2⟩ := c
        exact ih m hm hp2
      · exact ⟨a + n, by omega, hp, fun z z1 z2 hz => c ⟨(z - a).toNat, by omega, by rw [show a + ((z - a).toNat : Int) = z by omega]; exact hz⟩⟩
  exact key (y - a).toNat (by rw [show a + ((y - a).toNat : Int) = y by omega]; exact h2)

section
variable {off : Int → Int} {S : Sched}
theorem isNext_ex (hP : ∀ A B, -100000000000 ≤ A → Plain off A B) (first Y5 : Int) (hf0 : -100000000000 ≤ first) : ∃ o, IsNext off S first Y5 o := by
  by_cases c : ∃ y, first ≤ y ∧ (Fit off S y ∧ yr off y ≤ Y5)
  · obtain ⟨y, h1, ⟨h2, h3⟩, h4⟩ := least _ _ c
    refine ⟨some y, h1, h2, h3, fun z z1 z2 hz => h4 z z1 z2 ⟨hz, ?_⟩⟩
    have := year_mono (day_mono (hP z y (by omega)) (Int.le_refl z) (by omega) (Int.le_refl _))
    unfold yr at *
    omega
  · exact ⟨none, fun y y1 y2 y3 => c ⟨y, y1, y3, y2⟩⟩

/-- The whole question is in order. -/
theorem asked {s : Int} {o : Option Int} (hP : ∀ A B, -100000000000 ≤ A → Plain off A B) (s0 : -62135596800 ≤ s) (s1 : s ≤ 253402300799) (hm : off (s + 1) % 60 = 0)
    (h : IsNext off S (s + 1) (yOf (day off (s + 1)) + 5) o) : Asked off S s (yOf (day off (s + 1)) + 5) o := by
  have hb : ∀ y, -86400 ≤ off y ∧ off y ≤ 86400 := (hP 0 0 (by omega)).bd
  refine ⟨h, s0, by omega, rfl, hm, ?_⟩
  cases o with
  | none =>
    refine ⟨s + 1 - 3456000, s + 1 + 190080000 + 172800, s + 1 + 190080000, hP _ _ (by omega), by omega, by omega, by omega, by omega, ?_⟩
    show yOf (day off (s + 1)) + 5 < yr off (s + 1 + 190080000)
    have h1 := year_far (day off (s + 1))
    have h2 : day off (s + 1) + 2196 ≤ day off (s + 1 + 190080000) := by
      have := hb (s + 1)
      have := hb (s + 1 + 190080000)
      unfold day lo
      omega
    have := year_mono h2
    unfold yr
    omega
  | some x =>
    obtain ⟨h1, h2, h3, h4⟩ := h
    have h5 := year_lt h3
    have hx := hb x
    have hs := hb (s + 1)
    have hy : yOf (day off (s + 1)) ≤ 10001 := by
      have h6 := year_in (day off (s + 1))
      have h7 : day off (s + 1) ≤ 2932900 := by unfold day lo; omega
      unfold ys at h6
      omega
    have h8 : ys (yOf (day off (s + 1)) + 5 + 1) ≤ 2936000 := by unfold ys; omega
    refine ⟨s + 1 - 3456000, x + 172800, x, hP _ _ (by omega), by omega, by omega, h1, ?_, rfl⟩
    unfold day lo at h5
    unfold day lo at h8
    omega
end

end Go.Proofs.Ytoekefbclkmchaa.Ask
