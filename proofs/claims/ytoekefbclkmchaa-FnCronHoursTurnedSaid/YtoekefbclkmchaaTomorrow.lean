/- The reference's CronTomorrow. Conditions: days of some ten thousand years. -/
import Derived.Test.YtoekefbclkmchaaCronTime
import Derived.Test.YtoekefbclkmchaaSpecCal
import Derived.Test.YtoekefbclkmchaaRegS
namespace Go.Proofs.Ytoekefbclkmchaa.Tomorrow
open Go Go.RowKit Go.Proofs.Ytoekefbclkmchaa.TimeNum Go.Proofs.Ytoekefbclkmchaa.Cal Go.Proofs.Ytoekefbclkmchaa.SpecCal Go.Proofs.Ytoekefbclkmchaa.DayFits Go.Proofs.Ytoekefbclkmchaa.RegS
set_option linter.unusedVariables false

def dateA (n : Int) : Array Value := #[.int .i64 (yOf n), .int .i64 (mOf n), .int .i64 (dOf n)]

/-- The day behind a day. -/
theorem next_day (n : Int) :
    (dOf n < mlen (yOf n) (mOf n) ∧ yOf (n + 1) = yOf n ∧ mOf (n + 1) = mOf n ∧ dOf (n + 1) = dOf n + 1) ∨
    (¬ dOf n < mlen (yOf n) (mOf n) ∧ mOf n < 12 ∧ yOf (n + 1) = yOf n ∧ mOf (n + 1) = mOf n + 1 ∧ dOf (n + 1) = 1) ∨
    (¬ dOf n < mlen (yOf n) (mOf n) ∧ ¬ mOf n < 12 ∧ yOf (n + 1) = yOf n + 1 ∧ mOf (n + 1) = 1 ∧ dOf (n + 1) = 1) := by
  obtain ⟨⟨m1, m2, m3, m4⟩, hn⟩ := date_of n
  by_cases c : dOf n < mlen (yOf n) (mOf n)
  · have := same_month n 1 (by omega) (by omega)
    exact .inl ⟨c, this⟩
  · have e1 : n - dOf n + 1 + mlen (yOf n) (mOf n) = n + 1 := by omega
    by_cases c2 : mOf n < 12
    · have := next_month n c2
      rw [e1] at this
      exact .inr (.inl ⟨c, c2, this⟩)
    · have := next_year n (by omega)
      rw [e1] at this
      exact .inr (.inr ⟨c, c2, this⟩)

theorem box33 {w X : World} {E F : TypeId} {a b c x y z : Value} (h : Below ((w.alloc (.cells #[a, b, c] E)).alloc (.cells #[x, y, z] F)).heap.size ((w.alloc (.cells #[a, b, c] E)).alloc (.cells #[x, y, z] F)) X) :
    (X.cell? ⟨w.heap.size, 0, none⟩ = some a ∧ X.cell? ⟨w.heap.size, 1, none⟩ = some b ∧ X.cell? ⟨w.heap.size, 2, none⟩ = some c) ∧
    (X.cell? ⟨w.heap.size + 1, 0, none⟩ = some x ∧ X.cell? ⟨w.heap.size + 1, 1, none⟩ = some y ∧ X.cell? ⟨w.heap.size + 1, 2, none⟩ = some z) ∧
    X.frozen? ⟨w.heap.size + 1, 0, none⟩ = false ∧ X.frozen? ⟨w.heap.size + 1, 1, none⟩ = false ∧ X.frozen? ⟨w.heap.size + 1, 2, none⟩ = false := by
  have e : (w.alloc (.cells #[a, b, c] E)).heap.size = w.heap.size + 1 := by simp
  have h1 : Below (w.alloc (.cells #[a, b, c] E)).heap.size (w.alloc (.cells #[a, b, c] E)) X := ((Below.refl _ _).alloc (Nat.le_refl _) _).trans (h.mono (by simp))
  have a0 := cells_after h 0 _ rfl
  have a1 := cells_after h 1 _ rfl
  have a2 := cells_after h 2 _ rfl
  have b0 := free_after h 0
  have b1 := free_after h 1
  have b2 := free_after h 2
  rw [e] at a0 a1 a2 b0 b1 b2
  exact ⟨⟨cells_after h1 0 _ rfl, cells_after h1 1 _ rfl, cells_after h1 2 _ rfl⟩, ⟨a0, a1, a2⟩, b0, b1, b2⟩

set_option maxRecDepth 100000 in
theorem tomorrow_any (n : Int) (w : World) (hn : -900000 ≤ n ∧ n ≤ 8000000) : Calls Try.prog 67 #[.agg (dateA n)] w fun e w' => e = .returned (.agg (dateA (n + 1))) ∧ Below w.heap.size w w' := by
  have hd := next_day n
  have hv := (date_of n).1
  have hy := year_in n
  have hyb : -100000 ≤ yOf n ∧ yOf n ≤ 100000 := by unfold ys at hy; omega
  obtain ⟨m1, m2, m3, m4⟩ := hv
  have HML := Lib.hid (fun w1 => monthDays_any (yOf n) (mOf n) w1 (by omega) (by omega) (by omega) (by omega))
  have hml := mlen_bd (yOf n) (mOf n)
  unfold dateA
  generalize yOf n = y at *
  generalize mOf n = m at *
  generalize dOf n = d at *
  generalize mlen y m = l at *
  generalize yOf (n + 1) = y2 at *
  generalize mOf (n + 1) = mm2 at *
  generalize dOf (n + 1) = d2 at *
  obtain ⟨W, hW⟩ : ∃ W, (w.alloc (.cells #[.int .i64 y, .int .i64 m, .int .i64 d] 44)).alloc (.cells #[.int .i64 0, .int .i64 0, .int .i64 0] 44) = W := ⟨_, rfl⟩
  have hbW : Below w.heap.size w W := by rw [← hW]; exact ((Below.refl _ _).alloc (Nat.le_refl _) _).alloc (by simp) _
  have HK := Lib.hid (fun X (h : Below W.heap.size W X) => box33 (w := w) (X := X) (E := 44) (F := 44) (a := .int .i64 y) (b := .int .i64 m) (c := .int .i64 d) (x := .int .i64 0) (y := .int .i64 0) (z := .int .i64 0) (by rw [hW]; exact h))
  have HB := Lib.hid hbW
  obtain ⟨⟨k0, k1, k2⟩, ⟨d0, d1, dd2⟩, g0, g1, g2⟩ := HK.out _ (Below.refl _ _)
  clear hbW hy hn
  go_enter Try.func67, Try.ntmps67
  go_wp2_with fail
  clear hW
  go_region_held3 (fun X => X.cell? ⟨w.heap.size, 0, none⟩ = some (.int .i64 y) ∧ X.cell? ⟨w.heap.size, 1, none⟩ = some (.int .i64 m) ∧ X.cell? ⟨w.heap.size, 2, none⟩ = some (.int .i64 d)) (go_keep)
    ((go_at_call 17; (with_reducible refine (HML.out _).mono ?_); rintro e w1 ⟨rfl, rfl⟩))
  all_goals
    rcases hd with ⟨h1, rfl, rfl, rfl⟩ | ⟨h1, h2, rfl, rfl, rfl⟩ | ⟨h1, h2, rfl, rfl, rfl⟩
  all_goals
    go_wp2_with fail
    first
      | exact bodyPost_ret (v := .agg #[.int .i64 y2, .int .i64 mm2, .int .i64 (d + 1)]) (by simp [results, Try.results67, go_sem, *]) rfl ⟨rfl, Below.drew (Time2.below_set3 HB.out (Nat.le_succ _))⟩
      | exact bodyPost_ret (v := .agg #[.int .i64 y2, .int .i64 (m + 1), .int .i64 1]) (by simp [results, Try.results67, go_sem, *]) rfl ⟨rfl, Below.drew (Time2.below_set3 HB.out (Nat.le_succ _))⟩
      | exact bodyPost_ret (v := .agg #[.int .i64 (y + 1), .int .i64 1, .int .i64 1]) (by simp [results, Try.results67, go_sem, *]) rfl ⟨rfl, Below.drew (Time2.below_set3 HB.out (Nat.le_succ _))⟩

end Go.Proofs.Ytoekefbclkmchaa.Tomorrow
