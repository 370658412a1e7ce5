/- The reference's days and instants of a date; UTC. Conditions: years within 100000, months 1 to 12. -/
import Derived.Test.YtoekefbclkmchaaZone
import Derived.Test.YtoekefbclkmchaaSpecCal
import Derived.Test.YtoekefbclkmchaaZone2
import Derived.Test.YtoekefbclkmchaaDayFits
namespace Go.Proofs.Ytoekefbclkmchaa.Inst
open Go Go.RowKit Go.Proofs.Ytoekefbclkmchaa.Cal Go.Proofs.Ytoekefbclkmchaa.Off Go.Proofs.Ytoekefbclkmchaa.TimeNum Go.Proofs.Ytoekefbclkmchaa.Lookup Go.Proofs.Ytoekefbclkmchaa.SpecCal Go.Proofs.Ytoekefbclkmchaa.Zone Go.Proofs.Ytoekefbclkmchaa.Zone2 Go.Proofs.Ytoekefbclkmchaa.DayFits
set_option linter.unusedVariables false

/-- A boxed date behind calls. -/
theorem box3_after {w w1 : World} {E : TypeId} {a b c : Value} (hb : Below (w.alloc (.cells #[a, b, c] E)).heap.size (w.alloc (.cells #[a, b, c] E)) w1) :
    w1.cell? ⟨w.heap.size, 0, none⟩ = some a ∧ w1.cell? ⟨w.heap.size, 1, none⟩ = some b ∧ w1.cell? ⟨w.heap.size, 2, none⟩ = some c := by
  have hh : (w.alloc (.cells #[a, b, c] E)).heap[w.heap.size]? = some (.cells #[a, b, c] E) := heap_alloc_new w _
  have f : ∀ j, w1.cell? ⟨w.heap.size, j, none⟩ = (w.alloc (.cells #[a, b, c] E)).cell? ⟨w.heap.size, j, none⟩ := fun j => hb.cell (p := ⟨w.heap.size, j, none⟩) (by simp)
  refine ⟨(f 0).trans ?_, (f 1).trans ?_, (f 2).trans ?_⟩ <;> (unfold World.cell?; simp only [hh]; rfl)

theorem cum_bd (y m : Int) (h1 : 1 ≤ m) (h2 : m ≤ 13) : 0 ≤ cum y m ∧ cum y m ≤ 400 := by
  have := lp_01 y
  unfold cum
  split <;> omega

theorem cronDay_any (y m d : Int) (w : World) (y0 : -100000 ≤ y) (y1 : y ≤ 100000) (m0 : 1 ≤ m) (m1 : m ≤ 12) (d0 : -1000 ≤ d) (d1 : d ≤ 1000) :
    Calls Try.prog 45 #[.agg #[.int .i64 y, .int .i64 m, .int .i64 d]] w fun e w' => e = .returned (.int .i64 (dnum y m d)) ∧ Below w.heap.size w w' := by
  have HB := Lib.hid (box3_after (w := w) (E := 44) (a := .int .i64 y) (b := .int .i64 m) (c := .int .i64 d) (Below.refl _ _))
  have hc0 := HB.out.1
  have hc1 := HB.out.2.1
  have hc2 := HB.out.2.2
  have HY := Lib.hid (show -40000000 ≤ ys y ∧ ys y ≤ 40000000 by unfold ys; omega)
  have HC := Lib.hid (cum_bd y m m0 (by omega))
  have HD : Hid (dnum y m d = ys y + cum y m + d - 1) := Lib.hid rfl
  go_enter Try.func45, Try.ntmps45
  go_wp2_with (go_at_call 62; refine (yearStart_any _ _ (by omega) (by omega)).mono ?_; rintro e w' ⟨rfl, rfl⟩)
  go_loop [3, 4] (fun r k => ∃ a b : Int, r = .int .i64 a ∧ k = .int .i64 b ∧ 1 ≤ b ∧ b ≤ m ∧ Hid (a = ys y + cum y b)) (fun _ k => (13 - intOf k).toNat)
  case atStart => exact ⟨_, 1, rfl, rfl, by omega, by omega, Lib.hid (by rw [cum_one]; omega)⟩
  case round =>
    obtain ⟨a, k, rfl, rfl, k1, k2, HA⟩ := hrel
    have hy := HY.out
    have hck := cum_bd y k k1 (by omega)
    have ha : -50000000 ≤ a ∧ a ≤ 50000000 := by have := HA.out; omega
    have hml := mlen_bd y k
    by_cases hlt : k < m
    · have HN := Lib.hid (cum_succ y k k1 (by omega))
      go_wp2_with (go_at_call 17; refine (monthDays_any _ _ _ (by omega) (by omega) k1 (by omega)).mono ?_; rintro e w' ⟨rfl, rfl⟩)
      go_round
      case rel => exact ⟨_, k + 1, rfl, rfl, by omega, by omega, Lib.hid (by rw [HN.out, HA.out]; omega)⟩
      case measure => simp [intOf]; omega
    · obtain rfl : k = m := by omega
      go_wp2
      go_ret
      exact ⟨by rw [HD.out, ← HA.out]; rfl, (Below.refl _ _).alloc (Nat.le_refl _) _⟩

theorem cronInstant_any (y m d x : Int) (w : World) (y0 : -100000 ≤ y) (y1 : y ≤ 100000) (m0 : 1 ≤ m) (m1 : m ≤ 12) (d0 : -1000 ≤ d) (d1 : d ≤ 1000) (x0 : 0 ≤ x) (x1 : x ≤ 86400) :
    Calls Try.prog 18 #[.agg #[.int .i64 y, .int .i64 m, .int .i64 d], .int .i64 x] w fun e w' => e = .returned (.agg #[.int .i64 (86400 * dnum y m d + x), .int .i64 0]) ∧ Below w.heap.size w w' := by
  have HN : Hid (-50000000 ≤ dnum y m d ∧ dnum y m d ≤ 50000000) := Lib.hid (by
    have := cum_bd y m m0 (by omega)
    unfold dnum ys
    omega)
  have HC := Lib.hid (fun w1 => cronDay_any y m d w1 y0 y1 m0 m1 d0 d1)
  obtain ⟨W, hW⟩ : ∃ W, ((w.alloc (.cells #[.int .i64 y, .int .i64 m, .int .i64 d] 44)).alloc (.cells #[.int .i64 0, .int .i64 0] 24)) = W := ⟨_, rfl⟩
  have hx1 : Below (w.alloc (.cells #[.int .i64 y, .int .i64 m, .int .i64 d] 44)).heap.size (w.alloc (.cells #[.int .i64 y, .int .i64 m, .int .i64 d] 44)) W := by rw [← hW]; exact (Below.refl _ _).alloc (Nat.le_refl _) _
  have hbW : Below w.heap.size w W := by rw [← hW]; exact ((Below.refl _ _).alloc (Nat.le_refl _) _).alloc (by simp) _
  have hsW : W.heap.size = w.heap.size + 2 := by rw [← hW]; simp
  obtain ⟨z0, z1, z2⟩ := box3_after hx1
  have HFr : Hid (∀ V, Below W.heap.size W V → (∀ j, V.frozen? ⟨w.heap.size + 1, j, none⟩ = false) ∧ V.cell? ⟨w.heap.size + 1, 0, none⟩ = some (.int .i64 0) ∧ V.cell? ⟨w.heap.size + 1, 1, none⟩ = some (.int .i64 0)) := Lib.hid (fun V hV => by
    have hz : ∀ j v, (#[.int .i64 0, .int .i64 0] : Array Value)[j]? = some v → V.cell? ⟨w.heap.size + 1, j, none⟩ = some v := fun j v h => by
      have := cells_after (w := (w.alloc (.cells #[.int .i64 y, .int .i64 m, .int .i64 d] 44))) (w1 := V) (E := 24) (cs := #[.int .i64 0, .int .i64 0]) (by rw [hW]; exact hV) j v h
      rw [show (w.alloc (.cells #[.int .i64 y, .int .i64 m, .int .i64 d] 44)).heap.size = w.heap.size + 1 by simp] at this
      exact this
    refine ⟨fun j => ?_, hz 0 _ rfl, hz 1 _ rfl⟩
    have := free_after (w := (w.alloc (.cells #[.int .i64 y, .int .i64 m, .int .i64 d] 44))) (w1 := V) (E := 24) (cs := #[.int .i64 0, .int .i64 0]) (by rw [hW]; exact hV) j
    rw [show (w.alloc (.cells #[.int .i64 y, .int .i64 m, .int .i64 d] 44)).heap.size = w.heap.size + 1 by simp] at this
    exact this)
  have HBW := Lib.hid hbW
  have HSW := Lib.hid hsW
  clear hx1 hbW hsW
  go_enter Try.func18, Try.ntmps18
  go_wp2_with (go_at_call 45; refine (HC.out _).mono ?_; rintro e V ⟨rfl, hV⟩; (have f0 := (HFr.out V hV).1 0); (have f1 := (HFr.out V hV).1 1); (have g0 := (HFr.out V hV).2.1); (have g1 := (HFr.out V hV).2.2); (have hn := HN.out))
  refine bodyPost_ret (v := .agg #[.int .i64 (86400 * dnum y m d + x), .int .i64 0]) ?hres rfl ?_
  case hres => simp [results, Try.results18, go_sem, *]
  refine ⟨rfl, ?_⟩
  repeat (first | exact HBW.out.trans (hV.mono HBW.out.size) | refine Below.setCell ?_ (by show w.heap.size ≤ w.heap.size + 1; omega) _)

end Go.Proofs.Ytoekefbclkmchaa.Inst
