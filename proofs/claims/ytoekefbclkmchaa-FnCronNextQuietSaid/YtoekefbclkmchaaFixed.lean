/- The reference's zone of one offset, and its order of instants. Conditions: an offset of at most a day. -/
import Derived.Test.YtoekefbclkmchaaPlainZone
import Derived.Test.YtoekefbclkmchaaCase
namespace Go.Proofs.Ytoekefbclkmchaa.Fixed
open Go Go.RowKit Go.Proofs.Ytoekefbclkmchaa.Cal Go.Proofs.Ytoekefbclkmchaa.Off Go.Proofs.Ytoekefbclkmchaa.TimeNum Go.Proofs.Ytoekefbclkmchaa.Lookup Go.Proofs.Ytoekefbclkmchaa.Zone Go.Proofs.Ytoekefbclkmchaa.Zone2 Go.Proofs.Ytoekefbclkmchaa.DayFits Go.Proofs.Ytoekefbclkmchaa.Change
set_option linter.unusedVariables false

/-- A zone of one offset. -/
structure FixedOf (F : Raw) (o : Int) : Prop where
  n1 : F.no = 1
  n2 : F.nd = 1
  n3 : F.nw = 1
  n4 : F.ni = 1
  o0 : F.o 0 = o
  w0 : F.wh 0 = -9223372036854775808
  i0 : F.ix 0 = 0
theorem FixedOf.ok {F : Raw} {o : Int} (h : FixedOf F o) (h0 : -86400 ≤ o) (h1 : o ≤ 86400) : F.Ok := by
  obtain ⟨n1, n2, n3, n4, o0, w0, i0⟩ := h
  refine .inr ⟨⟨by show 1 ≤ F.no; omega, by show F.no ≤ 64; omega, by show 1 ≤ F.nw; omega, by show F.nw ≤ 4096; omega, w0, fun i j hij hj => ?_, fun i hi => ?_, fun k hk => ?_, fun i hi => ?_⟩, by omega, by omega, fun i hi => ?_⟩
  · have : j < F.nw := hj
    omega
  · have : i < F.nw := hi
    obtain rfl : i = 0 := by omega
    show -9223372036854775808 ≤ F.wh 0 ∧ F.wh 0 ≤ 9223372036854775807
    omega
  · have : k < F.no := hk
    obtain rfl : k = 0 := by omega
    show -86400 ≤ F.o 0 ∧ F.o 0 ≤ 86400
    omega
  · have : i < F.nw := hi
    obtain rfl : i = 0 := by omega
    show (F.ix 0).toNat < F.no
    omega
  · obtain rfl : i = 0 := by omega
    omega
theorem FixedOf.off {F : Raw} {o : Int} (h : FixedOf F o) (y : Int) (hy : -9223372036854775808 ≤ y) : Raw.off F y = o := by
  obtain ⟨n1, n2, n3, n4, o0, w0, i0⟩ := h
  show offK F.o F.wh (fun i => (F.ix i).toNat) y F.nw = o
  rw [n3]
  show (if F.wh 0 ≤ y then F.o ((F.ix 0).toNat) else offK F.o F.wh (fun i => (F.ix i).toNat) y 0) = o
  rw [if_pos (by omega), i0]
  exact o0
theorem FixedOf.calm {F : Raw} {o : Int} (h : FixedOf F o) (h0 : -86400 ≤ o) (h1 : o ≤ 86400) (h60 : o % 60 = 0) : SpecNext.Calm F := by
  refine ⟨fun A B hA => ⟨fun s => ?_, fun s s0 _ => by rw [h.off s (by omega)]; exact h60, fun v w hv _ _ hn _ => ?_, fun w hw _ hn => ?_⟩, fun i hi hlo => ?_⟩
  · have hok := h.ok h0 h1
    rcases hok with ⟨z0, -⟩ | ⟨hg, -⟩
    · have := h.n1; omega
    · exact hg.bd s
  · exact absurd ((h.off (v - 1) (by omega)).trans (h.off v (by omega)).symm) hn
  · exact absurd ((h.off (w - 1) (by omega)).trans (h.off w (by omega)).symm) hn
  · have := h.n3
    obtain rfl : i = 0 := by omega
    have := h.w0
    omega

def FixRes (o : Int) (w : World) (e : Ending) (w' : World) : Prop := (∃ F : Raw, e = .returned (.agg #[.slice F.ao F.no 1, .slice F.ad F.nd 1, .slice F.aw F.nw 1, .slice F.ai F.ni 1]) ∧ F.At w' ∧ FixedOf F o) ∧ Below w.heap.size w w'

set_option maxRecDepth 100000 in
theorem fixed_any (o : Int) (w : World) (h0 : -86400 ≤ o) (h1 : o ≤ 86400) : Calls Try.prog 26 #[.int .i64 o] w (FixRes o w) := by
  go_enter Try.func26, Try.ntmps26
  go_wp2
  obtain ⟨W0, hW0⟩ : ∃ W0, w.alloc (.cells #[.slice (some ⟨w.heap.size + 1, 0, none⟩) 1 1, .slice (some ⟨w.heap.size + 1 + 1, 0, none⟩) 1 1, .slice (some ⟨w.heap.size + 1 + 1 + 1, 0, none⟩) 1 1, .slice (some ⟨w.heap.size + 1 + 1 + 1 + 1, 0, none⟩) 1 1] 29) = W0 := ⟨_, rfl⟩
  have hs0 : W0.heap.size = w.heap.size + 1 := by rw [← hW0]; simp
  have hb0 : Below (w.alloc (.cells #[.slice (some ⟨w.heap.size + 1, 0, none⟩) 1 1, .slice (some ⟨w.heap.size + 1 + 1, 0, none⟩) 1 1, .slice (some ⟨w.heap.size + 1 + 1 + 1, 0, none⟩) 1 1, .slice (some ⟨w.heap.size + 1 + 1 + 1 + 1, 0, none⟩) 1 1] 29)).heap.size (w.alloc (.cells #[.slice (some ⟨w.heap.size + 1, 0, none⟩) 1 1, .slice (some ⟨w.heap.size + 1 + 1, 0, none⟩) 1 1, .slice (some ⟨w.heap.size + 1 + 1 + 1, 0, none⟩) 1 1, .slice (some ⟨w.heap.size + 1 + 1 + 1 + 1, 0, none⟩) 1 1] 29)) W0 := by rw [hW0]; exact Below.refl _ _
  have hw0 : Below w.heap.size w W0 := by rw [← hW0]; exact (Below.refl _ _).alloc (Nat.le_refl _) _
  rw [hW0]
  obtain ⟨X, hX⟩ : ∃ X, (((W0.alloc (.cells #[.int .i64 o] 3)).alloc (.cells #[.bool false] 4)).alloc (.cells #[.int .i64 (-9223372036854775808)] 2)).alloc (.cells #[.int .i64 0] 3) = X := ⟨_, rfl⟩
  rw [hX]
  have h4 : Below ((((W0.alloc (.cells #[.int .i64 o] 3)).alloc (.cells #[.bool false] 4)).alloc (.cells #[.int .i64 (-9223372036854775808)] 2)).alloc (.cells #[.int .i64 0] 3)).heap.size ((((W0.alloc (.cells #[.int .i64 o] 3)).alloc (.cells #[.bool false] 4)).alloc (.cells #[.int .i64 (-9223372036854775808)] 2)).alloc (.cells #[.int .i64 0] 3)) X := by rw [hX]; exact Below.refl _ _
  have h3 : Below (((W0.alloc (.cells #[.int .i64 o] 3)).alloc (.cells #[.bool false] 4)).alloc (.cells #[.int .i64 (-9223372036854775808)] 2)).heap.size (((W0.alloc (.cells #[.int .i64 o] 3)).alloc (.cells #[.bool false] 4)).alloc (.cells #[.int .i64 (-9223372036854775808)] 2)) X := ((Below.refl _ _).alloc (Nat.le_refl _) _).trans (h4.mono (by simp))
  have h2 : Below ((W0.alloc (.cells #[.int .i64 o] 3)).alloc (.cells #[.bool false] 4)).heap.size ((W0.alloc (.cells #[.int .i64 o] 3)).alloc (.cells #[.bool false] 4)) X := ((Below.refl _ _).alloc (Nat.le_refl _) _).trans (h3.mono (by simp))
  have h1 : Below (W0.alloc (.cells #[.int .i64 o] 3)).heap.size (W0.alloc (.cells #[.int .i64 o] 3)) X := ((Below.refl _ _).alloc (Nat.le_refl _) _).trans (h2.mono (by simp))
  have hWX : Below W0.heap.size W0 X := ((Below.refl _ _).alloc (Nat.le_refl _) _).trans (h1.mono (by simp))
  have c1 := cells_after h1 0 _ rfl
  have c2 := cells_after h2 0 _ rfl
  have c3 := cells_after h3 0 _ rfl
  have c4 := cells_after h4 0 _ rfl
  rw [show (W0.alloc (.cells #[.int .i64 o] 3)).heap.size = w.heap.size + 1 + 1 by simp [hs0]] at c2
  rw [show ((W0.alloc (.cells #[.int .i64 o] 3)).alloc (.cells #[.bool false] 4)).heap.size = w.heap.size + 1 + 1 + 1 by simp [hs0]] at c3
  rw [show (((W0.alloc (.cells #[.int .i64 o] 3)).alloc (.cells #[.bool false] 4)).alloc (.cells #[.int .i64 (-9223372036854775808)] 2)).heap.size = w.heap.size + 1 + 1 + 1 + 1 by simp [hs0]] at c4
  rw [hs0] at c1
  have hbX := hb0.trans (hWX.mono (by rw [hs0]; simp))
  have d0 := cells_after hbX 0 _ rfl
  have d1 := cells_after hbX 1 _ rfl
  have d2 := cells_after hbX 2 _ rfl
  have d3 := cells_after hbX 3 _ rfl
  have add0 : ∀ b : Nat, (⟨b, 0, none⟩ : Addr).add 0 = ⟨b, 0, none⟩ := fun b => rfl
  refine bodyPost_ret (v := .agg #[.slice (some ⟨w.heap.size + 1, 0, none⟩) 1 1, .slice (some ⟨w.heap.size + 1 + 1, 0, none⟩) 1 1, .slice (some ⟨w.heap.size + 1 + 1 + 1, 0, none⟩) 1 1, .slice (some ⟨w.heap.size + 1 + 1 + 1 + 1, 0, none⟩) 1 1]) (by simp [results, Try.results26, go_sem, *]) rfl ⟨⟨⟨some ⟨w.heap.size + 1, 0, none⟩, some ⟨w.heap.size + 1 + 1, 0, none⟩, some ⟨w.heap.size + 1 + 1 + 1, 0, none⟩, some ⟨w.heap.size + 1 + 1 + 1 + 1, 0, none⟩, 1, 1, 1, 1, fun _ => o, fun _ => false, fun _ => -9223372036854775808, fun _ => 0⟩, rfl, ?_, ⟨rfl, rfl, rfl, rfl, rfl, rfl, rfl⟩⟩, hw0.trans (hWX.mono hw0.size)⟩
  refine ⟨fun k hk => ?_, fun k hk => ?_, fun k hk => ?_, fun k hk => ?_, by simp, by simp, by simp, by simp, fun k hk => ?_, fun k hk => ?_, fun k hk => ?_⟩
  · obtain rfl : k = 0 := by have : k < 1 := hk; omega
    exact ⟨_, rfl, c1⟩
  · obtain rfl : k = 0 := by have : k < 1 := hk; omega
    exact ⟨_, rfl, c2⟩
  · obtain rfl : k = 0 := by have : k < 1 := hk; omega
    exact ⟨_, rfl, c3⟩
  · obtain rfl : k = 0 := by have : k < 1 := hk; omega
    exact ⟨_, rfl, c4⟩
  · show -9223372036854775808 ≤ o ∧ o ≤ 9223372036854775807
    omega
  · show -9223372036854775808 ≤ (-9223372036854775808 : Int) ∧ (-9223372036854775808 : Int) ≤ 9223372036854775807
    omega
  · show -9223372036854775808 ≤ (0 : Int) ∧ (0 : Int) ≤ 9223372036854775807
    omega

def isBefore (s n x m : Int) : Bool := decide (s < x) || (s == x && decide (n < m))
theorem before_any (s n x m : Int) (w : World) (h : s < x) : Calls Try.prog 28 #[.agg #[.int .i64 s, .int .i64 n], .agg #[.int .i64 x, .int .i64 m]] w fun e w' => e = .returned (.bool true) ∧ Below w.heap.size w w' := by
  have hb : Below w.heap.size w ((w.alloc (.cells #[.int .i64 s, .int .i64 n] 24)).alloc (.cells #[.int .i64 x, .int .i64 m] 24)) := ((Below.refl _ _).alloc (Nat.le_refl _) _).alloc (by simp) _
  go_enter Try.func28, Try.ntmps28
  go_wp2
  go_ret
  exact ⟨rfl, hb⟩

/-! ### One offset for the time in question -/
section
open Go.Proofs.Ytoekefbclkmchaa.Search Go.Proofs.Ytoekefbclkmchaa.NextI
variable {off off' : Int → Int} {S : Sched} {first Y5 : Int}
theorem fit_same {y : Int} (h : off' y = off y) : (Fit off' S y ↔ Fit off S y) ∧ yr off' y = yr off y := by
  have e : lo off' y = lo off y := by unfold lo; rw [h]
  have e1 : day off' y = day off y := by unfold day; rw [e]
  have e2 : tod off' y = tod off y := by unfold tod; rw [e]
  refine ⟨?_, by unfold yr; rw [e1]⟩
  unfold Fit monF dyF hrF miF seF
  rw [e1, e2]
theorem _root_.Go.Proofs.Ytoekefbclkmchaa.NextI.IsNext.congr {o : Option Int} (h : IsNext off S first Y5 o) (he : ∀ y, first ≤ y → off' y = off y) : IsNext off' S first Y5 o := by
  cases o with
  | none => exact fun y y1 y2 y3 => h y y1 (by rw [← (fit_same (S := S) (he y y1)).2]; exact y2) ((fit_same (he y y1)).1.1 y3)
  | some x =>
    obtain ⟨h1, h2, h3, h4⟩ := h
    exact ⟨h1, (fit_same (he x h1)).1.2 h2, by rw [(fit_same (S := S) (he x h1)).2]; exact h3, fun y y1 y2 y3 => h4 y y1 y2 ((fit_same (he y y1)).1.1 y3)⟩
theorem _root_.Go.Proofs.Ytoekefbclkmchaa.NextI.IsNext.congr_some {x : Int} (h : IsNext off S first Y5 (some x)) (he : ∀ y, first ≤ y → y ≤ x → off' y = off y) : IsNext off' S first Y5 (some x) := by
  obtain ⟨h1, h2, h3, h4⟩ := h
  exact ⟨h1, (fit_same (he x h1 (Int.le_refl _))).1.2 h2, by rw [(fit_same (S := S) (he x h1 (Int.le_refl _))).2]; exact h3, fun y y1 y2 y3 => h4 y y1 y2 ((fit_same (he y y1 (by omega))).1.1 y3)⟩
theorem const_plain (o : Int) (ho : -86400 ≤ o ∧ o ≤ 86400) (h60 : o % 60 = 0) (A B : Int) (_ : -100000000000 ≤ A) : Plain (fun _ => o) A B :=
  ⟨fun s => ho, fun s _ _ => h60, fun v w _ _ _ h _ => absurd rfl h, fun w _ _ h => absurd rfl h⟩
theorem const_top {s x : Int} (o : Int) (ho : -86400 ≤ o ∧ o ≤ 86400) (s0 : -62135596800 ≤ s) (s1 : s ≤ 253402300799) (h : IsNext (fun _ => o) S (s + 1) (yOf (day (fun _ => o) (s + 1)) + 5) (some x)) : x ≤ 260000000000 := by
  obtain ⟨h1, h2, h3, h4⟩ := h
  have e : ∀ y, day (fun _ => o) y = (y + o) / 86400 := fun y => rfl
  have h5 := SpecNext.year_lt h3
  rw [e] at h5
  rw [e] at h5
  have hy : yOf ((s + 1 + o) / 86400) ≤ 10001 := by
    have h6 := year_in ((s + 1 + o) / 86400)
    unfold ys at h6
    omega
  have h8 : ys (yOf ((s + 1 + o) / 86400) + 5 + 1) ≤ 2936000 := by unfold ys; omega
  omega
end

end Go.Proofs.Ytoekefbclkmchaa.Fixed
