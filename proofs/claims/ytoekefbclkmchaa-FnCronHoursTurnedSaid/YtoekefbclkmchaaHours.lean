/- The walk of the law FnCronHoursTurned. Conditions: sets of 64 bits. -/
import Derived.Test.YtoekefbclkmchaaHoursP
import Derived.Deep.DeepCutAuto
import Derived.Deep.CutBlock
namespace Go.Proofs.Ytoekefbclkmchaa.fnCronHoursTurned
open Go Go.RowKit Go.Proofs.Ytoekefbclkmchaa.TimeNum Go.Proofs.Ytoekefbclkmchaa.Cal Go.Proofs.Ytoekefbclkmchaa.Off Go.Proofs.Ytoekefbclkmchaa.Search Go.Proofs.Ytoekefbclkmchaa.DayM Go.Proofs.Ytoekefbclkmchaa.Moment Go.Proofs.Ytoekefbclkmchaa.Bits Go.Proofs.Ytoekefbclkmchaa.Bnd Go.Proofs.Ytoekefbclkmchaa.Lookup Go.Proofs.Ytoekefbclkmchaa.Zone Go.Proofs.Ytoekefbclkmchaa.Zone2 Go.Proofs.Ytoekefbclkmchaa.DayFits Go.Proofs.Ytoekefbclkmchaa.Fields Go.Proofs.Ytoekefbclkmchaa.FieldsOf Go.Proofs.Ytoekefbclkmchaa.Never Go.Proofs.Ytoekefbclkmchaa.NextC Go.Proofs.Ytoekefbclkmchaa.NextI Go.Proofs.Ytoekefbclkmchaa.NextJ Go.Proofs.Ytoekefbclkmchaa.Ask Go.Proofs.Ytoekefbclkmchaa.Stars Go.Proofs.Ytoekefbclkmchaa.Case Go.Proofs.Ytoekefbclkmchaa.SpecNext Go.Proofs.Ytoekefbclkmchaa.Turned Go.Proofs.Ytoekefbclkmchaa.HoursP
set_option linter.unusedVariables false

theorem name_calls {P : Program} {f : FuncId} {args : Array Value} {w : World} {Q : Ending → World → Prop} (h : ∀ X, X = w → Calls P f args X Q) : Calls P f args w Q := h w rfl
theorem name_world {P : Program} {c : Code} {Q : Exit → Act → World → Prop} {a : Act} {w : World} (h : ∀ X, X = w → c.wp P Q a X) : c.wp P Q a w := h w rfl

set_option maxHeartbeats 8000000 in
set_option maxRecDepth 100000 in
theorem walk (ev : Bool) (d se mi hr dom mon dow s nano h : Int) (w : World) (hu : U6 se mi hr dom mon dow) (hs : -9223372036854775808 ≤ s ∧ s ≤ 9223372036854775807) (hh : -9223372036854775808 ≤ h ∧ h ≤ 9223372036854775807) :
    Calls Try.prog 8 #[.agg #[.bool ev, .int .i64 d, .int .u64 se, .int .u64 mi, .int .u64 hr, .int .u64 dom, .int .u64 mon, .int .u64 dow], .agg #[.int .i64 s, .int .i64 nano], .int .i64 h] w fun e w' => e = .returned (.bool true) ∧ Below w.heap.size w w' := by
  obtain ⟨V, hV⟩ : ∃ V, ((w.alloc (.cells #[.bool ev, .int .i64 d, .int .u64 se, .int .u64 mi, .int .u64 hr, .int .u64 dom, .int .u64 mon, .int .u64 dow] 51)).alloc (.cells #[.int .i64 s, .int .i64 nano] 24)) = V := ⟨_, rfl⟩
  have hbV : Below w.heap.size w V := by rw [← hV]; exact ((Below.refl _ _).alloc (Nat.le_refl _) _).alloc (by simp) _
  have hsV : V.heap.size = w.heap.size + 1 + 1 := by rw [← hV]; simp
  have HKS : Hid (∀ X, Below V.heap.size V X → (X.cell? ⟨w.heap.size, 0, none⟩ = some (.bool ev) ∧ X.cell? ⟨w.heap.size, 1, none⟩ = some (.int .i64 d) ∧ X.cell? ⟨w.heap.size, 2, none⟩ = some (.int .u64 se) ∧ X.cell? ⟨w.heap.size, 3, none⟩ = some (.int .u64 mi) ∧ X.cell? ⟨w.heap.size, 4, none⟩ = some (.int .u64 hr) ∧ X.cell? ⟨w.heap.size, 5, none⟩ = some (.int .u64 dom) ∧ X.cell? ⟨w.heap.size, 6, none⟩ = some (.int .u64 mon) ∧ X.cell? ⟨w.heap.size, 7, none⟩ = some (.int .u64 dow) ∧ X.cell? ⟨w.heap.size + 1, 0, none⟩ = some (.int .i64 s) ∧ X.cell? ⟨w.heap.size + 1, 1, none⟩ = some (.int .i64 nano)) ∧ X.frozen? ⟨w.heap.size, 0, none⟩ = false ∧ X.frozen? ⟨w.heap.size, 1, none⟩ = false ∧ X.frozen? ⟨w.heap.size, 2, none⟩ = false ∧ X.frozen? ⟨w.heap.size, 3, none⟩ = false ∧ X.frozen? ⟨w.heap.size, 4, none⟩ = false ∧ X.frozen? ⟨w.heap.size, 5, none⟩ = false ∧ X.frozen? ⟨w.heap.size, 6, none⟩ = false ∧ X.frozen? ⟨w.heap.size, 7, none⟩ = false) := Lib.hid (fun X hX => by
    have e1 : (w.alloc (.cells #[.bool ev, .int .i64 d, .int .u64 se, .int .u64 mi, .int .u64 hr, .int .u64 dom, .int .u64 mon, .int .u64 dow] 51)).heap.size = w.heap.size + 1 := by simp
    have h2 : Below ((w.alloc (.cells #[.bool ev, .int .i64 d, .int .u64 se, .int .u64 mi, .int .u64 hr, .int .u64 dom, .int .u64 mon, .int .u64 dow] 51)).alloc (.cells #[.int .i64 s, .int .i64 nano] 24)).heap.size ((w.alloc (.cells #[.bool ev, .int .i64 d, .int .u64 se, .int .u64 mi, .int .u64 hr, .int .u64 dom, .int .u64 mon, .int .u64 dow] 51)).alloc (.cells #[.int .i64 s, .int .i64 nano] 24)) X := by rw [hV]; exact hX
    have h1 : Below (w.alloc (.cells #[.bool ev, .int .i64 d, .int .u64 se, .int .u64 mi, .int .u64 hr, .int .u64 dom, .int .u64 mon, .int .u64 dow] 51)).heap.size (w.alloc (.cells #[.bool ev, .int .i64 d, .int .u64 se, .int .u64 mi, .int .u64 hr, .int .u64 dom, .int .u64 mon, .int .u64 dow] 51)) X := ((Below.refl _ _).alloc (Nat.le_refl _) _).trans (h2.mono (by simp))
    have b0 := cells_after h2 0 _ rfl
    have b1 := cells_after h2 1 _ rfl
    rw [e1] at b0 b1
    exact ⟨⟨cells_after h1 0 _ rfl, cells_after h1 1 _ rfl, cells_after h1 2 _ rfl, cells_after h1 3 _ rfl, cells_after h1 4 _ rfl, cells_after h1 5 _ rfl, cells_after h1 6 _ rfl, cells_after h1 7 _ rfl, b0, b1⟩, free_after h1 0, free_after h1 1, free_after h1 2, free_after h1 3, free_after h1 4, free_after h1 5, free_after h1 6, free_after h1 7⟩)
  have HB := Lib.hid hbV
  have HSV := Lib.hid hsV
  have HCA := Lib.hid (fun w1 => case_any ev d se mi hr (starSet 3) (starSet 4) (starSet 5) s nano w1)
  have HED := Lib.hid (fun w1 => eachDay_any ev d se mi hr dom mon dow w1)
  have HU := Lib.hid hu
  obtain ⟨⟨y0, y1, y2, y3, y4, y5, y6, y7, y8, y9⟩, f0, f1, f2, f3, f4, f5, f6, f7⟩ := HKS.out V (Below.refl _ _)
  clear hbV hu hsV
  by_cases hr0 : (-100 ≤ h ∧ h ≤ 100) ∧ (-62135596800 ≤ s ∧ s ≤ 253402300799)
  rotate_left
  · go_enter Try.func8, Try.ntmps8
    go_wp2_with fail
    clear hV
    refine (HED.out _).mono ?_
    rintro x w1 ⟨rfl, hb1⟩
    have HB1 := Lib.hid hb1
    clear hb1 y0 y1 y2 y3 y4 y5 y6 y7 y8 y9 f0 f1 f2 f3 f4 f5 f6 f7
    obtain ⟨⟨y0, y1, y2, y3, y4, y5, y6, y7, y8, y9⟩, f0, f1, f2, f3, f4, f5, f6, f7⟩ := HKS.out w1 HB1.out
    go_upto_region 2 with fail
    refine name_world (fun X1 hX1 => ?_)
    have hl1 : w.heap.size + 1 < w1.heap.size := World.block_lt_of_cell? w1 _ y8
    have hcX : X1.cell? ⟨w.heap.size, 0, none⟩ = some (.bool ev) ∧ X1.cell? ⟨w.heap.size, 1, none⟩ = some (.int .i64 d) ∧ X1.cell? ⟨w.heap.size, 2, none⟩ = some (.int .u64 se) ∧ X1.cell? ⟨w.heap.size, 3, none⟩ = some (.int .u64 mi) ∧ X1.cell? ⟨w.heap.size, 4, none⟩ = some (.int .u64 hr) ∧ X1.cell? ⟨w.heap.size, 5, none⟩ = some (.int .u64 (starSet 3)) ∧ X1.cell? ⟨w.heap.size, 6, none⟩ = some (.int .u64 (starSet 4)) ∧ X1.cell? ⟨w.heap.size, 7, none⟩ = some (.int .u64 (starSet 5)) ∧ X1.cell? ⟨w.heap.size + 1, 0, none⟩ = some (.int .i64 s) ∧ X1.cell? ⟨w.heap.size + 1, 1, none⟩ = some (.int .i64 nano) := by
      rw [hX1]
      refine ⟨?_, ?_, ?_, ?_, ?_, ?_, ?_, ?_, ?_, ?_⟩ <;> simp [go_sem, *]
    have hbX : Below w.heap.size w X1 := by
      rw [hX1]
      exact below_set8 (HB.out.trans (HB1.out.mono HB.out.size)) (Nat.le_refl _)
    have hsX : w1.heap.size = X1.heap.size := by rw [hX1]; simp
    clear hX1 y0 y1 y2 y3 y4 y5 y6 y7 y8 y9 f0 f1 f2 f3 f4 f5 f6 f7
    obtain ⟨y0, y1, y2, y3, y4, y5, y6, y7, y8, y9⟩ := hcX
    have hlt1 : w.heap.size + 1 < X1.heap.size := by omega
    have hlt0 : w.heap.size < X1.heap.size := by omega
    go_wp2_with fail
    refine name_calls (fun Z hZ => ?_)
    have hAZ : Below X1.heap.size X1 Z := by
      rw [hZ]
      exact (Below.refl _ _).alloc (Nat.le_refl _) _
    have HBZ := Lib.hid (hbX.trans (hAZ.mono hbX.size))
    obtain ⟨p7, hp7⟩ : ∃ p7, X1.heap.size = p7 := ⟨_, rfl⟩
    rw [hp7]
    clear hZ hAZ hlt1 hlt0 hp7 hl1 hbX hsX y0 y1 y2 y3 y4 y5 y6 y7 y8 y9
    refine (HCA.out _).mono ?_
    rintro x w2 ⟨g, rfl, hg, hb2⟩
    have HB2 := Lib.hid hb2
    clear hb2
    cases g
    · go_wp2_with fail
      go_ret
      exact ⟨rfl, HBZ.out.trans (HB2.out.mono HBZ.out.size)⟩
    obtain ⟨rfl, ⟨s0, s1⟩, -, -⟩ := hg rfl
    by_cases q1 : h < -100
    · go_wp2_with fail
      go_ret
      exact ⟨rfl, HBZ.out.trans (HB2.out.mono HBZ.out.size)⟩
    · have q2 : 100 < h := by omega
      go_wp2_with fail
      go_ret
      exact ⟨rfl, HBZ.out.trans (HB2.out.mono HBZ.out.size)⟩
  · obtain ⟨⟨h0, h1⟩, s0, s1⟩ := hr0
    go_enter Try.func8, Try.ntmps8
    go_wp2_with fail
    clear hV
    refine (HED.out _).mono ?_
    rintro x w1 ⟨rfl, hb1⟩
    have HB1 := Lib.hid hb1
    clear hb1 y0 y1 y2 y3 y4 y5 y6 y7 y8 y9 f0 f1 f2 f3 f4 f5 f6 f7
    obtain ⟨⟨y0, y1, y2, y3, y4, y5, y6, y7, y8, y9⟩, f0, f1, f2, f3, f4, f5, f6, f7⟩ := HKS.out w1 HB1.out
    go_upto_region 2 with fail
    refine name_world (fun X1 hX1 => ?_)
    have hl1 : w.heap.size + 1 < w1.heap.size := World.block_lt_of_cell? w1 _ y8
    have hcX : X1.cell? ⟨w.heap.size, 0, none⟩ = some (.bool ev) ∧ X1.cell? ⟨w.heap.size, 1, none⟩ = some (.int .i64 d) ∧ X1.cell? ⟨w.heap.size, 2, none⟩ = some (.int .u64 se) ∧ X1.cell? ⟨w.heap.size, 3, none⟩ = some (.int .u64 mi) ∧ X1.cell? ⟨w.heap.size, 4, none⟩ = some (.int .u64 hr) ∧ X1.cell? ⟨w.heap.size, 5, none⟩ = some (.int .u64 (starSet 3)) ∧ X1.cell? ⟨w.heap.size, 6, none⟩ = some (.int .u64 (starSet 4)) ∧ X1.cell? ⟨w.heap.size, 7, none⟩ = some (.int .u64 (starSet 5)) ∧ X1.cell? ⟨w.heap.size + 1, 0, none⟩ = some (.int .i64 s) ∧ X1.cell? ⟨w.heap.size + 1, 1, none⟩ = some (.int .i64 nano) := by
      rw [hX1]
      refine ⟨?_, ?_, ?_, ?_, ?_, ?_, ?_, ?_, ?_, ?_⟩ <;> simp [go_sem, *]
    have hbX : Below w.heap.size w X1 := by
      rw [hX1]
      exact below_set8 (HB.out.trans (HB1.out.mono HB.out.size)) (Nat.le_refl _)
    have hsX : w1.heap.size = X1.heap.size := by rw [hX1]; simp
    clear hX1 y0 y1 y2 y3 y4 y5 y6 y7 y8 y9 f0 f1 f2 f3 f4 f5 f6 f7
    obtain ⟨y0, y1, y2, y3, y4, y5, y6, y7, y8, y9⟩ := hcX
    have hlt1 : w.heap.size + 1 < X1.heap.size := by omega
    have hlt0 : w.heap.size < X1.heap.size := by omega
    go_wp2_with fail
    refine name_calls (fun Z hZ => ?_)
    obtain ⟨p7, hp7⟩ : ∃ p7, X1.heap.size = p7 := ⟨_, rfl⟩
    have hp7b : w.heap.size + 1 < p7 := by omega
    have hbZ : Below w.heap.size w Z := by
      rw [hZ]
      exact hbX.alloc hbX.size _
    have hsZ : p7 < Z.heap.size := by rw [hZ]; simp; omega
    have hAZ : Below X1.heap.size X1 Z := by
      rw [hZ]
      exact (Below.refl _ _).alloc (Nat.le_refl _) _
    have hnZ : Z.cell? ⟨p7, 0, none⟩ = some (.int .i64 (s + 3600 * h)) ∧ Z.cell? ⟨p7, 1, none⟩ = some (.int .i64 nano) := by
      rw [hZ, ← hp7]
      exact ⟨cells_after (Below.refl _ _) 0 _ rfl, cells_after (Below.refl _ _) 1 _ rfl⟩
    have hcZ : Z.cell? ⟨w.heap.size, 0, none⟩ = some (.bool ev) ∧ Z.cell? ⟨w.heap.size, 1, none⟩ = some (.int .i64 d) ∧ Z.cell? ⟨w.heap.size, 2, none⟩ = some (.int .u64 se) ∧ Z.cell? ⟨w.heap.size, 3, none⟩ = some (.int .u64 mi) ∧ Z.cell? ⟨w.heap.size, 4, none⟩ = some (.int .u64 hr) ∧ Z.cell? ⟨w.heap.size, 5, none⟩ = some (.int .u64 (starSet 3)) ∧ Z.cell? ⟨w.heap.size, 6, none⟩ = some (.int .u64 (starSet 4)) ∧ Z.cell? ⟨w.heap.size, 7, none⟩ = some (.int .u64 (starSet 5)) ∧ Z.cell? ⟨w.heap.size + 1, 0, none⟩ = some (.int .i64 s) ∧ Z.cell? ⟨w.heap.size + 1, 1, none⟩ = some (.int .i64 nano) ∧ Z.cell? ⟨p7, 0, none⟩ = some (.int .i64 (s + 3600 * h)) ∧ Z.cell? ⟨p7, 1, none⟩ = some (.int .i64 nano) := ⟨(hAZ.cell (World.block_lt_of_cell? X1 _ y0)).trans y0, (hAZ.cell (World.block_lt_of_cell? X1 _ y1)).trans y1, (hAZ.cell (World.block_lt_of_cell? X1 _ y2)).trans y2, (hAZ.cell (World.block_lt_of_cell? X1 _ y3)).trans y3, (hAZ.cell (World.block_lt_of_cell? X1 _ y4)).trans y4, (hAZ.cell (World.block_lt_of_cell? X1 _ y5)).trans y5, (hAZ.cell (World.block_lt_of_cell? X1 _ y6)).trans y6, (hAZ.cell (World.block_lt_of_cell? X1 _ y7)).trans y7, (hAZ.cell (World.block_lt_of_cell? X1 _ y8)).trans y8, (hAZ.cell (World.block_lt_of_cell? X1 _ y9)).trans y9, hnZ.1, hnZ.2⟩
    have HKZ : Hid (∀ X, Below Z.heap.size Z X → X.cell? ⟨w.heap.size, 0, none⟩ = some (.bool ev) ∧ X.cell? ⟨w.heap.size, 1, none⟩ = some (.int .i64 d) ∧ X.cell? ⟨w.heap.size, 2, none⟩ = some (.int .u64 se) ∧ X.cell? ⟨w.heap.size, 3, none⟩ = some (.int .u64 mi) ∧ X.cell? ⟨w.heap.size, 4, none⟩ = some (.int .u64 hr) ∧ X.cell? ⟨w.heap.size, 5, none⟩ = some (.int .u64 (starSet 3)) ∧ X.cell? ⟨w.heap.size, 6, none⟩ = some (.int .u64 (starSet 4)) ∧ X.cell? ⟨w.heap.size, 7, none⟩ = some (.int .u64 (starSet 5)) ∧ X.cell? ⟨w.heap.size + 1, 0, none⟩ = some (.int .i64 s) ∧ X.cell? ⟨w.heap.size + 1, 1, none⟩ = some (.int .i64 nano) ∧ X.cell? ⟨p7, 0, none⟩ = some (.int .i64 (s + 3600 * h)) ∧ X.cell? ⟨p7, 1, none⟩ = some (.int .i64 nano)) := Lib.hid (fun X hX => by
      obtain ⟨k0, k1, k2, k3, k4, k5, k6, k7, k8, k9, k10, k11⟩ := hcZ
      exact ⟨(hX.cell (World.block_lt_of_cell? Z _ k0)).trans k0, (hX.cell (World.block_lt_of_cell? Z _ k1)).trans k1, (hX.cell (World.block_lt_of_cell? Z _ k2)).trans k2, (hX.cell (World.block_lt_of_cell? Z _ k3)).trans k3, (hX.cell (World.block_lt_of_cell? Z _ k4)).trans k4, (hX.cell (World.block_lt_of_cell? Z _ k5)).trans k5, (hX.cell (World.block_lt_of_cell? Z _ k6)).trans k6, (hX.cell (World.block_lt_of_cell? Z _ k7)).trans k7, (hX.cell (World.block_lt_of_cell? Z _ k8)).trans k8, (hX.cell (World.block_lt_of_cell? Z _ k9)).trans k9, (hX.cell (World.block_lt_of_cell? Z _ k10)).trans k10, (hX.cell (World.block_lt_of_cell? Z _ k11)).trans k11⟩)
    rw [hp7]
    have HBZ := Lib.hid hbZ
    have HSZ := Lib.hid hsZ
    clear hZ hcZ hbZ hsZ hAZ hnZ hlt1 hlt0 hp7 hl1 hbX hsX y0 y1 y2 y3 y4 y5 y6 y7 y8 y9
    refine (HCA.out _).mono ?_
    rintro x w2 ⟨g, rfl, hg, hb2⟩
    have HB2 := Lib.hid hb2
    clear hb2
    obtain ⟨k0, k1, k2, k3, k4, k5, k6, k7, k8, k9, k10, k11⟩ := HKZ.out w2 HB2.out
    cases g
    · go_wp2_with fail
      go_ret
      exact ⟨rfl, HBZ.out.trans (HB2.out.mono HBZ.out.size)⟩
    obtain ⟨rfl, -, n0, n1⟩ := hg rfl
    go_wp2_with fail
    refine (good_any (s + 3600 * h) nano _).mono ?_
    rintro x w3 ⟨g, rfl, hg2, hb3⟩
    have HB3 := Lib.hid (HB2.out.trans (hb3.mono HB2.out.size))
    clear hb3 k0 k1 k2 k3 k4 k5 k6 k7 k8 k9 k10 k11
    obtain ⟨k0, k1, k2, k3, k4, k5, k6, k7, k8, k9, k10, k11⟩ := HKZ.out w3 HB3.out
    cases g
    · go_wp2_with fail
      go_ret
      exact ⟨rfl, HBZ.out.trans (HB3.out.mono HBZ.out.size)⟩
    obtain ⟨⟨u0, u1⟩, -, -⟩ := hg2 rfl
    have HTU := Lib.hid (fun w1 => turned_any hr h w1 HU.out.2.2.1 h0 h1)
    obtain ⟨ht, hht⟩ : ∃ ht, bset (turnB (fun v => has hr (v : Int)) h 24) = ht := ⟨_, rfl⟩
    have htu : U64 ht := by rw [← hht]; exact bset_bd _
    rw [hht] at HTU
    obtain ⟨o, ho⟩ := isNext_ex (S := allS se mi hr) utc_calm.pl (s + 1) (yOf (day (Raw.off utc) (s + 1)) + 5) (by omega)
    have ho2 := shifted (h := h) ho
    rw [hht] at ho2
    have hask := asked utc_calm.pl s0 s1 (by rw [utc_off]; rfl) ho
    have hask2 := asked utc_calm.pl u0 u1 (by rw [utc_off]; rfl) ho2
    have hnv := never_iff ho
    obtain ⟨x0, hop⟩ : ∃ x0, ansA o = #[.int .i64 x0, .int .i64 0] := by
      cases o with
      | none => exact ⟨0, rfl⟩
      | some x => exact ⟨x, rfl⟩
    obtain ⟨x1, hop1⟩ : ∃ x1, ansA (o.map (· + 3600 * h)) = #[.int .i64 x1, .int .i64 0] := by
      cases o with
      | none => exact ⟨0, rfl⟩
      | some x => exact ⟨x + 3600 * h, rfl⟩
    have HN1 : Hid (∀ w1, Calls Try.prog 22 #[.agg #[.bool false, .int .i64 d, .int .u64 se, .int .u64 mi, .int .u64 hr, .int .u64 (starSet 3), .int .u64 (starSet 4), .int .u64 (starSet 5)], .agg #[.int .i64 s, .int .i64 nano], .agg #[.slice none 0 0, .slice none 0 0, .slice none 0 0, .slice none 0 0]] w1 fun e w' => e = .returned (ansV o) ∧ Below w1.heap.size w1 w') := Lib.hid (fun w1 => NextJ.next_any utc 0 0 0 0 d se mi hr (starSet 3) (starSet 4) (starSet 5) s nano _ o w1 (utc_at w1) utc_ok ⟨HU.out.1, HU.out.2.1, HU.out.2.2.1, star_u64 3, star_u64 4, star_u64 5⟩ n0 n1 hask)
    have HN2 : Hid (∀ w1, Calls Try.prog 22 #[.agg #[.bool false, .int .i64 d, .int .u64 se, .int .u64 mi, .int .u64 ht, .int .u64 (starSet 3), .int .u64 (starSet 4), .int .u64 (starSet 5)], .agg #[.int .i64 (s + 3600 * h), .int .i64 nano], .agg #[.slice none 0 0, .slice none 0 0, .slice none 0 0, .slice none 0 0]] w1 fun e w' => e = .returned (ansV (o.map (· + 3600 * h))) ∧ Below w1.heap.size w1 w') := Lib.hid (fun w1 => NextJ.next_any utc 0 0 0 0 d se mi ht (starSet 3) (starSet 4) (starSet 5) (s + 3600 * h) nano _ _ w1 (utc_at w1) utc_ok ⟨HU.out.1, HU.out.2.1, htu, star_u64 3, star_u64 4, star_u64 5⟩ n0 n1 hask2)
    have HMV := Lib.hid (fun w1 => moved_any o (3600 * h) w1 (fun x hx => by have := hask.bound x hx; omega) (by omega) (by omega))
    have HFO := Lib.hid (fun w1 => fieldsOf_any false d se mi hr (starSet 3) (starSet 4) (starSet 5) w1 ⟨HU.out.1, HU.out.2.1, HU.out.2.2.1, star_u64 3, star_u64 4, star_u64 5⟩)
    unfold ansV at HN1 HN2
    rw [hop] at HN1 HMV
    rw [hop1] at HN2 HMV
    obtain ⟨FS, hFS⟩ : ∃ FS, stS (six se mi hr (starSet 3) (starSet 4) (starSet 5)) = FS := ⟨_, rfl⟩
    obtain ⟨FF, hFF⟩ : ∃ FF, fS (six se mi hr (starSet 3) (starSet 4) (starSet 5)) = FF := ⟨_, rfl⟩
    rw [hFS, hFF] at HFO
    rw [hFF] at hnv
    have HNV := Lib.hid (fun w1 => never_any FS FF w1)
    obtain ⟨nv, hn2⟩ : ∃ nv, neverB FF = nv := ⟨_, rfl⟩
    rw [hn2] at HNV hnv
    generalize o.isSome = q at *
    generalize (o.map (· + 3600 * h)).isSome = q1 at *
    have hqn : (q != nv) = true := by rw [hnv]; cases nv <;> rfl
    have HQN := Lib.hid hqn
    clear ho ho2 hask hask2 hnv hop hop1 hFS hFF hn2 hqn hht hg hg2
    have hl3 := World.block_lt_of_cell? w3 _ k0
    have hl4 := World.block_lt_of_cell? w3 _ k8
    have hl7 := World.block_lt_of_cell? w3 _ k10
    simp only at hl3 hl4 hl7
    go_wp2_with fail
    refine (HTU.out _).mono ?_
    rintro x w4 ⟨rfl, rfl⟩
    go_upto_region 7 with fail
    refine name_world (fun V6 hV6 => ?_)
    obtain ⟨p8, hp8⟩ : ∃ p8, w3.heap.size = p8 := ⟨_, rfl⟩
    have hb6 : Below w3.heap.size w3 V6 := by
      rw [hV6]
      exact (Below.refl _ _).alloc (Nat.le_refl _) _
    have hn6 : V6.cell? ⟨p8, 0, none⟩ = some (.bool false) ∧ V6.cell? ⟨p8, 1, none⟩ = some (.int .i64 d) ∧ V6.cell? ⟨p8, 2, none⟩ = some (.int .u64 se) ∧ V6.cell? ⟨p8, 3, none⟩ = some (.int .u64 mi) ∧ V6.cell? ⟨p8, 4, none⟩ = some (.int .u64 ht) ∧ V6.cell? ⟨p8, 5, none⟩ = some (.int .u64 (starSet 3)) ∧ V6.cell? ⟨p8, 6, none⟩ = some (.int .u64 (starSet 4)) ∧ V6.cell? ⟨p8, 7, none⟩ = some (.int .u64 (starSet 5)) := by
      rw [hV6, ← hp8]
      exact ⟨cells_after (Below.refl _ _) 0 _ rfl, cells_after (Below.refl _ _) 1 _ rfl, cells_after (Below.refl _ _) 2 _ rfl, cells_after (Below.refl _ _) 3 _ rfl, cells_after (Below.refl _ _) 4 _ rfl, cells_after (Below.refl _ _) 5 _ rfl, cells_after (Below.refl _ _) 6 _ rfl, cells_after (Below.refl _ _) 7 _ rfl⟩
    have HZ6 := Lib.hid (HB3.out.trans (hb6.mono HB3.out.size))
    have HK6 : Hid (∀ X, Below V6.heap.size V6 X → X.cell? ⟨w.heap.size, 0, none⟩ = some (.bool false) ∧ X.cell? ⟨w.heap.size, 1, none⟩ = some (.int .i64 d) ∧ X.cell? ⟨w.heap.size, 2, none⟩ = some (.int .u64 se) ∧ X.cell? ⟨w.heap.size, 3, none⟩ = some (.int .u64 mi) ∧ X.cell? ⟨w.heap.size, 4, none⟩ = some (.int .u64 hr) ∧ X.cell? ⟨w.heap.size, 5, none⟩ = some (.int .u64 (starSet 3)) ∧ X.cell? ⟨w.heap.size, 6, none⟩ = some (.int .u64 (starSet 4)) ∧ X.cell? ⟨w.heap.size, 7, none⟩ = some (.int .u64 (starSet 5)) ∧ X.cell? ⟨w.heap.size + 1, 0, none⟩ = some (.int .i64 s) ∧ X.cell? ⟨w.heap.size + 1, 1, none⟩ = some (.int .i64 nano) ∧ X.cell? ⟨p7, 0, none⟩ = some (.int .i64 (s + 3600 * h)) ∧ X.cell? ⟨p7, 1, none⟩ = some (.int .i64 nano) ∧ X.cell? ⟨p8, 0, none⟩ = some (.bool false) ∧ X.cell? ⟨p8, 1, none⟩ = some (.int .i64 d) ∧ X.cell? ⟨p8, 2, none⟩ = some (.int .u64 se) ∧ X.cell? ⟨p8, 3, none⟩ = some (.int .u64 mi) ∧ X.cell? ⟨p8, 4, none⟩ = some (.int .u64 ht) ∧ X.cell? ⟨p8, 5, none⟩ = some (.int .u64 (starSet 3)) ∧ X.cell? ⟨p8, 6, none⟩ = some (.int .u64 (starSet 4)) ∧ X.cell? ⟨p8, 7, none⟩ = some (.int .u64 (starSet 5))) := Lib.hid (fun X hX => by
      obtain ⟨m0, m1, m2, m3, m4, m5, m6, m7⟩ := hn6
      obtain ⟨k0, k1, k2, k3, k4, k5, k6, k7, k8, k9, k10, k11⟩ := HKZ.out X (HZ6.out.trans (hX.mono HZ6.out.size))
      exact ⟨k0, k1, k2, k3, k4, k5, k6, k7, k8, k9, k10, k11, (hX.cell (World.block_lt_of_cell? V6 _ m0)).trans m0, (hX.cell (World.block_lt_of_cell? V6 _ m1)).trans m1, (hX.cell (World.block_lt_of_cell? V6 _ m2)).trans m2, (hX.cell (World.block_lt_of_cell? V6 _ m3)).trans m3, (hX.cell (World.block_lt_of_cell? V6 _ m4)).trans m4, (hX.cell (World.block_lt_of_cell? V6 _ m5)).trans m5, (hX.cell (World.block_lt_of_cell? V6 _ m6)).trans m6, (hX.cell (World.block_lt_of_cell? V6 _ m7)).trans m7⟩)
    have HB6 := Lib.hid (HBZ.out.trans (HZ6.out.mono HBZ.out.size))
    rw [hp8]
    clear hV6 hb6 hn6 hp8 hl3 hl4 hl7 k0 k1 k2 k3 k4 k5 k6 k7 k8 k9 k10 k11
    go_cut [9, 10] (fun p b wx => Hid (∃ blk, p = .pointer (some ⟨blk, 0, none⟩) ∧ b = .bool q ∧ Below V6.heap.size V6 wx ∧ V6.heap.size ≤ blk ∧ Pt wx blk x0 0))
    case first =>
      go_region_held3 (fun X => X.cell? ⟨w.heap.size, 0, none⟩ = some (.bool false) ∧ X.cell? ⟨w.heap.size, 1, none⟩ = some (.int .i64 d) ∧ X.cell? ⟨w.heap.size, 2, none⟩ = some (.int .u64 se) ∧ X.cell? ⟨w.heap.size, 3, none⟩ = some (.int .u64 mi) ∧ X.cell? ⟨w.heap.size, 4, none⟩ = some (.int .u64 hr) ∧ X.cell? ⟨w.heap.size, 5, none⟩ = some (.int .u64 (starSet 3)) ∧ X.cell? ⟨w.heap.size, 6, none⟩ = some (.int .u64 (starSet 4)) ∧ X.cell? ⟨w.heap.size, 7, none⟩ = some (.int .u64 (starSet 5)) ∧ X.cell? ⟨w.heap.size + 1, 0, none⟩ = some (.int .i64 s) ∧ X.cell? ⟨w.heap.size + 1, 1, none⟩ = some (.int .i64 nano) ∧ X.cell? ⟨p7, 0, none⟩ = some (.int .i64 (s + 3600 * h)) ∧ X.cell? ⟨p7, 1, none⟩ = some (.int .i64 nano) ∧ X.cell? ⟨p8, 0, none⟩ = some (.bool false) ∧ X.cell? ⟨p8, 1, none⟩ = some (.int .i64 d) ∧ X.cell? ⟨p8, 2, none⟩ = some (.int .u64 se) ∧ X.cell? ⟨p8, 3, none⟩ = some (.int .u64 mi) ∧ X.cell? ⟨p8, 4, none⟩ = some (.int .u64 ht) ∧ X.cell? ⟨p8, 5, none⟩ = some (.int .u64 (starSet 3)) ∧ X.cell? ⟨p8, 6, none⟩ = some (.int .u64 (starSet 4)) ∧ X.cell? ⟨p8, 7, none⟩ = some (.int .u64 (starSet 5))) (exact HK6.out _ (by repeat (first | exact Below.refl _ _ | assumption | refine Below.drew ?_ | refine allocd ?_ _ | refine putd ?_ (by first | exact Nat.le_refl _ | exact Below.size (by assumption)) _ _)))
        ((first
          | (go_at_call 20; (with_reducible refine (cronUTC_any _).mono ?_); rintro x w5 ⟨rfl, hb⟩; (have hw5 := chain (V := V6) (by repeat (first | exact Below.refl _ _ | assumption | refine Below.drew ?_ | refine allocd ?_ _ | refine putd ?_ (by first | exact Nat.le_refl _ | exact Below.size (by assumption)) _ _)) hb); (first | (have hfr := fresh2d hb; obtain ⟨q0, ⟨d0, d1⟩, g0, g1⟩ := hfr) | (have hfr := fresh2 hb; obtain ⟨q0, ⟨d0, d1⟩, g0, g1⟩ := hfr) | (have hfr := keep2 hb ⟨q0, ⟨d0, d1⟩, g0, g1⟩; obtain ⟨q0, ⟨d0, d1⟩, g0, g1⟩ := hfr) | skip))
          | (go_at_call 22; (with_reducible refine (HN1.out _).mono ?_); rintro x w6 ⟨rfl, hb⟩; (have hw6 := chain (V := V6) (by repeat (first | exact Below.refl _ _ | assumption | refine Below.drew ?_ | refine allocd ?_ _ | refine putd ?_ (by first | exact Nat.le_refl _ | exact Below.size (by assumption)) _ _)) hb); (first | (have hfr := fresh2d hb; obtain ⟨q0, ⟨d0, d1⟩, g0, g1⟩ := hfr) | (have hfr := fresh2 hb; obtain ⟨q0, ⟨d0, d1⟩, g0, g1⟩ := hfr) | (have hfr := keep2 hb ⟨q0, ⟨d0, d1⟩, g0, g1⟩; obtain ⟨q0, ⟨d0, d1⟩, g0, g1⟩ := hfr) | skip))))
      all_goals
        go_wp2_with fail
        go_meet
        first
          | exact Lib.hid ⟨_, rfl, rfl, (by repeat (first | exact Below.refl _ _ | assumption | refine Below.drew ?_ | refine allocd ?_ _ | refine putd ?_ (by first | exact Nat.le_refl _ | exact Below.size (by assumption)) _ _)), (by first | exact Nat.le_refl _ | exact Below.size (by assumption)), pt_new _ _ _ _⟩
          | exact Lib.hid ⟨_, rfl, rfl, (by repeat (first | exact Below.refl _ _ | assumption | refine Below.drew ?_ | refine allocd ?_ _ | refine putd ?_ (by first | exact Nat.le_refl _ | exact Below.size (by assumption)) _ _)), (by first | exact Nat.le_refl _ | exact Below.size (by assumption)), pt_set q0 d0 d1⟩
    case rest =>
      obtain ⟨p1, rfl, rfl, hc1, hp1, hpt1⟩ := hcut.out
      obtain ⟨wa, hwa⟩ : ∃ wa, wa = wc := ⟨_, rfl⟩
      subst hwa
      clear hcut
      have HK7 : Hid (∀ X, Below wa.heap.size wa X → X.cell? ⟨w.heap.size, 0, none⟩ = some (.bool false) ∧ X.cell? ⟨w.heap.size, 1, none⟩ = some (.int .i64 d) ∧ X.cell? ⟨w.heap.size, 2, none⟩ = some (.int .u64 se) ∧ X.cell? ⟨w.heap.size, 3, none⟩ = some (.int .u64 mi) ∧ X.cell? ⟨w.heap.size, 4, none⟩ = some (.int .u64 hr) ∧ X.cell? ⟨w.heap.size, 5, none⟩ = some (.int .u64 (starSet 3)) ∧ X.cell? ⟨w.heap.size, 6, none⟩ = some (.int .u64 (starSet 4)) ∧ X.cell? ⟨w.heap.size, 7, none⟩ = some (.int .u64 (starSet 5)) ∧ X.cell? ⟨w.heap.size + 1, 0, none⟩ = some (.int .i64 s) ∧ X.cell? ⟨w.heap.size + 1, 1, none⟩ = some (.int .i64 nano) ∧ X.cell? ⟨p7, 0, none⟩ = some (.int .i64 (s + 3600 * h)) ∧ X.cell? ⟨p7, 1, none⟩ = some (.int .i64 nano) ∧ X.cell? ⟨p8, 0, none⟩ = some (.bool false) ∧ X.cell? ⟨p8, 1, none⟩ = some (.int .i64 d) ∧ X.cell? ⟨p8, 2, none⟩ = some (.int .u64 se) ∧ X.cell? ⟨p8, 3, none⟩ = some (.int .u64 mi) ∧ X.cell? ⟨p8, 4, none⟩ = some (.int .u64 ht) ∧ X.cell? ⟨p8, 5, none⟩ = some (.int .u64 (starSet 3)) ∧ X.cell? ⟨p8, 6, none⟩ = some (.int .u64 (starSet 4)) ∧ X.cell? ⟨p8, 7, none⟩ = some (.int .u64 (starSet 5)) ∧ X.cell? ⟨p1, 0, none⟩ = some (.int .i64 x0) ∧ X.cell? ⟨p1, 1, none⟩ = some (.int .i64 0)) := Lib.hid (fun X hX => by
        obtain ⟨k0, k1, k2, k3, k4, k5, k6, k7, k8, k9, k10, k11, k12, k13, k14, k15, k16, k17, k18, k19⟩ := HK6.out X (hc1.trans (hX.mono hc1.size))
        have h2 := hpt1.below hX
        exact ⟨k0, k1, k2, k3, k4, k5, k6, k7, k8, k9, k10, k11, k12, k13, k14, k15, k16, k17, k18, k19, h2.2.1, h2.2.2⟩)
      have HB7 := Lib.hid (HB6.out.trans (hc1.mono HB6.out.size))
      clear hc1 hp1 hpt1
      go_upto_region 8 with fail
      go_cut [11, 12] (fun p b wx => Hid (∃ blk, p = .pointer (some ⟨blk, 0, none⟩) ∧ b = .bool q1 ∧ Below wa.heap.size wa wx ∧ wa.heap.size ≤ blk ∧ Pt wx blk x1 0))
      case first =>
        go_region_held3 (fun X => X.cell? ⟨w.heap.size, 0, none⟩ = some (.bool false) ∧ X.cell? ⟨w.heap.size, 1, none⟩ = some (.int .i64 d) ∧ X.cell? ⟨w.heap.size, 2, none⟩ = some (.int .u64 se) ∧ X.cell? ⟨w.heap.size, 3, none⟩ = some (.int .u64 mi) ∧ X.cell? ⟨w.heap.size, 4, none⟩ = some (.int .u64 hr) ∧ X.cell? ⟨w.heap.size, 5, none⟩ = some (.int .u64 (starSet 3)) ∧ X.cell? ⟨w.heap.size, 6, none⟩ = some (.int .u64 (starSet 4)) ∧ X.cell? ⟨w.heap.size, 7, none⟩ = some (.int .u64 (starSet 5)) ∧ X.cell? ⟨w.heap.size + 1, 0, none⟩ = some (.int .i64 s) ∧ X.cell? ⟨w.heap.size + 1, 1, none⟩ = some (.int .i64 nano) ∧ X.cell? ⟨p7, 0, none⟩ = some (.int .i64 (s + 3600 * h)) ∧ X.cell? ⟨p7, 1, none⟩ = some (.int .i64 nano) ∧ X.cell? ⟨p8, 0, none⟩ = some (.bool false) ∧ X.cell? ⟨p8, 1, none⟩ = some (.int .i64 d) ∧ X.cell? ⟨p8, 2, none⟩ = some (.int .u64 se) ∧ X.cell? ⟨p8, 3, none⟩ = some (.int .u64 mi) ∧ X.cell? ⟨p8, 4, none⟩ = some (.int .u64 ht) ∧ X.cell? ⟨p8, 5, none⟩ = some (.int .u64 (starSet 3)) ∧ X.cell? ⟨p8, 6, none⟩ = some (.int .u64 (starSet 4)) ∧ X.cell? ⟨p8, 7, none⟩ = some (.int .u64 (starSet 5)) ∧ X.cell? ⟨p1, 0, none⟩ = some (.int .i64 x0) ∧ X.cell? ⟨p1, 1, none⟩ = some (.int .i64 0)) (exact HK7.out _ (by repeat (first | exact Below.refl _ _ | assumption | refine Below.drew ?_ | refine allocd ?_ _ | refine putd ?_ (by first | exact Nat.le_refl _ | exact Below.size (by assumption)) _ _)))
          ((first
            | (go_at_call 20; (with_reducible refine (cronUTC_any _).mono ?_); rintro x w5 ⟨rfl, hb⟩; (have hw5 := chain (V := wa) (by repeat (first | exact Below.refl _ _ | assumption | refine Below.drew ?_ | refine allocd ?_ _ | refine putd ?_ (by first | exact Nat.le_refl _ | exact Below.size (by assumption)) _ _)) hb); (first | (have hfr := fresh2d hb; obtain ⟨q0, ⟨d0, d1⟩, g0, g1⟩ := hfr) | (have hfr := fresh2 hb; obtain ⟨q0, ⟨d0, d1⟩, g0, g1⟩ := hfr) | (have hfr := keep2 hb ⟨q0, ⟨d0, d1⟩, g0, g1⟩; obtain ⟨q0, ⟨d0, d1⟩, g0, g1⟩ := hfr) | skip))
            | (go_at_call 22; (with_reducible refine (HN2.out _).mono ?_); rintro x w6 ⟨rfl, hb⟩; (have hw6 := chain (V := wa) (by repeat (first | exact Below.refl _ _ | assumption | refine Below.drew ?_ | refine allocd ?_ _ | refine putd ?_ (by first | exact Nat.le_refl _ | exact Below.size (by assumption)) _ _)) hb); (first | (have hfr := fresh2d hb; obtain ⟨q0, ⟨d0, d1⟩, g0, g1⟩ := hfr) | (have hfr := fresh2 hb; obtain ⟨q0, ⟨d0, d1⟩, g0, g1⟩ := hfr) | (have hfr := keep2 hb ⟨q0, ⟨d0, d1⟩, g0, g1⟩; obtain ⟨q0, ⟨d0, d1⟩, g0, g1⟩ := hfr) | skip))))
        all_goals
          go_wp2_with fail
          go_meet
          first
            | exact Lib.hid ⟨_, rfl, rfl, (by repeat (first | exact Below.refl _ _ | assumption | refine Below.drew ?_ | refine allocd ?_ _ | refine putd ?_ (by first | exact Nat.le_refl _ | exact Below.size (by assumption)) _ _)), (by first | exact Nat.le_refl _ | exact Below.size (by assumption)), pt_new _ _ _ _⟩
            | exact Lib.hid ⟨_, rfl, rfl, (by repeat (first | exact Below.refl _ _ | assumption | refine Below.drew ?_ | refine allocd ?_ _ | refine putd ?_ (by first | exact Nat.le_refl _ | exact Below.size (by assumption)) _ _)), (by first | exact Nat.le_refl _ | exact Below.size (by assumption)), pt_set q0 d0 d1⟩
      case rest =>
        obtain ⟨p2, rfl, rfl, hc2, hp2, hpt2⟩ := hcut.out
        obtain ⟨wb, hwb⟩ : ∃ wb, wb = wc := ⟨_, rfl⟩
        subst hwb
        clear hcut
        have HK8 : Hid (∀ X, Below wb.heap.size wb X → X.cell? ⟨w.heap.size, 0, none⟩ = some (.bool false) ∧ X.cell? ⟨w.heap.size, 1, none⟩ = some (.int .i64 d) ∧ X.cell? ⟨w.heap.size, 2, none⟩ = some (.int .u64 se) ∧ X.cell? ⟨w.heap.size, 3, none⟩ = some (.int .u64 mi) ∧ X.cell? ⟨w.heap.size, 4, none⟩ = some (.int .u64 hr) ∧ X.cell? ⟨w.heap.size, 5, none⟩ = some (.int .u64 (starSet 3)) ∧ X.cell? ⟨w.heap.size, 6, none⟩ = some (.int .u64 (starSet 4)) ∧ X.cell? ⟨w.heap.size, 7, none⟩ = some (.int .u64 (starSet 5)) ∧ X.cell? ⟨w.heap.size + 1, 0, none⟩ = some (.int .i64 s) ∧ X.cell? ⟨w.heap.size + 1, 1, none⟩ = some (.int .i64 nano) ∧ X.cell? ⟨p7, 0, none⟩ = some (.int .i64 (s + 3600 * h)) ∧ X.cell? ⟨p7, 1, none⟩ = some (.int .i64 nano) ∧ X.cell? ⟨p8, 0, none⟩ = some (.bool false) ∧ X.cell? ⟨p8, 1, none⟩ = some (.int .i64 d) ∧ X.cell? ⟨p8, 2, none⟩ = some (.int .u64 se) ∧ X.cell? ⟨p8, 3, none⟩ = some (.int .u64 mi) ∧ X.cell? ⟨p8, 4, none⟩ = some (.int .u64 ht) ∧ X.cell? ⟨p8, 5, none⟩ = some (.int .u64 (starSet 3)) ∧ X.cell? ⟨p8, 6, none⟩ = some (.int .u64 (starSet 4)) ∧ X.cell? ⟨p8, 7, none⟩ = some (.int .u64 (starSet 5)) ∧ X.cell? ⟨p1, 0, none⟩ = some (.int .i64 x0) ∧ X.cell? ⟨p1, 1, none⟩ = some (.int .i64 0) ∧ X.cell? ⟨p2, 0, none⟩ = some (.int .i64 x1) ∧ X.cell? ⟨p2, 1, none⟩ = some (.int .i64 0)) := Lib.hid (fun X hX => by
          obtain ⟨k0, k1, k2, k3, k4, k5, k6, k7, k8, k9, k10, k11, k12, k13, k14, k15, k16, k17, k18, k19, k20, k21⟩ := HK7.out X (hc2.trans (hX.mono hc2.size))
          have h2 := hpt2.below hX
          exact ⟨k0, k1, k2, k3, k4, k5, k6, k7, k8, k9, k10, k11, k12, k13, k14, k15, k16, k17, k18, k19, k20, k21, h2.2.1, h2.2.2⟩)
        have HB8 := Lib.hid (HB7.out.trans (hc2.mono HB7.out.size))
        clear hc2 hp2 hpt2
        obtain ⟨k0, k1, k2, k3, k4, k5, k6, k7, k8, k9, k10, k11, k12, k13, k14, k15, k16, k17, k18, k19, k20, k21, k22, k23⟩ := HK8.out wb (Below.refl _ _)
        have hqn := HQN.out
        go_wp2_with (first
          | (go_at_call 34; refine (HMV.out _).mono ?_; rintro x w7 ⟨rfl, hb7⟩; obtain ⟨k0, k1, k2, k3, k4, k5, k6, k7, k8, k9, k10, k11, k12, k13, k14, k15, k16, k17, k18, k19, k20, k21, k22, k23⟩ := HK8.out w7 hb7)
          | (go_at_call 31; refine (HFO.out _).mono ?_; rintro x w8 ⟨rfl, hb8⟩)
          | (go_at_call 35; refine (HNV.out _).mono ?_; rintro x w9 ⟨rfl, hb9⟩))
        go_ret
        refine ⟨?_, HB8.out.trans ((hb7.trans ((hb8.trans (hb9.mono hb8.size)).mono hb7.size)).mono HB8.out.size)⟩
        revert hqn
        cases q <;> cases nv <;> simp

end Go.Proofs.Ytoekefbclkmchaa.fnCronHoursTurned

