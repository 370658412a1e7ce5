/- The walk of the law FnCronNextZone. Conditions: sets of 64 bits. -/
import Derived.Test.YtoekefbclkmchaaPlainZone
import Derived.Test.YtoekefbclkmchaaCase
import Derived.Deep.DeepCutAuto
import Derived.Deep.CutBlock
namespace Go.Proofs.Ytoekefbclkmchaa.fnCronNextZone
open Go Go.RowKit Go.Proofs.Ytoekefbclkmchaa.TimeNum Go.Proofs.Ytoekefbclkmchaa.Cal Go.Proofs.Ytoekefbclkmchaa.Off Go.Proofs.Ytoekefbclkmchaa.Search Go.Proofs.Ytoekefbclkmchaa.Lookup Go.Proofs.Ytoekefbclkmchaa.Zone Go.Proofs.Ytoekefbclkmchaa.Zone2 Go.Proofs.Ytoekefbclkmchaa.DayFits Go.Proofs.Ytoekefbclkmchaa.Fields Go.Proofs.Ytoekefbclkmchaa.FieldsOf Go.Proofs.Ytoekefbclkmchaa.NextC Go.Proofs.Ytoekefbclkmchaa.NextI Go.Proofs.Ytoekefbclkmchaa.NextJ Go.Proofs.Ytoekefbclkmchaa.Ask Go.Proofs.Ytoekefbclkmchaa.Stars Go.Proofs.Ytoekefbclkmchaa.Case Go.Proofs.Ytoekefbclkmchaa.SpecNext Go.Proofs.Ytoekefbclkmchaa.PlainZone
set_option linter.unusedVariables false

set_option maxHeartbeats 8000000 in
set_option maxRecDepth 100000 in
theorem walk (ev : Bool) (d se mi hr dom mon dow s nano : Int) (r : Raw) (co cd cw ci : Nat) (w : World) (hu : U6 se mi hr dom mon dow) (hs : -9223372036854775808 ≤ s ∧ s ≤ 9223372036854775807) (hr0 : r.no ≤ 2147483647 ∧ r.nd ≤ 2147483647 ∧ r.nw ≤ 2147483647 ∧ r.ni ≤ 2147483647 → r.At w) :
    Calls Try.prog 7 #[.agg #[.bool ev, .int .i64 d, .int .u64 se, .int .u64 mi, .int .u64 hr, .int .u64 dom, .int .u64 mon, .int .u64 dow], .agg #[.int .i64 s, .int .i64 nano], .agg #[.slice r.ao r.no co, .slice r.ad r.nd cd, .slice r.aw r.nw cw, .slice r.ai r.ni ci]] w fun e w' => e = .returned (.bool true) ∧ Below w.heap.size w w' := by
  obtain ⟨V, hV⟩ : ∃ V, (((w.alloc (.cells #[.bool ev, .int .i64 d, .int .u64 se, .int .u64 mi, .int .u64 hr, .int .u64 dom, .int .u64 mon, .int .u64 dow] 51)).alloc (.cells #[.int .i64 s, .int .i64 nano] 24)).alloc (.cells #[.slice r.ao r.no co, .slice r.ad r.nd cd, .slice r.aw r.nw cw, .slice r.ai r.ni ci] 29)) = V := ⟨_, rfl⟩
  have hbV : Below w.heap.size w V := by rw [← hV]; exact (((Below.refl _ _).alloc (Nat.le_refl _) _).alloc (by simp) _).alloc (by simp; omega) _
  have HKS : Hid (∀ X, Below V.heap.size V X → X.cell? ⟨w.heap.size, 0, none⟩ = some (.bool ev) ∧ X.cell? ⟨w.heap.size, 1, none⟩ = some (.int .i64 d) ∧ X.cell? ⟨w.heap.size, 2, none⟩ = some (.int .u64 se) ∧ X.cell? ⟨w.heap.size, 3, none⟩ = some (.int .u64 mi) ∧ X.cell? ⟨w.heap.size, 4, none⟩ = some (.int .u64 hr) ∧ X.cell? ⟨w.heap.size, 5, none⟩ = some (.int .u64 dom) ∧ X.cell? ⟨w.heap.size, 6, none⟩ = some (.int .u64 mon) ∧ X.cell? ⟨w.heap.size, 7, none⟩ = some (.int .u64 dow) ∧ X.cell? ⟨w.heap.size + 1, 0, none⟩ = some (.int .i64 s) ∧ X.cell? ⟨w.heap.size + 1, 1, none⟩ = some (.int .i64 nano) ∧ X.cell? ⟨w.heap.size + 1 + 1, 0, none⟩ = some (.slice r.ao r.no co) ∧ X.cell? ⟨w.heap.size + 1 + 1, 1, none⟩ = some (.slice r.ad r.nd cd) ∧ X.cell? ⟨w.heap.size + 1 + 1, 2, none⟩ = some (.slice r.aw r.nw cw) ∧ X.cell? ⟨w.heap.size + 1 + 1, 3, none⟩ = some (.slice r.ai r.ni ci)) := Lib.hid (fun X hX => by
    have e1 : (w.alloc (.cells #[.bool ev, .int .i64 d, .int .u64 se, .int .u64 mi, .int .u64 hr, .int .u64 dom, .int .u64 mon, .int .u64 dow] 51)).heap.size = w.heap.size + 1 := by simp
    have e2 : ((w.alloc (.cells #[.bool ev, .int .i64 d, .int .u64 se, .int .u64 mi, .int .u64 hr, .int .u64 dom, .int .u64 mon, .int .u64 dow] 51)).alloc (.cells #[.int .i64 s, .int .i64 nano] 24)).heap.size = w.heap.size + 1 + 1 := by simp
    have h3 : Below (((w.alloc (.cells #[.bool ev, .int .i64 d, .int .u64 se, .int .u64 mi, .int .u64 hr, .int .u64 dom, .int .u64 mon, .int .u64 dow] 51)).alloc (.cells #[.int .i64 s, .int .i64 nano] 24)).alloc (.cells #[.slice r.ao r.no co, .slice r.ad r.nd cd, .slice r.aw r.nw cw, .slice r.ai r.ni ci] 29)).heap.size (((w.alloc (.cells #[.bool ev, .int .i64 d, .int .u64 se, .int .u64 mi, .int .u64 hr, .int .u64 dom, .int .u64 mon, .int .u64 dow] 51)).alloc (.cells #[.int .i64 s, .int .i64 nano] 24)).alloc (.cells #[.slice r.ao r.no co, .slice r.ad r.nd cd, .slice r.aw r.nw cw, .slice r.ai r.ni ci] 29)) X := by rw [hV]; exact hX
    have h2 : Below ((w.alloc (.cells #[.bool ev, .int .i64 d, .int .u64 se, .int .u64 mi, .int .u64 hr, .int .u64 dom, .int .u64 mon, .int .u64 dow] 51)).alloc (.cells #[.int .i64 s, .int .i64 nano] 24)).heap.size ((w.alloc (.cells #[.bool ev, .int .i64 d, .int .u64 se, .int .u64 mi, .int .u64 hr, .int .u64 dom, .int .u64 mon, .int .u64 dow] 51)).alloc (.cells #[.int .i64 s, .int .i64 nano] 24)) X := ((Below.refl _ _).alloc (Nat.le_refl _) _).trans (h3.mono (by simp))
    have h1 : Below (w.alloc (.cells #[.bool ev, .int .i64 d, .int .u64 se, .int .u64 mi, .int .u64 hr, .int .u64 dom, .int .u64 mon, .int .u64 dow] 51)).heap.size (w.alloc (.cells #[.bool ev, .int .i64 d, .int .u64 se, .int .u64 mi, .int .u64 hr, .int .u64 dom, .int .u64 mon, .int .u64 dow] 51)) X := ((Below.refl _ _).alloc (Nat.le_refl _) _).trans (h2.mono (by simp))
    have b0 := cells_after h2 0 _ rfl
    have b1 := cells_after h2 1 _ rfl
    have c0 := cells_after h3 0 _ rfl
    have c1 := cells_after h3 1 _ rfl
    have c2 := cells_after h3 2 _ rfl
    have c3 := cells_after h3 3 _ rfl
    rw [e1] at b0 b1
    rw [e2] at c0 c1 c2 c3
    exact ⟨cells_after h1 0 _ rfl, cells_after h1 1 _ rfl, cells_after h1 2 _ rfl, cells_after h1 3 _ rfl, cells_after h1 4 _ rfl, cells_after h1 5 _ rfl, cells_after h1 6 _ rfl, cells_after h1 7 _ rfl, b0, b1, c0, c1, c2, c3⟩)
  have HB := Lib.hid hbV
  have HCA := Lib.hid (fun w1 => case_any ev d se mi hr dom mon dow s nano w1)
  have HU := Lib.hid hu
  have HR := Lib.hid hr0
  obtain ⟨y0, y1, y2, y3, y4, y5, y6, y7, y8, y9, y10, y11, y12, y13⟩ := HKS.out V (Below.refl _ _)
  clear hbV hu hr0
  go_enter Try.func7, Try.ntmps7
  go_wp2_with fail
  clear hV
  refine (fits_any r co cd cw ci _).mono ?_
  rintro e w1 ⟨g, rfl, hfit, hb1⟩
  have HB1 := Lib.hid hb1
  have HF := Lib.hid hfit
  clear hb1 hfit y0 y1 y2 y3 y4 y5 y6 y7 y8 y9 y10 y11 y12 y13
  obtain ⟨y0, y1, y2, y3, y4, y5, y6, y7, y8, y9, y10, y11, y12, y13⟩ := HKS.out w1 HB1.out
  cases g
  · go_wp2_with fail
    go_ret
    exact ⟨rfl, HB.out.trans (HB1.out.mono HB.out.size)⟩
  have HAt := Lib.hid (HR.out (HF.out (by trivial)))
  go_wp2_with fail
  refine (HCA.out _).mono ?_
  rintro e w2 ⟨g, rfl, hgood, hb2⟩
  have HB2 := Lib.hid (HB1.out.trans (hb2.mono HB1.out.size))
  have HG := Lib.hid hgood
  clear hb2 hgood y0 y1 y2 y3 y4 y5 y6 y7 y8 y9 y10 y11 y12 y13
  obtain ⟨y0, y1, y2, y3, y4, y5, y6, y7, y8, y9, y10, y11, y12, y13⟩ := HKS.out w2 HB2.out
  cases g
  · go_wp2_with fail
    go_ret
    exact ⟨rfl, HB.out.trans (HB2.out.mono HB.out.size)⟩
  obtain ⟨rfl, ⟨s0, s1⟩, n0, n1⟩ := HG.out (by trivial)
  go_wp2_with fail
  refine (goodZone_any r co cd cw ci _ (HAt.out.below (HB.out.trans (HB2.out.mono HB.out.size)))).mono ?_
  rintro e w3 ⟨g, rfl, hzone, hb3⟩
  have HB3 := Lib.hid (HB2.out.trans (hb3.mono HB2.out.size))
  have HZ := Lib.hid hzone
  clear hb3 hzone y0 y1 y2 y3 y4 y5 y6 y7 y8 y9 y10 y11 y12 y13
  obtain ⟨y0, y1, y2, y3, y4, y5, y6, y7, y8, y9, y10, y11, y12, y13⟩ := HKS.out w3 HB3.out
  cases g
  · go_wp2_with fail
    go_ret
    exact ⟨rfl, HB.out.trans (HB3.out.mono HB.out.size)⟩
  have HOk := Lib.hid (HZ.out (by trivial))
  go_wp2_with fail
  refine (plain_any r co cd cw ci _ (HAt.out.below (HB.out.trans (HB3.out.mono HB.out.size))) HOk.out).mono ?_
  rintro e w4 ⟨g, rfl, hpz, hb4⟩
  have HB4 := Lib.hid (HB3.out.trans (hb4.mono HB3.out.size))
  have HPz := Lib.hid hpz
  clear hb4 hpz y0 y1 y2 y3 y4 y5 y6 y7 y8 y9 y10 y11 y12 y13
  cases g
  · go_wp2_with fail
    go_ret
    exact ⟨rfl, HB.out.trans (HB4.out.mono HB.out.size)⟩
  have hcalm := calm_of r HOk.out (HPz.out (by trivial))
  obtain ⟨o, ho⟩ := isNext_ex (S := sched se mi hr dom mon dow) hcalm.pl (s + 1) (yOf (day (Raw.off r) (s + 1)) + 5) (by omega)
  have hask := asked hcalm.pl s0 s1 ((hcalm.pl (s + 1) (s + 1) (by omega)).m60 _ (Int.le_refl _) (Int.le_refl _)) ho
  obtain ⟨x0, hop⟩ : ∃ x0, ansV o = .tuple #[.agg #[.int .i64 x0, .int .i64 0], .bool o.isSome] := by
    cases o with
    | none => exact ⟨0, rfl⟩
    | some x => exact ⟨x, rfl⟩
  have HN1 : Hid (∀ w1, Below w.heap.size w w1 → Calls Try.prog 22 #[.agg #[.bool false, .int .i64 d, .int .u64 se, .int .u64 mi, .int .u64 hr, .int .u64 dom, .int .u64 mon, .int .u64 dow], .agg #[.int .i64 s, .int .i64 nano], .agg #[.slice r.ao r.no co, .slice r.ad r.nd cd, .slice r.aw r.nw cw, .slice r.ai r.ni ci]] w1 fun e w' => e = .returned (ansV o) ∧ Below w1.heap.size w1 w') := Lib.hid (fun w1 hb => NextJ.next_any r co cd cw ci d se mi hr dom mon dow s nano _ o w1 (HAt.out.below hb) HOk.out HU.out n0 n1 hask)
  have HN2 : Hid (∀ w1, Below w.heap.size w w1 → Calls Try.prog 30 #[.agg (fldArr (stS (six se mi hr dom mon dow)) (fS (six se mi hr dom mon dow))), .agg #[.int .i64 s, .int .i64 nano], .agg #[.slice r.ao r.no co, .slice r.ad r.nd cd, .slice r.aw r.nw cw, .slice r.ai r.ni ci]] w1 fun e w' => e = .returned (ansV o) ∧ Below w1.heap.size w1 w') := Lib.hid (fun w1 hb => by
    refine (SpecNext.next_any r co cd cw ci _ _ (sched se mi hr dom mon dow) s nano _ w1 (HAt.out.below hb) HOk.out hcalm (fun y => lfit_fit se mi hr dom mon dow _ y) s0 (by omega) rfl).mono ?_
    rintro e w' ⟨⟨o2, h2, rfl⟩, hb2⟩
    exact ⟨by rw [h2.uniq ho], hb2⟩)
  have HFO := Lib.hid (fun w1 => fieldsOf_any false d se mi hr dom mon dow w1 HU.out)
  rw [hop] at HN1 HN2
  generalize o.isSome = q at *
  clear ho hask hop hcalm s0 s1 n0 n1 hs
  go_upto_region 5 with fail
  go_cut [7, 8] (fun p b wx => Hid (∃ blk, p = .pointer (some ⟨blk, 0, none⟩) ∧ b = .bool q ∧ Below w4.heap.size w4 wx ∧ w4.heap.size ≤ blk ∧ Pt wx blk x0 0))
  case first =>
    have HK1 : Hid (∀ X, Below w4.heap.size w4 X → X.cell? ⟨w.heap.size, 0, none⟩ = some (.bool false) ∧ X.cell? ⟨w.heap.size, 1, none⟩ = some (.int .i64 d) ∧ X.cell? ⟨w.heap.size, 2, none⟩ = some (.int .u64 se) ∧ X.cell? ⟨w.heap.size, 3, none⟩ = some (.int .u64 mi) ∧ X.cell? ⟨w.heap.size, 4, none⟩ = some (.int .u64 hr) ∧ X.cell? ⟨w.heap.size, 5, none⟩ = some (.int .u64 dom) ∧ X.cell? ⟨w.heap.size, 6, none⟩ = some (.int .u64 mon) ∧ X.cell? ⟨w.heap.size, 7, none⟩ = some (.int .u64 dow) ∧ X.cell? ⟨w.heap.size + 1, 0, none⟩ = some (.int .i64 s) ∧ X.cell? ⟨w.heap.size + 1, 1, none⟩ = some (.int .i64 nano) ∧ X.cell? ⟨w.heap.size + 1 + 1, 0, none⟩ = some (.slice r.ao r.no co) ∧ X.cell? ⟨w.heap.size + 1 + 1, 1, none⟩ = some (.slice r.ad r.nd cd) ∧ X.cell? ⟨w.heap.size + 1 + 1, 2, none⟩ = some (.slice r.aw r.nw cw) ∧ X.cell? ⟨w.heap.size + 1 + 1, 3, none⟩ = some (.slice r.ai r.ni ci)) := Lib.hid (fun X hX => HKS.out X (HB4.out.trans (hX.mono HB4.out.size)))
    have HBw : Hid (Below w.heap.size w w4) := Lib.hid (HB.out.trans (HB4.out.mono HB.out.size))
    go_region_held3 (fun X => X.cell? ⟨w.heap.size, 0, none⟩ = some (.bool false) ∧ X.cell? ⟨w.heap.size, 1, none⟩ = some (.int .i64 d) ∧ X.cell? ⟨w.heap.size, 2, none⟩ = some (.int .u64 se) ∧ X.cell? ⟨w.heap.size, 3, none⟩ = some (.int .u64 mi) ∧ X.cell? ⟨w.heap.size, 4, none⟩ = some (.int .u64 hr) ∧ X.cell? ⟨w.heap.size, 5, none⟩ = some (.int .u64 dom) ∧ X.cell? ⟨w.heap.size, 6, none⟩ = some (.int .u64 mon) ∧ X.cell? ⟨w.heap.size, 7, none⟩ = some (.int .u64 dow) ∧ X.cell? ⟨w.heap.size + 1, 0, none⟩ = some (.int .i64 s) ∧ X.cell? ⟨w.heap.size + 1, 1, none⟩ = some (.int .i64 nano) ∧ X.cell? ⟨w.heap.size + 1 + 1, 0, none⟩ = some (.slice r.ao r.no co) ∧ X.cell? ⟨w.heap.size + 1 + 1, 1, none⟩ = some (.slice r.ad r.nd cd) ∧ X.cell? ⟨w.heap.size + 1 + 1, 2, none⟩ = some (.slice r.aw r.nw cw) ∧ X.cell? ⟨w.heap.size + 1 + 1, 3, none⟩ = some (.slice r.ai r.ni ci)) (exact HK1.out _ (by repeat (first | exact Below.refl _ _ | assumption | refine Below.drew ?_ | refine allocd ?_ _ | refine putd ?_ (by first | exact Nat.le_refl _ | exact Below.size (by assumption)) _ _)))
      ((first
        | (go_at_call 31; (with_reducible refine (HFO.out _).mono ?_); rintro x w5 ⟨rfl, hb⟩; (have hw5 := chain (V := w4) (by repeat (first | exact Below.refl _ _ | assumption | refine Below.drew ?_ | refine allocd ?_ _ | refine putd ?_ (by first | exact Nat.le_refl _ | exact Below.size (by assumption)) _ _)) hb); (first | (have hfr := fresh2d hb; obtain ⟨q0, ⟨d0, d1⟩, g0, g1⟩ := hfr) | (have hfr := fresh2 hb; obtain ⟨q0, ⟨d0, d1⟩, g0, g1⟩ := hfr) | (have hfr := keep2 hb ⟨q0, ⟨d0, d1⟩, g0, g1⟩; obtain ⟨q0, ⟨d0, d1⟩, g0, g1⟩ := hfr) | skip))
        | (go_at_call 30; (with_reducible refine (HN2.out _ (HBw.out.trans (Below.mono (B := w4.heap.size) (by repeat (first | exact Below.refl _ _ | assumption | refine Below.drew ?_ | refine allocd ?_ _ | refine putd ?_ (by first | exact Nat.le_refl _ | exact Below.size (by assumption)) _ _)) HBw.out.size))).mono ?_); rintro x w6 ⟨rfl, hb⟩; (have hw6 := chain (V := w4) (by repeat (first | exact Below.refl _ _ | assumption | refine Below.drew ?_ | refine allocd ?_ _ | refine putd ?_ (by first | exact Nat.le_refl _ | exact Below.size (by assumption)) _ _)) hb); (first | (have hfr := fresh2d hb; obtain ⟨q0, ⟨d0, d1⟩, g0, g1⟩ := hfr) | (have hfr := fresh2 hb; obtain ⟨q0, ⟨d0, d1⟩, g0, g1⟩ := hfr) | (have hfr := keep2 hb ⟨q0, ⟨d0, d1⟩, g0, g1⟩; obtain ⟨q0, ⟨d0, d1⟩, g0, g1⟩ := hfr) | skip))))
    all_goals
      go_wp2_with fail
      go_meet
      first
        | exact Lib.hid ⟨_, rfl, rfl, (by repeat (first | exact Below.refl _ _ | assumption | refine Below.drew ?_ | refine allocd ?_ _ | refine putd ?_ (by first | exact Nat.le_refl _ | exact Below.size (by assumption)) _ _)), (by first | exact Nat.le_refl _ | exact Below.size (by assumption)), pt_new _ _ _ _⟩
        | exact Lib.hid ⟨_, rfl, rfl, (by repeat (first | exact Below.refl _ _ | assumption | refine Below.drew ?_ | refine allocd ?_ _ | refine putd ?_ (by first | exact Nat.le_refl _ | exact Below.size (by assumption)) _ _)), (by first | exact Nat.le_refl _ | exact Below.size (by assumption)), pt_set q0 d0 d1⟩
  case rest =>
    obtain ⟨p1, rfl, rfl, hc1, hp1, hpt1⟩ := hcut.out
    clear hcut
    have HC1 := Lib.hid (HB4.out.trans (hc1.mono HB4.out.size))
    obtain ⟨y0, y1, y2, y3, y4, y5, y6, y7, y8, y9, y10, y11, y12, y13⟩ := HKS.out wc HC1.out
    have HPT := Lib.hid hpt1
    clear hc1 hp1 hpt1
    go_wp2_with (go_at_call 22; refine (HN1.out _ (HB.out.trans (HC1.out.mono HB.out.size))).mono ?_; rintro x w7 ⟨rfl, hb7⟩; obtain ⟨z1, z2, z3⟩ := HPT.out.below hb7)
    go_ret
    refine ⟨?_, ?_⟩
    · simp
    · have h9 := HC1.out.trans (hb7.mono HC1.out.size)
      first
        | exact HB.out.trans (h9.mono HB.out.size)
        | exact HB.out.trans ((h9.alloc h9.size _).mono HB.out.size)

end Go.Proofs.Ytoekefbclkmchaa.fnCronNextZone

