/- The walk of the law FnCronNextQuiet. Conditions: sets of 64 bits. -/
import Derived.Test.YtoekefbclkmchaaFixed
import Derived.Deep.DeepCutAuto
import Derived.Deep.CutBlock
namespace Go.Proofs.Ytoekefbclkmchaa.fnCronNextQuiet
open Go Go.RowKit Go.Proofs.Ytoekefbclkmchaa.TimeNum Go.Proofs.Ytoekefbclkmchaa.Cal Go.Proofs.Ytoekefbclkmchaa.Off Go.Proofs.Ytoekefbclkmchaa.Search Go.Proofs.Ytoekefbclkmchaa.Lookup Go.Proofs.Ytoekefbclkmchaa.Zone Go.Proofs.Ytoekefbclkmchaa.Zone2 Go.Proofs.Ytoekefbclkmchaa.DayFits Go.Proofs.Ytoekefbclkmchaa.Fields Go.Proofs.Ytoekefbclkmchaa.FieldsOf Go.Proofs.Ytoekefbclkmchaa.NextC Go.Proofs.Ytoekefbclkmchaa.NextI Go.Proofs.Ytoekefbclkmchaa.NextJ Go.Proofs.Ytoekefbclkmchaa.Ask Go.Proofs.Ytoekefbclkmchaa.Stars Go.Proofs.Ytoekefbclkmchaa.Case Go.Proofs.Ytoekefbclkmchaa.SpecNext Go.Proofs.Ytoekefbclkmchaa.PlainZone Go.Proofs.Ytoekefbclkmchaa.Fixed Go.Proofs.Ytoekefbclkmchaa.Change
set_option linter.unusedVariables false

set_option maxHeartbeats 8000000 in
set_option maxRecDepth 100000 in
theorem walk (ev : Bool) (d se mi hr dom mon dow s nano : Int) (r : Raw) (co cd cw ci : Nat) (w : World) (hu : U6 se mi hr dom mon dow) (hs : -9223372036854775808 ≤ s ∧ s ≤ 9223372036854775807) (hr0 : r.no ≤ 2147483647 ∧ r.nd ≤ 2147483647 ∧ r.nw ≤ 2147483647 ∧ r.ni ≤ 2147483647 → r.At w) :
    Calls Try.prog 6 #[.agg #[.bool ev, .int .i64 d, .int .u64 se, .int .u64 mi, .int .u64 hr, .int .u64 dom, .int .u64 mon, .int .u64 dow], .agg #[.int .i64 s, .int .i64 nano], .agg #[.slice r.ao r.no co, .slice r.ad r.nd cd, .slice r.aw r.nw cw, .slice r.ai r.ni ci]] w fun e w' => e = .returned (.bool true) ∧ Below w.heap.size w w' := by
  obtain ⟨V, hV⟩ : ∃ V, (((w.alloc (.cells #[.bool ev, .int .i64 d, .int .u64 se, .int .u64 mi, .int .u64 hr, .int .u64 dom, .int .u64 mon, .int .u64 dow] 51)).alloc (.cells #[.int .i64 s, .int .i64 nano] 24)).alloc (.cells #[.slice r.ao r.no co, .slice r.ad r.nd cd, .slice r.aw r.nw cw, .slice r.ai r.ni ci] 29)) = V := ⟨_, rfl⟩
  have hbV : Below w.heap.size w V := by rw [← hV]; exact (((Below.refl _ _).alloc (Nat.le_refl _) _).alloc (by simp) _).alloc (by simp; omega) _
  have HKS : Hid (∀ X, Below V.heap.size V X → X.cell? ⟨w.heap.size, 0, none⟩ = some (.bool ev) ∧ X.cell? ⟨w.heap.size, 1, none⟩ = some (.int .i64 d) ∧ X.cell? ⟨w.heap.size, 2, none⟩ = some (.int .u64 se) ∧ X.cell? ⟨w.heap.size, 3, none⟩ = some (.int .u64 mi) ∧ X.cell? ⟨w.heap.size, 4, none⟩ = some (.int .u64 hr) ∧ X.cell? ⟨w.heap.size, 5, none⟩ = some (.int .u64 dom) ∧ X.cell? ⟨w.heap.size, 6, none⟩ = some (.int .u64 mon) ∧ X.cell? ⟨w.heap.size, 7, none⟩ = some (.int .u64 dow) ∧ X.cell? ⟨w.heap.size + 1, 0, none⟩ = some (.int .i64 s) ∧ X.cell? ⟨w.heap.size + 1, 1, none⟩ = some (.int .i64 nano) ∧ X.cell? ⟨w.heap.size + 1 + 1, 0, none⟩ = some (.slice r.ao r.no co) ∧ X.cell? ⟨w.heap.size + 1 + 1, 1, none⟩ = some (.slice r.ad r.nd cd) ∧ X.cell? ⟨w.heap.size + 1 + 1, 2, none⟩ = some (.slice r.aw r.nw cw) ∧ X.cell? ⟨w.heap.size + 1 + 1, 3, none⟩ = some (.slice r.ai r.ni ci)) := Lib.hid (fun X hX => by
    have e1 : (w.alloc (.cells #[.bool ev, .int .i64 d, .int .u64 se, .int .u64 mi, .int .u64 hr, .int .u64 dom, .int .u64 mon, .int .u64 dow] 51)).heap.size = w.heap.size + 1 := by simp
    have e2 : ((w.alloc (.cells #[.bool ev, .int .i64 d, .int .u64 se, .int .u64 mi, .int .u64 hr, .int .u64 dom, .int .u64 mon, .int .u64 dow] 51)).alloc (.cells #[.int .i64 s, .int .i64 nano] 24)).heap.size = w.heap.size + 1 + 1 := by simp
    have h3 : Below (((w.alloc (.cells #[.bool ev, .int .i64 d, .int .u64 se, .int .u64 mi, .int .u64 hr, .int .u64 dom, .int .u64 mon, .int .u64 dow] 51)).alloc (.cells #[.int .i64 s, .int .i64 nano] 24)).alloc (.cells #[.slice r.ao r.no co, .slice r.ad r.nd cd, .slice r.aw r.nw cw, .slice r.ai r.ni ci] 29)).heap.size (((w.alloc (.cells #[.bool ev, .int .i64 d, .int .u64 se, .int .u64 mi, .int .u64 hr, .int .u64 dom, .int .u64 mon, .int .u64 dow] 51)).alloc (.cells #[.int .i64 s, .int .i64 nano] 24)).alloc (.cells #[.slice r.ao r.no co, .slice r.ad r.nd cd, .slice r.aw r.nw cw, .slice r.ai r.ni ci] 29)) X := by rw [hV]; exact hX
    have h2 : Below ((w.alloc (.cells #[.bool ev, .int .i64 d, .int .u64 se, .int .u64 mi, .int .u64 hr, .int .u64 dom, .int .u64 mon, .int .u64 dow] 51)).alloc (.cells #[.int .i64 s, .int .i64 nano] 24)).heap.size ((w.alloc (.cells #[.bool ev, .int .i64 d, .int .u64 se, .int .u64 mi, .int .u64 hr, .int .u64 dom, .int .u64 mon, .int .u64 dow] 51)).alloc (.cells #[.int .i64 s, .int .i64 nano] 24)) X := ((Below.refl _ _).alloc (Nat.le_refl _) _).trans (h3.mono (by simp))
    have h1 : Below (w.alloc (.cells #[.bool ev, .int .i64 d, .int .u64 se, .int .u64 mi, .int .u64 hr, .int .u64 dom, .int .u64 mon, .int .u64 dow] 51)).heap.size (w.alloc (.cells #[.bool ev, .int .i64 d, .int .u64 se, .int .u64 mi, .int .u64 hr, .int .u64 dom, .int .u64 mon, .int .u64 dow] 51)) X := ((Below.refl _ _).alloc (Nat.le_refl _) _).trans (h2.mono (by simp))
    have b0 := cells_after h2 0 _ rfl
    have b1 := cells_after h2 1 _ rfl
    have c0 := cells_after h3 0 _ rfl
    have c1 := cells_after h3 1 _ rfl
    have c2 := cells_after h3 2 _ rfl
    have c3 := cells_after h3 3 _ rfl
    rw [e1] at b0 b1
    rw [e2] at c0 c1 c2 c3
    exact ⟨cells_after h1 0 _ rfl, cells_after h1 1 _ rfl, cells_after h1 2 _ rfl, cells_after h1 3 _ rfl, cells_after h1 4 _ rfl, cells_after h1 5 _ rfl, cells_after h1 6 _ rfl, cells_after h1 7 _ rfl, b0, b1, c0, c1, c2, c3⟩)
  have HB := Lib.hid hbV
  have HCA := Lib.hid (fun w1 => case_any ev d se mi hr dom mon dow s nano w1)
  have HU := Lib.hid hu
  have HR := Lib.hid hr0
  obtain ⟨y0, y1, y2, y3, y4, y5, y6, y7, y8, y9, y10, y11, y12, y13⟩ := HKS.out V (Below.refl _ _)
  clear hbV hu hr0
  go_enter Try.func6, Try.ntmps6
  go_wp2_with fail
  clear hV
  refine (fits_any r co cd cw ci _).mono ?_
  rintro e w1 ⟨g, rfl, hfit, hb1⟩
  have HB1 := Lib.hid hb1
  have HF := Lib.hid hfit
  clear hb1 hfit y0 y1 y2 y3 y4 y5 y6 y7 y8 y9 y10 y11 y12 y13
  obtain ⟨y0, y1, y2, y3, y4, y5, y6, y7, y8, y9, y10, y11, y12, y13⟩ := HKS.out w1 HB1.out
  cases g
  · go_wp2_with fail
    go_ret
    exact ⟨rfl, HB.out.trans (HB1.out.mono HB.out.size)⟩
  have HAt := Lib.hid (HR.out (HF.out (by trivial)))
  go_wp2_with fail
  refine (HCA.out _).mono ?_
  rintro e w2 ⟨g, rfl, hgood, hb2⟩
  have HB2 := Lib.hid (HB1.out.trans (hb2.mono HB1.out.size))
  have HG := Lib.hid hgood
  clear hb2 hgood y0 y1 y2 y3 y4 y5 y6 y7 y8 y9 y10 y11 y12 y13
  obtain ⟨y0, y1, y2, y3, y4, y5, y6, y7, y8, y9, y10, y11, y12, y13⟩ := HKS.out w2 HB2.out
  cases g
  · go_wp2_with fail
    go_ret
    exact ⟨rfl, HB.out.trans (HB2.out.mono HB.out.size)⟩
  obtain ⟨rfl, ⟨s0, s1⟩, n0, n1⟩ := HG.out (by trivial)
  go_wp2_with fail
  refine (goodZone_any r co cd cw ci _ (HAt.out.below (HB.out.trans (HB2.out.mono HB.out.size)))).mono ?_
  rintro e w3 ⟨g, rfl, hzone, hb3⟩
  have HB3 := Lib.hid (HB2.out.trans (hb3.mono HB2.out.size))
  have HZ := Lib.hid hzone
  clear hb3 hzone y0 y1 y2 y3 y4 y5 y6 y7 y8 y9 y10 y11 y12 y13
  obtain ⟨y0, y1, y2, y3, y4, y5, y6, y7, y8, y9, y10, y11, y12, y13⟩ := HKS.out w3 HB3.out
  cases g
  · go_wp2_with fail
    go_ret
    exact ⟨rfl, HB.out.trans (HB3.out.mono HB.out.size)⟩
  have HOk := Lib.hid (HZ.out (by trivial))
  have hbd : ∀ y, -86400 ≤ Raw.off r y ∧ Raw.off r y ≤ 86400 := by
    rcases HOk.out with ⟨-, -, h, -⟩ | ⟨h, -⟩
    · rw [off_utc h]; unfold Time.zero; omega
    · exact h.bd
  have HBD := Lib.hid hbd
  have hos := hbd s
  obtain ⟨o, ho⟩ : ∃ o, Raw.off r s = o := ⟨_, rfl⟩
  have HO := Lib.hid ho
  have HOF := Lib.hid (fun w1 (hb : Below w.heap.size w w1) => offset_any r co cd cw ci s w1 (HAt.out.below hb) HOk.out)
  rw [ho] at HOF hos
  clear hbd ho
  go_wp2_with fail
  refine (HOF.out _ (HB.out.trans (HB3.out.mono HB.out.size))).mono ?_
  rintro e w4 ⟨rfl, hb4⟩
  have HB4 := Lib.hid (HB3.out.trans (hb4.mono HB3.out.size))
  clear hb4 y0 y1 y2 y3 y4 y5 y6 y7 y8 y9 y10 y11 y12 y13
  by_cases h60 : o % 60 = 0
  rotate_left
  · have e1 : ¬ o.tmod 60 = 0 := fun h => h60 (Int.emod_eq_zero_of_dvd (Int.dvd_of_tmod_eq_zero h))
    have e2 : (o.tmod 60 != 0) = true := by simpa using e1
    go_wp2_with fail
    go_ret
    exact ⟨rfl, HB.out.trans (HB4.out.mono HB.out.size)⟩
  have e1 : o.tmod 60 = 0 := Int.tmod_eq_zero_of_dvd (Int.dvd_of_emod_eq_zero h60)
  have e2 : (o.tmod 60 != 0) = false := by simpa using e1
  obtain ⟨o1, ho1⟩ := isNext_ex (S := sched se mi hr dom mon dow) (const_plain o hos h60) (s + 1) (yOf (day (fun _ => o) (s + 1)) + 5) (by omega)
  have HAF : Hid (∀ F, FixedOf F o → Asked (Raw.off F) (sched se mi hr dom mon dow) s (yOf (day (Raw.off F) (s + 1)) + 5) o1) := Lib.hid (fun F hF => asked (hF.calm hos.1 hos.2 h60).pl s0 s1 (by rw [hF.off _ (by omega)]; exact h60) (by
    have : day (Raw.off F) (s + 1) = day (fun _ => o) (s + 1) := by unfold day lo; rw [hF.off _ (by omega)]
    rw [this]
    exact ho1.congr (fun y hy => hF.off y (by omega))))
  obtain ⟨x0, hop⟩ : ∃ x0, ansV o1 = .tuple #[.agg #[.int .i64 x0, .int .i64 0], .bool o1.isSome] := by
    cases o1 with
    | none => exact ⟨0, rfl⟩
    | some x => exact ⟨x, rfl⟩
  have HN1 : Hid (∀ (F : Raw) w1, F.At w1 → FixedOf F o → Calls Try.prog 22 #[.agg #[.bool false, .int .i64 d, .int .u64 se, .int .u64 mi, .int .u64 hr, .int .u64 dom, .int .u64 mon, .int .u64 dow], .agg #[.int .i64 s, .int .i64 nano], .agg #[.slice F.ao F.no 1, .slice F.ad F.nd 1, .slice F.aw F.nw 1, .slice F.ai F.ni 1]] w1 fun e w' => e = .returned (ansV o1) ∧ Below w1.heap.size w1 w') := Lib.hid (fun F w1 hat hF => NextJ.next_any F 1 1 1 1 d se mi hr dom mon dow s nano _ o1 w1 hat (hF.ok hos.1 hos.2) HU.out n0 n1 (HAF.out F hF))
  have HNO : Hid (∀ (F : Raw) w1, F.At w1 → FixedOf F o → Calls Try.prog 24 #[.agg #[.bool false, .int .i64 d, .int .u64 se, .int .u64 mi, .int .u64 hr, .int .u64 dom, .int .u64 mon, .int .u64 dow], .agg #[.int .i64 s, .int .i64 nano], .agg #[.slice F.ao F.no 1, .slice F.ad F.nd 1, .slice F.aw F.nw 1, .slice F.ai F.ni 1]] w1 fun e w' => e = .returned (.bool (!o1.isSome)) ∧ Below w1.heap.size w1 w') := Lib.hid (fun F w1 hat hF => none_any F 1 1 1 1 false d se mi hr dom mon dow s nano o1 w1 hat (hF.ok hos.1 hos.2) (hF.calm hos.1 hos.2 h60) HU.out s0 s1 (HAF.out F hF).ans)
  have HFX := Lib.hid (fun w1 => fixed_any o w1 hos.1 hos.2)
  have hX0 : ∀ x, o1 = some x → x = x0 := fun x hx => by
    subst hx
    simp only [ansV, ansA, Value.tuple.injEq] at hop
    simp at hop
    exact hop
  rw [hop] at HN1
  obtain ⟨q, hq⟩ : ∃ q, o1.isSome = q := ⟨_, rfl⟩
  rw [hq] at HN1 HNO
  have HI1 := Lib.hid ho1
  have HX0 := Lib.hid hX0
  have HQ := Lib.hid hq
  clear ho1 hop hX0 hq
  have HK1 : Hid (∀ X, Below w4.heap.size w4 X → X.cell? ⟨w.heap.size, 0, none⟩ = some (.bool false) ∧ X.cell? ⟨w.heap.size, 1, none⟩ = some (.int .i64 d) ∧ X.cell? ⟨w.heap.size, 2, none⟩ = some (.int .u64 se) ∧ X.cell? ⟨w.heap.size, 3, none⟩ = some (.int .u64 mi) ∧ X.cell? ⟨w.heap.size, 4, none⟩ = some (.int .u64 hr) ∧ X.cell? ⟨w.heap.size, 5, none⟩ = some (.int .u64 dom) ∧ X.cell? ⟨w.heap.size, 6, none⟩ = some (.int .u64 mon) ∧ X.cell? ⟨w.heap.size, 7, none⟩ = some (.int .u64 dow) ∧ X.cell? ⟨w.heap.size + 1, 0, none⟩ = some (.int .i64 s) ∧ X.cell? ⟨w.heap.size + 1, 1, none⟩ = some (.int .i64 nano) ∧ X.cell? ⟨w.heap.size + 1 + 1, 0, none⟩ = some (.slice r.ao r.no co) ∧ X.cell? ⟨w.heap.size + 1 + 1, 1, none⟩ = some (.slice r.ad r.nd cd) ∧ X.cell? ⟨w.heap.size + 1 + 1, 2, none⟩ = some (.slice r.aw r.nw cw) ∧ X.cell? ⟨w.heap.size + 1 + 1, 3, none⟩ = some (.slice r.ai r.ni ci)) := Lib.hid (fun X hX => HKS.out X (HB4.out.trans (hX.mono HB4.out.size)))
  have HBw : Hid (Below w.heap.size w w4) := Lib.hid (HB.out.trans (HB4.out.mono HB.out.size))
  go_upto_region 5 with fail
  go_cut [7, 8] (fun p b wx => Hid (∃ blk, p = .pointer (some ⟨blk, 0, none⟩) ∧ b = .bool q ∧ Below w4.heap.size w4 wx ∧ w4.heap.size ≤ blk ∧ Pt wx blk x0 0))
  case first =>
    go_region_held3 (fun X => X.cell? ⟨w.heap.size, 0, none⟩ = some (.bool false) ∧ X.cell? ⟨w.heap.size, 1, none⟩ = some (.int .i64 d) ∧ X.cell? ⟨w.heap.size, 2, none⟩ = some (.int .u64 se) ∧ X.cell? ⟨w.heap.size, 3, none⟩ = some (.int .u64 mi) ∧ X.cell? ⟨w.heap.size, 4, none⟩ = some (.int .u64 hr) ∧ X.cell? ⟨w.heap.size, 5, none⟩ = some (.int .u64 dom) ∧ X.cell? ⟨w.heap.size, 6, none⟩ = some (.int .u64 mon) ∧ X.cell? ⟨w.heap.size, 7, none⟩ = some (.int .u64 dow) ∧ X.cell? ⟨w.heap.size + 1, 0, none⟩ = some (.int .i64 s) ∧ X.cell? ⟨w.heap.size + 1, 1, none⟩ = some (.int .i64 nano) ∧ X.cell? ⟨w.heap.size + 1 + 1, 0, none⟩ = some (.slice r.ao r.no co) ∧ X.cell? ⟨w.heap.size + 1 + 1, 1, none⟩ = some (.slice r.ad r.nd cd) ∧ X.cell? ⟨w.heap.size + 1 + 1, 2, none⟩ = some (.slice r.aw r.nw cw) ∧ X.cell? ⟨w.heap.size + 1 + 1, 3, none⟩ = some (.slice r.ai r.ni ci)) (exact HK1.out _ (by repeat (first | exact Below.refl _ _ | assumption | refine Below.drew ?_ | refine allocd ?_ _ | refine putd ?_ (by first | exact Nat.le_refl _ | exact Below.size (by assumption)) _ _)))
      ((first
        | (go_at_call 25; (with_reducible refine (HOF.out _ (HBw.out.trans (Below.mono (B := w4.heap.size) (by repeat (first | exact Below.refl _ _ | assumption | refine Below.drew ?_ | refine allocd ?_ _ | refine putd ?_ (by first | exact Nat.le_refl _ | exact Below.size (by assumption)) _ _)) HBw.out.size))).mono ?_); rintro x w5 ⟨rfl, hb⟩; (have hw5 := chain (V := w4) (by repeat (first | exact Below.refl _ _ | assumption | refine Below.drew ?_ | refine allocd ?_ _ | refine putd ?_ (by first | exact Nat.le_refl _ | exact Below.size (by assumption)) _ _)) hb); (first | (have hfr := fresh2d hb; obtain ⟨q0, ⟨d0, d1⟩, g0, g1⟩ := hfr) | (have hfr := fresh2 hb; obtain ⟨q0, ⟨d0, d1⟩, g0, g1⟩ := hfr) | (have hfr := keep2 hb ⟨q0, ⟨d0, d1⟩, g0, g1⟩; obtain ⟨q0, ⟨d0, d1⟩, g0, g1⟩ := hfr) | skip))
        | (go_at_call 26; (with_reducible refine (HFX.out _).mono ?_); rintro x wf ⟨⟨F, rfl, hFat, hFof⟩, hb⟩; (have hwf := chain (V := w4) (by repeat (first | exact Below.refl _ _ | assumption | refine Below.drew ?_ | refine allocd ?_ _ | refine putd ?_ (by first | exact Nat.le_refl _ | exact Below.size (by assumption)) _ _)) hb); (first | (have hfr := fresh2d hb; obtain ⟨q0, ⟨d0, d1⟩, g0, g1⟩ := hfr) | (have hfr := fresh2 hb; obtain ⟨q0, ⟨d0, d1⟩, g0, g1⟩ := hfr) | (have hfr := keep2 hb ⟨q0, ⟨d0, d1⟩, g0, g1⟩; obtain ⟨q0, ⟨d0, d1⟩, g0, g1⟩ := hfr) | skip))
        | (go_at_call 22; (with_reducible refine (HN1.out F _ (by first | exact hFat | exact hFat.below (allocd (Below.refl _ _) _)) hFof).mono ?_); rintro x w6 ⟨rfl, hb⟩; (have hw6 := chain (V := w4) (by repeat (first | exact Below.refl _ _ | assumption | refine Below.drew ?_ | refine allocd ?_ _ | refine putd ?_ (by first | exact Nat.le_refl _ | exact Below.size (by assumption)) _ _)) hb); (first | (have hfr := fresh2d hb; obtain ⟨q0, ⟨d0, d1⟩, g0, g1⟩ := hfr) | (have hfr := fresh2 hb; obtain ⟨q0, ⟨d0, d1⟩, g0, g1⟩ := hfr) | (have hfr := keep2 hb ⟨q0, ⟨d0, d1⟩, g0, g1⟩; obtain ⟨q0, ⟨d0, d1⟩, g0, g1⟩ := hfr) | skip))))
    all_goals
      go_wp2_with fail
      go_meet
      first
        | exact Lib.hid ⟨_, rfl, rfl, (by repeat (first | exact Below.refl _ _ | assumption | refine Below.drew ?_ | refine allocd ?_ _ | refine putd ?_ (by first | exact Nat.le_refl _ | exact Below.size (by assumption)) _ _)), (by first | exact Nat.le_refl _ | exact Below.size (by assumption)), pt_new _ _ _ _⟩
        | exact Lib.hid ⟨_, rfl, rfl, (by repeat (first | exact Below.refl _ _ | assumption | refine Below.drew ?_ | refine allocd ?_ _ | refine putd ?_ (by first | exact Nat.le_refl _ | exact Below.size (by assumption)) _ _)), (by first | exact Nat.le_refl _ | exact Below.size (by assumption)), pt_set q0 d0 d1⟩
  case rest =>
    obtain ⟨p1, rfl, rfl, hc1, hp1, hpt1⟩ := hcut.out
    obtain ⟨wa, hwa⟩ : ∃ wa, wa = wc := ⟨_, rfl⟩
    subst hwa
    clear hcut
    have HC1 := Lib.hid (HB4.out.trans (hc1.mono HB4.out.size))
    have HPT0 := Lib.hid hpt1
    clear hc1 hp1 hpt1
    cases q
    case false =>
      have HK2 : Hid (∀ X, Below wa.heap.size wa X → X.cell? ⟨w.heap.size, 0, none⟩ = some (.bool false) ∧ X.cell? ⟨w.heap.size, 1, none⟩ = some (.int .i64 d) ∧ X.cell? ⟨w.heap.size, 2, none⟩ = some (.int .u64 se) ∧ X.cell? ⟨w.heap.size, 3, none⟩ = some (.int .u64 mi) ∧ X.cell? ⟨w.heap.size, 4, none⟩ = some (.int .u64 hr) ∧ X.cell? ⟨w.heap.size, 5, none⟩ = some (.int .u64 dom) ∧ X.cell? ⟨w.heap.size, 6, none⟩ = some (.int .u64 mon) ∧ X.cell? ⟨w.heap.size, 7, none⟩ = some (.int .u64 dow) ∧ X.cell? ⟨w.heap.size + 1, 0, none⟩ = some (.int .i64 s) ∧ X.cell? ⟨w.heap.size + 1, 1, none⟩ = some (.int .i64 nano) ∧ X.cell? ⟨w.heap.size + 1 + 1, 0, none⟩ = some (.slice r.ao r.no co) ∧ X.cell? ⟨w.heap.size + 1 + 1, 1, none⟩ = some (.slice r.ad r.nd cd) ∧ X.cell? ⟨w.heap.size + 1 + 1, 2, none⟩ = some (.slice r.aw r.nw cw) ∧ X.cell? ⟨w.heap.size + 1 + 1, 3, none⟩ = some (.slice r.ai r.ni ci)) := Lib.hid (fun X hX => HKS.out X (HC1.out.trans (hX.mono HC1.out.size)))
      have HBx : Hid (Below w.heap.size w wa) := Lib.hid (HB.out.trans (HC1.out.mono HB.out.size))
      go_upto_region 7 with fail
      go_region_held3 (fun X => X.cell? ⟨w.heap.size, 0, none⟩ = some (.bool false) ∧ X.cell? ⟨w.heap.size, 1, none⟩ = some (.int .i64 d) ∧ X.cell? ⟨w.heap.size, 2, none⟩ = some (.int .u64 se) ∧ X.cell? ⟨w.heap.size, 3, none⟩ = some (.int .u64 mi) ∧ X.cell? ⟨w.heap.size, 4, none⟩ = some (.int .u64 hr) ∧ X.cell? ⟨w.heap.size, 5, none⟩ = some (.int .u64 dom) ∧ X.cell? ⟨w.heap.size, 6, none⟩ = some (.int .u64 mon) ∧ X.cell? ⟨w.heap.size, 7, none⟩ = some (.int .u64 dow) ∧ X.cell? ⟨w.heap.size + 1, 0, none⟩ = some (.int .i64 s) ∧ X.cell? ⟨w.heap.size + 1, 1, none⟩ = some (.int .i64 nano) ∧ X.cell? ⟨w.heap.size + 1 + 1, 0, none⟩ = some (.slice r.ao r.no co) ∧ X.cell? ⟨w.heap.size + 1 + 1, 1, none⟩ = some (.slice r.ad r.nd cd) ∧ X.cell? ⟨w.heap.size + 1 + 1, 2, none⟩ = some (.slice r.aw r.nw cw) ∧ X.cell? ⟨w.heap.size + 1 + 1, 3, none⟩ = some (.slice r.ai r.ni ci)) (exact HK2.out _ (by repeat (first | exact Below.refl _ _ | assumption | refine Below.drew ?_ | refine allocd ?_ _ | refine putd ?_ (by first | exact Nat.le_refl _ | exact Below.size (by assumption)) _ _)))
        ((first
          | (go_at_call 25; (with_reducible refine (HOF.out _ (HBx.out.trans (Below.mono (B := wa.heap.size) (by repeat (first | exact Below.refl _ _ | assumption | refine Below.drew ?_ | refine allocd ?_ _ | refine putd ?_ (by first | exact Nat.le_refl _ | exact Below.size (by assumption)) _ _)) HBx.out.size))).mono ?_); rintro x w5 ⟨rfl, hb⟩; (have hw5 := chain (V := wa) (by repeat (first | exact Below.refl _ _ | assumption | refine Below.drew ?_ | refine allocd ?_ _ | refine putd ?_ (by first | exact Nat.le_refl _ | exact Below.size (by assumption)) _ _)) hb); skip)
          | (go_at_call 26; (with_reducible refine (HFX.out _).mono ?_); rintro x wf ⟨⟨F, rfl, hFat, hFof⟩, hb⟩; (have hwf := chain (V := wa) (by repeat (first | exact Below.refl _ _ | assumption | refine Below.drew ?_ | refine allocd ?_ _ | refine putd ?_ (by first | exact Nat.le_refl _ | exact Below.size (by assumption)) _ _)) hb); skip)
          | (go_at_call 24; (with_reducible refine (HNO.out F _ hFat hFof).mono ?_); rintro x w6 ⟨rfl, hb⟩; (have hw6 := chain (V := wa) (by repeat (first | exact Below.refl _ _ | assumption | refine Below.drew ?_ | refine allocd ?_ _ | refine putd ?_ (by first | exact Nat.le_refl _ | exact Below.size (by assumption)) _ _)) hb))))
      go_wp2_with fail
      go_ret
      exact ⟨rfl, HBx.out.trans (hw6.mono HBx.out.size)⟩
    case true =>
      obtain ⟨x1, hx1⟩ : ∃ x1, o1 = some x1 := Option.isSome_iff_exists.1 HQ.out
      have e9 := HX0.out x1 hx1
      subst e9
      have HIS : Hid (IsNext (fun _ => o) (sched se mi hr dom mon dow) (s + 1) (yOf (day (fun _ => o) (s + 1)) + 5) (some x1)) := Lib.hid (by have := HI1.out; rw [hx1] at this; exact this)
      obtain ⟨x0, hx0⟩ : ∃ x0, x0 = x1 := ⟨_, rfl⟩
      subst hx0
      have hsx : s < x0 := by have := HIS.out.1; omega
      have HXB : Hid (x0 ≤ 260000000000) := Lib.hid (const_top o hos s0 s1 HIS.out)
      have hxb0 := HXB.out
      clear hx1
      have HCH := Lib.hid (fun w1 (hb : Below w.heap.size w w1) => change_any r co cd cw ci (s - 3456000) w1 (HAt.out.below hb) HOk.out)
      obtain ⟨y0, y1, y2, y3, y4, y5, y6, y7, y8, y9, y10, y11, y12, y13⟩ := HKS.out wa HC1.out
      obtain ⟨z1, z2, z3⟩ := HPT0.out
      go_upto_region 9 with (go_at_call 27; refine (HCH.out _ (HB.out.trans (HC1.out.mono HB.out.size))).mono ?_; rintro x w6 ⟨⟨c, m, rfl, hC⟩, hb6⟩)
      have HC6 := Lib.hid (HC1.out.trans (hb6.mono HC1.out.size))
      have HPT := Lib.hid (HPT0.out.below hb6)
      clear y0 y1 y2 y3 y4 y5 y6 y7 y8 y9 y10 y11 y12 y13 z1 z2 z3 hb6
      obtain ⟨y0, y1, y2, y3, y4, y5, y6, y7, y8, y9, y10, y11, y12, y13⟩ := HKS.out w6 HC6.out
      obtain ⟨z1, z2, z3⟩ := HPT.out
      cases m
      case false =>
        have hqt : ∀ y, s - 3456000 ≤ y → y ≤ x0 + 172800 → Raw.off r y = Raw.off r (s - 3456000) := fun y y1 y2 => hC.after y1
        clear hC
        have hq2 : ∀ y, s - 3456000 ≤ y → y ≤ x0 + 172800 → Raw.off r y = o := fun y y1 y2 => (hqt y y1 y2).trans ((hqt s (by omega) (by omega)).symm.trans HO.out)
        have hIr : IsNext (Raw.off r) (sched se mi hr dom mon dow) (s + 1) (yOf (day (fun _ => o) (s + 1)) + 5) (some x0) := HIS.out.congr_some (fun y y1 y2 => (hq2 y (by omega) (by omega)))
        have hxb : x0 ≤ 260000000000 := HXB.out
        have hask : Asked (Raw.off r) (sched se mi hr dom mon dow) s (yOf (day (fun _ => o) (s + 1)) + 5) (some x0) := by
          refine ⟨hIr, s0, by omega, ?_, ?_, s - 3456000, x0 + 172800, x0, ⟨HBD.out, fun y y1 y2 => by rw [hq2 y y1 y2]; exact h60, fun v w' h1 h2 h3 h4 _ => absurd ((hq2 (v - 1) (by omega) (by omega)).trans (hq2 v (by omega) (by omega)).symm) h4, fun w' h1 h2 h4 => absurd ((hq2 (w' - 1) (by omega) (by omega)).trans (hq2 w' (by omega) (by omega)).symm) h4⟩, by omega, by omega, by omega, by omega, rfl⟩
          · unfold day lo
            rw [hq2 (s + 1) (by omega) (by omega)]
          · rw [hq2 (s + 1) (by omega) (by omega)]; exact h60
        have HN3 : Hid (∀ w1, Below w.heap.size w w1 → Calls Try.prog 22 #[.agg #[.bool false, .int .i64 d, .int .u64 se, .int .u64 mi, .int .u64 hr, .int .u64 dom, .int .u64 mon, .int .u64 dow], .agg #[.int .i64 s, .int .i64 nano], .agg #[.slice r.ao r.no co, .slice r.ad r.nd cd, .slice r.aw r.nw cw, .slice r.ai r.ni ci]] w1 fun e w' => e = .returned (.tuple #[.agg #[.int .i64 x0, .int .i64 0], .bool true]) ∧ Below w1.heap.size w1 w') := Lib.hid (fun w1 hb => NextJ.next_any r co cd cw ci d se mi hr dom mon dow s nano _ (some x0) w1 (HAt.out.below hb) HOk.out HU.out n0 n1 hask)
        have HBE := Lib.hid (fun w1 => before_any s nano x0 0 w1 hsx)
        clear hq2 hIr hask hqt hxb
        go_wp2_with (first
          | (go_at_call 22; refine (HN3.out _ (HB.out.trans (HC6.out.mono HB.out.size))).mono ?_; rintro x w7 ⟨rfl, hb7⟩; have h7 := HC6.out.trans (hb7.mono HC6.out.size); obtain ⟨y0, y1, y2, y3, y4, y5, y6, y7, y8, y9, y10, y11, y12, y13⟩ := HKS.out w7 h7; obtain ⟨z1, z2, z3⟩ := HPT.out.below hb7; have hl7 : w.heap.size + 1 < w7.heap.size := World.block_lt_of_cell? w7 _ y8)
          | (go_at_call 28; refine (HBE.out _).mono ?_; rintro x w8 ⟨rfl, hb8⟩))
        go_ret
        refine ⟨?_, ?_⟩
        · simp
        · first
            | exact HB.out.trans ((h7.trans (hb8.mono h7.size)).mono HB.out.size)
            | exact HB.out.trans (((h7.alloc h7.size _).trans (hb8.mono (h7.alloc h7.size _).size)).mono HB.out.size)
      case true =>
        by_cases hle : c ≤ x0 + 172800
        · clear hC
          go_wp2_with fail
          go_ret
          exact ⟨rfl, HB.out.trans (HC6.out.mono HB.out.size)⟩
        · have hqt : ∀ y, s - 3456000 ≤ y → y ≤ x0 + 172800 → Raw.off r y = Raw.off r (s - 3456000) := fun y y1 y2 => hC.before y1 (by omega)
          clear hC
          have hq2 : ∀ y, s - 3456000 ≤ y → y ≤ x0 + 172800 → Raw.off r y = o := fun y y1 y2 => (hqt y y1 y2).trans ((hqt s (by omega) (by omega)).symm.trans HO.out)
          have hIr : IsNext (Raw.off r) (sched se mi hr dom mon dow) (s + 1) (yOf (day (fun _ => o) (s + 1)) + 5) (some x0) := HIS.out.congr_some (fun y y1 y2 => (hq2 y (by omega) (by omega)))
          have hxb : x0 ≤ 260000000000 := HXB.out
          have hask : Asked (Raw.off r) (sched se mi hr dom mon dow) s (yOf (day (fun _ => o) (s + 1)) + 5) (some x0) := by
            refine ⟨hIr, s0, by omega, ?_, ?_, s - 3456000, x0 + 172800, x0, ⟨HBD.out, fun y y1 y2 => by rw [hq2 y y1 y2]; exact h60, fun v w' h1 h2 h3 h4 _ => absurd ((hq2 (v - 1) (by omega) (by omega)).trans (hq2 v (by omega) (by omega)).symm) h4, fun w' h1 h2 h4 => absurd ((hq2 (w' - 1) (by omega) (by omega)).trans (hq2 w' (by omega) (by omega)).symm) h4⟩, by omega, by omega, by omega, by omega, rfl⟩
            · unfold day lo
              rw [hq2 (s + 1) (by omega) (by omega)]
            · rw [hq2 (s + 1) (by omega) (by omega)]; exact h60
          have HN3 : Hid (∀ w1, Below w.heap.size w w1 → Calls Try.prog 22 #[.agg #[.bool false, .int .i64 d, .int .u64 se, .int .u64 mi, .int .u64 hr, .int .u64 dom, .int .u64 mon, .int .u64 dow], .agg #[.int .i64 s, .int .i64 nano], .agg #[.slice r.ao r.no co, .slice r.ad r.nd cd, .slice r.aw r.nw cw, .slice r.ai r.ni ci]] w1 fun e w' => e = .returned (.tuple #[.agg #[.int .i64 x0, .int .i64 0], .bool true]) ∧ Below w1.heap.size w1 w') := Lib.hid (fun w1 hb => NextJ.next_any r co cd cw ci d se mi hr dom mon dow s nano _ (some x0) w1 (HAt.out.below hb) HOk.out HU.out n0 n1 hask)
          have HBE := Lib.hid (fun w1 => before_any s nano x0 0 w1 hsx)
          clear hq2 hIr hask hqt hxb
          go_wp2_with (first
            | (go_at_call 22; refine (HN3.out _ (HB.out.trans (HC6.out.mono HB.out.size))).mono ?_; rintro x w7 ⟨rfl, hb7⟩; have h7 := HC6.out.trans (hb7.mono HC6.out.size); obtain ⟨y0, y1, y2, y3, y4, y5, y6, y7, y8, y9, y10, y11, y12, y13⟩ := HKS.out w7 h7; obtain ⟨z1, z2, z3⟩ := HPT.out.below hb7; have hl7 : w.heap.size + 1 < w7.heap.size := World.block_lt_of_cell? w7 _ y8)
            | (go_at_call 28; refine (HBE.out _).mono ?_; rintro x w8 ⟨rfl, hb8⟩))
          go_ret
          refine ⟨?_, ?_⟩
          · simp
          · first
              | exact HB.out.trans ((h7.trans (hb8.mono h7.size)).mono HB.out.size)
              | exact HB.out.trans (((h7.alloc h7.size _).trans (hb8.mono (h7.alloc h7.size _).size)).mono HB.out.size)

end Go.Proofs.Ytoekefbclkmchaa.fnCronNextQuiet

