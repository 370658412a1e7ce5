/- The walk of the law FnCronNextNano. Conditions: sets of 64 bits. -/
import Derived.Test.YtoekefbclkmchaaCase
import Derived.Deep.DeepCutAuto
import Derived.Deep.CutBlock
namespace Go.Proofs.Ytoekefbclkmchaa.fnCronNextNano
open Go Go.RowKit Go.Proofs.Ytoekefbclkmchaa.TimeNum Go.Proofs.Ytoekefbclkmchaa.Cal Go.Proofs.Ytoekefbclkmchaa.Off Go.Proofs.Ytoekefbclkmchaa.Search Go.Proofs.Ytoekefbclkmchaa.Zone Go.Proofs.Ytoekefbclkmchaa.Zone2 Go.Proofs.Ytoekefbclkmchaa.DayFits Go.Proofs.Ytoekefbclkmchaa.NextC Go.Proofs.Ytoekefbclkmchaa.NextI Go.Proofs.Ytoekefbclkmchaa.NextJ Go.Proofs.Ytoekefbclkmchaa.Ask Go.Proofs.Ytoekefbclkmchaa.Stars Go.Proofs.Ytoekefbclkmchaa.Case
set_option linter.unusedVariables false

set_option maxHeartbeats 4000000 in
set_option maxRecDepth 100000 in
theorem walk (ev : Bool) (d se mi hr dom mon dow s nano : Int) (w : World) (hu : U6 se mi hr dom mon dow) :
    Calls Try.prog 5 #[.agg #[.bool ev, .int .i64 d, .int .u64 se, .int .u64 mi, .int .u64 hr, .int .u64 dom, .int .u64 mon, .int .u64 dow], .agg #[.int .i64 s, .int .i64 nano]] w fun e w' => e = .returned (.bool true) ∧ Below w.heap.size w w' := by
  obtain ⟨V, hV⟩ : ∃ V, ((w.alloc (.cells #[.bool ev, .int .i64 d, .int .u64 se, .int .u64 mi, .int .u64 hr, .int .u64 dom, .int .u64 mon, .int .u64 dow] 51)).alloc (.cells #[.int .i64 s, .int .i64 nano] 24)) = V := ⟨_, rfl⟩
  have hbV : Below w.heap.size w V := by rw [← hV]; exact ((Below.refl _ _).alloc (Nat.le_refl _) _).alloc (by simp) _
  have HKS : Hid (∀ X, Below V.heap.size V X → X.cell? ⟨w.heap.size, 0, none⟩ = some (.bool ev) ∧ X.cell? ⟨w.heap.size, 1, none⟩ = some (.int .i64 d) ∧ X.cell? ⟨w.heap.size, 2, none⟩ = some (.int .u64 se) ∧ X.cell? ⟨w.heap.size, 3, none⟩ = some (.int .u64 mi) ∧ X.cell? ⟨w.heap.size, 4, none⟩ = some (.int .u64 hr) ∧ X.cell? ⟨w.heap.size, 5, none⟩ = some (.int .u64 dom) ∧ X.cell? ⟨w.heap.size, 6, none⟩ = some (.int .u64 mon) ∧ X.cell? ⟨w.heap.size, 7, none⟩ = some (.int .u64 dow) ∧ X.cell? ⟨w.heap.size + 1, 0, none⟩ = some (.int .i64 s) ∧ X.cell? ⟨w.heap.size + 1, 1, none⟩ = some (.int .i64 nano)) := Lib.hid (fun X hX => by
    have e1 : (w.alloc (.cells #[.bool ev, .int .i64 d, .int .u64 se, .int .u64 mi, .int .u64 hr, .int .u64 dom, .int .u64 mon, .int .u64 dow] 51)).heap.size = w.heap.size + 1 := by simp
    have h2 : Below ((w.alloc (.cells #[.bool ev, .int .i64 d, .int .u64 se, .int .u64 mi, .int .u64 hr, .int .u64 dom, .int .u64 mon, .int .u64 dow] 51)).alloc (.cells #[.int .i64 s, .int .i64 nano] 24)).heap.size ((w.alloc (.cells #[.bool ev, .int .i64 d, .int .u64 se, .int .u64 mi, .int .u64 hr, .int .u64 dom, .int .u64 mon, .int .u64 dow] 51)).alloc (.cells #[.int .i64 s, .int .i64 nano] 24)) X := by rw [hV]; exact hX
    have h1 : Below (w.alloc (.cells #[.bool ev, .int .i64 d, .int .u64 se, .int .u64 mi, .int .u64 hr, .int .u64 dom, .int .u64 mon, .int .u64 dow] 51)).heap.size (w.alloc (.cells #[.bool ev, .int .i64 d, .int .u64 se, .int .u64 mi, .int .u64 hr, .int .u64 dom, .int .u64 mon, .int .u64 dow] 51)) X := ((Below.refl _ _).alloc (Nat.le_refl _) _).trans (h2.mono (by simp))
    have b0 := cells_after h2 0 _ rfl
    have b1 := cells_after h2 1 _ rfl
    rw [e1] at b0 b1
    exact ⟨cells_after h1 0 _ rfl, cells_after h1 1 _ rfl, cells_after h1 2 _ rfl, cells_after h1 3 _ rfl, cells_after h1 4 _ rfl, cells_after h1 5 _ rfl, cells_after h1 6 _ rfl, cells_after h1 7 _ rfl, b0, b1⟩)
  have HB := Lib.hid hbV
  have HCA := Lib.hid (fun w1 => case_any ev d se mi hr dom mon dow s nano w1)
  have HU := Lib.hid hu
  obtain ⟨y0, y1, y2, y3, y4, y5, y6, y7, y8, y9⟩ := HKS.out _ (Below.refl _ _)
  clear hbV hu
  go_enter Try.func5, Try.ntmps5
  go_upto_if 12 with (go_at_call 21; refine (HCA.out _).mono ?_; rintro x V1 ⟨g, rfl, hg, hb1⟩)
  clear hV y0 y1 y2 y3 y4 y5 y6 y7 y8 y9
  cases g
  case false =>
    go_wp2_with fail
    go_ret
    exact ⟨rfl, HB.out.trans (hb1.mono HB.out.size)⟩
  case true =>
    obtain ⟨rfl, ⟨s0, s1⟩, n0, n1⟩ := hg rfl
    obtain ⟨o, ho⟩ := isNext_ex (S := sched se mi hr dom mon dow) utc_plain (s + 1) (yOf (day (Raw.off utc) (s + 1)) + 5)
    have hask := asked utc_plain s0 s1 (by rw [utc_off]; rfl) ho
    obtain ⟨x0, hop⟩ : ∃ x0, ansV o = .tuple #[.agg #[.int .i64 x0, .int .i64 0], .bool o.isSome] := by
      cases o with
      | none => exact ⟨0, rfl⟩
      | some x => exact ⟨x, rfl⟩
    have HN1 : Hid (∀ w1, Calls Try.prog 22 #[.agg #[.bool false, .int .i64 d, .int .u64 se, .int .u64 mi, .int .u64 hr, .int .u64 dom, .int .u64 mon, .int .u64 dow], .agg #[.int .i64 s, .int .i64 nano], .agg #[.slice none 0 0, .slice none 0 0, .slice none 0 0, .slice none 0 0]] w1 fun e w' => e = .returned (ansV o) ∧ Below w1.heap.size w1 w') := Lib.hid (fun w1 => NextJ.next_any utc 0 0 0 0 d se mi hr dom mon dow s nano _ o w1 (utc_at w1) utc_ok HU.out n0 n1 hask)
    have HN2 : Hid (∀ w1, Calls Try.prog 22 #[.agg #[.bool false, .int .i64 d, .int .u64 se, .int .u64 mi, .int .u64 hr, .int .u64 dom, .int .u64 mon, .int .u64 dow], .agg #[.int .i64 s, .int .i64 0], .agg #[.slice none 0 0, .slice none 0 0, .slice none 0 0, .slice none 0 0]] w1 fun e w' => e = .returned (ansV o) ∧ Below w1.heap.size w1 w') := Lib.hid (fun w1 => NextJ.next_any utc 0 0 0 0 d se mi hr dom mon dow s 0 _ o w1 (utc_at w1) utc_ok HU.out (by omega) (by omega) hask)
    have HNO : Hid (∀ w1, Calls Try.prog 24 #[.agg #[.bool false, .int .i64 d, .int .u64 se, .int .u64 mi, .int .u64 hr, .int .u64 dom, .int .u64 mon, .int .u64 dow], .agg #[.int .i64 s, .int .i64 nano], .agg #[.slice none 0 0, .slice none 0 0, .slice none 0 0, .slice none 0 0]] w1 fun e w' => e = .returned (.bool (!o.isSome)) ∧ Below w1.heap.size w1 w') := Lib.hid (fun w1 => none_any utc 0 0 0 0 false d se mi hr dom mon dow s nano o w1 (utc_at w1) utc_ok utc_calm HU.out s0 s1 ho)
    have HWH := Lib.hid (fun w1 => whole_any s w1)
    rw [hop] at HN1 HN2
    generalize o.isSome = q at *
    clear ho hask hop hg s0 s1 n0 n1
    have HV1 := Lib.hid hb1
    go_upto_region 3 with fail
    go_cut [5, 6] (fun p b wx => Hid (∃ blk, p = .pointer (some ⟨blk, 0, none⟩) ∧ b = .bool q ∧ Below V1.heap.size V1 wx ∧ V1.heap.size ≤ blk ∧ Pt wx blk x0 0))
    case first =>
      have HK1 : Hid (∀ X, Below V1.heap.size V1 X → X.cell? ⟨w.heap.size, 0, none⟩ = some (.bool false) ∧ X.cell? ⟨w.heap.size, 1, none⟩ = some (.int .i64 d) ∧ X.cell? ⟨w.heap.size, 2, none⟩ = some (.int .u64 se) ∧ X.cell? ⟨w.heap.size, 3, none⟩ = some (.int .u64 mi) ∧ X.cell? ⟨w.heap.size, 4, none⟩ = some (.int .u64 hr) ∧ X.cell? ⟨w.heap.size, 5, none⟩ = some (.int .u64 dom) ∧ X.cell? ⟨w.heap.size, 6, none⟩ = some (.int .u64 mon) ∧ X.cell? ⟨w.heap.size, 7, none⟩ = some (.int .u64 dow) ∧ X.cell? ⟨w.heap.size + 1, 0, none⟩ = some (.int .i64 s) ∧ X.cell? ⟨w.heap.size + 1, 1, none⟩ = some (.int .i64 nano)) := Lib.hid (fun X hX => HKS.out X (HV1.out.trans (hX.mono HV1.out.size)))
      clear hb1
      go_region_held3 (fun X => X.cell? ⟨w.heap.size, 0, none⟩ = some (.bool false) ∧ X.cell? ⟨w.heap.size, 1, none⟩ = some (.int .i64 d) ∧ X.cell? ⟨w.heap.size, 2, none⟩ = some (.int .u64 se) ∧ X.cell? ⟨w.heap.size, 3, none⟩ = some (.int .u64 mi) ∧ X.cell? ⟨w.heap.size, 4, none⟩ = some (.int .u64 hr) ∧ X.cell? ⟨w.heap.size, 5, none⟩ = some (.int .u64 dom) ∧ X.cell? ⟨w.heap.size, 6, none⟩ = some (.int .u64 mon) ∧ X.cell? ⟨w.heap.size, 7, none⟩ = some (.int .u64 dow) ∧ X.cell? ⟨w.heap.size + 1, 0, none⟩ = some (.int .i64 s) ∧ X.cell? ⟨w.heap.size + 1, 1, none⟩ = some (.int .i64 nano)) (exact HK1.out _ (by repeat (first | exact Below.refl _ _ | assumption | refine Below.drew ?_ | refine allocd ?_ _ | refine putd ?_ (by first | exact Nat.le_refl _ | exact Below.size (by assumption)) _ _)))
        ((first
          | (go_at_call 20; (with_reducible refine (cronUTC_any _).mono ?_); rintro x w1 ⟨rfl, hb⟩; (have hw1 := chain (V := V1) (by repeat (first | exact Below.refl _ _ | assumption | refine Below.drew ?_ | refine allocd ?_ _ | refine putd ?_ (by first | exact Nat.le_refl _ | exact Below.size (by assumption)) _ _)) hb); (first | (have hfr := fresh2d hb; obtain ⟨q0, ⟨d0, d1⟩, g0, g1⟩ := hfr) | (have hfr := fresh2 hb; obtain ⟨q0, ⟨d0, d1⟩, g0, g1⟩ := hfr) | (have hfr := keep2 hb ⟨q0, ⟨d0, d1⟩, g0, g1⟩; obtain ⟨q0, ⟨d0, d1⟩, g0, g1⟩ := hfr) | skip))
          | (go_at_call 22; (with_reducible refine (HN1.out _).mono ?_); rintro x w2 ⟨rfl, hb⟩; (have hw2 := chain (V := V1) (by repeat (first | exact Below.refl _ _ | assumption | refine Below.drew ?_ | refine allocd ?_ _ | refine putd ?_ (by first | exact Nat.le_refl _ | exact Below.size (by assumption)) _ _)) hb); (first | (have hfr := fresh2d hb; obtain ⟨q0, ⟨d0, d1⟩, g0, g1⟩ := hfr) | (have hfr := fresh2 hb; obtain ⟨q0, ⟨d0, d1⟩, g0, g1⟩ := hfr) | (have hfr := keep2 hb ⟨q0, ⟨d0, d1⟩, g0, g1⟩; obtain ⟨q0, ⟨d0, d1⟩, g0, g1⟩ := hfr) | skip))))
      all_goals
        go_wp2_with fail
        go_meet
        first
          | exact Lib.hid ⟨_, rfl, rfl, (by repeat (first | exact Below.refl _ _ | assumption | refine Below.drew ?_ | refine allocd ?_ _ | refine putd ?_ (by first | exact Nat.le_refl _ | exact Below.size (by assumption)) _ _)), (by first | exact Nat.le_refl _ | exact Below.size (by assumption)), pt_new _ _ _ _⟩
          | exact Lib.hid ⟨_, rfl, rfl, (by repeat (first | exact Below.refl _ _ | assumption | refine Below.drew ?_ | refine allocd ?_ _ | refine putd ?_ (by first | exact Nat.le_refl _ | exact Below.size (by assumption)) _ _)), (by first | exact Nat.le_refl _ | exact Below.size (by assumption)), pt_set q0 d0 d1⟩
    case rest =>
      obtain ⟨p1, rfl, rfl, hc1, hp1, hpt1⟩ := hcut.out
      obtain ⟨wa, hwa⟩ : ∃ wa, wa = wc := ⟨_, rfl⟩
      subst hwa
      clear hcut
      have HK1 : Hid (∀ X, Below wa.heap.size wa X → X.cell? ⟨w.heap.size, 0, none⟩ = some (.bool false) ∧ X.cell? ⟨w.heap.size, 1, none⟩ = some (.int .i64 d) ∧ X.cell? ⟨w.heap.size, 2, none⟩ = some (.int .u64 se) ∧ X.cell? ⟨w.heap.size, 3, none⟩ = some (.int .u64 mi) ∧ X.cell? ⟨w.heap.size, 4, none⟩ = some (.int .u64 hr) ∧ X.cell? ⟨w.heap.size, 5, none⟩ = some (.int .u64 dom) ∧ X.cell? ⟨w.heap.size, 6, none⟩ = some (.int .u64 mon) ∧ X.cell? ⟨w.heap.size, 7, none⟩ = some (.int .u64 dow) ∧ X.cell? ⟨w.heap.size + 1, 0, none⟩ = some (.int .i64 s) ∧ X.cell? ⟨w.heap.size + 1, 1, none⟩ = some (.int .i64 nano) ∧ X.cell? ⟨p1, 0, none⟩ = some (.int .i64 x0) ∧ X.cell? ⟨p1, 1, none⟩ = some (.int .i64 0)) := Lib.hid (fun X hX => by
        obtain ⟨y0, y1, y2, y3, y4, y5, y6, y7, y8, y9⟩ := HKS.out X (HV1.out.trans ((hc1.trans (hX.mono hc1.size)).mono HV1.out.size))
        have h2 := hpt1.below hX
        exact ⟨y0, y1, y2, y3, y4, y5, y6, y7, y8, y9, h2.2.1, h2.2.2⟩)
      have HC1 := Lib.hid hc1
      have HP1 := Lib.hid hpt1
      clear hb1 hc1 hp1 hpt1
      go_upto_region 4 with fail
      go_cut [7, 8] (fun p b wx => Hid (∃ blk, p = .pointer (some ⟨blk, 0, none⟩) ∧ b = .bool q ∧ Below wa.heap.size wa wx ∧ wa.heap.size ≤ blk ∧ Pt wx blk x0 0))
      case first =>
        go_region_held3 (fun X => X.cell? ⟨w.heap.size, 0, none⟩ = some (.bool false) ∧ X.cell? ⟨w.heap.size, 1, none⟩ = some (.int .i64 d) ∧ X.cell? ⟨w.heap.size, 2, none⟩ = some (.int .u64 se) ∧ X.cell? ⟨w.heap.size, 3, none⟩ = some (.int .u64 mi) ∧ X.cell? ⟨w.heap.size, 4, none⟩ = some (.int .u64 hr) ∧ X.cell? ⟨w.heap.size, 5, none⟩ = some (.int .u64 dom) ∧ X.cell? ⟨w.heap.size, 6, none⟩ = some (.int .u64 mon) ∧ X.cell? ⟨w.heap.size, 7, none⟩ = some (.int .u64 dow) ∧ X.cell? ⟨w.heap.size + 1, 0, none⟩ = some (.int .i64 s) ∧ X.cell? ⟨w.heap.size + 1, 1, none⟩ = some (.int .i64 nano) ∧ X.cell? ⟨p1, 0, none⟩ = some (.int .i64 x0) ∧ X.cell? ⟨p1, 1, none⟩ = some (.int .i64 0)) (exact HK1.out _ (by repeat (first | exact Below.refl _ _ | assumption | refine Below.drew ?_ | refine allocd ?_ _ | refine putd ?_ (by first | exact Nat.le_refl _ | exact Below.size (by assumption)) _ _)))
          ((first
            | (go_at_call 23; (with_reducible refine (HWH.out _).mono ?_); rintro x w1 ⟨rfl, hb⟩; (have hw1 := chain (V := wa) (by repeat (first | exact Below.refl _ _ | assumption | refine Below.drew ?_ | refine allocd ?_ _ | refine putd ?_ (by first | exact Nat.le_refl _ | exact Below.size (by assumption)) _ _)) hb); (first | (have hfr := fresh2d hb; obtain ⟨q0, ⟨d0, d1⟩, g0, g1⟩ := hfr) | (have hfr := fresh2 hb; obtain ⟨q0, ⟨d0, d1⟩, g0, g1⟩ := hfr) | (have hfr := keep2 hb ⟨q0, ⟨d0, d1⟩, g0, g1⟩; obtain ⟨q0, ⟨d0, d1⟩, g0, g1⟩ := hfr) | skip))
            | (go_at_call 20; (with_reducible refine (cronUTC_any _).mono ?_); rintro x w2 ⟨rfl, hb⟩; (have hw2 := chain (V := wa) (by repeat (first | exact Below.refl _ _ | assumption | refine Below.drew ?_ | refine allocd ?_ _ | refine putd ?_ (by first | exact Nat.le_refl _ | exact Below.size (by assumption)) _ _)) hb); (first | (have hfr := fresh2d hb; obtain ⟨q0, ⟨d0, d1⟩, g0, g1⟩ := hfr) | (have hfr := fresh2 hb; obtain ⟨q0, ⟨d0, d1⟩, g0, g1⟩ := hfr) | (have hfr := keep2 hb ⟨q0, ⟨d0, d1⟩, g0, g1⟩; obtain ⟨q0, ⟨d0, d1⟩, g0, g1⟩ := hfr) | skip))
            | (go_at_call 22; (with_reducible refine (HN2.out _).mono ?_); rintro x w3 ⟨rfl, hb⟩; (have hw3 := chain (V := wa) (by repeat (first | exact Below.refl _ _ | assumption | refine Below.drew ?_ | refine allocd ?_ _ | refine putd ?_ (by first | exact Nat.le_refl _ | exact Below.size (by assumption)) _ _)) hb); (first | (have hfr := fresh2d hb; obtain ⟨q0, ⟨d0, d1⟩, g0, g1⟩ := hfr) | (have hfr := fresh2 hb; obtain ⟨q0, ⟨d0, d1⟩, g0, g1⟩ := hfr) | (have hfr := keep2 hb ⟨q0, ⟨d0, d1⟩, g0, g1⟩; obtain ⟨q0, ⟨d0, d1⟩, g0, g1⟩ := hfr) | skip))))
        all_goals
          go_wp2_with fail
          go_meet
          first
            | exact Lib.hid ⟨_, rfl, rfl, (by repeat (first | exact Below.refl _ _ | assumption | refine Below.drew ?_ | refine allocd ?_ _ | refine putd ?_ (by first | exact Nat.le_refl _ | exact Below.size (by assumption)) _ _)), (by first | exact Nat.le_refl _ | exact Below.size (by assumption)), pt_new _ _ _ _⟩
            | exact Lib.hid ⟨_, rfl, rfl, (by repeat (first | exact Below.refl _ _ | assumption | refine Below.drew ?_ | refine allocd ?_ _ | refine putd ?_ (by first | exact Nat.le_refl _ | exact Below.size (by assumption)) _ _)), (by first | exact Nat.le_refl _ | exact Below.size (by assumption)), pt_set q0 d0 d1⟩

      case rest =>
        obtain ⟨p2, rfl, rfl, hc2, hp2, hpt2⟩ := hcut.out
        clear hcut
        have HK2 : Hid (∀ X, Below wc.heap.size wc X → X.cell? ⟨w.heap.size, 0, none⟩ = some (.bool false) ∧ X.cell? ⟨w.heap.size, 1, none⟩ = some (.int .i64 d) ∧ X.cell? ⟨w.heap.size, 2, none⟩ = some (.int .u64 se) ∧ X.cell? ⟨w.heap.size, 3, none⟩ = some (.int .u64 mi) ∧ X.cell? ⟨w.heap.size, 4, none⟩ = some (.int .u64 hr) ∧ X.cell? ⟨w.heap.size, 5, none⟩ = some (.int .u64 dom) ∧ X.cell? ⟨w.heap.size, 6, none⟩ = some (.int .u64 mon) ∧ X.cell? ⟨w.heap.size, 7, none⟩ = some (.int .u64 dow) ∧ X.cell? ⟨w.heap.size + 1, 0, none⟩ = some (.int .i64 s) ∧ X.cell? ⟨w.heap.size + 1, 1, none⟩ = some (.int .i64 nano) ∧ X.cell? ⟨p1, 0, none⟩ = some (.int .i64 x0) ∧ X.cell? ⟨p1, 1, none⟩ = some (.int .i64 0) ∧ X.cell? ⟨p2, 0, none⟩ = some (.int .i64 x0) ∧ X.cell? ⟨p2, 1, none⟩ = some (.int .i64 0)) := Lib.hid (fun X hX => by
          obtain ⟨y0, y1, y2, y3, y4, y5, y6, y7, y8, y9, z0, z1⟩ := HK1.out X (hc2.trans (hX.mono hc2.size))
          have h2 := hpt2.below hX
          exact ⟨y0, y1, y2, y3, y4, y5, y6, y7, y8, y9, z0, z1, h2.2.1, h2.2.2⟩)
        have HC2 := Lib.hid (HB.out.trans ((HV1.out.trans ((HC1.out.trans (hc2.mono HC1.out.size)).mono HV1.out.size)).mono HB.out.size))
        clear hc2 hp2 hpt2
        have hxx : (x0 == x0) = true := by simp
        cases q
        case true =>
          go_upto_region 5 with fail
          obtain ⟨y0, y1, y2, y3, y4, y5, y6, y7, y8, y9, z0, z1, z2, z3⟩ := HK2.out _ (Below.refl _ _)
          go_quiet (fail)
          go_wp2_with fail
          go_ret
          exact ⟨rfl, HC2.out.trans (Lookup.below_drewN _ _)⟩
        case false =>
          go_upto_region 5 with fail
          go_region_held3 (fun X => X.cell? ⟨w.heap.size, 0, none⟩ = some (.bool false) ∧ X.cell? ⟨w.heap.size, 1, none⟩ = some (.int .i64 d) ∧ X.cell? ⟨w.heap.size, 2, none⟩ = some (.int .u64 se) ∧ X.cell? ⟨w.heap.size, 3, none⟩ = some (.int .u64 mi) ∧ X.cell? ⟨w.heap.size, 4, none⟩ = some (.int .u64 hr) ∧ X.cell? ⟨w.heap.size, 5, none⟩ = some (.int .u64 dom) ∧ X.cell? ⟨w.heap.size, 6, none⟩ = some (.int .u64 mon) ∧ X.cell? ⟨w.heap.size, 7, none⟩ = some (.int .u64 dow) ∧ X.cell? ⟨w.heap.size + 1, 0, none⟩ = some (.int .i64 s) ∧ X.cell? ⟨w.heap.size + 1, 1, none⟩ = some (.int .i64 nano) ∧ X.cell? ⟨p1, 0, none⟩ = some (.int .i64 x0) ∧ X.cell? ⟨p1, 1, none⟩ = some (.int .i64 0) ∧ X.cell? ⟨p2, 0, none⟩ = some (.int .i64 x0) ∧ X.cell? ⟨p2, 1, none⟩ = some (.int .i64 0)) (exact HK2.out _ (by repeat (first | exact Below.refl _ _ | assumption | refine Below.drew ?_ | refine allocd ?_ _ | refine putd ?_ (by first | exact Nat.le_refl _ | exact Below.size (by assumption)) _ _)))
            ((first
              | (go_at_call 20; (with_reducible refine (cronUTC_any _).mono ?_); rintro x w4 ⟨rfl, hb⟩; (have hw4 := chain (V := wc) (by repeat (first | exact Below.refl _ _ | assumption | refine Below.drew ?_ | refine allocd ?_ _ | refine putd ?_ (by first | exact Nat.le_refl _ | exact Below.size (by assumption)) _ _)) hb); clear hb)
              | (go_at_call 24; (with_reducible refine (HNO.out _).mono ?_); rintro x w5 ⟨rfl, hb⟩; (have hw5 := chain (V := wc) (by repeat (first | exact Below.refl _ _ | assumption | refine Below.drew ?_ | refine allocd ?_ _ | refine putd ?_ (by first | exact Nat.le_refl _ | exact Below.size (by assumption)) _ _)) hb); clear hb)))
          all_goals
            go_wp2_with fail
            go_ret
            exact ⟨rfl, HC2.out.trans (Below.mono (B := wc.heap.size) (by repeat (first | exact Below.refl _ _ | assumption | refine Below.drew ?_ | refine allocd ?_ _ | refine putd ?_ (by first | exact Nat.le_refl _ | exact Below.size (by assumption)) _ _)) HC2.out.size)⟩

end Go.Proofs.Ytoekefbclkmchaa.fnCronNextNano
