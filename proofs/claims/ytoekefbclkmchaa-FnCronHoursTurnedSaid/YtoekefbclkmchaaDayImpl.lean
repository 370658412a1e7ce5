/- The thin package's CronDayMatches. Conditions: UTC or a zone in order; instants within 8*10^11 seconds of 1970. -/
import Derived.Test.YtoekefbclkmchaaDayFits
namespace Go.Proofs.Ytoekefbclkmchaa.DayImpl
open Go Go.RowKit Go.Proofs.Ytoekefbclkmchaa.Moment Go.Proofs.Ytoekefbclkmchaa.DayM Go.Proofs.Ytoekefbclkmchaa.TimeNum Go.Proofs.Ytoekefbclkmchaa.Cal Go.Proofs.Ytoekefbclkmchaa.Off Go.Proofs.Ytoekefbclkmchaa.Time Go.Proofs.Ytoekefbclkmchaa.Time2 Go.Proofs.Ytoekefbclkmchaa.SpecCal Go.Proofs.Ytoekefbclkmchaa.Zone Go.Proofs.Ytoekefbclkmchaa.Zone2 Go.Proofs.Ytoekefbclkmchaa.Lookup Go.Proofs.Ytoekefbclkmchaa.DayFits
set_option linter.unusedVariables false

theorem ret_b {a b : Bool} (h : a = b) : Ending.returned (.bool a) = .returned (.bool b) := by rw [h]

theorem zzDay_any (dom dow n e : Int) (loc : Option Addr) (off : Int → Int) (w : World) (hd : U64 dom) (hw : U64 dow) (hn : Nn n) (he : Es e) (hc : Clock w loc off) :
    Calls Try.prog 41 #[.int .u64 dom, .int .u64 dow, .agg #[.int .u64 n, .int .i64 e, .pointer loc]] w fun x w' => x = .returned (.bool (dayOK dom dow (day off (sec e)))) ∧ Below w.heap.size w w' := by
  obtain ⟨W, hW⟩ : ∃ W, (w.alloc (.cells #[.int .u64 n, .int .i64 e, .pointer loc] 78)).alloc (.cells #[.int .u64 0, .int .u64 0, .int .u64 0, .int .u64 dom, .int .u64 0, .int .u64 dow, .pointer none] 99) = W := ⟨_, rfl⟩
  have hbW : Below w.heap.size w W := by rw [← hW]; exact ((Below.refl _ _).alloc (Nat.le_refl _) _).alloc (by simp) _
  have hc3 := cells_after (w := w.alloc (.cells #[.int .u64 n, .int .i64 e, .pointer loc] 78)) (w1 := W) (E := 99) (cs := #[.int .u64 0, .int .u64 0, .int .u64 0, .int .u64 dom, .int .u64 0, .int .u64 dow, .pointer none]) (by rw [hW]; exact Below.refl _ _) 3 _ rfl
  have hc5 := cells_after (w := w.alloc (.cells #[.int .u64 n, .int .i64 e, .pointer loc] 78)) (w1 := W) (E := 99) (cs := #[.int .u64 0, .int .u64 0, .int .u64 0, .int .u64 dom, .int .u64 0, .int .u64 dow, .pointer none]) (by rw [hW]; exact Below.refl _ _) 5 _ rfl
  rw [show (w.alloc (.cells #[.int .u64 n, .int .i64 e, .pointer loc] 78)).heap.size = w.heap.size + 1 by simp] at hc3 hc5
  have HD := Lib.hid (dayMatches_any (w.heap.size + 1) dom dow n e loc off W hd hw hc3 hc5 hn he (hc.below hbW))
  have HB := Lib.hid hbW
  have HW := Lib.hid hW
  have t0 := cells_after (w := w) (w1 := W) (E := 78) (cs := #[.int .u64 n, .int .i64 e, .pointer loc]) (by rw [← hW]; exact (Below.refl _ _).alloc (Nat.le_refl _) _) 0 _ rfl
  have t1 := cells_after (w := w) (w1 := W) (E := 78) (cs := #[.int .u64 n, .int .i64 e, .pointer loc]) (by rw [← hW]; exact (Below.refl _ _).alloc (Nat.le_refl _) _) 1 _ rfl
  have t2 := cells_after (w := w) (w1 := W) (E := 78) (cs := #[.int .u64 n, .int .i64 e, .pointer loc]) (by rw [← hW]; exact (Below.refl _ _).alloc (Nat.le_refl _) _) 2 _ rfl
  clear hd hw hn he hc hc3 hc5
  go_enter Try.func41, Try.ntmps41
  go_wp2_with (go_at_call 58; refine HD.out.mono ?_; rintro x w1 ⟨rfl, hb1⟩)
  go_ret
  exact ⟨rfl, HB.out.trans (hb1.mono HB.out.size)⟩

set_option maxHeartbeats 1000000 in
theorem implDay_any (r : Raw) (co cd cw ci : Nat) (dom dow s nano : Int) (w : World) (h : r.At w) (hok : r.Ok) (hd : U64 dom) (hw : U64 dow) (n0 : 0 ≤ nano) (n1 : nano < 1000000000) (h0 : -700000000000 ≤ s) (h1 : s ≤ 700000000000) :
    Calls Try.prog 15 #[.int .u64 dom, .int .u64 dow, .agg #[.int .i64 s, .int .i64 nano], .agg #[.slice r.ao r.no co, .slice r.ad r.nd cd, .slice r.aw r.nw cw, .slice r.ai r.ni ci]] w fun e w' => e = .returned (.bool (dayOK dom dow (day (Raw.off r) s))) ∧ Below w.heap.size w w' := by
  obtain ⟨W, hW⟩ : ∃ W, ((w.alloc (.cells #[.int .i64 s, .int .i64 nano] 24)).alloc (.cells #[.slice r.ao r.no co, .slice r.ad r.nd cd, .slice r.aw r.nw cw, .slice r.ai r.ni ci] 29)) = W := ⟨_, rfl⟩
  have hbW : Below w.heap.size w W := by rw [← hW]; exact ((Below.refl _ _).alloc (Nat.le_refl _) _).alloc (by simp) _
  have hsW : W.heap.size = w.heap.size + 2 := by rw [← hW]; simp
  have hx1 : Below (w.alloc (.cells #[.int .i64 s, .int .i64 nano] 24)).heap.size (w.alloc (.cells #[.int .i64 s, .int .i64 nano] 24)) W := by rw [← hW]; exact (Below.refl _ _).alloc (Nat.le_refl _) _
  have hz1 := box4_after (w := w.alloc (.cells #[.int .i64 s, .int .i64 nano] 24)) (w1 := W) (E := 29) (a := .slice r.ao r.no co) (b := .slice r.ad r.nd cd) (c := .slice r.aw r.nw cw) (d := .slice r.ai r.ni ci) (by rw [hW]; exact Below.refl _ _)
  rw [show (w.alloc (.cells #[.int .i64 s, .int .i64 nano] 24)).heap.size = w.heap.size + 1 by simp] at hz1
  obtain ⟨z0, z1, z2, z3⟩ := hz1
  have t0 := cells_after hx1 0 _ rfl
  have t1 := cells_after hx1 1 _ rfl
  have HL := Lib.hid (fun w1 (hb : Below w.heap.size w w1) => impl_location r co cd cw ci w1 (h.below hb) hok)
  have HB := Lib.hid hbW
  have HA := Lib.hid (⟨t0, t1, z0, z1, z2, z3⟩ : W.cell? ⟨w.heap.size, 0, none⟩ = some (.int .i64 s) ∧ W.cell? ⟨w.heap.size, 1, none⟩ = some (.int .i64 nano) ∧ W.cell? ⟨w.heap.size + 1, 0, none⟩ = some (.slice r.ao r.no co) ∧ W.cell? ⟨w.heap.size + 1, 1, none⟩ = some (.slice r.ad r.nd cd) ∧ W.cell? ⟨w.heap.size + 1, 2, none⟩ = some (.slice r.aw r.nw cw) ∧ W.cell? ⟨w.heap.size + 1, 3, none⟩ = some (.slice r.ai r.ni ci))
  have HF : Hid (dayOK dom dow (day (Raw.off r) (sec (s + 62135596800))) = dayOK dom dow (day (Raw.off r) s)) := Lib.hid (by unfold sec; rw [show s + 62135596800 - 62135596800 = s by omega])
  have hnn : Nn nano := ⟨n0, by omega⟩
  have hes : Es (s + 62135596800) := ⟨by omega, by omega⟩
  have HNE := Lib.hid (And.intro hnn hes)
  have HUU := Lib.hid (And.intro hd hw)
  clear h hok hx1 hbW hd hw hnn hes
  go_enter Try.func15, Try.ntmps15
  go_wp2_with fail
  clear hW
  go_region_held3 (fun w' => w'.cell? ⟨w.heap.size, 0, none⟩ = some (.int .i64 s) ∧ w'.cell? ⟨w.heap.size, 1, none⟩ = some (.int .i64 nano) ∧ w'.cell? ⟨w.heap.size + 1, 0, none⟩ = some (.slice r.ao r.no co) ∧ w'.cell? ⟨w.heap.size + 1, 1, none⟩ = some (.slice r.ad r.nd cd) ∧ w'.cell? ⟨w.heap.size + 1, 2, none⟩ = some (.slice r.aw r.nw cw) ∧ w'.cell? ⟨w.heap.size + 1, 3, none⟩ = some (.slice r.ai r.ni ci)) (go_keep)
    ((first
      | (go_at_call 43; refine (HL.out _ (by repeat (first | exact HB.out | refine Below.drew ?_))).mono ?_; rintro x w1 ⟨b, ⟨rfl, hz⟩, hb0⟩; (have hb1 := undrew hb0); (have q1 : W.heap.size ≤ w1.heap.size := hb1.size); (have a0x := (hb1.cell (p := ⟨w.heap.size, 0, none⟩) (by show w.heap.size < W.heap.size; omega)).trans HA.out.1); (have a1x := (hb1.cell (p := ⟨w.heap.size, 1, none⟩) (by show w.heap.size < W.heap.size; omega)).trans HA.out.2.1); (have b0x := (hb1.cell (p := ⟨w.heap.size + 1, 0, none⟩) (by show w.heap.size + 1 < W.heap.size; omega)).trans HA.out.2.2.1); (have b1x := (hb1.cell (p := ⟨w.heap.size + 1, 1, none⟩) (by show w.heap.size + 1 < W.heap.size; omega)).trans HA.out.2.2.2.1); (have b2x := (hb1.cell (p := ⟨w.heap.size + 1, 2, none⟩) (by show w.heap.size + 1 < W.heap.size; omega)).trans HA.out.2.2.2.2.1); (have b3x := (hb1.cell (p := ⟨w.heap.size + 1, 3, none⟩) (by show w.heap.size + 1 < W.heap.size; omega)).trans HA.out.2.2.2.2.2))
      | (go_at_call 42; refine (moment_any s nano b _ _ (hz.below (by repeat (first | exact Below.refl _ _ | refine Below.drew ?_))) n0 n1 h0 h1).mono ?_; rintro x w2 ⟨loc, ⟨rfl, hcl⟩, hb2⟩; (have q2 : w1.heap.size ≤ w2.heap.size := hb2.size); (have a0y := (hb2.cell (p := ⟨w.heap.size, 0, none⟩) (by show w.heap.size < w1.heap.size; omega)).trans a0x); (have a1y := (hb2.cell (p := ⟨w.heap.size, 1, none⟩) (by show w.heap.size < w1.heap.size; omega)).trans a1x); (have b0y := (hb2.cell (p := ⟨w.heap.size + 1, 0, none⟩) (by show w.heap.size + 1 < w1.heap.size; omega)).trans b0x); (have b1y := (hb2.cell (p := ⟨w.heap.size + 1, 1, none⟩) (by show w.heap.size + 1 < w1.heap.size; omega)).trans b1x); (have b2y := (hb2.cell (p := ⟨w.heap.size + 1, 2, none⟩) (by show w.heap.size + 1 < w1.heap.size; omega)).trans b2x); (have b3y := (hb2.cell (p := ⟨w.heap.size + 1, 3, none⟩) (by show w.heap.size + 1 < w1.heap.size; omega)).trans b3x))
      | (go_at_call 41; refine (zzDay_any dom dow nano (s + 62135596800) loc (Raw.off r) _ HUU.out.1 HUU.out.2 HNE.out.1 HNE.out.2 (hcl.below (by repeat (first | exact Below.refl _ _ | refine Below.drew ?_)))).mono ?_; rintro x w3 ⟨rfl, hb3⟩; (have a0z := (hb3.cell (p := ⟨w.heap.size, 0, none⟩) (by show w.heap.size < w2.heap.size; omega)).trans a0y); (have a1z := (hb3.cell (p := ⟨w.heap.size, 1, none⟩) (by show w.heap.size < w2.heap.size; omega)).trans a1y); (have b0z := (hb3.cell (p := ⟨w.heap.size + 1, 0, none⟩) (by show w.heap.size + 1 < w2.heap.size; omega)).trans b0y); (have b1z := (hb3.cell (p := ⟨w.heap.size + 1, 1, none⟩) (by show w.heap.size + 1 < w2.heap.size; omega)).trans b1y); (have b2z := (hb3.cell (p := ⟨w.heap.size + 1, 2, none⟩) (by show w.heap.size + 1 < w2.heap.size; omega)).trans b2y); (have b3z := (hb3.cell (p := ⟨w.heap.size + 1, 3, none⟩) (by show w.heap.size + 1 < w2.heap.size; omega)).trans b3y))))
  all_goals
    have HB9 := Lib.hid (HB.out.trans ((hb1.mono (show w.heap.size ≤ W.heap.size by omega)).trans ((hb2.mono (by omega)).trans (hb3.mono (by omega)))))
    go_wp2_with fail
    go_ret
    exact ⟨ret_b HF.out, HB9.out⟩


/-! ### The law -/
theorem dayFits_eq (dom dow : Int) (n : Int) (st : Nat → Bool) (f : Nat → Nat → Bool) (d wd : Nat) (hd : dOf n = (d : Int)) (hw : wdOf n = (wd : Int)) (h1 : st 3 = has dom 63) (h2 : st 5 = has dow 63) (h3 : f 3 d = has dom (d : Int)) (h4 : f 5 wd = has dow (wd : Int)) : dayFits st f d wd = dayOK dom dow n := by
  unfold dayFits dayOK
  rw [h1, h2, h3, h4, hd, hw]

end Go.Proofs.Ytoekefbclkmchaa.DayImpl
