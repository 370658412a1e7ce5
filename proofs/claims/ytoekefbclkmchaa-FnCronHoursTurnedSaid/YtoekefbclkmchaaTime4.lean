/- AddDate and Truncate. Conditions: instants within 10^12 seconds of 1970, zones in order. -/
import Derived.Test.YtoekefbclkmchaaTime3
import Derived.Deep.RegionHeld3
namespace Go.Proofs.Ytoekefbclkmchaa.Time4
open Go Go.RowKit Go.Proofs.Ytoekefbclkmchaa.Cal Go.Proofs.Ytoekefbclkmchaa.Off Go.Proofs.Ytoekefbclkmchaa.TimeNum Go.Proofs.Ytoekefbclkmchaa.Lookup Go.Proofs.Ytoekefbclkmchaa.Time Go.Proofs.Ytoekefbclkmchaa.Time2 Go.Proofs.Ytoekefbclkmchaa.Time3
set_option linter.unusedVariables false

def PairOf (loc : Option Addr) (off : Int → Int) (w : World) (x : Ending) (w' : World) : Prop := ∃ b, (x = .returned (.pointer (some ⟨b, 0, none⟩)) ∧ Pair w' loc b off) ∧ Below w.heap.size w w'
theorem location_pair {n e : Int} {loc : Option Addr} {off : Int → Int} {w : World} (hc : Clock w loc off) : Calls Try.prog 132 #[.agg #[.int .u64 n, .int .i64 e, .pointer loc]] w (PairOf loc off w) := by
  rcases hc with ⟨rfl, rfl⟩ | ⟨b, z, rfl, hz, hl, rfl⟩
  · refine location_utc.mono ?_
    rintro x w' ⟨b, ⟨rfl, hu⟩, hb⟩
    exact ⟨b, ⟨rfl, .inl ⟨rfl, hu, rfl⟩⟩, hb⟩
  · refine location_zone.mono ?_
    rintro x w' ⟨rfl, hb⟩
    exact ⟨b, ⟨rfl, .inr ⟨z, rfl, hz, hl.below hb, rfl⟩⟩, hb⟩

theorem year_bd {e : Int} {loc : Option Addr} {off : Int → Int} {w : World} (h0 : -70000000000 ≤ sec e) (h1 : sec e ≤ 300000000000) (hc : Clock w loc off) : -1000 ≤ yOf (day off (sec e)) ∧ yOf (day off (sec e)) ≤ 12000 := by
  have h := hc.bd (sec e)
  have hd : -900000 ≤ day off (sec e) ∧ day off (sec e) ≤ 3600000 := by unfold day lo; omega
  have h2 := year_in (day off (sec e))
  generalize yOf (day off (sec e)) = y at *
  generalize day off (sec e) = d at *
  constructor
  · have := h2.2; unfold ys at this; omega
  · have := h2.1; unfold ys at this; omega

/-- The second of two boxes, behind calls. -/
theorem box2_after {w w1 : World} {E : TypeId} {A : Obj} {x y z : Value} (hb : Below ((w.alloc A).alloc (.cells #[x, y, z] E)).heap.size ((w.alloc A).alloc (.cells #[x, y, z] E)) w1) :
    w1.cell? ⟨w.heap.size + 1, 0, none⟩ = some x ∧ w1.cell? ⟨w.heap.size + 1, 1, none⟩ = some y ∧ w1.cell? ⟨w.heap.size + 1, 2, none⟩ = some z ∧ w1.frozen? ⟨w.heap.size + 1, 0, none⟩ = false ∧ w1.frozen? ⟨w.heap.size + 1, 1, none⟩ = false ∧ w1.frozen? ⟨w.heap.size + 1, 2, none⟩ = false := by
  have h := box_after (w := w.alloc A) hb
  rw [show (w.alloc A).heap.size = w.heap.size + 1 by simp] at h
  exact h

set_option maxRecDepth 100000 in
theorem addDate_any (e dm dd : Int) (loc : Option Addr) (off : Int → Int) (w : World) (hc : Clock w loc off) (h0 : -70000000000 ≤ sec e) (h1 : sec e ≤ 300000000000) (m0 : 0 ≤ dm) (m1 : dm ≤ 1) (d0 : 0 ≤ dd) (d1 : dd ≤ 1) :
    Calls Try.prog 137 #[.agg #[.int .u64 0, .int .i64 e, .pointer loc], .int .i64 0, .int .i64 dm, .int .i64 dd] w fun x w' =>
      x = .returned (.agg #[.int .u64 0, .int .i64 (dateE off (yOf (day off (sec e))) (mOf (day off (sec e)) + dm) (dOf (day off (sec e)) + dd) (tod off (sec e) / 3600) (tod off (sec e) % 3600 / 60) (tod off (sec e) % 60)), .pointer loc]) ∧ Below w.heap.size w w' := by
  have he : Es e := by unfold Es sec at *; omega
  have hn : Nn 0 := ⟨by omega, by omega⟩
  have hb2 := box2 w 78 (.int .u64 0) (.int .i64 e) (.pointer loc) (.int .u64 0) (.int .i64 0) (.pointer none)
  have HB := Lib.hid hb2
  have HC := Lib.hid hc
  have HD := Lib.hid (fun w1 (h : Below w.heap.size w w1) => Time.date_any (n := 0) (w := w1) hn he (hc.below h))
  have HK := Lib.hid (fun w1 (h : Below w.heap.size w w1) => clock_any' (n := 0) (w := w1) hn he (hc.below h))
  have hy := year_bd h0 h1 hc
  have hm := (date_of (day off (sec e))).1
  have hml := mlen_bd (yOf (day off (sec e))) (mOf (day off (sec e)))
  have ht := Off.lo off (sec e)
  have htod : 0 ≤ tod off (sec e) ∧ tod off (sec e) < 86400 := by unfold tod; omega
  have hm1 := hm.1
  have hm2 := hm.2.1
  have hm3 := hm.2.2.1
  have hm4 := hm.2.2.2
  clear hb2 hc hm ht
  go_enter Try.func137, Try.ntmps137
  go_wp2_with fail
  refine (HD.out _ HB.out.2.2).mono ?_
  rintro x w1 ⟨rfl, hw1⟩
  have hx1 := HB.out.1.below hw1 (by simp; omega)
  have HB1 := Lib.hid (HB.out.2.2.trans (hw1.mono HB.out.2.2.size))
  have HX1 := Lib.hid hx1
  obtain ⟨-, c0, c1, c2⟩ := hx1
  go_wp2_with fail
  refine (HK.out _ HB1.out).mono ?_
  rintro x w2 ⟨rfl, hw2⟩
  have hw12 := hw1.trans (hw2.mono hw1.size)
  obtain ⟨hlt2, c0', c1', c2'⟩ := HB.out.1.below hw12 (by simp; omega)
  have HB2 := Lib.hid (HB1.out.trans (hw2.mono HB1.out.size))
  have HW12 := Lib.hid hw12
  clear c0 c1 c2 hw12 hw1 hw2
  go_wp2_with fail
  have v1 : IntKind.i64.wrap (yOf (day off (sec e))) = yOf (day off (sec e)) := IntWalk.i64_in _ (by omega)
  have v2 : IntKind.i64.wrap (mOf (day off (sec e)) + dm) = mOf (day off (sec e)) + dm := IntWalk.i64_in _ (by omega)
  have v3 : IntKind.i64.wrap (dOf (day off (sec e)) + dd) = dOf (day off (sec e)) + dd := IntWalk.i64_in _ (by omega)
  have HO := Lib.hid (show (-5000 ≤ yOf (day off (sec e)) ∧ yOf (day off (sec e)) ≤ 15000) ∧ (1 ≤ mOf (day off (sec e)) + dm ∧ mOf (day off (sec e)) + dm ≤ 13) ∧ (0 ≤ dOf (day off (sec e)) + dd ∧ dOf (day off (sec e)) + dd ≤ 100) ∧ (0 ≤ tod off (sec e) / 3600 ∧ tod off (sec e) / 3600 < 24) ∧ (0 ≤ tod off (sec e) % 3600 / 60 ∧ tod off (sec e) % 3600 / 60 < 60) ∧ (0 ≤ tod off (sec e) % 60 ∧ tod off (sec e) % 60 < 60) by omega)
  go_region_held3 (fun w' => w'.cell? ⟨w.heap.size, 0, none⟩ = some (.int .u64 0) ∧ w'.cell? ⟨w.heap.size, 1, none⟩ = some (.int .i64 e) ∧ w'.cell? ⟨w.heap.size, 2, none⟩ = some (.pointer loc)) (go_keep)
    ((first
      | (go_at_call 92; refine (nsec_at (n := 0) (by assumption) hn).mono ?_; rintro x w' ⟨rfl, rfl⟩)
      | (go_at_call 132; refine (location_pair (HC.out.below (by repeat (first | exact HB2.out | refine Below.drew ?_)))).mono ?_; rintro x w3 ⟨b, ⟨rfl, hp⟩, hb3⟩; (have k0 := (hb3.cell (p := ⟨w.heap.size, 0, none⟩) hlt2).trans c0'); (have k1 := (hb3.cell (p := ⟨w.heap.size, 1, none⟩) hlt2).trans c1'); (have k2 := (hb3.cell (p := ⟨w.heap.size, 2, none⟩) hlt2).trans c2'))
      | (go_at_call 136; refine (Time3.date_any _ _ _ _ _ _ loc b off _ (hp.below (by repeat (first | exact Below.refl _ _ | refine Below.drew ?_))) HO.out.1.1 HO.out.1.2 HO.out.2.1.1 HO.out.2.1.2 HO.out.2.2.1.1 HO.out.2.2.1.2 HO.out.2.2.2.1.1 HO.out.2.2.2.1.2 HO.out.2.2.2.2.1.1 HO.out.2.2.2.2.1.2 HO.out.2.2.2.2.2.1 HO.out.2.2.2.2.2.2).mono ?_; rintro x w4 ⟨rfl, hb4⟩; (have hlt3 : w.heap.size < w3.heap.size := Nat.lt_of_lt_of_le hlt2 hb3.size); (have k3 := (hb4.cell (p := ⟨w.heap.size, 0, none⟩) hlt3).trans k0); (have k4 := (hb4.cell (p := ⟨w.heap.size, 1, none⟩) hlt3).trans k1); (have k5 := (hb4.cell (p := ⟨w.heap.size, 2, none⟩) hlt3).trans k2); (have hne := Nat.ne_of_lt (Nat.lt_succ_self w.heap.size)); (have q3 := hb3.size); (have q4 := hb4.size); obtain ⟨d0, d1, d2, f0, f1, f2⟩ := box2_after (HW12.out.trans (((Below.refl _ w2).drew.trans (hb3.mono HW12.out.size)).trans (hb4.mono (Nat.le_trans HW12.out.size q3)))))))
  all_goals
    go_wp2_with fail
    refine bodyPost_ret (v := .agg #[.int .u64 0, .int .i64 (dateE off (yOf (day off (sec e))) (mOf (day off (sec e)) + dm) (dOf (day off (sec e)) + dd) (tod off (sec e) / 3600) (tod off (sec e) % 3600 / 60) (tod off (sec e) % 60)), .pointer loc]) (by simp [results, Try.results137, go_sem, *]) rfl ⟨rfl, ?_⟩
    exact below_set3 (HB2.out.trans (((Below.refl _ w2).drew.trans (hb3.mono HB2.out.size)).trans (hb4.mono (Nat.le_trans HB2.out.size q3)))) (Nat.le_succ _)

/-- div by minutes or seconds. -/
def DivRes (r : Int) (w : World) (x : Ending) (w' : World) : Prop := ∃ q : Int, x = .returned (.tuple #[.int .i64 q, .int .i64 r]) ∧ Below w.heap.size w w'

set_option maxRecDepth 100000 in
theorem div_any (e k d : Int) (loc : Option Addr) (w : World) (e0 : 0 ≤ e) (e1 : e ≤ 900000000000) (hk : (d = 1000000000 ∧ k = 1) ∨ (d = 60000000000 ∧ k = 60)) :
    Calls Try.prog 150 #[.agg #[.int .u64 0, .int .i64 e, .pointer loc], .int .i64 d] w (DivRes (e % k * 1000000000) w) := by
  have hn : Nn 0 := ⟨by omega, by omega⟩
  have HN := Lib.hid (nsec_at (b := w.heap.size) (box_new w 78 (.int .u64 0) (.int .i64 e) (.pointer loc)).2.1 hn)
  have HS := Lib.hid (sec_at (b := w.heap.size) (box_new w 78 (.int .u64 0) (.int .i64 e) (.pointer loc)).2.1 (box_new w 78 (.int .u64 0) (.int .i64 e) (.pointer loc)).2.2.1 hn)
  have hbw : Below w.heap.size w (w.alloc (.cells #[.int .u64 0, .int .i64 e, .pointer loc] 78)) := (Below.refl _ _).alloc (Nat.le_refl _) _
  rcases hk with ⟨rfl, rfl⟩ | ⟨rfl, rfl⟩
  · go_enter Try.func150, Try.ntmps150
    go_wp2_with (first
      | (go_at_call 92; refine HN.out.mono ?_; rintro x w' ⟨rfl, rfl⟩)
      | (go_at_call 106; refine HS.out.mono ?_; rintro x w' ⟨rfl, rfl⟩))
    go_ret2
    exact ⟨_, ret_2 rfl (by omega), hbw⟩
  · go_enter Try.func150, Try.ntmps150
    go_wp2_with (first
      | (go_at_call 92; refine HN.out.mono ?_; rintro x w' ⟨rfl, rfl⟩)
      | (go_at_call 106; refine HS.out.mono ?_; rintro x w' ⟨rfl, rfl⟩))
    go_ret2
    exact ⟨_, ret_2 rfl (by omega), hbw⟩

theorem neg_quo (x : Int) : (-(x * 1000000000)).tdiv 1000000000 = -x ∧ (-(x * 1000000000)).tmod 1000000000 = 0 := by
  rw [show -(x * 1000000000) = (-x) * 1000000000 by omega]
  exact ⟨Int.mul_tdiv_cancel _ (by decide), Int.mul_tmod_left _ _⟩

/-- Truncate to seconds or minutes. -/
theorem truncate_any (e k d : Int) (loc : Option Addr) (w : World) (e0 : 0 ≤ e) (e1 : e ≤ 900000000000) (hk : (d = 1000000000 ∧ k = 1) ∨ (d = 60000000000 ∧ k = 60)) :
    Calls Try.prog 140 #[.agg #[.int .u64 0, .int .i64 e, .pointer loc], .int .i64 d] w fun x w' => x = .returned (.agg #[.int .u64 0, .int .i64 (e - e % k), .pointer loc]) ∧ Below w.heap.size w w' := by
  have hn : Nn 0 := ⟨by omega, by omega⟩
  have hb2 := box2 w 78 (.int .u64 0) (.int .i64 e) (.pointer loc) (.int .u64 0) (.int .i64 0) (.pointer none)
  have HB := Lib.hid hb2
  have HS := Lib.hid (strip_at hb2.1.2.1 hn)
  have HD := Lib.hid (fun w1 => div_any e k d loc w1 e0 e1 hk)
  have hkb : 0 ≤ e % k ∧ e % k ≤ 60 := by rcases hk with ⟨-, rfl⟩ | ⟨-, rfl⟩ <;> omega
  have hd0 : 0 < d := by rcases hk with ⟨rfl, -⟩ | ⟨rfl, -⟩ <;> omega
  have hq := neg_quo (e % k)
  have HA := Lib.hid (fun w1 => add_A 0 e (-(e % k * 1000000000)) (-(e % k)) 0 loc w1 (by omega) (by omega) ⟨by omega, by omega⟩ hq.1 hq.2 (by omega) (by omega) (by omega) (by omega) (by omega) (by omega))
  clear hb2 hq hk
  go_enter Try.func140, Try.ntmps140
  go_wp2_with (first
    | (go_at_call 90; refine HS.out.mono ?_; rintro x w' ⟨rfl, rfl⟩))
  refine (HD.out _).mono ?_
  rintro x w1 ⟨q, rfl, hb1⟩
  obtain ⟨-, c0, c1, c2⟩ := HB.out.1.below hb1 (by simp; omega)
  have HW := Lib.hid (HB.out.2.2.trans (hb1.mono HB.out.2.2.size))
  have HV := Lib.hid hb1
  clear hb1
  go_wp2_with fail
  refine (HA.out _).mono ?_
  rintro x w2 ⟨rfl, hb2⟩
  have hb3 := HV.out.trans (hb2.mono HV.out.size)
  have hb4 := HW.out.trans (hb2.mono HW.out.size)
  obtain ⟨d0, d1, d2, f0, f1, f2⟩ := box2_after hb3
  have HV2 := Lib.hid hb4
  clear hb2 hb3 hb4 c0 c1 c2
  go_wp2_with fail
  refine bodyPost_ret (v := .agg #[.int .u64 0, .int .i64 (e - e % k), .pointer loc]) (by simp [results, Try.results140, go_sem, *]; omega) rfl ⟨rfl, ?_⟩
  exact below_set3 HV2.out (Nat.le_succ _)

end Go.Proofs.Ytoekefbclkmchaa.Time4
