/- Date, AddDate and Truncate. Conditions: years from -20000 to 50000, zones in order. · AddDate and Truncate. Conditions: instants within 10^12 seconds of 1970, zones in order. · The thin package's places and moments. Conditions: UTC or a zone in order; instants within 8*10^11 seconds of 1970. · cron's dayMatches. Conditions: instants within 8*10^11 seconds of 1970. -/
import Derived.Test.YtmnjmhlodbifjaaGreatDoorR26
import Derived.Deep.RegionHeld3
import Derived.Test.YtmnjmhlodbifjaaGreatDoorR27
import Derived.Test.YtmnjmhlodbifjaaGreatDoorR5

namespace Go.Proofs.YtmnjmhlodbifjaaGreatDoor.Time3
open Go Go.RowKit Go.Proofs.YtmnjmhlodbifjaaGreatDoor.Cal Go.Proofs.YtmnjmhlodbifjaaGreatDoor.Off Go.Proofs.YtmnjmhlodbifjaaGreatDoor.TimeNum Go.Proofs.YtmnjmhlodbifjaaGreatDoor.Lookup Go.Proofs.YtmnjmhlodbifjaaGreatDoor.Time Go.Proofs.YtmnjmhlodbifjaaGreatDoor.Time2
set_option linter.unusedVariables false
def dn2 (y m d : Int) : Int := if m ≤ 12 then dnum y m d else dnum (y + 1) 1 d
theorem norm_month (y m : Int) (w : World) (h0 : -20000 ≤ y) (h1 : y ≤ 40000) (h2 : 0 ≤ m) (h3 : m ≤ 12) :
    Calls Tryz.prog 209 #[.int .i64 y, .int .i64 m, .int .i64 12] w fun e w' => e = .returned (.tuple #[.int .i64 (if m < 12 then y else y + 1), .int .i64 (if m < 12 then m else 0)]) ∧ w = w' := by
  by_cases h : m < 12
  · rw [if_pos h, if_pos h]; exact norm_in y m 12 w h2 h (by omega)
  · rw [if_neg h, if_neg h]
    obtain rfl : m = 12 := by omega
    exact norm_up y 12 12 w (by omega) (by omega) (by omega) (by omega) (by omega) (by omega)
def dateE (off : Int → Int) (y m d h mi s : Int) : Int := Off.resolve off (86400 * dn2 y m d + 3600 * h + 60 * mi + s) + 62135596800
set_option maxRecDepth 100000 in
theorem date_any (y m d h mi s : Int) (loc : Option Addr) (b : Nat) (off : Int → Int) (w : World) (hp : Pair w loc b off)
    (y0 : -5000 ≤ y) (y1 : y ≤ 15000) (m0 : 1 ≤ m) (m1 : m ≤ 13) (d0 : 0 ≤ d) (d1 : d ≤ 100) (h0 : 0 ≤ h) (h1 : h < 24) (i0 : 0 ≤ mi) (i1 : mi < 60) (s0 : 0 ≤ s) (s1 : s < 60) :
    Calls Tryz.prog 194 #[.int .i64 y, .int .i64 m, .int .i64 d, .int .i64 h, .int .i64 mi, .int .i64 s, .int .i64 0, .pointer (some ⟨b, 0, none⟩)] w fun x w' => x = .returned (.agg #[.int .u64 0, .int .i64 (dateE off y m d h mi s), .pointer loc]) ∧ Below w.heap.size w w' := by
  -- the year and the month that norm gives
  obtain ⟨Y, hY⟩ : ∃ Y, (if m - 1 < 12 then y else y + 1) = Y := ⟨_, rfl⟩
  obtain ⟨M, hM⟩ : ∃ M, (if m - 1 < 12 then m - 1 else 0) = M := ⟨_, rfl⟩
  have HN := Lib.hid (fun w1 => norm_month y (m - 1) w1 (by omega) (by omega) (by omega) (by omega))
  rw [hY, hM] at HN
  have hYb : -6000 ≤ Y ∧ Y ≤ 15001 := by rw [← hY]; split <;> omega
  have hMb : 0 ≤ M ∧ M ≤ 11 := by rw [← hM]; split <;> omega
  have hdn : dn2 y m d = dnum Y (M + 1) d := by
    unfold dn2
    rw [← hY, ← hM]
    by_cases c : m ≤ 12
    · rw [if_pos c, if_pos (by omega), if_pos (by omega), show m - 1 + 1 = m by omega]
    · rw [if_neg c, if_neg (by omega), if_neg (by omega)]; rfl
  have hyear : -3000000 ≤ ys Y ∧ ys Y ≤ 6000000 := by unfold ys; omega
  have hcum : 0 ≤ cum Y (M + 1) ∧ cum Y (M + 1) ≤ 366 := by
    have := lp_01 Y
    unfold cum; split <;> omega
  obtain ⟨N, hN⟩ : ∃ N, dnum Y (M + 1) d = N := ⟨_, rfl⟩
  have hNb : -4000000 ≤ N ∧ N ≤ 7000000 := by rw [← hN]; unfold dnum; omega
  have hg : gday Y (M + 1) d = N + 106751991073400 := by rw [gday_eq _ _ _ (by omega) (by omega), hN]
  have HG := Lib.hid hg
  have HD := Lib.hid hdn
  rw [hN] at HD
  have hE : dateE off y m d h mi s = Off.resolve off (86400 * N + 3600 * h + 60 * mi + s) + 62135596800 := by unfold dateE; rw [HD.out]
  obtain ⟨u, hu⟩ : ∃ u, 86400 * N + 3600 * h + 60 * mi + s = u := ⟨_, rfl⟩
  rw [hu] at hE
  have hub : -500000000000 ≤ u ∧ u ≤ 700000000000 := by omega
  have HU := Lib.hid (show wrap64 (wrap64 (wrap64 ((N + 106751991073400) * 86400) + (h * 3600 + mi * 60 + s)) + -9223372028741760000) = u by unfold wrap64; omega)
  have HE := Lib.hid hE
  have HP := Lib.hid hp
  have hb1 := hp.clock.bd u
  have hb2 := hp.clock.bd (u - off u)
  clear hu
  clear hE hg hdn hN hY hM hp hyear hcum
  go_enter Tryz.func194, Tryz.ntmps194
  go_wp2_with (first
    | (go_at_call 209; (with_reducible refine (HN.out _).mono ?_); rintro x w' ⟨rfl, rfl⟩)
    | (go_at_call 209; refine (norm_in _ _ _ _ (by omega) (by omega) (by omega)).mono ?_; rintro x w' ⟨rfl, rfl⟩)
    | (go_at_call 210; refine (toDays_any Y (M + 1) d _ (by omega) (by omega) (by omega) (by omega) (by omega) (by omega)).mono ?_; rintro x w' ⟨rfl, rfl⟩; rw [HG.out]))
  rw [HU.out]
  have hbw : Below w.heap.size w (w.alloc (.cells #[.int .u64 0, .int .i64 0, .pointer none] 86)) := (Below.refl _ _).alloc (Nat.le_refl _) _
  refine (lookup_at b off u _ ((HP.out.below hbw).zone) (by omega) (by omega)).mono ?_
  rintro x w1 ⟨s1, st, en, dd, rfl, hconst, hrng, hw1⟩
  have HC := Lib.hid hconst
  clear hconst
  have hn0 : Nn 0 := ⟨by omega, by omega⟩
  by_cases hz : off u = 0
  · have hz1 : (off u == 0) = true := by rw [hz]; rfl
    have hfin : dateE off y m d h mi s = u + 62135596800 := by rw [HE.out]; unfold Off.resolve; rw [hz, show u - 0 = u by omega, hz]; omega
    have HF := Lib.hid hfin
    clear hfin
    go_wp2_with fail
    refine (unixTime_any u 0 _ (by omega) (by omega) (by omega) (by omega)).mono ?_
    rintro x wa ⟨rfl, hwa⟩
    have hW := hw1.trans (hwa.mono hw1.size)
    have hsz : w.heap.size < wa.heap.size := Nat.lt_of_lt_of_le (by simp) hW.size
    obtain ⟨c0, c1, c2, f0, f1, f2⟩ := box_after hW
    have HPa := Lib.hid ((HP.out.below hbw).below hW)
    go_wp2_with fail
    refine (setLoc_any wa.heap.size b 0 loc off _ (box_new _ _ _ _ _).2.1 ⟨_, (box_new _ _ _ _ _).2.2.2⟩ (free_new _ _ _ _) hn0 (HPa.out.below ((Below.refl _ _).alloc (Nat.le_refl _) _))).mono ?_
    rintro x wb ⟨rfl, rfl⟩
    go_wp2_with fail
    refine bodyPost_ret (v := .agg #[.int .u64 0, .int .i64 (u + 62135596800), .pointer loc]) (by simp [results, Tryz.results194, go_sem, *]) rfl ⟨by rw [HF.out], ?_⟩
    exact (below_set3 (hbw.trans (hW.mono (by simp))) (Nat.le_refl _)).alloc (by simp [World.setCell]; omega) _
  · have hz1 : (off u == 0) = false := beq_eq_false_iff_ne.2 hz
    by_cases hin : st ≤ u - off u ∧ u - off u < en
    · obtain ⟨i1, i2⟩ := hin
      have hfin : dateE off y m d h mi s = (u - off u) + 62135596800 := by rw [HE.out]; unfold Off.resolve; rw [HC.out _ i1 i2]
      have HF := Lib.hid hfin
      clear hfin
      go_wp2_with fail
      refine (unixTime_any (u - off u) 0 _ (by omega) (by omega) (by omega) (by omega)).mono ?_
      rintro x wa ⟨rfl, hwa⟩
      have hW := hw1.trans (hwa.mono hw1.size)
      have hsz : w.heap.size < wa.heap.size := Nat.lt_of_lt_of_le (by simp) hW.size
      obtain ⟨c0, c1, c2, f0, f1, f2⟩ := box_after hW
      have HPa := Lib.hid ((HP.out.below hbw).below hW)
      go_wp2_with fail
      refine (setLoc_any wa.heap.size b 0 loc off _ (box_new _ _ _ _ _).2.1 ⟨_, (box_new _ _ _ _ _).2.2.2⟩ (free_new _ _ _ _) hn0 (HPa.out.below ((Below.refl _ _).alloc (Nat.le_refl _) _))).mono ?_
      rintro x wb ⟨rfl, rfl⟩
      go_wp2_with fail
      refine bodyPost_ret (v := .agg #[.int .u64 0, .int .i64 ((u - off u) + 62135596800), .pointer loc]) (by simp [results, Tryz.results194, go_sem, *]) rfl ⟨by rw [HF.out], ?_⟩
      exact (below_set3 (hbw.trans (hW.mono (by simp))) (Nat.le_refl _)).alloc (by simp [World.setCell]; omega) _
    · have hfin : dateE off y m d h mi s = (u - off (u - off u)) + 62135596800 := by rw [HE.out]; rfl
      have HF := Lib.hid hfin
      clear hfin
      have hd : (decide (u - off u < st) || decide (en ≤ u - off u)) = true := by simp; omega
      go_wp2_with fail
      all_goals
        refine (lookup_at b off (u - off u) _ (((HP.out.below hbw).below hw1).zone) (by omega) (by omega)).mono ?_
        rintro x w2 ⟨s2, st2, en2, dd2, rfl, -, -, hw2⟩
        have hW2 := hw1.trans (hw2.mono hw1.size)
        go_wp2_with fail
        refine (unixTime_any (u - off (u - off u)) 0 _ (by omega) (by omega) (by omega) (by omega)).mono ?_
        rintro x wa ⟨rfl, hwa⟩
        have hW := hW2.trans (hwa.mono hW2.size)
        have hsz : w.heap.size < wa.heap.size := Nat.lt_of_lt_of_le (by simp) hW.size
        obtain ⟨c0, c1, c2, f0, f1, f2⟩ := box_after hW
        have HPa := Lib.hid ((HP.out.below hbw).below hW)
        go_wp2_with fail
        refine (setLoc_any wa.heap.size b 0 loc off _ (box_new _ _ _ _ _).2.1 ⟨_, (box_new _ _ _ _ _).2.2.2⟩ (free_new _ _ _ _) hn0 (HPa.out.below ((Below.refl _ _).alloc (Nat.le_refl _) _))).mono ?_
        rintro x wb ⟨rfl, rfl⟩
        go_wp2_with fail
        refine bodyPost_ret (v := .agg #[.int .u64 0, .int .i64 ((u - off (u - off u)) + 62135596800), .pointer loc]) (by simp [results, Tryz.results194, go_sem, *]) rfl ⟨by rw [HF.out], ?_⟩
        exact (below_set3 (hbw.trans (hW.mono (by simp))) (Nat.le_refl _)).alloc (by simp [World.setCell]; omega) _
end Go.Proofs.YtmnjmhlodbifjaaGreatDoor.Time3
namespace Go.Proofs.YtmnjmhlodbifjaaGreatDoor.Time4
open Go Go.RowKit Go.Proofs.YtmnjmhlodbifjaaGreatDoor.Cal Go.Proofs.YtmnjmhlodbifjaaGreatDoor.Off Go.Proofs.YtmnjmhlodbifjaaGreatDoor.TimeNum Go.Proofs.YtmnjmhlodbifjaaGreatDoor.Lookup Go.Proofs.YtmnjmhlodbifjaaGreatDoor.Time Go.Proofs.YtmnjmhlodbifjaaGreatDoor.Time2 Go.Proofs.YtmnjmhlodbifjaaGreatDoor.Time3
set_option linter.unusedVariables false
def PairOf (loc : Option Addr) (off : Int → Int) (w : World) (x : Ending) (w' : World) : Prop := ∃ b, (x = .returned (.pointer (some ⟨b, 0, none⟩)) ∧ Pair w' loc b off) ∧ Below w.heap.size w w'
theorem location_pair {n e : Int} {loc : Option Addr} {off : Int → Int} {w : World} (hc : Clock w loc off) : Calls Tryz.prog 190 #[.agg #[.int .u64 n, .int .i64 e, .pointer loc]] w (PairOf loc off w) := by
  rcases hc with ⟨rfl, rfl⟩ | ⟨b, z, rfl, hz, hl, rfl⟩
  · refine location_utc.mono ?_
    rintro x w' ⟨b, ⟨rfl, hu⟩, hb⟩
    exact ⟨b, ⟨rfl, .inl ⟨rfl, hu, rfl⟩⟩, hb⟩
  · refine location_zone.mono ?_
    rintro x w' ⟨rfl, hb⟩
    exact ⟨b, ⟨rfl, .inr ⟨z, rfl, hz, hl.below hb, rfl⟩⟩, hb⟩
theorem year_bd {e : Int} {loc : Option Addr} {off : Int → Int} {w : World} (h0 : -70000000000 ≤ sec e) (h1 : sec e ≤ 300000000000) (hc : Clock w loc off) : -1000 ≤ yOf (day off (sec e)) ∧ yOf (day off (sec e)) ≤ 12000 := by
  have h := hc.bd (sec e)
  have hd : -900000 ≤ day off (sec e) ∧ day off (sec e) ≤ 3600000 := by unfold day lo; omega
  have h2 := year_in (day off (sec e))
  generalize yOf (day off (sec e)) = y at *
  generalize day off (sec e) = d at *
  constructor
  · have := h2.2; unfold ys at this; omega
  · have := h2.1; unfold ys at this; omega
theorem box2_after {w w1 : World} {E : TypeId} {A : Obj} {x y z : Value} (hb : Below ((w.alloc A).alloc (.cells #[x, y, z] E)).heap.size ((w.alloc A).alloc (.cells #[x, y, z] E)) w1) :
    w1.cell? ⟨w.heap.size + 1, 0, none⟩ = some x ∧ w1.cell? ⟨w.heap.size + 1, 1, none⟩ = some y ∧ w1.cell? ⟨w.heap.size + 1, 2, none⟩ = some z ∧ w1.frozen? ⟨w.heap.size + 1, 0, none⟩ = false ∧ w1.frozen? ⟨w.heap.size + 1, 1, none⟩ = false ∧ w1.frozen? ⟨w.heap.size + 1, 2, none⟩ = false := by
  have h := box_after (w := w.alloc A) hb
  rw [show (w.alloc A).heap.size = w.heap.size + 1 by simp] at h
  exact h
set_option maxRecDepth 100000 in
theorem addDate_any (e dm dd : Int) (loc : Option Addr) (off : Int → Int) (w : World) (hc : Clock w loc off) (h0 : -70000000000 ≤ sec e) (h1 : sec e ≤ 300000000000) (m0 : 0 ≤ dm) (m1 : dm ≤ 1) (d0 : 0 ≤ dd) (d1 : dd ≤ 1) :
    Calls Tryz.prog 195 #[.agg #[.int .u64 0, .int .i64 e, .pointer loc], .int .i64 0, .int .i64 dm, .int .i64 dd] w fun x w' =>
      x = .returned (.agg #[.int .u64 0, .int .i64 (dateE off (yOf (day off (sec e))) (mOf (day off (sec e)) + dm) (dOf (day off (sec e)) + dd) (tod off (sec e) / 3600) (tod off (sec e) % 3600 / 60) (tod off (sec e) % 60)), .pointer loc]) ∧ Below w.heap.size w w' := by
  have he : Es e := by unfold Es sec at *; omega
  have hn : Nn 0 := ⟨by omega, by omega⟩
  have hb2 := box2 w 86 (.int .u64 0) (.int .i64 e) (.pointer loc) (.int .u64 0) (.int .i64 0) (.pointer none)
  have HB := Lib.hid hb2
  have HC := Lib.hid hc
  have HD := Lib.hid (fun w1 (h : Below w.heap.size w w1) => Time.date_any (n := 0) (w := w1) hn he (hc.below h))
  have HK := Lib.hid (fun w1 (h : Below w.heap.size w w1) => clock_any' (n := 0) (w := w1) hn he (hc.below h))
  have hy := year_bd h0 h1 hc
  have hm := (date_of (day off (sec e))).1
  have hml := mlen_bd (yOf (day off (sec e))) (mOf (day off (sec e)))
  have ht := Off.lo off (sec e)
  have htod : 0 ≤ tod off (sec e) ∧ tod off (sec e) < 86400 := by unfold tod; omega
  have hm1 := hm.1
  have hm2 := hm.2.1
  have hm3 := hm.2.2.1
  have hm4 := hm.2.2.2
  clear hb2 hc hm ht
  go_enter Tryz.func195, Tryz.ntmps195
  go_wp2_with fail
  refine (HD.out _ HB.out.2.2).mono ?_
  rintro x w1 ⟨rfl, hw1⟩
  have hx1 := HB.out.1.below hw1 (by simp; omega)
  have HB1 := Lib.hid (HB.out.2.2.trans (hw1.mono HB.out.2.2.size))
  have HX1 := Lib.hid hx1
  obtain ⟨-, c0, c1, c2⟩ := hx1
  go_wp2_with fail
  refine (HK.out _ HB1.out).mono ?_
  rintro x w2 ⟨rfl, hw2⟩
  have hw12 := hw1.trans (hw2.mono hw1.size)
  obtain ⟨hlt2, c0', c1', c2'⟩ := HB.out.1.below hw12 (by simp; omega)
  have HB2 := Lib.hid (HB1.out.trans (hw2.mono HB1.out.size))
  have HW12 := Lib.hid hw12
  clear c0 c1 c2 hw12 hw1 hw2
  go_wp2_with fail
  have v1 : IntKind.i64.wrap (yOf (day off (sec e))) = yOf (day off (sec e)) := IntWalk.i64_in _ (by omega)
  have v2 : IntKind.i64.wrap (mOf (day off (sec e)) + dm) = mOf (day off (sec e)) + dm := IntWalk.i64_in _ (by omega)
  have v3 : IntKind.i64.wrap (dOf (day off (sec e)) + dd) = dOf (day off (sec e)) + dd := IntWalk.i64_in _ (by omega)
  have HO := Lib.hid (show (-5000 ≤ yOf (day off (sec e)) ∧ yOf (day off (sec e)) ≤ 15000) ∧ (1 ≤ mOf (day off (sec e)) + dm ∧ mOf (day off (sec e)) + dm ≤ 13) ∧ (0 ≤ dOf (day off (sec e)) + dd ∧ dOf (day off (sec e)) + dd ≤ 100) ∧ (0 ≤ tod off (sec e) / 3600 ∧ tod off (sec e) / 3600 < 24) ∧ (0 ≤ tod off (sec e) % 3600 / 60 ∧ tod off (sec e) % 3600 / 60 < 60) ∧ (0 ≤ tod off (sec e) % 60 ∧ tod off (sec e) % 60 < 60) by omega)
  go_region_held3 (fun w' => w'.cell? ⟨w.heap.size, 0, none⟩ = some (.int .u64 0) ∧ w'.cell? ⟨w.heap.size, 1, none⟩ = some (.int .i64 e) ∧ w'.cell? ⟨w.heap.size, 2, none⟩ = some (.pointer loc)) (go_keep)
    ((first
      | (go_at_call 137; refine (nsec_at (n := 0) (by assumption) hn).mono ?_; rintro x w' ⟨rfl, rfl⟩)
      | (go_at_call 190; refine (location_pair (HC.out.below (by repeat (first | exact HB2.out | refine Below.drew ?_)))).mono ?_; rintro x w3 ⟨b, ⟨rfl, hp⟩, hb3⟩; (have k0 := (hb3.cell (p := ⟨w.heap.size, 0, none⟩) hlt2).trans c0'); (have k1 := (hb3.cell (p := ⟨w.heap.size, 1, none⟩) hlt2).trans c1'); (have k2 := (hb3.cell (p := ⟨w.heap.size, 2, none⟩) hlt2).trans c2'))
      | (go_at_call 194; refine (Time3.date_any _ _ _ _ _ _ loc b off _ (hp.below (by repeat (first | exact Below.refl _ _ | refine Below.drew ?_))) HO.out.1.1 HO.out.1.2 HO.out.2.1.1 HO.out.2.1.2 HO.out.2.2.1.1 HO.out.2.2.1.2 HO.out.2.2.2.1.1 HO.out.2.2.2.1.2 HO.out.2.2.2.2.1.1 HO.out.2.2.2.2.1.2 HO.out.2.2.2.2.2.1 HO.out.2.2.2.2.2.2).mono ?_; rintro x w4 ⟨rfl, hb4⟩; (have hlt3 : w.heap.size < w3.heap.size := Nat.lt_of_lt_of_le hlt2 hb3.size); (have k3 := (hb4.cell (p := ⟨w.heap.size, 0, none⟩) hlt3).trans k0); (have k4 := (hb4.cell (p := ⟨w.heap.size, 1, none⟩) hlt3).trans k1); (have k5 := (hb4.cell (p := ⟨w.heap.size, 2, none⟩) hlt3).trans k2); (have hne := Nat.ne_of_lt (Nat.lt_succ_self w.heap.size)); (have q3 := hb3.size); (have q4 := hb4.size); obtain ⟨d0, d1, d2, f0, f1, f2⟩ := box2_after (HW12.out.trans (((Below.refl _ w2).drew.trans (hb3.mono HW12.out.size)).trans (hb4.mono (Nat.le_trans HW12.out.size q3)))))))
  all_goals
    go_wp2_with fail
    refine bodyPost_ret (v := .agg #[.int .u64 0, .int .i64 (dateE off (yOf (day off (sec e))) (mOf (day off (sec e)) + dm) (dOf (day off (sec e)) + dd) (tod off (sec e) / 3600) (tod off (sec e) % 3600 / 60) (tod off (sec e) % 60)), .pointer loc]) (by simp [results, Tryz.results195, go_sem, *]) rfl ⟨rfl, ?_⟩
    exact below_set3 (HB2.out.trans (((Below.refl _ w2).drew.trans (hb3.mono HB2.out.size)).trans (hb4.mono (Nat.le_trans HB2.out.size q3)))) (Nat.le_succ _)
def DivRes (r : Int) (w : World) (x : Ending) (w' : World) : Prop := ∃ q : Int, x = .returned (.tuple #[.int .i64 q, .int .i64 r]) ∧ Below w.heap.size w w'
set_option maxRecDepth 100000 in
theorem div_any (e k d : Int) (loc : Option Addr) (w : World) (e0 : 0 ≤ e) (e1 : e ≤ 900000000000) (hk : (d = 1000000000 ∧ k = 1) ∨ (d = 60000000000 ∧ k = 60)) :
    Calls Tryz.prog 215 #[.agg #[.int .u64 0, .int .i64 e, .pointer loc], .int .i64 d] w (DivRes (e % k * 1000000000) w) := by
  have hn : Nn 0 := ⟨by omega, by omega⟩
  have HN := Lib.hid (nsec_at (b := w.heap.size) (box_new w 86 (.int .u64 0) (.int .i64 e) (.pointer loc)).2.1 hn)
  have HS := Lib.hid (sec_at (b := w.heap.size) (box_new w 86 (.int .u64 0) (.int .i64 e) (.pointer loc)).2.1 (box_new w 86 (.int .u64 0) (.int .i64 e) (.pointer loc)).2.2.1 hn)
  have hbw : Below w.heap.size w (w.alloc (.cells #[.int .u64 0, .int .i64 e, .pointer loc] 86)) := (Below.refl _ _).alloc (Nat.le_refl _) _
  rcases hk with ⟨rfl, rfl⟩ | ⟨rfl, rfl⟩
  · go_enter Tryz.func215, Tryz.ntmps215
    go_wp2_with (first
      | (go_at_call 137; refine HN.out.mono ?_; rintro x w' ⟨rfl, rfl⟩)
      | (go_at_call 150; refine HS.out.mono ?_; rintro x w' ⟨rfl, rfl⟩))
    go_ret2
    exact ⟨_, ret_2 rfl (by omega), hbw⟩
  · go_enter Tryz.func215, Tryz.ntmps215
    go_wp2_with (first
      | (go_at_call 137; refine HN.out.mono ?_; rintro x w' ⟨rfl, rfl⟩)
      | (go_at_call 150; refine HS.out.mono ?_; rintro x w' ⟨rfl, rfl⟩))
    go_ret2
    exact ⟨_, ret_2 rfl (by omega), hbw⟩
theorem neg_quo (x : Int) : (-(x * 1000000000)).tdiv 1000000000 = -x ∧ (-(x * 1000000000)).tmod 1000000000 = 0 := by
  rw [show -(x * 1000000000) = (-x) * 1000000000 by omega]
  exact ⟨Int.mul_tdiv_cancel _ (by decide), Int.mul_tmod_left _ _⟩
theorem truncate_any (e k d : Int) (loc : Option Addr) (w : World) (e0 : 0 ≤ e) (e1 : e ≤ 900000000000) (hk : (d = 1000000000 ∧ k = 1) ∨ (d = 60000000000 ∧ k = 60)) :
    Calls Tryz.prog 199 #[.agg #[.int .u64 0, .int .i64 e, .pointer loc], .int .i64 d] w fun x w' => x = .returned (.agg #[.int .u64 0, .int .i64 (e - e % k), .pointer loc]) ∧ Below w.heap.size w w' := by
  have hn : Nn 0 := ⟨by omega, by omega⟩
  have hb2 := box2 w 86 (.int .u64 0) (.int .i64 e) (.pointer loc) (.int .u64 0) (.int .i64 0) (.pointer none)
  have HB := Lib.hid hb2
  have HS := Lib.hid (strip_at hb2.1.2.1 hn)
  have HD := Lib.hid (fun w1 => div_any e k d loc w1 e0 e1 hk)
  have hkb : 0 ≤ e % k ∧ e % k ≤ 60 := by rcases hk with ⟨-, rfl⟩ | ⟨-, rfl⟩ <;> omega
  have hd0 : 0 < d := by rcases hk with ⟨rfl, -⟩ | ⟨rfl, -⟩ <;> omega
  have hq := neg_quo (e % k)
  have HA := Lib.hid (fun w1 => add_A 0 e (-(e % k * 1000000000)) (-(e % k)) 0 loc w1 (by omega) (by omega) ⟨by omega, by omega⟩ hq.1 hq.2 (by omega) (by omega) (by omega) (by omega) (by omega) (by omega))
  clear hb2 hq hk
  go_enter Tryz.func199, Tryz.ntmps199
  go_wp2_with (first
    | (go_at_call 138; refine HS.out.mono ?_; rintro x w' ⟨rfl, rfl⟩))
  refine (HD.out _).mono ?_
  rintro x w1 ⟨q, rfl, hb1⟩
  obtain ⟨-, c0, c1, c2⟩ := HB.out.1.below hb1 (by simp; omega)
  have HW := Lib.hid (HB.out.2.2.trans (hb1.mono HB.out.2.2.size))
  have HV := Lib.hid hb1
  clear hb1
  go_wp2_with fail
  refine (HA.out _).mono ?_
  rintro x w2 ⟨rfl, hb2⟩
  have hb3 := HV.out.trans (hb2.mono HV.out.size)
  have hb4 := HW.out.trans (hb2.mono HW.out.size)
  obtain ⟨d0, d1, d2, f0, f1, f2⟩ := box2_after hb3
  have HV2 := Lib.hid hb4
  clear hb2 hb3 hb4 c0 c1 c2
  go_wp2_with fail
  refine bodyPost_ret (v := .agg #[.int .u64 0, .int .i64 (e - e % k), .pointer loc]) (by simp [results, Tryz.results199, go_sem, *]; omega) rfl ⟨rfl, ?_⟩
  exact below_set3 HV2.out (Nat.le_succ _)
end Go.Proofs.YtmnjmhlodbifjaaGreatDoor.Time4
namespace Go.Proofs.YtmnjmhlodbifjaaGreatDoor.Moment
open Go Go.RowKit Go.Proofs.YtmnjmhlodbifjaaGreatDoor.Cal Go.Proofs.YtmnjmhlodbifjaaGreatDoor.Off Go.Proofs.YtmnjmhlodbifjaaGreatDoor.TimeNum Go.Proofs.YtmnjmhlodbifjaaGreatDoor.Lookup Go.Proofs.YtmnjmhlodbifjaaGreatDoor.Time Go.Proofs.YtmnjmhlodbifjaaGreatDoor.Time2 Go.Proofs.YtmnjmhlodbifjaaGreatDoor.SpecCal Go.Proofs.YtmnjmhlodbifjaaGreatDoor.Zone Go.Proofs.YtmnjmhlodbifjaaGreatDoor.Zone2 Go.Proofs.YtmnjmhlodbifjaaGreatDoor.Zone3
set_option linter.unusedVariables false
theorem pair_of {w : World} {b : Nat} {off : Int → Int} (h : ZoneAt w b off) : ∃ loc, Pair w loc b off := by
  rcases h with ⟨h, e⟩ | ⟨z, h1, h2, e⟩
  · exact ⟨none, .inl ⟨rfl, h, e⟩⟩
  · exact ⟨_, .inr ⟨z, rfl, h1, h2, e⟩⟩
theorem impl_location (r : Raw) (co cd cw ci : Nat) (w : World) (h : r.At w) (hok : r.Ok) :
    Calls Tryz.prog 37 #[.agg #[.slice r.ao r.no co, .slice r.ad r.nd cd, .slice r.aw r.nw cw, .slice r.ai r.ni ci]] w (PlaceOf (Raw.off r) w) := by
  obtain ⟨ao, ad, aw, ai, no, nd, nw, ni, o, d, wh, ix⟩ := r
  obtain ⟨ro, rd, rw', ri, -, -, -, -, -, -, -⟩ := h
  rcases hok with ⟨z0, z1, z2, z3⟩ | ⟨hg, z1, z2, z3⟩
  · simp only at *
    subst z0; subst z1; subst z2; subst z3
    have HO := Lib.hid (off_utc (r := ⟨ao, ad, aw, ai, 0, 0, 0, 0, o, d, wh, ix⟩) rfl)
    clear ro rd rw' ri
    go_enter Tryz.func37, Tryz.ntmps37
    go_wp2_with (go_at_call 75; refine (utc_any _).mono ?_; rintro e w' ⟨b, ⟨rfl, hu⟩, hb⟩)
    go_ret
    exact ⟨b, ⟨rfl, .inl ⟨hu, HO.out⟩⟩, ((Below.refl _ _).alloc (Nat.le_refl _) _).trans (hb.mono (by simp))⟩
  · simp only at *
    subst z1; subst z2
    have hn1 : 1 ≤ nd := hg.n1
    have hm1 : 1 ≤ ni := hg.m1
    obtain ⟨xo, rfl, -⟩ := ro 0 (by omega)
    obtain ⟨xd, rfl, -⟩ := rd 0 (by omega)
    obtain ⟨xw, rfl, -⟩ := rw' 0 (by omega)
    obtain ⟨xi, rfl, -⟩ := ri 0 (by omega)
    have hbw : Below w.heap.size w (w.alloc (.cells #[.slice (some xo) nd co, .slice (some xd) nd cd, .slice (some xw) ni cw, .slice (some xi) ni ci] 43)) := (Below.refl _ _).alloc (Nat.le_refl _) _
    have hri : Row w (some xi) ni (fun k => .int .i64 (((ix k).toNat : Nat) : Int)) := fun k hk => by
      obtain ⟨x, h1, h2⟩ := ri k hk
      refine ⟨x, h1, ?_⟩
      have := z3 k hk
      show w.cell? (x.add k) = some (.int .i64 (((ix k).toNat : Nat) : Int))
      rw [h2, show (((ix k).toNat : Nat) : Int) = ix k by omega]
    have HC := Lib.hid (zone_any xo xd xw xi co cd cw ci ⟨nd, ni, o, d, wh, fun i => (ix i).toNat⟩ _ hg (ro.below hbw) (rd.below hbw) (rw'.below hbw) (hri.below hbw))
    have HG := Lib.hid hg
    have b0 : (((nd : Nat) : Int) == 0) = false := beq_eq_false_iff_ne.2 (by omega)
    clear ro rd rw' ri hri hg z3
    go_enter Tryz.func37, Tryz.ntmps37
    go_wp2_with (go_at_call 76; refine HC.out.mono ?_; rintro e w' ⟨b, ⟨rfl, hl⟩, hb⟩)
    go_ret
    exact ⟨b, ⟨rfl, .inr ⟨_, HG.out, hl, rfl⟩⟩, hbw.trans (hb.mono hbw.size)⟩
def TimeOf (n e : Int) (off : Int → Int) (w : World) (x : Ending) (w' : World) : Prop := ∃ loc, (x = .returned (.agg #[.int .u64 n, .int .i64 e, .pointer loc]) ∧ Clock w' loc off) ∧ Below w.heap.size w w'
theorem moment_any (s n : Int) (b : Nat) (off : Int → Int) (w : World) (hz : ZoneAt w b off) (h0 : 0 ≤ n) (h1 : n < 1000000000) (hs0 : -700000000000 ≤ s) (hs1 : s ≤ 700000000000) :
    Calls Tryz.prog 36 #[.agg #[.int .i64 s, .int .i64 n], .pointer (some ⟨b, 0, none⟩)] w (TimeOf n (s + 62135596800) off w) := by
  obtain ⟨loc, hp⟩ := pair_of hz
  have hbw : Below w.heap.size w ((w.alloc (.cells #[.int .i64 s, .int .i64 n] 34)).alloc (.cells #[.int .u64 0, .int .i64 0, .pointer none] 86)) := ((Below.refl _ _).alloc (Nat.le_refl _) _).alloc (by simp) _
  have HP := Lib.hid hp
  have HN : Nn n := ⟨h0, by omega⟩
  have HNn := Lib.hid HN
  clear hz hp HN
  go_enter Tryz.func36, Tryz.ntmps36
  go_wp2_with fail
  refine (unix_any' s n _ h0 h1 (by omega) (by omega)).mono ?_
  rintro x w1 ⟨rfl, hb1⟩
  have HB1 := Lib.hid hb1
  clear hb1
  go_wp2_with fail
  refine (in_any n (s + 62135596800) none loc b off _ HNn.out ((HP.out.below hbw).below HB1.out)).mono ?_
  rintro x w2 ⟨rfl, hb2⟩
  have hb3 := HB1.out.trans (hb2.mono HB1.out.size)
  have hlt : w.heap.size + 1 < w2.heap.size := Nat.lt_of_lt_of_le (by simp) hb3.size
  have HB3 := Lib.hid hb3
  clear hb2
  obtain ⟨c0, c1, c2, f0, f1, f2⟩ := Time4.box2_after hb3
  clear hb3
  go_wp2_with fail
  refine bodyPost_ret (v := .agg #[.int .u64 n, .int .i64 (s + 62135596800), .pointer loc]) (by simp [results, Tryz.results36, go_sem, *]) rfl ⟨loc, ⟨rfl, ?_⟩, ?_⟩
  · exact HP.out.clock.below (below_set3 (hbw.trans (HB3.out.mono hbw.size)) (Nat.le_succ _))
  · exact below_set3 (hbw.trans (HB3.out.mono hbw.size)) (Nat.le_succ _)
def has (S : Int) (k : Int) : Bool := (S.toNat).testBit k.toNat
theorem and_bit (S k : Int) (s0 : 0 ≤ S) (s1 : S ≤ 18446744073709551615) (k0 : 0 ≤ k) (k1 : k ≤ 63) :
    Go.bits .and .u64 (IntKind.u64.wrap (2 ^ k.toNat)) S = if has S k then 2 ^ k.toNat else 0 := by
  have hS := Bits.eq_bset S s0 (by omega)
  rw [Bits.wrap_pow]
  conv => lhs; rw [hS]
  rw [Bits.bits_and]
  unfold has
  by_cases h : S.toNat.testBit k.toNat = true
  · rw [if_pos h]
    have hw : (2 : Int) ^ k.toNat = IntKind.u64.wrap (2 ^ k.toNat) := by
      rw [Bits.wrap_u64_in]
      · exact Int.le_of_lt (Int.pow_pos (by decide))
      · have : (2 : Int) ^ k.toNat ≤ 2 ^ 63 := by
          have := Nat.pow_le_pow_right (n := 2) (by decide) (show k.toNat ≤ 63 by omega)
          exact_mod_cast this
        exact Int.lt_of_le_of_lt this (by decide)
    rw [hw, Bits.wrap_pow]
    exact Bits.bset_congr fun i _ => by
      by_cases e : i = k.toNat
      · subst e; simp [h]
      · simp [e]
  · rw [if_neg h, Bits.zero_eq]
    exact Bits.bset_congr fun i _ => by
      by_cases e : i = k.toNat
      · subst e; simp; simpa using h
      · simp [e]
end Go.Proofs.YtmnjmhlodbifjaaGreatDoor.Moment
namespace Go.Proofs.YtmnjmhlodbifjaaGreatDoor.DayM
open Go Go.RowKit Go.Proofs.YtmnjmhlodbifjaaGreatDoor.Cal Go.Proofs.YtmnjmhlodbifjaaGreatDoor.Off Go.Proofs.YtmnjmhlodbifjaaGreatDoor.TimeNum Go.Proofs.YtmnjmhlodbifjaaGreatDoor.Lookup Go.Proofs.YtmnjmhlodbifjaaGreatDoor.Time Go.Proofs.YtmnjmhlodbifjaaGreatDoor.Time2 Go.Proofs.YtmnjmhlodbifjaaGreatDoor.Time4 Go.Proofs.YtmnjmhlodbifjaaGreatDoor.Moment
set_option linter.unusedVariables false
def dayOK (dom dow : Int) (n : Int) : Bool :=
  if has dom 63 || has dow 63 then has dom (dOf n) && has dow (wdOf n) else has dom (dOf n) || has dow (wdOf n)
def U64 (S : Int) : Prop := 0 ≤ S ∧ S ≤ 18446744073709551615
theorem bit_of (S : Int) (k : Nat) (hS : U64 S) (hk : k ≤ 63) : ∃ V : Int, Go.bits .and .u64 (IntKind.u64.wrap (2 ^ k)) S = V ∧ decide (0 < V) = has S (k : Int) ∧ (V == 0) = !has S (k : Int) := by
  have h := and_bit S k hS.1 hS.2 (by omega) (by omega)
  rw [Int.toNat_natCast] at h
  refine ⟨_, h, ?_, ?_⟩
  · cases has S (k : Int)
    · simp
    · have : (0 : Int) < 2 ^ k := Int.pow_pos (by decide)
      simpa using this
  · cases has S (k : Int)
    · simp
    · have : (0 : Int) < 2 ^ k := Int.pow_pos (by decide)
      simp
      omega
theorem star_of (S : Int) (hS : U64 S) : ∃ V : Int, Go.bits .and .u64 S 9223372036854775808 = V ∧ decide (0 < V) = has S 63 ∧ (V != 0) = has S 63 := by
  have h := and_bit S 63 hS.1 hS.2 (by omega) (by omega)
  have hc : Go.bits .and .u64 S 9223372036854775808 = Go.bits .and .u64 (IntKind.u64.wrap (2 ^ (63 : Int).toNat)) S := by
    have e := Bits.eq_bset S hS.1 (by have := hS.2; omega)
    rw [Bits.wrap_pow]
    have e2 : (9223372036854775808 : Int) = Bits.bset fun i => decide (i = 63) := by rw [← Bits.wrap_pow]; decide
    rw [e2]
    conv => lhs; rw [e]
    conv => rhs; rw [e]
    rw [Bits.bits_and, Bits.bits_and]
    exact Bits.bset_congr fun i _ => by rw [Bool.and_comm]; rfl
  rw [hc]
  refine ⟨_, h, ?_, ?_⟩
  · cases has S 63 <;> simp
  · cases has S 63 <;> simp
theorem undrew {B : Nat} {w w' : World} (h : Below B w.drew w') : Below B w w' := (Below.refl B w).drew.trans h
set_option maxRecDepth 100000 in
set_option maxHeartbeats 2000000 in
theorem dayMatches_any (sb : Nat) (dom dow n e : Int) (loc : Option Addr) (off : Int → Int) (w : World) (hd : U64 dom) (hw : U64 dow) (c3 : w.cell? ⟨sb, 3, none⟩ = some (.int .u64 dom)) (c5 : w.cell? ⟨sb, 5, none⟩ = some (.int .u64 dow)) (hn : Nn n) (he : Es e) (hc : Clock w loc off) :
    Calls Tryz.prog 196 #[.pointer (some ⟨sb, 0, none⟩), .agg #[.int .u64 n, .int .i64 e, .pointer loc]] w fun x w' => x = .returned (.bool (dayOK dom dow (day off (sec e)))) ∧ Below w.heap.size w w' := by
  have hlt := World.block_lt_of_cell? w _ c3
  simp only at hlt
  have hbw : Below w.heap.size w (w.alloc (.cells #[.int .u64 n, .int .i64 e, .pointer loc] 86)) := (Below.refl _ _).alloc (Nat.le_refl _) _
  have hbx := box_new w 86 (.int .u64 n) (.int .i64 e) (.pointer loc)
  have hv := (date_of (day off (sec e))).1
  have hml := mlen_bd (yOf (day off (sec e))) (mOf (day off (sec e)))
  obtain ⟨dn, hdn⟩ : ∃ dn : Nat, dOf (day off (sec e)) = dn := ⟨(dOf (day off (sec e))).toNat, by have := hv.2.2.1; omega⟩
  obtain ⟨wn, hwn⟩ : ∃ wn : Nat, wdOf (day off (sec e)) = wn := ⟨(wdOf (day off (sec e))).toNat, by unfold wdOf; omega⟩
  have hdb : dn ≤ 31 := by have := hv.2.2.2; omega
  have hwb : wn ≤ 6 := by unfold wdOf at hwn; omega
  have HD := Lib.hid (fun w1 (h : Below w.heap.size w w1) => day_any (n := n) (w := w1) hn he (hc.below h))
  have HW := Lib.hid (fun w1 (h : Below w.heap.size w w1) => weekday_any (n := n) (w := w1) hn he (hc.below h))
  rw [hdn] at HD
  rw [hwn] at HW
  have HF : Hid (dayOK dom dow (day off (sec e)) = if has dom 63 || has dow 63 then has dom dn && has dow wn else has dom dn || has dow wn) := Lib.hid (by unfold dayOK; rw [hdn, hwn])
  obtain ⟨V1, a1, a2, -⟩ := bit_of dom dn hd (by omega)
  obtain ⟨V2, b1, b2, -⟩ := bit_of dow wn hw (by omega)
  obtain ⟨V3, s1, s2, -⟩ := star_of dom hd
  obtain ⟨V4, t1, t2, -⟩ := star_of dow hw
  generalize has dom (dn : Int) = m1 at *
  generalize has dow (wn : Int) = m2 at *
  generalize has dom 63 = m3 at *
  generalize has dow 63 = m4 at *
  have v1 : min (IntKind.u64.wrap ((dn : Nat) : Int)).toNat 64 = dn := by rw [IntWalk.u64_in _ (by omega)]; omega
  have v2 : min (IntKind.u64.wrap ((wn : Nat) : Int)).toNat 64 = wn := by rw [IntWalk.u64_in _ (by omega)]; omega
  have HBX := Lib.hid hbx
  have HBW := Lib.hid hbw
  have e3 : (w.alloc (.cells #[.int .u64 n, .int .i64 e, .pointer loc] 86)).cell? ⟨sb, 3, none⟩ = some (.int .u64 dom) := (hbw.cell (p := ⟨sb, 3, none⟩) hlt).trans c3
  have e5 : (w.alloc (.cells #[.int .u64 n, .int .i64 e, .pointer loc] 86)).cell? ⟨sb, 5, none⟩ = some (.int .u64 dow) := (hbw.cell (p := ⟨sb, 5, none⟩) hlt).trans c5
  have E3 := Lib.hid e3
  have E5 := Lib.hid e5
  clear hn he hc hv hml hdn hwn hbx hbw c3 c5
  go_enter Tryz.func196, Tryz.ntmps196
  go_wp2_with fail
  go_region_held3 (fun w' => w'.cell? ⟨w.heap.size, 0, none⟩ = some (.int .u64 n) ∧ w'.cell? ⟨w.heap.size, 1, none⟩ = some (.int .i64 e) ∧ w'.cell? ⟨w.heap.size, 2, none⟩ = some (.pointer loc) ∧ w'.cell? ⟨sb, 3, none⟩ = some (.int .u64 dom)) (go_keep)
    ((go_at_call 188; refine (HD.out _ (by repeat (first | exact HBW.out | refine Below.drew ?_))).mono ?_; rintro x w1 ⟨rfl, hb0⟩; (have hb1 := undrew hb0); (have q1 := hb1.size); (have k0 := (HBX.out.below hb1 (by simp)).2.1); (have k1 := (HBX.out.below hb1 (by simp)).2.2.1); (have k2 := (HBX.out.below hb1 (by simp)).2.2.2); (have k3 := (hb1.cell (p := ⟨sb, 3, none⟩) (by simp; omega)).trans E3.out)))
  all_goals
    have HX1 := Lib.hid (HBX.out.below hb1 (by simp))
    have HB1 := Lib.hid (HBW.out.trans (hb1.mono HBW.out.size))
    have e31 := (hb1.cell (p := ⟨sb, 3, none⟩) (by simp; omega)).trans E3.out
    have e51 := (hb1.cell (p := ⟨sb, 5, none⟩) (by simp; omega)).trans E5.out
    have E31 := Lib.hid e31
    have E51 := Lib.hid e51
    have hl1 : w.heap.size < w1.heap.size := HX1.out.1
    have hl2 : sb < w1.heap.size := by have := World.block_lt_of_cell? w1 _ e31; simpa using this
    clear hb0 hb1 k3 q1
    go_wp2_with fail
    go_region_held3 (fun w' => w'.cell? ⟨w.heap.size, 0, none⟩ = some (.int .u64 n) ∧ w'.cell? ⟨w.heap.size, 1, none⟩ = some (.int .i64 e) ∧ w'.cell? ⟨w.heap.size, 2, none⟩ = some (.pointer loc) ∧ w'.cell? ⟨sb, 5, none⟩ = some (.int .u64 dow)) (go_keep)
      ((go_at_call 214; refine (HW.out _ (by repeat (first | exact HB1.out | refine Below.drew ?_))).mono ?_; rintro x w2 ⟨rfl, hb0⟩; (have hb1 := undrew hb0); (have q1 := hb1.size); (have k0 := (HX1.out.below hb1 hl1).2.1); (have k1 := (HX1.out.below hb1 hl1).2.2.1); (have k2 := (HX1.out.below hb1 hl1).2.2.2); (have k3 := (hb1.cell (p := ⟨sb, 5, none⟩) hl2).trans E51.out)))
    all_goals
      have HB2 := Lib.hid (HB1.out.trans (hb1.mono HB1.out.size))
      have e32 := (hb1.cell (p := ⟨sb, 3, none⟩) hl2).trans E31.out
      have e52 := (hb1.cell (p := ⟨sb, 5, none⟩) hl2).trans E51.out
      clear hb0 hb1 k0 k1 k2 k3 q1 e31 e51
      cases m3 <;> cases m4 <;> cases m1
      all_goals
        go_wp2_with fail
        go_ret
        exact ⟨by rw [HF.out]; simp, HB2.out⟩
end Go.Proofs.YtmnjmhlodbifjaaGreatDoor.DayM
