/- Date, AddDate and Truncate. Conditions: years from -20000 to 50000, zones in order. -/
import Derived.Test.YtoekefbclkmchaaTime2
namespace Go.Proofs.Ytoekefbclkmchaa.Time3
open Go Go.RowKit Go.Proofs.Ytoekefbclkmchaa.Cal Go.Proofs.Ytoekefbclkmchaa.Off Go.Proofs.Ytoekefbclkmchaa.TimeNum Go.Proofs.Ytoekefbclkmchaa.Lookup Go.Proofs.Ytoekefbclkmchaa.Time Go.Proofs.Ytoekefbclkmchaa.Time2
set_option linter.unusedVariables false

/-- The day's number of a date whose month may be the thirteenth. -/
def dn2 (y m d : Int) : Int := if m ≤ 12 then dnum y m d else dnum (y + 1) 1 d

theorem norm_month (y m : Int) (w : World) (h0 : -20000 ≤ y) (h1 : y ≤ 40000) (h2 : 0 ≤ m) (h3 : m ≤ 12) :
    Calls Try.prog 146 #[.int .i64 y, .int .i64 m, .int .i64 12] w fun e w' => e = .returned (.tuple #[.int .i64 (if m < 12 then y else y + 1), .int .i64 (if m < 12 then m else 0)]) ∧ w = w' := by
  by_cases h : m < 12
  · rw [if_pos h, if_pos h]; exact norm_in y m 12 w h2 h (by omega)
  · rw [if_neg h, if_neg h]
    obtain rfl : m = 12 := by omega
    exact norm_up y 12 12 w (by omega) (by omega) (by omega) (by omega) (by omega) (by omega)

/-- The second that a date and a time of day are taken for. -/
def dateE (off : Int → Int) (y m d h mi s : Int) : Int := Off.resolve off (86400 * dn2 y m d + 3600 * h + 60 * mi + s) + 62135596800

set_option maxRecDepth 100000 in
theorem date_any (y m d h mi s : Int) (loc : Option Addr) (b : Nat) (off : Int → Int) (w : World) (hp : Pair w loc b off)
    (y0 : -5000 ≤ y) (y1 : y ≤ 15000) (m0 : 1 ≤ m) (m1 : m ≤ 13) (d0 : 0 ≤ d) (d1 : d ≤ 100) (h0 : 0 ≤ h) (h1 : h < 24) (i0 : 0 ≤ mi) (i1 : mi < 60) (s0 : 0 ≤ s) (s1 : s < 60) :
    Calls Try.prog 136 #[.int .i64 y, .int .i64 m, .int .i64 d, .int .i64 h, .int .i64 mi, .int .i64 s, .int .i64 0, .pointer (some ⟨b, 0, none⟩)] w fun x w' => x = .returned (.agg #[.int .u64 0, .int .i64 (dateE off y m d h mi s), .pointer loc]) ∧ Below w.heap.size w w' := by
  -- the year and the month that norm gives
  obtain ⟨Y, hY⟩ : ∃ Y, (if m - 1 < 12 then y else y + 1) = Y := ⟨_, rfl⟩
  obtain ⟨M, hM⟩ : ∃ M, (if m - 1 < 12 then m - 1 else 0) = M := ⟨_, rfl⟩
  have HN := Lib.hid (fun w1 => norm_month y (m - 1) w1 (by omega) (by omega) (by omega) (by omega))
  rw [hY, hM] at HN
  have hYb : -6000 ≤ Y ∧ Y ≤ 15001 := by rw [← hY]; split <;> omega
  have hMb : 0 ≤ M ∧ M ≤ 11 := by rw [← hM]; split <;> omega
  have hdn : dn2 y m d = dnum Y (M + 1) d := by
    unfold dn2
    rw [← hY, ← hM]
    by_cases c : m ≤ 12
    · rw [if_pos c, if_pos (by omega), if_pos (by omega), show m - 1 + 1 = m by omega]
    · rw [if_neg c, if_neg (by omega), if_neg (by omega)]; rfl
  have hyear : -3000000 ≤ ys Y ∧ ys Y ≤ 6000000 := by unfold ys; omega
  have hcum : 0 ≤ cum Y (M + 1) ∧ cum Y (M + 1) ≤ 366 := by
    have := lp_01 Y
    unfold cum; split <;> omega
  obtain ⟨N, hN⟩ : ∃ N, dnum Y (M + 1) d = N := ⟨_, rfl⟩
  have hNb : -4000000 ≤ N ∧ N ≤ 7000000 := by rw [← hN]; unfold dnum; omega
  have hg : gday Y (M + 1) d = N + 106751991073400 := by rw [gday_eq _ _ _ (by omega) (by omega), hN]
  have HG := Lib.hid hg
  have HD := Lib.hid hdn
  rw [hN] at HD
  have hE : dateE off y m d h mi s = Off.resolve off (86400 * N + 3600 * h + 60 * mi + s) + 62135596800 := by unfold dateE; rw [HD.out]
  obtain ⟨u, hu⟩ : ∃ u, 86400 * N + 3600 * h + 60 * mi + s = u := ⟨_, rfl⟩
  rw [hu] at hE
  have hub : -500000000000 ≤ u ∧ u ≤ 700000000000 := by omega
  have HU := Lib.hid (show wrap64 (wrap64 (wrap64 ((N + 106751991073400) * 86400) + (h * 3600 + mi * 60 + s)) + -9223372028741760000) = u by unfold wrap64; omega)
  have HE := Lib.hid hE
  have HP := Lib.hid hp
  have hb1 := hp.clock.bd u
  have hb2 := hp.clock.bd (u - off u)
  clear hu
  clear hE hg hdn hN hY hM hp hyear hcum
  go_enter Try.func136, Try.ntmps136
  go_wp2_with (first
    | (go_at_call 146; (with_reducible refine (HN.out _).mono ?_); rintro x w' ⟨rfl, rfl⟩)
    | (go_at_call 146; refine (norm_in _ _ _ _ (by omega) (by omega) (by omega)).mono ?_; rintro x w' ⟨rfl, rfl⟩)
    | (go_at_call 147; refine (toDays_any Y (M + 1) d _ (by omega) (by omega) (by omega) (by omega) (by omega) (by omega)).mono ?_; rintro x w' ⟨rfl, rfl⟩; rw [HG.out]))
  rw [HU.out]
  have hbw : Below w.heap.size w (w.alloc (.cells #[.int .u64 0, .int .i64 0, .pointer none] 78)) := (Below.refl _ _).alloc (Nat.le_refl _) _
  refine (lookup_at b off u _ ((HP.out.below hbw).zone) (by omega) (by omega)).mono ?_
  rintro x w1 ⟨s1, st, en, dd, rfl, hconst, hrng, hw1⟩
  have HC := Lib.hid hconst
  clear hconst
  have hn0 : Nn 0 := ⟨by omega, by omega⟩
  by_cases hz : off u = 0
  · have hz1 : (off u == 0) = true := by rw [hz]; rfl
    have hfin : dateE off y m d h mi s = u + 62135596800 := by rw [HE.out]; unfold Off.resolve; rw [hz, show u - 0 = u by omega, hz]; omega
    have HF := Lib.hid hfin
    clear hfin
    go_wp2_with fail
    refine (unixTime_any u 0 _ (by omega) (by omega) (by omega) (by omega)).mono ?_
    rintro x wa ⟨rfl, hwa⟩
    have hW := hw1.trans (hwa.mono hw1.size)
    have hsz : w.heap.size < wa.heap.size := Nat.lt_of_lt_of_le (by simp) hW.size
    obtain ⟨c0, c1, c2, f0, f1, f2⟩ := box_after hW
    have HPa := Lib.hid ((HP.out.below hbw).below hW)
    go_wp2_with fail
    refine (setLoc_any wa.heap.size b 0 loc off _ (box_new _ _ _ _ _).2.1 ⟨_, (box_new _ _ _ _ _).2.2.2⟩ (free_new _ _ _ _) hn0 (HPa.out.below ((Below.refl _ _).alloc (Nat.le_refl _) _))).mono ?_
    rintro x wb ⟨rfl, rfl⟩
    go_wp2_with fail
    refine bodyPost_ret (v := .agg #[.int .u64 0, .int .i64 (u + 62135596800), .pointer loc]) (by simp [results, Try.results136, go_sem, *]) rfl ⟨by rw [HF.out], ?_⟩
    exact (below_set3 (hbw.trans (hW.mono (by simp))) (Nat.le_refl _)).alloc (by simp [World.setCell]; omega) _
  · have hz1 : (off u == 0) = false := beq_eq_false_iff_ne.2 hz
    by_cases hin : st ≤ u - off u ∧ u - off u < en
    · obtain ⟨i1, i2⟩ := hin
      have hfin : dateE off y m d h mi s = (u - off u) + 62135596800 := by rw [HE.out]; unfold Off.resolve; rw [HC.out _ i1 i2]
      have HF := Lib.hid hfin
      clear hfin
      go_wp2_with fail
      refine (unixTime_any (u - off u) 0 _ (by omega) (by omega) (by omega) (by omega)).mono ?_
      rintro x wa ⟨rfl, hwa⟩
      have hW := hw1.trans (hwa.mono hw1.size)
      have hsz : w.heap.size < wa.heap.size := Nat.lt_of_lt_of_le (by simp) hW.size
      obtain ⟨c0, c1, c2, f0, f1, f2⟩ := box_after hW
      have HPa := Lib.hid ((HP.out.below hbw).below hW)
      go_wp2_with fail
      refine (setLoc_any wa.heap.size b 0 loc off _ (box_new _ _ _ _ _).2.1 ⟨_, (box_new _ _ _ _ _).2.2.2⟩ (free_new _ _ _ _) hn0 (HPa.out.below ((Below.refl _ _).alloc (Nat.le_refl _) _))).mono ?_
      rintro x wb ⟨rfl, rfl⟩
      go_wp2_with fail
      refine bodyPost_ret (v := .agg #[.int .u64 0, .int .i64 ((u - off u) + 62135596800), .pointer loc]) (by simp [results, Try.results136, go_sem, *]) rfl ⟨by rw [HF.out], ?_⟩
      exact (below_set3 (hbw.trans (hW.mono (by simp))) (Nat.le_refl _)).alloc (by simp [World.setCell]; omega) _
    · have hfin : dateE off y m d h mi s = (u - off (u - off u)) + 62135596800 := by rw [HE.out]; rfl
      have HF := Lib.hid hfin
      clear hfin
      have hd : (decide (u - off u < st) || decide (en ≤ u - off u)) = true := by simp; omega
      go_wp2_with fail
      all_goals
        refine (lookup_at b off (u - off u) _ (((HP.out.below hbw).below hw1).zone) (by omega) (by omega)).mono ?_
        rintro x w2 ⟨s2, st2, en2, dd2, rfl, -, -, hw2⟩
        have hW2 := hw1.trans (hw2.mono hw1.size)
        go_wp2_with fail
        refine (unixTime_any (u - off (u - off u)) 0 _ (by omega) (by omega) (by omega) (by omega)).mono ?_
        rintro x wa ⟨rfl, hwa⟩
        have hW := hW2.trans (hwa.mono hW2.size)
        have hsz : w.heap.size < wa.heap.size := Nat.lt_of_lt_of_le (by simp) hW.size
        obtain ⟨c0, c1, c2, f0, f1, f2⟩ := box_after hW
        have HPa := Lib.hid ((HP.out.below hbw).below hW)
        go_wp2_with fail
        refine (setLoc_any wa.heap.size b 0 loc off _ (box_new _ _ _ _ _).2.1 ⟨_, (box_new _ _ _ _ _).2.2.2⟩ (free_new _ _ _ _) hn0 (HPa.out.below ((Below.refl _ _).alloc (Nat.le_refl _) _))).mono ?_
        rintro x wb ⟨rfl, rfl⟩
        go_wp2_with fail
        refine bodyPost_ret (v := .agg #[.int .u64 0, .int .i64 ((u - off (u - off u)) + 62135596800), .pointer loc]) (by simp [results, Try.results136, go_sem, *]) rfl ⟨by rw [HF.out], ?_⟩
        exact (below_set3 (hbw.trans (hW.mono (by simp))) (Nat.le_refl _)).alloc (by simp [World.setCell]; omega) _

end Go.Proofs.Ytoekefbclkmchaa.Time3
