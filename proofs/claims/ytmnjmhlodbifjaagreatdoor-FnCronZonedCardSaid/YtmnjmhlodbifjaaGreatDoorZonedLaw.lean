/- The walk of FnCronZoned: what any text means is what CronZoned gives. Conditions: the package variables hold what their initialisers lay. -/
import Derived.Test.YtmnjmhlodbifjaaGreatDoorZoned
namespace Go.Proofs.YtmnjmhlodbifjaaGreatDoor.fnCronZoned
open Go Go.RowKit Go.Proofs.YtmnjmhlodbifjaaGreatDoor.Mem Go.Proofs.YtmnjmhlodbifjaaGreatDoor.Aid Go.Proofs.YtmnjmhlodbifjaaGreatDoor.Err Go.Proofs.YtmnjmhlodbifjaaGreatDoor.Fields Go.Proofs.YtmnjmhlodbifjaaGreatDoor.Big Go.Proofs.YtmnjmhlodbifjaaGreatDoor.Meaning Go.Proofs.YtmnjmhlodbifjaaGreatDoor.SpecBits Go.Proofs.YtmnjmhlodbifjaaGreatDoor.SpecSix Go.Proofs.YtmnjmhlodbifjaaGreatDoor.FillPure Go.Proofs.YtmnjmhlodbifjaaGreatDoor.PlainPure Go.Proofs.YtmnjmhlodbifjaaGreatDoor.NameRel Go.Proofs.YtmnjmhlodbifjaaGreatDoor.SpecPlain Go.Proofs.YtmnjmhlodbifjaaGreatDoor.ZoneHead Go.Proofs.YtmnjmhlodbifjaaGreatDoor.ParseCron Go.Proofs.YtmnjmhlodbifjaaGreatDoor.TrimSpec Go.Proofs.YtmnjmhlodbifjaaGreatDoor.LaidZ Go.Proofs.YtmnjmhlodbifjaaGreatDoor.Mean Go.Proofs.YtmnjmhlodbifjaaGreatDoor.SpecParse Go.Proofs.YtmnjmhlodbifjaaGreatDoor.SchedOf Go.Proofs.YtmnjmhlodbifjaaGreatDoor.Zoned
set_option linter.unusedVariables false
attribute [local go_sem ↓] Go.wp_at_zero Go.wp_at_succ

theorem loadM_eq (a : Value) : Instr.loadAt 59 a = loadB 59 a := rfl
theorem loadD_eq (a : Value) : Instr.loadAt 28 a = loadB 28 a := rfl
theorem nums_six (LL : List (List UInt8)) : nums (stL LL 6) (fLs LL 6) = setsL (numsOf LL 6) := by
  unfold nums setsL numsOf stL fLs
  simp [List.range, List.range.loop]
theorem fits_fine {m : MV} {ut : Bool} {sch : Array Value} {utc ok : Bool} (h : Fits (some (some m)) ut sch utc ok) : ok = true ∧ ((∃ LL, m = .sets LL ∧ sch = setsL (numsOf LL 6) ∧ utc = ut) ∨ (∃ d, m = .every d ∧ sch = everyS d ∧ utc = false)) := by
  rcases h with ⟨_, _, _, h⟩ | ⟨h1, _, h⟩
  · exact absurd rfl (h m)
  · exact ⟨h1, h m rfl⟩
theorem fits_bad {ut : Bool} {sch : Array Value} {utc ok : Bool} (h : Fits none ut sch utc ok) : ok = false ∧ utc = false ∧ sch = zeroS := by
  rcases h with ⟨h1, h2, h3, _⟩ | ⟨_, h, _⟩
  · exact ⟨h1, h2, h3⟩
  · exact absurd rfl h

theorem loadD {w : World} {b : Nat} {ev : Bool} {d a c e f g h : Int} (hb : Blk w b (schedA ev d a c e f g h)) : (loadB 28 (.pointer (some ⟨b, 0, none⟩))).run Tryz.prog w = .ok (.agg (schedA ev d a c e f g h)) w := by
  obtain ⟨E, hb⟩ := hb
  exact loadB_row Tryz.underlying28 rfl infoSched hb

section
attribute [local go_sem ↓] loadM_eq loadD_eq
set_option maxHeartbeats 8000000 in
set_option maxRecDepth 100000 in
theorem walk (o : Int) (s : ByteArray) (w : World) (hsm : s.size ≤ maxLen) (hv : Sents w) :
    Calls Tryz.prog 5 #[.int .i64 o, .string s] w fun e w' => e = .returned (.bool true) ∧ Below w.heap.size w w' := by
  unfold maxLen at hsm
  have HO := Lib.hid (fun w => options_b o w)
  by_cases hs : s.size ≤ 2147483647
  case neg =>
    have hsi : (2147483647 : Int) < (s.size : Int) := by omega
    go_enter Tryz.func5, Tryz.ntmps5
    go_wp2
    go_ret
    exact ⟨rfl, Below.refl _ _⟩
  case pos =>
  have hsi : ¬ (2147483647 : Int) < (s.size : Int) := by omega
  cases hob : optB o with
  | false =>
    rw [hob] at HO
    go_enter Tryz.func5, Tryz.ntmps5
    go_wp2_with (go_at_call 8; refine (HO.out _).mono ?_; rintro e w' ⟨rfl, rfl⟩)
    go_ret
    exact ⟨rfl, Below.refl _ _⟩
  | true =>
    rw [hob] at HO
    obtain ⟨n, rfl, hn, h2⟩ := optB_facts hob
    clear hob
    by_cases hs6 : s.size ≤ 65536
    case neg =>
      have hs6i : (65536 : Int) < (s.size : Int) := by omega
      go_enter Tryz.func5, Tryz.ntmps5
      go_wp2_with (go_at_call 8; refine (HO.out _).mono ?_; rintro e w' ⟨rfl, rfl⟩)
      go_ret
      exact ⟨rfl, Below.refl _ _⟩
    case pos =>
    have hs6i : ¬ (65536 : Int) < (s.size : Int) := by omega
    have HNA := Lib.hid (fun w => noAnswer_any s w hs6)
    cases hna : noAnswer s.data.toList with
    | true =>
      rw [hna] at HNA
      go_enter Tryz.func5, Tryz.ntmps5
      go_wp2_with (first
        | (go_at_call 8; refine (HO.out _).mono ?_; rintro e w' ⟨rfl, rfl⟩)
        | (go_at_call 20; refine (HNA.out _).mono ?_; rintro e w1 ⟨rfl, hb1⟩; have HB1 := Lib.hid hb1; clear hb1))
      go_ret
      exact ⟨rfl, HB1.out⟩
    | false =>
      rw [hna] at HNA
      have HSP := Lib.hid (fun w => parse_any n s w hn hs6)
      have HZN := Lib.hid (fun w1 (hb : Below w.heap.size w w1) => zoned_any n s w1 hn h2 hs6 hna (hv.below hb))
      obtain ⟨mr, hmr⟩ : ∃ mr, mean (n : Int) s.data.toList = mr := ⟨_, rfl⟩
      obtain ⟨ut, hut⟩ : ∃ ut, utcOf s.data.toList = ut := ⟨_, rfl⟩
      rw [hmr, hut] at HSP HZN
      clear hna hmr hut h2 hv
      go_enter Tryz.func5, Tryz.ntmps5
      go_upto_region 6 with (first
        | (go_at_call 8; refine (HO.out _).mono ?_; rintro e w' ⟨rfl, rfl⟩)
        | (go_at_call 20; refine (HNA.out _).mono ?_; rintro e w1 ⟨rfl, hb1⟩; have HB1 := Lib.hid hb1; clear hb1)
        | (go_at_call 21; refine (HSP.out _).mono ?_; rintro e w2 ⟨he, hb2⟩; obtain ⟨ev, d, cs, u, v, rfl, hcs, hon, hv, hv0, hv1⟩ := he; have HB2 := Lib.hid (HB1.out.trans (hb2.mono HB1.out.size)); have HN2 := Lib.hid (Blk.new w2 (meanArr false 0 noFields false) 59); have HV0 := Lib.hid hv0; have HV1 := Lib.hid hv1; clear hb2 hv0 hv1)
        | (with_reducible refine wpList_alloc_mean rfl rfl ?_)
        | (with_reducible refine wpList_store_mean rfl (.tmp 5) (.tmp 29) rfl w2.heap.size _ (meanArr ev d cs u) mean0 (meanArr_size _ _ _ _ hcs) (meanArr_one _ _ _ _ hon) rfl rfl HN2.out ?_))
      refine name_world fun X5 hX5 => ?_
      have HM5 : Hid (Blk X5 w2.heap.size (meanArr ev d cs u)) := Lib.hid (by rw [hX5]; exact blk_row HN2.out _)
      have HBX : Hid (Below w.heap.size w X5) := Lib.hid (by rw [hX5]; exact below_row (HB2.out.alloc HB2.out.size _) HB2.out.size _)
      have hb25 : w2.heap.size < X5.heap.size := HM5.out.lt
      clear hX5 HN2
      go_upto_region 7 with (first
        | (go_at_call 22; refine (HZN.out _ HBX.out).mono ?_; rintro e w6 ⟨he, hb6⟩; obtain ⟨ev', d', x0, x1, x2, x3, x4, x5, utc, ok, rfl, hfit⟩ := he; have HFIT := Lib.hid hfit; have HM6 := Lib.hid (HM5.out.after hb6); have HB6 := Lib.hid (HBX.out.trans (hb6.mono HBX.out.size)); have hb56 : X5.heap.size ≤ w6.heap.size := hb6.size; have HN6 : Hid (Blk (w6.alloc (.cells zeroS 28)) w6.heap.size zeroS) := Lib.hid (Blk.new w6 zeroS 28); clear hb6 hfit)
        | (refine wpList_store_blk rfl 28 (.tmp 7) (.tmp 35) rfl w6.heap.size zeroS (schedA ev' d' x0 x1 x2 x3 x4 x5) infoSched rfl (schedA_one _ _ _ _ _ _ _ _) (by rfl) (by rfl) HN6.out ?_))
      refine name_world fun X7 hX7 => ?_
      have HM7 : Hid (Blk X7 w2.heap.size (meanArr ev d cs u)) := Lib.hid (by rw [hX7]; exact blk_else (HM6.out.alloc _) _ (by omega))
      have HS7 : Hid (Blk X7 w6.heap.size (schedA ev' d' x0 x1 x2 x3 x4 x5)) := Lib.hid (by rw [hX7]; exact blk_row HN6.out _)
      have HB7 : Hid (Below w.heap.size w X7) := Lib.hid (by rw [hX7]; exact below_row (HB6.out.alloc HB6.out.size _) HB6.out.size _)
      clear hX7 HN6
      have hv3 : v = 0 ∨ v = 1 ∨ v = 2 := by omega
      rcases hv3 with rfl | rfl | rfl
      · as_aux_lemma =>
        obtain rfl := HV0.out rfl
        obtain ⟨rfl, rfl, hz⟩ := fits_bad HFIT.out
        have HZ : Hid (Blk X7 w6.heap.size (schedA false 0 0 0 0 0 0 0)) := Lib.hid (by have := HS7.out; rw [hz] at this; exact this)
        have heq := eq_sched false 0 0 0 0 0 0 0
        unfold schedA at heq
        have hld := loadD HZ.out
        unfold schedA at hld
        clear hz
        go_wp2
        go_ret
        exact ⟨rfl, HB7.out⟩
      · as_aux_lemma =>
        have hsch : ∃ m, mr = some (some m) ∧ (∀ w, Calls Tryz.prog 23 #[.agg (meanArr ev d cs u)] w fun e w' => e = .returned (.agg (schedA ev' d' x0 x1 x2 x3 x4 x5)) ∧ Below w.heap.size w w') ∧ utc = u ∧ ok = true := by
          rcases HV1.out rfl with ⟨LL, h1, rfl, rfl, rfl, rfl⟩ | ⟨x, h1, rfl, rfl, rfl, rfl⟩
          · have hf := HFIT.out
            rw [h1] at hf
            obtain ⟨hok, hf⟩ := fits_fine hf
            rcases hf with ⟨LL2, h3, h4, h5⟩ | ⟨d2, h3, _⟩
            · cases h3
              refine ⟨_, h1, fun w => ?_, h5, hok⟩
              rw [h4, ← nums_six]
              exact ofSets_any _ _ _ _ w
            · cases h3
          · have hf := HFIT.out
            rw [h1] at hf
            obtain ⟨hok, hf⟩ := fits_fine hf
            rcases hf with ⟨LL2, h3, _⟩ | ⟨d2, h3, h4, h5⟩
            · cases h3
            · cases h3
              refine ⟨_, h1, fun w => ?_, h5, hok⟩
              rw [h4]
              exact ofEvery_any _ _ w
        obtain ⟨m, -, hso, rfl, rfl⟩ := hsch
        have HSO := Lib.hid hso
        have heq := eq_sched ev' d' x0 x1 x2 x3 x4 x5
        have hu0 : ((utc == utc) : Bool) = true := by cases utc <;> rfl
        have HKS : Hid (∀ Y, Below X7.heap.size X7 Y → ((loadB 59 (.pointer (some ⟨w2.heap.size, 0, none⟩))).run Tryz.prog Y = .ok (.agg (meanArr ev d cs utc)) Y ∧ (loadB 28 (.pointer (some ⟨w6.heap.size, 0, none⟩))).run Tryz.prog Y = .ok (.agg (schedA ev' d' x0 x1 x2 x3 x4 x5)) Y ∧ Y.cell? ⟨w2.heap.size, 386, none⟩ = some (.bool utc))) := Lib.hid (fun Y hY => by
          have hM := HM7.out.after hY
          refine ⟨?_, loadD (HS7.out.after hY), hM.cell (mean_utc _ _ _ _ hcs)⟩
          obtain ⟨E, hM⟩ := hM
          exact loadB_row Tryz.underlying59 rfl (by rw [meanArr_size _ _ _ _ hcs]; exact sizeInfoM) hM)
        obtain ⟨A0, hA0⟩ : ∃ A0, schedA ev' d' x0 x1 x2 x3 x4 x5 = A0 := ⟨_, rfl⟩
        rw [hA0] at HSO HKS heq
        obtain ⟨M0, hM0⟩ : ∃ M0, meanArr ev d cs utc = M0 := ⟨_, rfl⟩
        rw [hM0] at HSO HKS
        clear hso HSP HZN HV1 HFIT hA0 hM0
        go_wp2
        go_region_held3 (fun Y => ((loadB 59 (.pointer (some ⟨w2.heap.size, 0, none⟩))).run Tryz.prog Y = .ok (.agg M0) Y ∧ (loadB 28 (.pointer (some ⟨w6.heap.size, 0, none⟩))).run Tryz.prog Y = .ok (.agg A0) Y ∧ Y.cell? ⟨w2.heap.size, 386, none⟩ = some (.bool utc)))
          (exact HKS.out _ (by repeat (first | exact Below.refl _ _ | assumption | refine Below.drew ?_)))
          ((go_at_call 23; (with_reducible refine (HSO.out _).mono ?_); rintro e y ⟨rfl, hby⟩; have hby := chain (V := X7) (by repeat (first | exact Below.refl _ _ | assumption | refine Below.drew ?_)) hby))
        all_goals
          go_wp2
          go_ret
          exact ⟨rfl, (by repeat (first | exact HB7.out.trans (hby.mono HB7.out.size) | refine Below.drew ?_))⟩
      · as_aux_lemma =>
        go_wp2
        go_ret
        exact ⟨rfl, HB7.out⟩
end

end Go.Proofs.YtmnjmhlodbifjaaGreatDoor.fnCronZoned
