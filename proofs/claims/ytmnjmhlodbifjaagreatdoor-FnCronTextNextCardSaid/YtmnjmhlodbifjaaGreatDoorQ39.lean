/- The walk of FnCronTextNext: the whole road from a text to its next activation. Conditions: the package variables hold what their initialisers lay. -/
import Derived.Test.YtmnjmhlodbifjaaGreatDoorQ28
import Derived.Test.YtmnjmhlodbifjaaGreatDoorQ37
import Derived.Test.YtmnjmhlodbifjaaGreatDoorQ38

namespace Go.Proofs.YtmnjmhlodbifjaaGreatDoor.fnCronTextNext
open Go Go.RowKit Go.Proofs.YtmnjmhlodbifjaaGreatDoor.Mem Go.Proofs.YtmnjmhlodbifjaaGreatDoor.Aid Go.Proofs.YtmnjmhlodbifjaaGreatDoor.Err Go.Proofs.YtmnjmhlodbifjaaGreatDoor.Fields Go.Proofs.YtmnjmhlodbifjaaGreatDoor.Big Go.Proofs.YtmnjmhlodbifjaaGreatDoor.Meaning Go.Proofs.YtmnjmhlodbifjaaGreatDoor.SpecBits Go.Proofs.YtmnjmhlodbifjaaGreatDoor.SpecSix Go.Proofs.YtmnjmhlodbifjaaGreatDoor.FillPure Go.Proofs.YtmnjmhlodbifjaaGreatDoor.PlainPure Go.Proofs.YtmnjmhlodbifjaaGreatDoor.NameRel Go.Proofs.YtmnjmhlodbifjaaGreatDoor.SpecPlain Go.Proofs.YtmnjmhlodbifjaaGreatDoor.ZoneHead Go.Proofs.YtmnjmhlodbifjaaGreatDoor.ParseCron Go.Proofs.YtmnjmhlodbifjaaGreatDoor.TrimSpec Go.Proofs.YtmnjmhlodbifjaaGreatDoor.LaidZ Go.Proofs.YtmnjmhlodbifjaaGreatDoor.Mean Go.Proofs.YtmnjmhlodbifjaaGreatDoor.SpecParse Go.Proofs.YtmnjmhlodbifjaaGreatDoor.SchedOf Go.Proofs.YtmnjmhlodbifjaaGreatDoor.Zoned Go.Proofs.YtmnjmhlodbifjaaGreatDoor.CronAll Go.Proofs.YtmnjmhlodbifjaaGreatDoor.RelFit
set_option linter.unusedVariables false
attribute [local go_sem ↓] Go.wp_at_zero Go.wp_at_succ
def Roads (m s : Array Value) (ts tn : Int) (r : Zone.Raw) (co cd cw ci : Nat) : Prop := ∃ (x : Int) (q : Bool),
  (∀ w, r.At w → Calls Tryz.prog 25 #[.agg m, .agg #[.int .i64 ts, .int .i64 tn], .agg #[.slice r.ao r.no co, .slice r.ad r.nd cd, .slice r.aw r.nw cw, .slice r.ai r.ni ci]] w fun e w' => e = .returned (.tuple #[.agg #[.int .i64 x, .int .i64 0], .bool q]) ∧ Below w.heap.size w w') ∧
  (∀ w, r.At w → Calls Tryz.prog 15 #[.agg s, .agg #[.int .i64 ts, .int .i64 tn], .agg #[.slice r.ao r.no co, .slice r.ad r.nd cd, .slice r.aw r.nw cw, .slice r.ai r.ni ci]] w fun e w' => e = .returned (.tuple #[.agg #[.int .i64 x, .int .i64 0], .bool q]) ∧ Below w.heap.size w w')
theorem roads_sets (LL : List (List UInt8)) (u : Bool) (ts tn : Int) (r : Zone.Raw) (co cd cw ci : Nat) (hok : r.Ok) (hcalm : SpecNext.Calm r) (hg : (-62135596800 ≤ ts ∧ ts ≤ 253402300799) ∧ 0 ≤ tn ∧ tn < 1000000000) :
    Roads (meanArr false 0 (fldArr (stL LL 6) (fLs LL 6)) u) (setsL (numsOf LL 6)) ts tn r co cd cw ci := by
  obtain ⟨⟨s0, s1⟩, n0, n1⟩ := hg
  obtain ⟨h0, h1, h2, h3, h4, h5⟩ := nums_at LL
  have hu := nums_u6 (stL LL 6) (fLs LL 6)
  have hfit := fit_nums (stL LL 6) (fLs LL 6) (Zone2.Raw.off r)
  rw [← h0, ← h1, ← h2, ← h3, ← h4, ← h5] at hu hfit
  clear h0 h1 h2 h3 h4 h5
  generalize numsOf LL 6 = l at hu hfit ⊢
  obtain ⟨o, ho⟩ := Ask.isNext_ex (S := NextC.sched (l.getD 0 0) (l.getD 1 0) (l.getD 2 0) (l.getD 3 0) (l.getD 4 0) (l.getD 5 0)) hcalm.pl (ts + 1) (Cal.yOf (Off.day (Zone2.Raw.off r) (ts + 1)) + 5) (by omega)
  have hask := Ask.asked hcalm.pl s0 s1 ((hcalm.pl (ts + 1) (ts + 1) (by omega)).m60 _ (Int.le_refl _) (Int.le_refl _)) ho
  obtain ⟨x, hop⟩ : ∃ x, NextI.ansV o = .tuple #[.agg #[.int .i64 x, .int .i64 0], .bool o.isSome] := by
    cases o with
    | none => exact ⟨0, rfl⟩
    | some x => exact ⟨x, rfl⟩
  refine ⟨x, o.isSome, fun w hw => After.after_sets _ _ _ _ _ _ _ _ _ _ _ _ _ _ _ _ _ _ _ _ w fun w1 hb => ?_, fun w hw => ?_⟩
  · refine (SpecNext.next_any r co cd cw ci _ _ (NextC.sched (l.getD 0 0) (l.getD 1 0) (l.getD 2 0) (l.getD 3 0) (l.getD 4 0) (l.getD 5 0)) ts tn _ w1 (hw.below hb) hok hcalm hfit s0 (by omega) rfl).mono ?_
    rintro e w' ⟨⟨o2, h2, rfl⟩, hb2⟩
    exact ⟨by rw [h2.uniq ho, hop], hb2⟩
  · unfold setsL setsS
    refine (NextJ.next_any r co cd cw ci 0 _ _ _ _ _ _ ts tn _ o w hw hok hu n0 n1 hask).mono ?_
    rintro e w' ⟨rfl, hb⟩
    exact ⟨by rw [hop], hb⟩
theorem roads_every (d : Int) (hd : RelFit.Delay d) (u : Bool) (ts tn : Int) (r : Zone.Raw) (co cd cw ci : Nat) (hok : r.Ok) (hg : (-62135596800 ≤ ts ∧ ts ≤ 253402300799) ∧ 0 ≤ tn ∧ tn < 1000000000) :
    Roads (meanArr true d noFields u) (everyS d) ts tn r co cd cw ci := by
  obtain ⟨⟨s0, s1⟩, n0, n1⟩ := hg
  obtain ⟨q, hq, q0, q1⟩ := hd
  exact ⟨ts + q, true, fun w hw => After.after_every _ _ _ _ _ _ _ _ _ _ _ _ d q u ts tn w hq q0 q1 s0 s1, fun w hw => Delay.nextE_any r co cd cw ci d q ts tn w hw hok hq n0 n1 q0 q1 s0 s1⟩
theorem fit_fine {m : MV} {sch : Array Value} {ok : Bool} (h : Fit2 (some (some m)) sch ok) : ok = true ∧ ((∃ LL, m = .sets LL ∧ sch = setsL (numsOf LL 6)) ∨ (∃ d, m = .every d ∧ sch = everyS d)) := by
  rcases h with ⟨_, h⟩ | ⟨h1, _, h⟩
  · exact absurd rfl (h m)
  · exact ⟨h1, h m rfl⟩
theorem fit_bad {sch : Array Value} {ok : Bool} (h : Fit2 none sch ok) : ok = false := by
  rcases h with ⟨h1, _⟩ | ⟨_, h, _⟩
  · exact h1
  · exact absurd rfl h
theorem infoZone : (Tryz.prog.info? 43).map (·.size) = some 4 := by kernel_rfl
theorem zone_one (a0 a1 a2 a3 : Option Addr) (n0 n1 n2 n3 c0 c1 c2 c3 : Nat) : (#[.slice a0 n0 c0, .slice a1 n1 c1, .slice a2 n2 c2, .slice a3 n3 c3] : Array Value).all (·.oneCell') = true := by simp [Value.oneCell']
set_option maxHeartbeats 8000000 in
set_option maxRecDepth 100000 in
theorem walk (o : Int) (s : ByteArray) (ts tn mn : Int) (w : World) (hsm : s.size ≤ maxLen) (hv : Sents w) :
    Calls Tryz.prog 6 #[.int .i64 o, .string s, .agg #[.int .i64 ts, .int .i64 tn], .int .i64 mn] w fun e w' => e = .returned (.bool true) ∧ Below w.heap.size w w' := by
  unfold maxLen at hsm
  have HO := Lib.hid (fun w => options_b o w)
  have HGD := Lib.hid (fun w => Case.good_b ts tn w)
  go_enter Tryz.func6, Tryz.ntmps6
  go_upto_region 1 with fail
  refine name_world fun W hW => ?_
  have HWB : Hid (Below w.heap.size w W) := Lib.hid (by rw [hW]; exact (Below.refl _ _).alloc (Nat.le_refl _) _)
  have HWI : Hid (Blk W w.heap.size #[.int .i64 ts, .int .i64 tn]) := Lib.hid (by rw [hW]; exact Blk.new _ _ _)
  clear hW
  by_cases hs : s.size ≤ 2147483647
  case neg =>
    have hsi : (2147483647 : Int) < (s.size : Int) := by omega
    go_wp2
    go_ret
    exact ⟨rfl, HWB.out⟩
  case pos =>
  have hsi : ¬ (2147483647 : Int) < (s.size : Int) := by omega
  cases hob : optB o with
  | false =>
    rw [hob] at HO
    go_wp2_with (go_at_call 8; refine (HO.out _).mono ?_; rintro e w' ⟨rfl, rfl⟩)
    go_ret
    exact ⟨rfl, HWB.out⟩
  | true =>
    rw [hob] at HO
    obtain ⟨n, rfl, hn, h2⟩ := optB_facts hob
    clear hob
    by_cases hs6 : s.size ≤ 65536
    case neg =>
      have hs6i : (65536 : Int) < (s.size : Int) := by omega
      go_wp2_with (go_at_call 8; refine (HO.out _).mono ?_; rintro e w' ⟨rfl, rfl⟩)
      go_ret
      exact ⟨rfl, HWB.out⟩
    case pos =>
    have hs6i : ¬ (65536 : Int) < (s.size : Int) := by omega
    have HNA := Lib.hid (fun w => noAnswer_any s w hs6)
    cases hna : noAnswer s.data.toList with
    | true =>
      rw [hna] at HNA
      go_wp2_with (first
        | (go_at_call 8; refine (HO.out _).mono ?_; rintro e w' ⟨rfl, rfl⟩)
        | (go_at_call 20; refine (HNA.out _).mono ?_; rintro e w1 ⟨rfl, hb1⟩; have HB1 := Lib.hid (HWB.out.trans (hb1.mono HWB.out.size)); clear hb1))
      go_ret
      exact ⟨rfl, HB1.out⟩
    | false =>
      rw [hna] at HNA
      cases hgd : Case.goodB ts tn with
      | false =>
        rw [hgd] at HGD
        go_wp2_with (first
          | (go_at_call 8; refine (HO.out _).mono ?_; rintro e w' ⟨rfl, rfl⟩)
          | (go_at_call 20; refine (HNA.out _).mono ?_; rintro e w1 ⟨rfl, hb1⟩; have i0 := (HWI.out.after hb1).cell (j := 0) rfl; have i1 := (HWI.out.after hb1).cell (j := 1) rfl; have HB1 := Lib.hid (HWB.out.trans (hb1.mono HWB.out.size)); clear hb1)
          | (go_at_call 12; refine (HGD.out _).mono ?_; rintro e w2 ⟨rfl, hb2⟩; have HB2 := Lib.hid (HB1.out.trans (hb2.mono HB1.out.size)); clear hb2))
        go_ret
        exact ⟨rfl, HB2.out⟩
      | true =>
        rw [hgd] at HGD
        have HG := Lib.hid (Case.goodB_facts hgd)
        clear hgd
        by_cases hm : -1440 ≤ mn ∧ mn ≤ 1440
        case neg =>
          have hm2 : mn < -1440 ∨ 1440 < mn := by omega
          rcases hm2 with hm2 | hm2
          all_goals
            go_wp2_with (first
              | (go_at_call 8; refine (HO.out _).mono ?_; rintro e w' ⟨rfl, rfl⟩)
              | (go_at_call 20; refine (HNA.out _).mono ?_; rintro e w1 ⟨rfl, hb1⟩; have i0 := (HWI.out.after hb1).cell (j := 0) rfl; have i1 := (HWI.out.after hb1).cell (j := 1) rfl; have HB1 := Lib.hid (HWB.out.trans (hb1.mono HWB.out.size)); clear hb1)
              | (go_at_call 12; refine (HGD.out _).mono ?_; rintro e w2 ⟨rfl, hb2⟩; have HB2 := Lib.hid (HB1.out.trans (hb2.mono HB1.out.size)); clear hb2))
            go_ret
            exact ⟨by simp <;> omega, HB2.out⟩
        case pos =>
        obtain ⟨hm0, hm1⟩ := hm
        have hm2 : ¬ mn < -1440 := by omega
        have hm3 : ¬ 1440 < mn := by omega
        have HSP := Lib.hid (fun w => parse_any n s w hn hs6)
        have HZN := Lib.hid (fun w1 (hb : Below w.heap.size w w1) => cronAll_any n s w1 hn h2 hs6 hna (hv.below hb))
        have HDL := Lib.hid (fun d (h : mean (n : Int) s.data.toList = some (some (.every d))) => mean_every h)
        obtain ⟨mr, hmr⟩ : ∃ mr, mean (n : Int) s.data.toList = mr := ⟨_, rfl⟩
        rw [hmr] at HSP HZN HDL
        clear hna hmr h2 hv
        go_upto_region 6 with (first
          | (go_at_call 8; refine (HO.out _).mono ?_; rintro e w' ⟨rfl, rfl⟩)
          | (go_at_call 20; refine (HNA.out _).mono ?_; rintro e w1 ⟨rfl, hb1⟩; have HI1 := Lib.hid (HWI.out.after hb1); have i0 := HI1.out.cell (j := 0) rfl; have i1 := HI1.out.cell (j := 1) rfl; have HB1 := Lib.hid (HWB.out.trans (hb1.mono HWB.out.size)); clear hb1)
          | (go_at_call 12; refine (HGD.out _).mono ?_; rintro e w2 ⟨rfl, hb2⟩; have HI2 := Lib.hid (HI1.out.after hb2); have HB2 := Lib.hid (HB1.out.trans (hb2.mono HB1.out.size)); clear hb2 i0 i1)
          | (go_at_call 21; refine (HSP.out _).mono ?_; rintro e w3 ⟨he, hb3⟩; obtain ⟨ev, d, cs, u, v, rfl, hcs, hon, hv, hv0, hv1⟩ := he; have HI3 := Lib.hid (HI2.out.after hb3); have HB3 := Lib.hid (HB2.out.trans (hb3.mono HB2.out.size)); have HN3 := Lib.hid (Blk.new w3 (meanArr false 0 noFields false) 59); have HV0 := Lib.hid hv0; have HV1 := Lib.hid hv1; clear hb3 hv0 hv1)
          | (with_reducible refine wpList_alloc_mean rfl rfl ?_)
          | (with_reducible refine wpList_store_mean rfl (.tmp 9) (.tmp 50) rfl w3.heap.size _ (meanArr ev d cs u) mean0 (meanArr_size _ _ _ _ hcs) (meanArr_one _ _ _ _ hon) rfl rfl HN3.out ?_))
        refine name_world fun X5 hX => ?_
        have hlt3 := HI3.out.lt
        have HI5 : Hid (Blk X5 w.heap.size #[.int .i64 ts, .int .i64 tn]) := Lib.hid (by rw [hX]; exact blk_else (HI3.out.alloc _) _ (by omega))
        have HM5 : Hid (Blk X5 w3.heap.size (meanArr ev d cs u)) := Lib.hid (by rw [hX]; exact blk_row HN3.out _)
        have HB5 : Hid (Below w.heap.size w X5) := Lib.hid (by rw [hX]; exact below_row (HB3.out.alloc HB3.out.size _) HB3.out.size _)
        have hb35 : w3.heap.size < X5.heap.size := HM5.out.lt
        clear hX HN3
        go_upto_region 7 with (first
          | (go_at_call 10; refine (HZN.out _ HB5.out).mono ?_; rintro e w6 ⟨he, hb6⟩; obtain ⟨ev', d', x0, x1, x2, x3, x4, x5, ok, rfl, hfit⟩ := he; have HFIT := Lib.hid hfit; have HI6 := Lib.hid (HI5.out.after hb6); have HM6 := Lib.hid (HM5.out.after hb6); have HB6 := Lib.hid (HB5.out.trans (hb6.mono HB5.out.size)); have hb56 : X5.heap.size ≤ w6.heap.size := hb6.size; have HN6 : Hid (Blk (w6.alloc (.cells zeroS 28)) w6.heap.size zeroS) := Lib.hid (Blk.new w6 zeroS 28); clear hb6 hfit)
          | (refine wpList_store_blk rfl 28 (.tmp 11) (.tmp 56) rfl w6.heap.size zeroS (schedA ev' d' x0 x1 x2 x3 x4 x5) infoSched rfl (schedA_one _ _ _ _ _ _ _ _) (by rfl) (by rfl) HN6.out ?_))
        refine name_world fun X7 hX => ?_
        have hlt6 := HI6.out.lt
        have HI7 : Hid (Blk X7 w.heap.size #[.int .i64 ts, .int .i64 tn]) := Lib.hid (by rw [hX]; exact blk_else (HI6.out.alloc _) _ (by omega))
        have HM7 : Hid (Blk X7 w3.heap.size (meanArr ev d cs u)) := Lib.hid (by rw [hX]; exact blk_else (HM6.out.alloc _) _ (by omega))
        have HS7 : Hid (Blk X7 w6.heap.size (schedA ev' d' x0 x1 x2 x3 x4 x5)) := Lib.hid (by rw [hX]; exact blk_row HN6.out _)
        have HB7 : Hid (Below w.heap.size w X7) := Lib.hid (by rw [hX]; exact below_row (HB6.out.alloc HB6.out.size _) HB6.out.size _)
        clear hX HN6
        have hv3 : v = 0 ∨ v = 1 ∨ v = 2 := by omega
        rcases hv3 with rfl | rfl | rfl
        · as_aux_lemma =>
          obtain rfl := HV0.out rfl
          obtain rfl := fit_bad HFIT.out
          go_wp2
          go_ret
          exact ⟨rfl, HB7.out⟩
        · as_aux_lemma =>
          have hroads : ok = true ∧ ∀ (r : Zone.Raw) (co cd cw ci : Nat), r.Ok → SpecNext.Calm r → Roads (meanArr ev d cs u) (schedA ev' d' x0 x1 x2 x3 x4 x5) ts tn r co cd cw ci := by
            rcases HV1.out rfl with ⟨LL, h1, rfl, rfl, rfl, -⟩ | ⟨x, h1, rfl, rfl, rfl, -⟩
            · have hf := HFIT.out
              rw [h1] at hf
              obtain ⟨hok, hf⟩ := fit_fine hf
              rcases hf with ⟨LL2, h3, h4⟩ | ⟨d2, h3, _⟩
              · cases h3
                refine ⟨hok, fun r co cd cw ci h5 h6 => ?_⟩
                rw [h4]
                exact roads_sets LL u ts tn r co cd cw ci h5 h6 HG.out
              · cases h3
            · have hf := HFIT.out
              rw [h1] at hf
              obtain ⟨hok, hf⟩ := fit_fine hf
              rcases hf with ⟨LL2, h3, _⟩ | ⟨d2, h3, h4⟩
              · cases h3
              · cases h3
                refine ⟨hok, fun r co cd cw ci h5 h6 => ?_⟩
                rw [h4]
                exact roads_every _ (HDL.out _ h1) u ts tn r co cd cw ci h5 HG.out
          obtain ⟨rfl, hroads⟩ := hroads
          have HR := Lib.hid hroads
          have HFX := Lib.hid (fun w => Fixed.fixed_any (60 * mn) w (by omega) (by omega))
          have HMS := Lib.hid (meanArr_size ev d cs u hcs)
          obtain ⟨A0, hA0⟩ : ∃ A0, schedA ev' d' x0 x1 x2 x3 x4 x5 = A0 := ⟨_, rfl⟩
          obtain ⟨M0, hM0⟩ : ∃ M0, meanArr ev d cs u = M0 := ⟨_, rfl⟩
          have hA8 : A0.size = 8 := by rw [← hA0]; rfl
          rw [hA0] at HR HS7
          rw [hM0] at HR HM7 HMS
          have HA8 := Lib.hid hA8
          clear hroads HV0 HV1 HFIT HDL hA0 hM0 HSP HZN HI6 HM6 HI5 HM5 hA8
          go_upto_region 10 with (first
            | (go_at_call 24; refine (HFX.out _).mono ?_; rintro e w8 ⟨⟨F, rfl, hat, hfx⟩, hb8⟩; have HAT := Lib.hid hat; have HFO := Lib.hid hfx; have HI8 := Lib.hid (HI7.out.after hb8); have HM8 := Lib.hid (HM7.out.after hb8); have HS8 := Lib.hid (HS7.out.after hb8); have HB8 := Lib.hid (HB7.out.trans (hb8.mono HB7.out.size)); have hb78 : X7.heap.size ≤ w8.heap.size := hb8.size; have HN8 : Hid (Blk (w8.alloc (.cells #[.slice none 0 0, .slice none 0 0, .slice none 0 0, .slice none 0 0] 43)) w8.heap.size #[.slice none 0 0, .slice none 0 0, .slice none 0 0, .slice none 0 0]) := Lib.hid (Blk.new w8 _ 43); clear hb8 hat hfx)
            | (refine wpList_store_blk rfl 43 (.tmp 13) (.tmp 68) rfl w8.heap.size #[.slice none 0 0, .slice none 0 0, .slice none 0 0, .slice none 0 0] #[.slice F.ao F.no 1, .slice F.ad F.nd 1, .slice F.aw F.nw 1, .slice F.ai F.ni 1] infoZone rfl (zone_one _ _ _ _ _ _ _ _ _ _ _ _) (by rfl) (by rfl) HN8.out ?_))
          refine name_world fun X9 hX => ?_
          have hbX9 : Below w8.heap.size w8 X9 := by rw [hX]; exact below_row ((Below.refl _ _).alloc (Nat.le_refl _) _) (Nat.le_refl _) _
          have HI9 : Hid (Blk X9 w.heap.size #[.int .i64 ts, .int .i64 tn]) := Lib.hid (HI8.out.after hbX9)
          have HM9 : Hid (Blk X9 w3.heap.size M0) := Lib.hid (HM8.out.after hbX9)
          have HS9 : Hid (Blk X9 w6.heap.size A0) := Lib.hid (HS8.out.after hbX9)
          have HZ9 : Hid (Blk X9 w8.heap.size #[.slice F.ao F.no 1, .slice F.ad F.nd 1, .slice F.aw F.nw 1, .slice F.ai F.ni 1]) := Lib.hid (by rw [hX]; exact blk_row HN8.out _)
          have HB9 : Hid (Below w.heap.size w X9) := Lib.hid (HB8.out.trans (hbX9.mono HB8.out.size))
          have HAT9 : Hid (F.At X9) := Lib.hid (HAT.out.below hbX9)
          have hok := HFO.out.ok (o := 60 * mn) (by omega) (by omega)
          have hcalm := HFO.out.calm (o := 60 * mn) (by omega) (by omega) (by omega)
          obtain ⟨x, q, hra, hrn⟩ := HR.out F 1 1 1 1 hok hcalm
          have HRA := Lib.hid hra
          have HRN := Lib.hid hrn
          have i0 := HI9.out.cell (j := 0) rfl
          have i1 := HI9.out.cell (j := 1) rfl
          have z0 := HZ9.out.cell (j := 0) rfl
          have z1 := HZ9.out.cell (j := 1) rfl
          have z2 := HZ9.out.cell (j := 2) rfl
          have z3 := HZ9.out.cell (j := 3) rfl
          clear hX HN8 hok hcalm hra hrn HR HI8 HM8 HS8 HAT HFO hbX9
          go_upto_region 11 with (first
            | (with_reducible refine wpList_load_mean rfl (.tmp 9) rfl w3.heap.size M0 HMS.out rfl HM9.out ?_)
            | (go_at_call 25; refine (HRA.out _ HAT9.out).mono ?_; rintro e w10 ⟨rfl, hb10⟩; have HI10 := Lib.hid (HI9.out.after hb10); have HS10 := Lib.hid (HS9.out.after hb10); have HZ10 := Lib.hid (HZ9.out.after hb10); have HB10 := Lib.hid (HB9.out.trans (hb10.mono HB9.out.size)); have HAT10 := Lib.hid (HAT9.out.below hb10); have HN10 : Hid (Blk (w10.alloc (.cells #[.int .i64 0, .int .i64 0] 34)) w10.heap.size #[.int .i64 0, .int .i64 0]) := Lib.hid (Blk.new w10 _ 34); clear hb10 i0 i1 z0 z1 z2 z3)
            | (refine wpList_store_blk rfl 34 (.tmp 14) (.tmp 74) rfl w10.heap.size #[.int .i64 0, .int .i64 0] #[.int .i64 x, .int .i64 0] After.infoInst rfl (After.inst_one _ _) (by rfl) (by rfl) HN10.out ?_))
          refine name_world fun Y1 hY => ?_
          have hbY : Below w10.heap.size w10 Y1 := by rw [hY]; exact below_row ((Below.refl _ _).alloc (Nat.le_refl _) _) (Nat.le_refl _) _
          have HIa : Hid (Blk Y1 w.heap.size #[.int .i64 ts, .int .i64 tn]) := Lib.hid (HI10.out.after hbY)
          have HSa : Hid (Blk Y1 w6.heap.size A0) := Lib.hid (HS10.out.after hbY)
          have HZa : Hid (Blk Y1 w8.heap.size #[.slice F.ao F.no 1, .slice F.ad F.nd 1, .slice F.aw F.nw 1, .slice F.ai F.ni 1]) := Lib.hid (HZ10.out.after hbY)
          have HBa : Hid (Below w.heap.size w Y1) := Lib.hid (HB10.out.trans (hbY.mono HB10.out.size))
          have HATa : Hid (F.At Y1) := Lib.hid (HAT10.out.below hbY)
          have HXa : Hid (Blk Y1 w10.heap.size #[.int .i64 x, .int .i64 0]) := Lib.hid (by rw [hY]; exact blk_row HN10.out _)
          have i0 := HIa.out.cell (j := 0) rfl
          have i1 := HIa.out.cell (j := 1) rfl
          have z0 := HZa.out.cell (j := 0) rfl
          have z1 := HZa.out.cell (j := 1) rfl
          have z2 := HZa.out.cell (j := 2) rfl
          have z3 := HZa.out.cell (j := 3) rfl
          clear hY HN10 HI10 HS10 HZ10 HAT10 hbY HM9 HI9 HS9 HZ9
          go_upto_region 12 with (first
            | (refine wpList_load_blk rfl 28 (.tmp 11) rfl w6.heap.size A0 Tryz.underlying28 rfl (by rw [HA8.out]; exact infoSched) (by rfl) HSa.out ?_)
            | (go_at_call 15; refine (HRN.out _ HATa.out).mono ?_; rintro e w11 ⟨rfl, hb11⟩; have HX11 := Lib.hid (HXa.out.after hb11); have HB11 := Lib.hid (HBa.out.trans (hb11.mono HBa.out.size)); have HN11 : Hid (Blk (w11.alloc (.cells #[.int .i64 0, .int .i64 0] 34)) w11.heap.size #[.int .i64 0, .int .i64 0]) := Lib.hid (Blk.new w11 _ 34); clear hb11 i0 i1 z0 z1 z2 z3)
            | (refine wpList_store_blk rfl 34 (.tmp 16) (.tmp 81) rfl w11.heap.size #[.int .i64 0, .int .i64 0] #[.int .i64 x, .int .i64 0] After.infoInst rfl (After.inst_one _ _) (by rfl) (by rfl) HN11.out ?_))
          refine name_world fun Y2 hY => ?_
          have HXb : Hid (Blk Y2 w10.heap.size #[.int .i64 x, .int .i64 0]) := Lib.hid (by rw [hY]; exact blk_else (HX11.out.alloc _) _ (by have := HX11.out.lt; omega))
          have HXc : Hid (Blk Y2 w11.heap.size #[.int .i64 x, .int .i64 0]) := Lib.hid (by rw [hY]; exact blk_row HN11.out _)
          have HBb : Hid (Below w.heap.size w Y2) := Lib.hid (by rw [hY]; exact below_row (HB11.out.alloc HB11.out.size _) HB11.out.size _)
          have k0 := HXb.out.cell (j := 0) rfl
          have k1 := HXb.out.cell (j := 1) rfl
          have l0 := HXc.out.cell (j := 0) rfl
          have l1 := HXc.out.cell (j := 1) rfl
          have hqq : ((q == q) : Bool) = true := by cases q <;> rfl
          clear hY HN11 HXb HXc HX11
          go_wp2
          go_ret
          exact ⟨by simp, HBb.out⟩
        · as_aux_lemma =>
          go_wp2
          go_ret
          exact ⟨rfl, HB7.out⟩
end Go.Proofs.YtmnjmhlodbifjaaGreatDoor.fnCronTextNext
