/- sort.pdqsort over byTime: the plain 'pdq'. Conditions: indices within the row; what lies ahead of the range is not above it. (The library's walk of the sort's pdqsort over an interface, turned to a Less that lays blocks.) -/
import Derived.Test.YtjgamgmghelhgaaSort1
import Derived.Test.YtjgamgmghelhgaaSort2
import Derived.Test.YtjgamgmghelhgaaSort3
import Derived.Test.YtjgamgmghelhgaaSort4
import Derived.Test.YtjgamgmghelhgaaSort6
import Derived.Sort.Walk13
import Derived.Deep.DeepCutAuto
namespace Go.Proofs.Ytjgamgmghelhgaa.Sort7
open Go Go.RowKit Go.Sort Go.Proofs.Ytjgamgmghelhgaa.SortS Go.Proofs.Ytjgamgmghelhgaa.SortK
set_option linter.unusedVariables false

section
variable {α : Type} [Inhabited α] {enc : α → Value} {lt : α → α → Bool} {blk n : Nat} {rv : Value} {w0 : World}
theorem hint_two {h : Hint} (e : Sort4.hintCode h = 2) : h = .decreasing := by cases h <;> simp [Sort4.hintCode] at e ⊢

set_option maxHeartbeats 12800000 in
set_option maxRecDepth 1000000 in
theorem pdq_any (cx : Cx enc lt blk rv n w0) (hO : SWO lt) : ∀ (N a b limit : Nat) (d : Array α), b - a < N → a ≤ b → b ≤ n → limit < 4611686018427387904 → d.size = n → Sort.Below lt a b d →
    Does enc blk n w0 17 #[.iface 56 rv, .int .i64 (a : Int), .int .i64 (b : Int), .int .i64 (limit : Int)] d (pdq lt d a b limit true true) (.tuple #[]) := by
  have hbig := cx.big
  have hblk := cx.blk
  have hmL := meth_less
  have CX := Lib.hid cx
  clear cx
  intro N
  induction N with
  | zero => intro _ _ _ _ h; exact absurd h (Nat.not_lt_zero _)
  | succ N ih =>
    intro a b limit d hN hab hb hlimit hd hBel0 W k0
    have IH := Lib.hid ih
    clear ih
    go_enter Try.func17, Try.ntmps17
    go_wp2
    go_loopg [1, 2, 3, 8, 9] (b - a) (fun k s1 s2 s3 s8 s9 wr => ∃ (a' b' lim : Nat) (wb wp : Bool) (dk : Array α), s1 = .int .i64 a' ∧ s2 = .int .i64 b' ∧ s3 = .int .i64 lim ∧ s8 = .bool wb ∧ s9 = .bool wp ∧
      a' ≤ b' ∧ b' ≤ n ∧ b' - a' ≤ k ∧ k ≤ b - a ∧ lim ≤ limit ∧ Hid (dk.size = n ∧ Sort.Below lt a' b' dk ∧ K enc blk n w0 W wr dk ∧ pdq lt dk a' b' lim wb wp = pdq lt d a b limit true true))
    case atStart => exact ⟨a, b, limit, true, true, d, rfl, rfl, rfl, rfl, rfl, hab, hb, Nat.le_refl _, Nat.le_refl _, Nat.le_refl _, Lib.hid ⟨hd, hBel0, k0, rfl⟩⟩
    case round =>
      obtain ⟨a', b', lim, wb, wp, dk, rfl, rfl, rfl, rfl, rfl, hab', hb', hk, hkN, hlim, HS⟩ := hrel
      have HK := Lib.hid HS.out.2.2.1
      have A := Lib.hid HS.out.2.2.2
      by_cases h12 : b' - a' ≤ 12
      · have h12z : (b' : Int) - (a' : Int) ≤ 12 := by omega
        have hc := HK.out.does (Sort1.ins_any CX.out dk a' b' hab' hb')
        go_wp2_with (go_at_call 21; refine hc.mono ?_; rintro e w1 ⟨rfl, hw1⟩)
        (try simp only [Exit.inBlock, Exit.then]); refine bodyPost_ret (results_none rfl _ _ _) rfl ?_
        refine ⟨rfl, ?_⟩
        rw [← A.out, pdq_small h12]
        exact hw1
      · have h12z : ¬ ((b' : Int) - (a' : Int) ≤ 12) := by omega
        by_cases hl0 : lim = 0
        · subst hl0
          have hc := HK.out.does (Sort1.heap_any CX.out dk a' b' hab' hb')
          go_wp2_with (go_at_call 22; refine hc.mono ?_; rintro e w1 ⟨rfl, hw1⟩)
          (try simp only [Exit.inBlock, Exit.then]); refine bodyPost_ret (results_none rfl _ _ _) rfl ?_
          refine ⟨rfl, ?_⟩
          rw [← A.out, pdq_heap h12 rfl]
          exact hw1
        · have hl0z : ¬ ((lim : Int) = 0) := by omega
          obtain ⟨s1, B1, hc1, s2, B2, hpv, s3, B3⟩ := rd_facts (lt := lt) (limit := lim) (wb := wb) (wp := wp) hO partialInsertionSort_holds reverseRange_holds (show a' < b' by omega) (show b' ≤ dk.size by rw [HS.out.1]; exact hb') HS.out.2.1
          have HB3 := Lib.hid (And.intro (s3.trans HS.out.1) B3)
          clear s1 B1 s2 B2 s3 B3
          go_upto_if 35 with fail
          go_cut [3] from 19 (fun s3 wc => s3 = .int .i64 (rd lt dk a' b' lim wb wp).lim ∧ Hid (K enc blk n w0 W wc (rd lt dk a' b' lim wb wp).d1))
          case first =>
            cases wb
            · have hbk := Sort6.break_any CX.out dk a' (b' - a') (by omega)
              rw [show a' + (b' - a') = b' by omega] at hbk
              have hc := HK.out.does hbk
              clear hbk
              go_wp2_with (go_at_call 23; refine hc.mono ?_; rintro e w1 ⟨rfl, hw1⟩)
              go_meet
              case rel =>
                refine ⟨?_, Lib.hid hw1⟩
                show Value.int .i64 ((lim : Int) - 1) = Value.int .i64 ((lim - 1 : Nat) : Int)
                congr 1
                omega
            · go_wp2_with fail
              go_meet
              case rel => exact ⟨rfl, HK⟩
          case rest =>
            obtain ⟨rfl, HK1⟩ := hcut
            have hc17 := Sort4.pivot_any CX.out HK1.out.here a' b' (by omega) hb'
            rw [show choosePivot lt (rd lt dk a' b' lim wb wp).d1 a' b' = (rd lt dk a' b' lim wb wp).c from rfl] at hc17
            go_upto_if 50 with (go_at_call 24; refine hc17.mono ?_; rintro e w2 ⟨rfl, hw2, hw2n⟩)
            have HK2 := Lib.hid (HK1.out.after hblk hw2)
            clear hc17 hw2
            go_cut [11, 12] from 19 (fun s11 s12 wc => s11 = .int .i64 (rd lt dk a' b' lim wb wp).pivot ∧ s12 = .int .i64 (Sort4.hintCode (rd lt dk a' b' lim wb wp).hint) ∧ Hid (K enc blk n w0 W wc (rd lt dk a' b' lim wb wp).d2))
            case first =>
              by_cases hh : (rd lt dk a' b' lim wb wp).c.2 = .decreasing
              · have hcode : Sort4.hintCode (rd lt dk a' b' lim wb wp).c.2 = 2 := by rw [hh]; rfl
                obtain ⟨e2, epv, eht⟩ := rd_dec hh
                have HE := Lib.hid (And.intro e2 (And.intro epv eht))
                clear e2 epv eht
                have hc18 := HK2.out.does (Sort1.rev_any CX.out (rd lt dk a' b' lim wb wp).d1 a' b' hab' hb')
                go_wp2_with (go_at_call 25; refine hc18.mono ?_; rintro e w3 ⟨rfl, hw3⟩)
                go_meet
                case rel =>
                  refine ⟨?_, by rw [HE.out.2.2]; rfl, Lib.hid (by rw [HE.out.1]; exact hw3)⟩
                  rw [HE.out.2.1]
                  congr 1
                  omega
              · have hcode : ¬ (Sort4.hintCode (rd lt dk a' b' lim wb wp).c.2 = 2) := fun h => hh (hint_two h)
                obtain ⟨e2, epv, eht⟩ := rd_not hh
                have HE := Lib.hid (And.intro e2 (And.intro epv eht))
                clear e2 epv eht
                go_wp2_with fail
                go_meet
                case rel => exact ⟨by rw [HE.out.2.1], by rw [HE.out.2.2], Lib.hid (by rw [HE.out.1]; exact HK2.out)⟩
            case rest =>
              obtain ⟨rfl, rfl, HK3⟩ := hcut
              go_upto_region 15 with fail
              go_cut [12, 68] from 19 (fun s12 s68 wx => s12 = .int .i64 (Sort4.hintCode (rd lt dk a' b' lim wb wp).hint) ∧ s68 = .bool (wb && wp && decide ((rd lt dk a' b' lim wb wp).hint = .increasing)) ∧ wx = wc)
              case first =>
                cases wb <;> cases wp <;> cases hh3 : (rd lt dk a' b' lim _ _).hint <;>
                  (have hcode3 := congrArg Sort4.hintCode hh3
                   simp only [Sort4.hintCode] at hcode3
                   go_wp2_with fail
                   go_meet
                   exact ⟨by simp [hh3, Sort4.hintCode], by simp [hh3, Sort4.hintCode], rfl⟩)
              case rest =>
                obtain ⟨rfl, rfl, rfl⟩ := hcut
                go_upto_if 68 with fail
                go_cut [] from 19 (fun wx => Hid ((rd lt dk a' b' lim wb wp).pi.2 = false ∧ K enc blk n w0 W wx (rd lt dk a' b' lim wb wp).pi.1))
                case first =>
                  cases h68 : (wb && wp && decide ((rd lt dk a' b' lim wb wp).hint = .increasing))
                  · have epi := Lib.hid (rd_pi_no h68)
                    go_wp2_with fail
                    go_meet
                    case rel => exact Lib.hid ⟨by rw [epi.out], by rw [epi.out]; exact HK3.out⟩
                  · have epi := Lib.hid (rd_pi_yes h68)
                    have hc19 := HK3.out.does (Sort3.pins_any CX.out (rd lt dk a' b' lim wb wp).d2 a' b' (by omega) hb')
                    rw [← epi.out] at hc19
                    cases hp : (rd lt dk a' b' lim wb wp).pi.2
                    · rw [hp] at hc19
                      have HP := Lib.hid hp
                      clear hp
                      go_wp2_with (go_at_call 26; refine hc19.mono ?_; rintro e w4 ⟨rfl, hw4⟩)
                      go_meet
                      exact Lib.hid ⟨HP.out, hw4⟩
                    · rw [hp] at hc19
                      have HP := Lib.hid hp
                      clear hp
                      go_wp2_with (go_at_call 26; refine hc19.mono ?_; rintro e w4 ⟨rfl, hw4⟩)
                      (try simp only [Exit.inBlock, Exit.then]); refine bodyPost_ret (results_none rfl _ _ _) rfl ?_
                      refine ⟨rfl, ?_⟩
                      rw [← A.out, pdq_done h12 hl0 HP.out]
                      exact hw4
                case rest =>
                  have HK5 := Lib.hid hcut.out.2
                  have HP2 := Lib.hid hcut.out.1
                  clear hcut
                  go_upto_region 17 with fail
                  go_cut [82] from 19 (fun s82 wx => s82 = .bool (decide (a' > 0) && !lt (rd lt dk a' b' lim wb wp).pi.1[a' - 1]! (rd lt dk a' b' lim wb wp).pi.1[(rd lt dk a' b' lim wb wp).pivot]!) ∧ Hid (K enc blk n w0 W wx (rd lt dk a' b' lim wb wp).pi.1))
                  case first =>
                    rcases Nat.eq_zero_or_pos a' with ha0 | ha0
                    · have ha0z : decide ((a' : Int) > 0) = false := decide_eq_false (by omega)
                      go_wp2_with fail
                      go_meet
                      case rel => exact ⟨by simp [ha0], HK5⟩
                    · have ha0z : (a' : Int) > 0 := by omega
                      have hl := HK5.out.less CX.out (a' - 1) (rd lt dk a' b' lim wb wp).pivot (by omega) (by omega)
                      rw [show ((a' - 1 : Nat) : Int) = (a' : Int) - 1 by omega] at hl
                      cases hlv : lt (rd lt dk a' b' lim wb wp).pi.1[a' - 1]! (rd lt dk a' b' lim wb wp).pi.1[(rd lt dk a' b' lim wb wp).pivot]! <;>
                        (rw [hlv] at hl
                         have HLV := Lib.hid hlv
                         clear hlv
                         go_wp2_with (go_at_call 56; refine hl.mono ?_; rintro e w' ⟨rfl, hw', _⟩)
                         go_meet
                         exact ⟨by simp [ha0, HLV.out], Lib.hid hw'⟩)
                  case rest =>
                    obtain ⟨rfl, HK6⟩ := hcut
                    cases h87 : (decide (a' > 0) && !lt (rd lt dk a' b' lim wb wp).pi.1[a' - 1]! (rd lt dk a' b' lim wb wp).pi.1[(rd lt dk a' b' lim wb wp).pivot]!)
                    · have H87 := Lib.hid h87
                      clear h87
                      obtain ⟨mid, ap, d4, hx⟩ : ∃ mid ap d4, partition lt (rd lt dk a' b' lim wb wp).pi.1 a' b' (rd lt dk a' b' lim wb wp).pivot = (mid, ap, d4) := ⟨(partition lt (rd lt dk a' b' lim wb wp).pi.1 a' b' (rd lt dk a' b' lim wb wp).pivot).1, (partition lt (rd lt dk a' b' lim wb wp).pi.1 a' b' (rd lt dk a' b' lim wb wp).pivot).2.1, (partition lt (rd lt dk a' b' lim wb wp).pi.1 a' b' (rd lt dk a' b' lim wb wp).pivot).2.2, rfl⟩
                      obtain ⟨r1, r2, r3, r4, r5, r6, r7⟩ := round_part hO (partition_holds lt) hpv.1 hpv.2 (show b' ≤ (rd lt dk a' b' lim wb wp).pi.1.size by rw [HB3.out.1]; exact hb') HB3.out.2 hx
                      have hc22 := HK6.out.does (Sort2.part_any CX.out (rd lt dk a' b' lim wb wp).pi.1 a' b' (rd lt dk a' b' lim wb wp).pivot hpv.1 hpv.2 hb')
                      rw [hx] at hc22
                      have HX := Lib.hid hx
                      have hs4 : d4.size = n := r3.trans HB3.out.1
                      have HR := Lib.hid (And.intro r3 (And.intro r4 (And.intro r5 (And.intro hs4 r6))))
                      have HR7 := Lib.hid r7
                      clear hx r3 r4 r5 r6 r7 hs4
                      go_upto_if 108 with (go_at_call 28; refine hc22.mono ?_; rintro e w7 ⟨rfl, hw7⟩)
                      have HK7 := Lib.hid hw7
                      clear hw7 hc22
                      by_cases h4 : mid - a' < b' - mid
                      · have h4z : (mid : Int) - (a' : Int) < (b' : Int) - (mid : Int) := by omega
                        have hih := HK7.out.does (IH.out a' mid (rd lt dk a' b' lim wb wp).lim d4 (by omega) (by omega) (by omega) (Nat.lt_of_le_of_lt (Nat.le_trans rd_lim_le hlim) hlimit) HR.out.2.2.2.1 HR.out.2.1)
                        obtain ⟨pL, sL⟩ := pdq_sorts lt hO d4 a' mid (rd lt dk a' b' lim wb wp).lim true true (by omega) (by rw [HR.out.2.2.2.1]; omega) HR.out.2.1
                        have HPL := Lib.hid pL
                        have HSL := Lib.hid sL
                        clear pL sL
                        go_wp2_with (go_at_call 17; refine hih.mono ?_; rintro e w8 ⟨rfl, hw8⟩)
                        go_roundg (b' - (mid + 1))
                        case measure => omega
                        case rel =>
                          refine ⟨mid + 1, b', (rd lt dk a' b' lim wb wp).lim, decide (mid - a' ≥ (b' - a') / 8), ap, pdq lt d4 a' mid (rd lt dk a' b' lim wb wp).lim true true, by simp, rfl, rfl, ?_, rfl, by omega, by omega, Nat.le_refl _, by omega, Nat.le_trans rd_lim_le hlim, Lib.hid ⟨hw8.len, (HR.out.2.2.2.2 _ HPL.out HSL.out).1, hw8, ?_⟩⟩
                          · exact congrArg Value.bool (eighth (by omega) (by omega))
                          · rw [← A.out, pdq_left h12 hl0 HP2.out H87.out (by rw [HX.out]; exact ⟨r1, r2⟩) (by rw [HX.out]; exact h4), HX.out]
                      · have h4z : ¬ ((mid : Int) - (a' : Int) < (b' : Int) - (mid : Int)) := by omega
                        have hih := HK7.out.does (IH.out (mid + 1) b' (rd lt dk a' b' lim wb wp).lim d4 (by omega) (by omega) (by omega) (Nat.lt_of_le_of_lt (Nat.le_trans rd_lim_le hlim) hlimit) HR.out.2.2.2.1 HR.out.2.2.1)
                        rw [show ((mid + 1 : Nat) : Int) = (mid : Int) + 1 by omega] at hih
                        obtain ⟨pL, sL⟩ := pdq_sorts lt hO d4 (mid + 1) b' (rd lt dk a' b' lim wb wp).lim true true (by omega) (by rw [HR.out.2.2.2.1]; omega) HR.out.2.2.1
                        have HPL := Lib.hid pL
                        have HSL := Lib.hid sL
                        clear pL sL
                        go_wp2_with (go_at_call 17; refine hih.mono ?_; rintro e w8 ⟨rfl, hw8⟩)
                        go_roundg (mid - a')
                        case measure => omega
                        case rel =>
                          refine ⟨a', mid, (rd lt dk a' b' lim wb wp).lim, decide (b' - mid ≥ (b' - a') / 8), ap, pdq lt d4 (mid + 1) b' (rd lt dk a' b' lim wb wp).lim true true, rfl, rfl, rfl, ?_, rfl, by omega, by omega, Nat.le_refl _, by omega, Nat.le_trans rd_lim_le hlim, Lib.hid ⟨hw8.len, (HR7.out _ HPL.out HSL.out).1, hw8, ?_⟩⟩
                          · exact congrArg Value.bool (eighth (by omega) (by omega))
                          · rw [← A.out, pdq_right h12 hl0 HP2.out H87.out (by rw [HX.out]; exact ⟨r1, r2⟩) (by rw [HX.out]; exact h4), HX.out]
                    · have h87' := h87
                      have H87 := Lib.hid h87
                      simp only [Bool.and_eq_true, decide_eq_true_eq, Bool.not_eq_true'] at h87'
                      obtain ⟨mid, d4, hx⟩ : ∃ mid d4, partitionEqual lt (rd lt dk a' b' lim wb wp).pi.1 a' b' (rd lt dk a' b' lim wb wp).pivot = (mid, d4) := ⟨(partitionEqual lt (rd lt dk a' b' lim wb wp).pi.1 a' b' (rd lt dk a' b' lim wb wp).pivot).1, (partitionEqual lt (rd lt dk a' b' lim wb wp).pi.1 a' b' (rd lt dk a' b' lim wb wp).pivot).2, rfl⟩
                      obtain ⟨r1, r2, r3, r4, _⟩ := round_eq hO (partitionEqual_holds lt) h87'.1 hpv.1 hpv.2 (show b' ≤ (rd lt dk a' b' lim wb wp).pi.1.size by rw [HB3.out.1]; exact hb') HB3.out.2 h87'.2 hx
                      have hc21 := HK6.out.does (Sort2.partEq_any CX.out (rd lt dk a' b' lim wb wp).pi.1 a' b' (rd lt dk a' b' lim wb wp).pivot hpv.1 hpv.2 hb')
                      rw [hx] at hc21
                      have HX := Lib.hid hx
                      have HR4 := Lib.hid r4
                      clear hx h87 h87' r3 r4
                      go_wp2_with (go_at_call 27; refine hc21.mono ?_; rintro e w7 ⟨rfl, hw7⟩)
                      go_roundg (b' - mid)
                      case measure => omega
                      case rel =>
                        exact ⟨mid, b', (rd lt dk a' b' lim wb wp).lim, wb, wp, d4, rfl, rfl, rfl, rfl, rfl, r2, hb', Nat.le_refl _, by omega, Nat.le_trans rd_lim_le hlim, Lib.hid ⟨hw7.len, HR4.out, hw7, by rw [← A.out, pdq_eq h12 hl0 HP2.out H87.out (by rw [HX.out]; exact ⟨r1, r2⟩), HX.out]⟩⟩
end

end Go.Proofs.Ytjgamgmghelhgaa.Sort7
