/- The reference's CronPlainZone, and that such a zone's clocks are plain. Conditions: a zone in order. -/
import Derived.Test.YtoekefbclkmchaaSpecNext
namespace Go.Proofs.Ytoekefbclkmchaa.PlainZone
open Go Go.RowKit Go.Proofs.Ytoekefbclkmchaa.Cal Go.Proofs.Ytoekefbclkmchaa.Off Go.Proofs.Ytoekefbclkmchaa.TimeNum Go.Proofs.Ytoekefbclkmchaa.SpecCal Go.Proofs.Ytoekefbclkmchaa.Lookup Go.Proofs.Ytoekefbclkmchaa.Zone Go.Proofs.Ytoekefbclkmchaa.Zone2 Go.Proofs.Ytoekefbclkmchaa.DayFits Go.Proofs.Ytoekefbclkmchaa.Change
set_option linter.unusedVariables false

/-- What is asked of the transition i. -/
def TrOk (r : Raw) (i : Nat) : Prop :=
  let W := r.wh i
  let p := r.o (r.ix (i - 1)).toNat
  let q := r.o (r.ix i).toNat
  (-62167596800 ≤ W ∧ W ≤ 253722300799) ∧ (2 ≤ i → 345600 ≤ W - r.wh (i - 1)) ∧ (W + p) % 3600 = 0 ∧ (W + q) % 3600 = 0 ∧ p - 3600 ≤ q ∧ (W + p) / 86400 = (W + q) / 86400 ∧ 3600 ≤ (W + p) % 86400 ∧ 3600 ≤ (W + q) % 86400
/-- A zone as the reference calls it plain. -/
def Pz (r : Raw) : Prop := (∀ k, k < r.no → r.o k % 60 = 0) ∧ ∀ i, 1 ≤ i → i < r.nw → TrOk r i
def PlainT (r : Raw) (w : World) (e : Ending) (w' : World) : Prop := ∃ g : Bool, e = .returned (.bool g) ∧ (g = true → Pz r) ∧ Below w.heap.size w w'
theorem drewNd {B : Nat} {a X : World} {n : Nat} (h : Below B a X) : Below B a (X.drewN n) := h.trans (below_drewN X n)

set_option maxHeartbeats 8000000 in
set_option maxRecDepth 100000 in
theorem plain_any (r : Raw) (co cd cw ci : Nat) (w : World) (h : r.At w) (hok : r.Ok) :
    Calls Try.prog 29 #[.agg #[.slice r.ao r.no co, .slice r.ad r.nd cd, .slice r.aw r.nw cw, .slice r.ai r.ni ci]] w (PlainT r w) := by
  obtain ⟨ao, ad, aw, ai, no, nd, nw, ni, o, d, wh, ix⟩ := r
  obtain ⟨ro, rd, rw', ri, -, -, -, -, bo, bw, bi⟩ := h
  rcases hok with ⟨z0, z1, z2, z3⟩ | ⟨hg, z1, z2, z3⟩
  · simp only at *
    subst z0; subst z1; subst z2; subst z3
    clear ro rd rw' ri bo bw bi
    go_enter Try.func29, Try.ntmps29
    go_wp2
    go_loop [12] (fun a => a = .int .i64 0) (fun _ => 0)
    case atStart => exact rfl
    case round =>
      obtain rfl := hrel
      go_wp2
      go_loop [5] (fun a => a = .int .i64 1) (fun _ => 0)
      case atStart => exact rfl
      case round =>
        obtain rfl := hrel
        go_wp2
        go_ret
        exact ⟨true, rfl, (fun _ => ⟨fun k hk => absurd hk (Nat.not_lt_zero k), fun i _ hi => absurd hi (Nat.not_lt_zero i)⟩), (Below.refl _ _).alloc (Nat.le_refl _) _⟩
  · simp only at *
    subst z1; subst z2
    have hn1 : 1 ≤ nd := hg.n1
    have hn2 : nd ≤ 64 := hg.n64
    have hm1 : 1 ≤ ni := hg.m1
    have hm2 : ni ≤ 4096 := hg.m4096
    obtain ⟨xo, rfl, -⟩ := ro 0 (by omega)
    obtain ⟨xw, rfl, -⟩ := rw' 0 (by omega)
    obtain ⟨xi, rfl, -⟩ := ri 0 (by omega)
    have hbw : Below w.heap.size w (w.alloc (.cells #[.slice (some xo) nd co, .slice ad nd cd, .slice (some xw) ni cw, .slice (some xi) ni ci] 29)) := (Below.refl _ _).alloc (Nat.le_refl _) _
    have HO := Lib.hid (ro.below hbw)
    have HW := Lib.hid (rw'.below hbw)
    have HI := Lib.hid (ri.below hbw)
    have HZ := Lib.hid z3
    have HG := Lib.hid hg
    have HOB : Hid (∀ k, k < nd → -86400 ≤ o k ∧ o k ≤ 86400) := Lib.hid hg.o1
    have HIX : Hid (∀ i, i < ni → ∃ q : Nat, ix i = q ∧ q < nd) := Lib.hid (fun i hi => ⟨(ix i).toNat, by have := z3 i hi; omega, hg.ixn i hi⟩)
    have HFM := Lib.hid (fun (a b : Int) w1 (h1 : -400000000000 ≤ a) (h2 : a ≤ 400000000000) (h3 : 0 < b) (h4 : b ≤ 100000) => floorMod_any a b w1 ⟨by omega, by omega⟩ h3 (by omega))
    have HFD := Lib.hid (fun (a : Int) w1 (h1 : -400000000000 ≤ a) (h2 : a ≤ 400000000000) => floorDiv_any a 86400 w1 ⟨by omega, by omega⟩ (by omega) (by omega))
    have HBW := Lib.hid bw
    clear ro rd rw' ri bo bw bi z3 hg
    go_enter Try.func29, Try.ntmps29
    go_wp2
    go_loop [12] (fun a => ∃ k : Nat, a = .int .i64 (k : Int) ∧ k ≤ nd ∧ Hid (∀ j, j < k → o j % 60 = 0)) (fun a => nd - (intOf a).toNat)
    case atStart => exact ⟨0, rfl, Nat.zero_le _, Lib.hid (fun j hj => absurd hj (Nat.not_lt_zero j))⟩
    case round =>
      obtain ⟨k, rfl, hk, HK⟩ := hrel
      by_cases hlt : k < nd
      · have hc := HO.out.cell hlt
        have hob := HOB.out k hlt
        by_cases h60 : o k % 60 = 0
        · have e1 : (o k).tmod 60 = 0 := Int.tmod_eq_zero_of_dvd (Int.dvd_of_emod_eq_zero h60)
          have e2 : ((o k).tmod 60 != 0) = false := by simpa using e1
          go_wp2
          refine ⟨⟨k + 1, by go_num, by omega, Lib.hid (fun j hj => by
            by_cases c : j < k
            · exact HK.out j c
            · obtain rfl : j = k := by omega
              exact h60)⟩, by simp [intOf]; omega⟩
        · have e1 : ¬ (o k).tmod 60 = 0 := fun h => h60 (Int.emod_eq_zero_of_dvd (Int.dvd_of_tmod_eq_zero h))
          have e2 : ((o k).tmod 60 != 0) = true := by simpa using e1
          go_wp2
          go_ret
          exact ⟨false, rfl, (fun h => by cases h), hbw⟩
      · obtain rfl : k = nd := by omega
        have hd : decide ((k : Int) < (k : Int)) = false := by simp
        have HK60 := Lib.hid HK.out
        go_wp2
        go_loopw [5] (fun a wr => ∃ i : Nat, a = .int .i64 (i : Int) ∧ 1 ≤ i ∧ i ≤ ni ∧ Hid (∀ j, 1 ≤ j → j < i → TrOk ⟨some xo, ad, some xw, some xi, k, k, ni, ni, o, d, wh, ix⟩ j) ∧ Hid (Below (w.alloc (.cells #[.slice (some xo) k co, .slice ad k cd, .slice (some xw) ni cw, .slice (some xi) ni ci] 29)).heap.size (w.alloc (.cells #[.slice (some xo) k co, .slice ad k cd, .slice (some xw) ni cw, .slice (some xi) ni ci] 29)) wr)) (fun a _ => ni - (intOf a).toNat)
        case atStart => exact ⟨1, rfl, by omega, by omega, Lib.hid (fun j h1 h2 => by omega), Lib.hid (Below.refl _ _)⟩
        case round =>
          obtain ⟨i, rfl, hi1, hi2, HT, HX⟩ := hrel
          obtain ⟨q0, q1, q2, q3⟩ := box4_after HX.out
          by_cases hlti : i < ni
          · have hcw := (HW.out.below HX.out).cell hlti
            have hwb := HBW.out i hlti
            obtain ⟨W, hW⟩ : ∃ W, wh i = W := ⟨_, rfl⟩
            have HWE := Lib.hid hW
            rw [hW] at hcw hwb
            clear hW
            by_cases s1 : W < -62167596800
            · go_wp2_with fail
              go_ret
              exact ⟨false, rfl, (fun h => by cases h), hbw.trans (Below.mono (B := (w.alloc (.cells #[.slice (some xo) k co, .slice ad k cd, .slice (some xw) ni cw, .slice (some xi) ni ci] 29)).heap.size) (by repeat (first | exact Below.refl _ _ | assumption | exact HX.out | refine Below.drew ?_ | refine drewNd ?_)) hbw.size)⟩
            by_cases s2 : 253722300799 < W
            · go_wp2_with fail
              go_ret
              exact ⟨false, rfl, (fun h => by cases h), hbw.trans (Below.mono (B := (w.alloc (.cells #[.slice (some xo) k co, .slice ad k cd, .slice (some xw) ni cw, .slice (some xi) ni ci] 29)).heap.size) (by repeat (first | exact Below.refl _ _ | assumption | exact HX.out | refine Below.drew ?_ | refine drewNd ?_)) hbw.size)⟩
            obtain ⟨i0, hi0⟩ : ∃ i0, i = i0 + 1 := ⟨i - 1, by omega⟩
            have HI0 := Lib.hid hi0
            have hsub : (i : Int) - 1 = (i0 : Int) := by omega
            obtain ⟨a, ha, hak⟩ := HIX.out i0 (by omega)
            obtain ⟨b, hb, hbk⟩ := HIX.out i hlti
            have hci := (HI.out.below HX.out).cell (show i0 < ni by omega)
            have hcj := (HI.out.below HX.out).cell hlti
            rw [ha] at hci
            rw [hb] at hcj
            have hco := (HO.out.below HX.out).cell hak
            have hcp := (HO.out.below HX.out).cell hbk
            have hpb := HOB.out a hak
            have hqb := HOB.out b hbk
            obtain ⟨p, hp⟩ : ∃ p, o a = p := ⟨_, rfl⟩
            obtain ⟨q, hq⟩ : ∃ q, o b = q := ⟨_, rfl⟩
            have HPE : Hid (o (ix (i - 1)).toNat = p) := Lib.hid (by rw [show i - 1 = i0 by omega, ha]; exact hp)
            have HQE : Hid (o (ix i).toNat = q) := Lib.hid (by rw [hb]; exact hq)
            rw [hp] at hco hpb
            rw [hq] at hcp hqb
            have hi0n : i0 < ni := by omega
            clear ha hb hp hq hi0
            by_cases hone : i0 = 0
            · have HONE := Lib.hid hone
              have HD1 : Hid (decide (1 < (i : Int)) = false) := Lib.hid (by simp; omega)
              clear hone
              by_cases t1 : (W + p) % 3600 = 0
              rotate_left
              · have b1 : ((W + p) % 3600 != 0) = true := by simpa using t1
                go_wp2_with fail
                have hd1 := HD1.out
                go_quiet (fail)
                go_wp2_with fail
                go_quiet (fail)
                go_wp2_with (first | (go_at_call 49; (with_reducible refine (HFM.out _ _ _ (by omega) (by omega) (by omega) (by omega)).mono ?_); rintro e v ⟨rfl, rfl⟩) | (go_at_call 50; (with_reducible refine (HFD.out _ _ (by omega) (by omega)).mono ?_); rintro e v ⟨rfl, rfl⟩))
                go_ret
                exact ⟨false, rfl, (fun h => by cases h), hbw.trans (Below.mono (B := (w.alloc (.cells #[.slice (some xo) k co, .slice ad k cd, .slice (some xw) ni cw, .slice (some xi) ni ci] 29)).heap.size) (by repeat (first | exact Below.refl _ _ | assumption | exact HX.out | refine Below.drew ?_ | refine drewNd ?_)) hbw.size)⟩
              have b1 : ((W + p) % 3600 != 0) = false := by simpa using t1
              by_cases t2 : (W + q) % 3600 = 0
              rotate_left
              · have b2 : ((W + q) % 3600 != 0) = true := by simpa using t2
                go_wp2_with fail
                have hd1 := HD1.out
                go_quiet (fail)
                go_wp2_with fail
                go_quiet (fail)
                go_wp2_with (first | (go_at_call 49; (with_reducible refine (HFM.out _ _ _ (by omega) (by omega) (by omega) (by omega)).mono ?_); rintro e v ⟨rfl, rfl⟩) | (go_at_call 50; (with_reducible refine (HFD.out _ _ (by omega) (by omega)).mono ?_); rintro e v ⟨rfl, rfl⟩))
                go_ret
                exact ⟨false, rfl, (fun h => by cases h), hbw.trans (Below.mono (B := (w.alloc (.cells #[.slice (some xo) k co, .slice ad k cd, .slice (some xw) ni cw, .slice (some xi) ni ci] 29)).heap.size) (by repeat (first | exact Below.refl _ _ | assumption | exact HX.out | refine Below.drew ?_ | refine drewNd ?_)) hbw.size)⟩
              have b2 : ((W + q) % 3600 != 0) = false := by simpa using t2
              by_cases t3 : W + q < W + p - 3600
              · go_wp2_with fail
                have hd1 := HD1.out
                go_quiet (fail)
                go_wp2_with fail
                go_quiet (fail)
                go_wp2_with (first | (go_at_call 49; (with_reducible refine (HFM.out _ _ _ (by omega) (by omega) (by omega) (by omega)).mono ?_); rintro e v ⟨rfl, rfl⟩) | (go_at_call 50; (with_reducible refine (HFD.out _ _ (by omega) (by omega)).mono ?_); rintro e v ⟨rfl, rfl⟩))
                go_ret
                exact ⟨false, rfl, (fun h => by cases h), hbw.trans (Below.mono (B := (w.alloc (.cells #[.slice (some xo) k co, .slice ad k cd, .slice (some xw) ni cw, .slice (some xi) ni ci] 29)).heap.size) (by repeat (first | exact Below.refl _ _ | assumption | exact HX.out | refine Below.drew ?_ | refine drewNd ?_)) hbw.size)⟩
              by_cases t4 : (W + p) / 86400 = (W + q) / 86400
              rotate_left
              · have b4 : ((W + p) / 86400 != (W + q) / 86400) = true := by simpa using t4
                go_wp2_with fail
                have hd1 := HD1.out
                go_quiet (fail)
                go_wp2_with fail
                go_quiet (fail)
                go_wp2_with (first | (go_at_call 49; (with_reducible refine (HFM.out _ _ _ (by omega) (by omega) (by omega) (by omega)).mono ?_); rintro e v ⟨rfl, rfl⟩) | (go_at_call 50; (with_reducible refine (HFD.out _ _ (by omega) (by omega)).mono ?_); rintro e v ⟨rfl, rfl⟩))
                go_ret
                exact ⟨false, rfl, (fun h => by cases h), hbw.trans (Below.mono (B := (w.alloc (.cells #[.slice (some xo) k co, .slice ad k cd, .slice (some xw) ni cw, .slice (some xi) ni ci] 29)).heap.size) (by repeat (first | exact Below.refl _ _ | assumption | exact HX.out | refine Below.drew ?_ | refine drewNd ?_)) hbw.size)⟩
              have b4 : ((W + p) / 86400 != (W + q) / 86400) = false := by simpa using t4
              by_cases t5 : (W + p) % 86400 < 3600
              · go_wp2_with fail
                have hd1 := HD1.out
                go_quiet (fail)
                go_wp2_with fail
                go_quiet (fail)
                go_wp2_with (first | (go_at_call 49; (with_reducible refine (HFM.out _ _ _ (by omega) (by omega) (by omega) (by omega)).mono ?_); rintro e v ⟨rfl, rfl⟩) | (go_at_call 50; (with_reducible refine (HFD.out _ _ (by omega) (by omega)).mono ?_); rintro e v ⟨rfl, rfl⟩))
                go_ret
                exact ⟨false, rfl, (fun h => by cases h), hbw.trans (Below.mono (B := (w.alloc (.cells #[.slice (some xo) k co, .slice ad k cd, .slice (some xw) ni cw, .slice (some xi) ni ci] 29)).heap.size) (by repeat (first | exact Below.refl _ _ | assumption | exact HX.out | refine Below.drew ?_ | refine drewNd ?_)) hbw.size)⟩
              by_cases t6 : (W + q) % 86400 < 3600
              · go_wp2_with fail
                have hd1 := HD1.out
                go_quiet (fail)
                go_wp2_with fail
                go_quiet (fail)
                go_wp2_with (first | (go_at_call 49; (with_reducible refine (HFM.out _ _ _ (by omega) (by omega) (by omega) (by omega)).mono ?_); rintro e v ⟨rfl, rfl⟩) | (go_at_call 50; (with_reducible refine (HFD.out _ _ (by omega) (by omega)).mono ?_); rintro e v ⟨rfl, rfl⟩))
                go_ret
                exact ⟨false, rfl, (fun h => by cases h), hbw.trans (Below.mono (B := (w.alloc (.cells #[.slice (some xo) k co, .slice ad k cd, .slice (some xw) ni cw, .slice (some xi) ni ci] 29)).heap.size) (by repeat (first | exact Below.refl _ _ | assumption | exact HX.out | refine Below.drew ?_ | refine drewNd ?_)) hbw.size)⟩
              go_wp2_with fail
              have hd1 := HD1.out
              go_quiet (fail)
              go_wp2_with fail
              go_quiet (fail)
              go_wp2_with (first | (go_at_call 49; (with_reducible refine (HFM.out _ _ _ (by omega) (by omega) (by omega) (by omega)).mono ?_); rintro e v ⟨rfl, rfl⟩) | (go_at_call 50; (with_reducible refine (HFD.out _ _ (by omega) (by omega)).mono ?_); rintro e v ⟨rfl, rfl⟩))
              refine ⟨⟨i + 1, by go_num, by omega, by omega, Lib.hid (fun j j1 j2 => ?_), Lib.hid (by repeat (first | exact Below.refl _ _ | assumption | exact HX.out | refine Below.drew ?_ | refine drewNd ?_))⟩, by simp [intOf]; omega⟩
              by_cases c : j < i
              · exact HT.out j j1 c
              · obtain rfl : j = i := by omega
                have hW := HWE.out
                have hp := HPE.out
                have hq := HQE.out
                unfold TrOk
                simp only
                rw [hp, hq, hW]
                exact ⟨⟨by omega, by omega⟩, fun h => by have := HONE.out; have := HI0.out; omega, t1, t2, by omega, t4, by omega, by omega⟩
            · have HD1 : Hid (decide (1 < (i : Int)) = true) := Lib.hid (by simp; omega)
              have HONE := Lib.hid hone
              clear hone
              have hcv := (HW.out.below HX.out).cell hi0n
              obtain ⟨U, hU⟩ : ∃ U, wh i0 = U := ⟨_, rfl⟩
              have hub := (HT.out i0 (by have := HONE.out; omega) (by have := HI0.out; omega)).1
              simp only at hub
              rw [hU] at hcv hub
              have HVE : Hid (345600 ≤ W - U ∨ W - U < 345600) := Lib.hid (by omega)
              have HUE := Lib.hid hU
              clear hU
              by_cases s3 : W - U < 345600
              · go_wp2_with fail
                have hd1 := HD1.out
                go_quiet (fail)
                go_wp2_with fail
                go_ret
                exact ⟨false, rfl, (fun h => by cases h), hbw.trans (Below.mono (B := (w.alloc (.cells #[.slice (some xo) k co, .slice ad k cd, .slice (some xw) ni cw, .slice (some xi) ni ci] 29)).heap.size) (by repeat (first | exact Below.refl _ _ | assumption | exact HX.out | refine Below.drew ?_ | refine drewNd ?_)) hbw.size)⟩
              by_cases t1 : (W + p) % 3600 = 0
              rotate_left
              · have b1 : ((W + p) % 3600 != 0) = true := by simpa using t1
                go_wp2_with fail
                have hd1 := HD1.out
                go_quiet (fail)
                go_wp2_with fail
                go_quiet (fail)
                go_wp2_with (first | (go_at_call 49; (with_reducible refine (HFM.out _ _ _ (by omega) (by omega) (by omega) (by omega)).mono ?_); rintro e v ⟨rfl, rfl⟩) | (go_at_call 50; (with_reducible refine (HFD.out _ _ (by omega) (by omega)).mono ?_); rintro e v ⟨rfl, rfl⟩))
                go_ret
                exact ⟨false, rfl, (fun h => by cases h), hbw.trans (Below.mono (B := (w.alloc (.cells #[.slice (some xo) k co, .slice ad k cd, .slice (some xw) ni cw, .slice (some xi) ni ci] 29)).heap.size) (by repeat (first | exact Below.refl _ _ | assumption | exact HX.out | refine Below.drew ?_ | refine drewNd ?_)) hbw.size)⟩
              have b1 : ((W + p) % 3600 != 0) = false := by simpa using t1
              by_cases t2 : (W + q) % 3600 = 0
              rotate_left
              · have b2 : ((W + q) % 3600 != 0) = true := by simpa using t2
                go_wp2_with fail
                have hd1 := HD1.out
                go_quiet (fail)
                go_wp2_with fail
                go_quiet (fail)
                go_wp2_with (first | (go_at_call 49; (with_reducible refine (HFM.out _ _ _ (by omega) (by omega) (by omega) (by omega)).mono ?_); rintro e v ⟨rfl, rfl⟩) | (go_at_call 50; (with_reducible refine (HFD.out _ _ (by omega) (by omega)).mono ?_); rintro e v ⟨rfl, rfl⟩))
                go_ret
                exact ⟨false, rfl, (fun h => by cases h), hbw.trans (Below.mono (B := (w.alloc (.cells #[.slice (some xo) k co, .slice ad k cd, .slice (some xw) ni cw, .slice (some xi) ni ci] 29)).heap.size) (by repeat (first | exact Below.refl _ _ | assumption | exact HX.out | refine Below.drew ?_ | refine drewNd ?_)) hbw.size)⟩
              have b2 : ((W + q) % 3600 != 0) = false := by simpa using t2
              by_cases t3 : W + q < W + p - 3600
              · go_wp2_with fail
                have hd1 := HD1.out
                go_quiet (fail)
                go_wp2_with fail
                go_quiet (fail)
                go_wp2_with (first | (go_at_call 49; (with_reducible refine (HFM.out _ _ _ (by omega) (by omega) (by omega) (by omega)).mono ?_); rintro e v ⟨rfl, rfl⟩) | (go_at_call 50; (with_reducible refine (HFD.out _ _ (by omega) (by omega)).mono ?_); rintro e v ⟨rfl, rfl⟩))
                go_ret
                exact ⟨false, rfl, (fun h => by cases h), hbw.trans (Below.mono (B := (w.alloc (.cells #[.slice (some xo) k co, .slice ad k cd, .slice (some xw) ni cw, .slice (some xi) ni ci] 29)).heap.size) (by repeat (first | exact Below.refl _ _ | assumption | exact HX.out | refine Below.drew ?_ | refine drewNd ?_)) hbw.size)⟩
              by_cases t4 : (W + p) / 86400 = (W + q) / 86400
              rotate_left
              · have b4 : ((W + p) / 86400 != (W + q) / 86400) = true := by simpa using t4
                go_wp2_with fail
                have hd1 := HD1.out
                go_quiet (fail)
                go_wp2_with fail
                go_quiet (fail)
                go_wp2_with (first | (go_at_call 49; (with_reducible refine (HFM.out _ _ _ (by omega) (by omega) (by omega) (by omega)).mono ?_); rintro e v ⟨rfl, rfl⟩) | (go_at_call 50; (with_reducible refine (HFD.out _ _ (by omega) (by omega)).mono ?_); rintro e v ⟨rfl, rfl⟩))
                go_ret
                exact ⟨false, rfl, (fun h => by cases h), hbw.trans (Below.mono (B := (w.alloc (.cells #[.slice (some xo) k co, .slice ad k cd, .slice (some xw) ni cw, .slice (some xi) ni ci] 29)).heap.size) (by repeat (first | exact Below.refl _ _ | assumption | exact HX.out | refine Below.drew ?_ | refine drewNd ?_)) hbw.size)⟩
              have b4 : ((W + p) / 86400 != (W + q) / 86400) = false := by simpa using t4
              by_cases t5 : (W + p) % 86400 < 3600
              · go_wp2_with fail
                have hd1 := HD1.out
                go_quiet (fail)
                go_wp2_with fail
                go_quiet (fail)
                go_wp2_with (first | (go_at_call 49; (with_reducible refine (HFM.out _ _ _ (by omega) (by omega) (by omega) (by omega)).mono ?_); rintro e v ⟨rfl, rfl⟩) | (go_at_call 50; (with_reducible refine (HFD.out _ _ (by omega) (by omega)).mono ?_); rintro e v ⟨rfl, rfl⟩))
                go_ret
                exact ⟨false, rfl, (fun h => by cases h), hbw.trans (Below.mono (B := (w.alloc (.cells #[.slice (some xo) k co, .slice ad k cd, .slice (some xw) ni cw, .slice (some xi) ni ci] 29)).heap.size) (by repeat (first | exact Below.refl _ _ | assumption | exact HX.out | refine Below.drew ?_ | refine drewNd ?_)) hbw.size)⟩
              by_cases t6 : (W + q) % 86400 < 3600
              · go_wp2_with fail
                have hd1 := HD1.out
                go_quiet (fail)
                go_wp2_with fail
                go_quiet (fail)
                go_wp2_with (first | (go_at_call 49; (with_reducible refine (HFM.out _ _ _ (by omega) (by omega) (by omega) (by omega)).mono ?_); rintro e v ⟨rfl, rfl⟩) | (go_at_call 50; (with_reducible refine (HFD.out _ _ (by omega) (by omega)).mono ?_); rintro e v ⟨rfl, rfl⟩))
                go_ret
                exact ⟨false, rfl, (fun h => by cases h), hbw.trans (Below.mono (B := (w.alloc (.cells #[.slice (some xo) k co, .slice ad k cd, .slice (some xw) ni cw, .slice (some xi) ni ci] 29)).heap.size) (by repeat (first | exact Below.refl _ _ | assumption | exact HX.out | refine Below.drew ?_ | refine drewNd ?_)) hbw.size)⟩
              go_wp2_with fail
              have hd1 := HD1.out
              go_quiet (fail)
              go_wp2_with fail
              go_quiet (fail)
              go_wp2_with (first | (go_at_call 49; (with_reducible refine (HFM.out _ _ _ (by omega) (by omega) (by omega) (by omega)).mono ?_); rintro e v ⟨rfl, rfl⟩) | (go_at_call 50; (with_reducible refine (HFD.out _ _ (by omega) (by omega)).mono ?_); rintro e v ⟨rfl, rfl⟩))
              refine ⟨⟨i + 1, by go_num, by omega, by omega, Lib.hid (fun j j1 j2 => ?_), Lib.hid (by repeat (first | exact Below.refl _ _ | assumption | exact HX.out | refine Below.drew ?_ | refine drewNd ?_))⟩, by simp [intOf]; omega⟩
              by_cases c : j < i
              · exact HT.out j j1 c
              · obtain rfl : j = i := by omega
                have hW := HWE.out
                have hp := HPE.out
                have hq := HQE.out
                unfold TrOk
                simp only
                rw [hp, hq, hW]
                exact ⟨⟨by omega, by omega⟩, fun _ => by have h9 : wh (j - 1) = U := (by rw [show j - 1 = i0 from (by have := HI0.out; omega)]; exact HUE.out); rw [h9]; omega, t1, t2, by omega, t4, by omega, by omega⟩
          · obtain rfl : i = ni := by omega
            have hd2 : decide ((i : Int) < (i : Int)) = false := by simp
            go_wp2_with fail
            go_ret
            exact ⟨true, rfl, (fun _ => ⟨HK60.out, HT.out⟩), hbw.trans (HX.out.mono hbw.size)⟩

/-! ### Such a zone is calm -/
theorem off_val (o : Nat → Int) (wh : Nat → Int) (ix : Nat → Nat) (s : Int) : ∀ k, offK o wh ix s k = 0 ∨ ∃ j, j < k ∧ offK o wh ix s k = o (ix j) := by
  intro k
  induction k with
  | zero => exact .inl rfl
  | succ k ih =>
    unfold offK
    by_cases c : wh k ≤ s
    · rw [if_pos c]; exact .inr ⟨k, by omega, rfl⟩
    · rw [if_neg c]
      rcases ih with h | ⟨j, h1, h2⟩
      · exact .inl h
      · exact .inr ⟨j, by omega, h2⟩
theorem change_at (r : Raw) (v : Int) (h : Raw.off r (v - 1) ≠ Raw.off r v) : ∃ i, i < r.nw ∧ r.wh i = v := by
  by_cases c : ∃ i, i < r.nw ∧ r.wh i = v
  · exact c
  · refine absurd (off_same r (by omega) (fun i hi => ?_)) h
    by_cases e : r.wh i ≤ v - 1
    · exact .inl e
    · by_cases e2 : r.wh i = v
      · exact absurd ⟨i, hi, e2⟩ c
      · exact .inr (by omega)
theorem calm_of (r : Raw) (hok : r.Ok) (hp : Pz r) : SpecNext.Calm r := by
  rcases hok with ⟨z0, z1, z2, z3⟩ | ⟨hg, z1, z2, z3⟩
  · refine ⟨fun A B _ => ?_, fun i hi => by omega⟩
    rw [off_utc z2]
    exact ⟨fun s => by unfold Time.zero; omega, fun s _ _ => rfl, fun v w _ _ _ h _ => absurd rfl h, fun w _ _ h => absurd rfl h⟩
  · obtain ⟨h60, htr⟩ := hp
    have w0 : r.wh 0 = -9223372036854775808 := hg.w0
    have asc : ∀ i j, i < j → j < r.nw → r.wh i < r.wh j := hg.asc
    have asc' : ∀ i j, i ≤ j → j < r.nw → r.wh i ≤ r.wh j := fun i j hij hj => hg.asc' hij hj
    have ixn : ∀ i, i < r.nw → (r.ix i).toNat < r.no := hg.ixn
    have pos : ∀ i, i < r.nw → -100000000000 ≤ r.wh i → 1 ≤ i := fun i hi h => by
      by_cases c : i = 0
      · subst c; omega
      · omega
    have at_ : ∀ i, 1 ≤ i → i < r.nw → Raw.off r (r.wh i - 1) = r.o (r.ix (i - 1)).toNat ∧ Raw.off r (r.wh i) = r.o (r.ix i).toNat := fun i hi hin => by
      constructor
      · exact offK_at hg (r.wh i - 1) (i - 1) (by have := asc (i - 1) i (by omega) hin; show r.wh (i - 1) ≤ _; omega) r.nw (by omega) (Nat.le_refl _) (fun j h1 h2 => by have := asc' i j (by omega) h2; show _ < r.wh j; omega)
      · exact offK_at hg (r.wh i) i (Int.le_refl _) r.nw hin (Nat.le_refl _) (fun j h1 h2 => asc i j h1 h2)
    refine ⟨fun A B hA => ⟨fun s => hg.bd s, fun s _ _ => ?_, fun v w hv hvw _ h1 h2 => ?_, fun w hw _ h => ?_⟩, fun i hi hlo => ?_⟩
    · have hm0 : Raw.off r s = offK r.o r.wh (fun i => (r.ix i).toNat) s r.nw := rfl
      rw [hm0]
      rcases off_val r.o r.wh (fun i => (r.ix i).toNat) s r.nw with h | ⟨j, h1, h2⟩
      · rw [h]; rfl
      · rw [h2]; exact h60 _ (ixn j h1)
    · obtain ⟨i, hi, rfl⟩ := change_at r v h1
      obtain ⟨j, hj, rfl⟩ := change_at r w h2
      have hi1 := pos i hi (by omega)
      have hij : i < j := by
        by_cases c : j ≤ i
        · have := asc' j i c hi; omega
        · omega
      have := (htr j (by omega) hj).2.1 (by omega)
      have := asc' i (j - 1) (by omega) (by omega)
      omega
    · obtain ⟨i, hi, rfl⟩ := change_at r w h
      have hi1 := pos i hi (by omega)
      obtain ⟨e1, e2⟩ := at_ i hi1 hi
      obtain ⟨-, -, t1, t2, t3, t4, t5, t6⟩ := htr i hi1 hi
      rw [e1, e2]
      exact ⟨t1, t2, t3, t4, t5, t6⟩
    · have hi1 := pos i hi (by omega)
      have := (htr i hi1 hi).1.2
      omega

end Go.Proofs.Ytoekefbclkmchaa.PlainZone

