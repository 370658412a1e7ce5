/- package time's ParseDuration. Conditions: texts of at most 65536 bytes, the package's own error holds something. -/
import Derived.Test.YtmnjmhlodbifjaaGreatDoorR18
import Derived.Test.YtmnjmhlodbifjaaGreatDoorR19
import Derived.Outline

namespace Go.Proofs.YtmnjmhlodbifjaaGreatDoor.ParseDur
open Go Go.RowKit Go.Proofs.YtmnjmhlodbifjaaGreatDoor.Mem Go.Proofs.YtmnjmhlodbifjaaGreatDoor.Aid Go.Proofs.YtmnjmhlodbifjaaGreatDoor.NumPure Go.Proofs.YtmnjmhlodbifjaaGreatDoor.SplitPure Go.Proofs.YtmnjmhlodbifjaaGreatDoor.Float Go.Proofs.YtmnjmhlodbifjaaGreatDoor.DurPure Go.Proofs.YtmnjmhlodbifjaaGreatDoor.DurKept Go.Proofs.YtmnjmhlodbifjaaGreatDoor.Lead Go.Proofs.YtmnjmhlodbifjaaGreatDoor.Units Go.Proofs.YtmnjmhlodbifjaaGreatDoor.TrimSpec Go.Proofs.YtmnjmhlodbifjaaGreatDoor.NameMap
set_option linter.unusedVariables false
def DurRes (r : Option (Option Int)) (e : Ending) : Prop :=
  (∃ T p v, e = .returned (.tuple #[v, .iface T p]) ∧ ∀ x, r ≠ some (some x)) ∨
    (∃ x : Int, e = .returned (.tuple #[.int .i64 x, .nilIface]) ∧ r ≠ none ∧ (∀ y, r = some (some y) → y = x) ∧ -9223372036854775808 ≤ x ∧ x ≤ 9223372036854775807)
theorem lead_shape {l : List UInt8} {e : Ending} (h : LeadRes l e) : ∃ xv tv ev, e = .returned (.tuple #[xv, tv, ev]) ∧
    ((∃ t2 : ByteArray, xv = .int .u64 (numOf (whole l) : Int) ∧ tv = .string t2 ∧ ev = .nilIface ∧ t2.data.toList = l.dropWhile isDig ∧ t2.size ≤ l.length ∧ numOf (whole l) ≤ 9223372036854775808) ∨ (∃ T p, ev = .iface T p ∧ termOk l = false)) := by
  rcases h with ⟨t, rfl, h1, h2, h3⟩ | ⟨T, p, x, t, rfl, h1⟩
  · exact ⟨_, _, _, rfl, .inl ⟨t, rfl, rfl, rfl, h1, h2, h3⟩⟩
  · refine ⟨_, _, _, rfl, .inr ⟨T, p, rfl, ?_⟩⟩
    unfold termOk whole
    rw [decide_eq_false (by omega)]
    rfl
theorem take_drop_len (p : UInt8 → Bool) (l : List UInt8) : (l.takeWhile p).length + (l.dropWhile p).length = l.length := by
  rw [← List.length_append, List.takeWhile_append_dropWhile]
def pointed : List UInt8 → Bool
  | [] => false
  | c :: _ => c == 46
theorem frac_pt {c : UInt8} {r : List UInt8} (h : pointed (c :: r) = true) : frac (c :: r) = (r.takeWhile isDig, r.dropWhile isDig) := by
  have : c = 46 := by simpa [pointed] using h
  simp only [frac, if_pos this]
theorem frac_no {l : List UInt8} (h : pointed l = false) : frac l = ([], l) := by
  cases l with
  | nil => rfl
  | cons c r =>
    have : ¬ c = 46 := by simpa [pointed] using h
    simp only [frac, if_neg this]
theorem float_step {l : List UInt8} (f sc : Nat) (hb : termBad l = false) (hf : (fpart l).length ≤ 11 → f = numOf (fpart l) ∧ sc = fl (10 ^ (fpart l).length)) (hf0 : 0 < f) (w : World) : ∃ b1 b2 m n1 n2 n3 : Nat, m < 2 ^ 64 ∧
    (binOp .quo 196 (.float .f64 (floatOfInt .f64 (unitN l : Int))) (.float .f64 sc)).run Tryz.prog w = .ok (.float .f64 b1) (w.drewN n1) ∧
    (binOp .mul 196 (.float .f64 (floatOfInt .f64 (f : Int))) (.float .f64 b1)).run Tryz.prog (w.drewN n1) = .ok (.float .f64 b2) (w.drewN n2) ∧
    (convert 196 26 (.float .f64 b2)).run Tryz.prog (w.drewN n2) = .ok (.int .u64 (m : Int)) (w.drewN n3) ∧
    (termOk l = true → m = numOf (fpart l) * (unitN l / 10 ^ (fpart l).length)) := by
  have hs : (Tryz.prog.underlying 196).isSome = true := by rw [Tryz.underlying196]; rfl
  by_cases ho : termOk l = true
  · have hm := (ok_parts ho).1
    have h11 := Nat.le_trans hm (most_le _)
    obtain ⟨rfl, rfl⟩ := hf h11
    have hu := unit_pos hb
    have hcase := unit_cases (unitName l)
    have hmem : unitOf (unitName l) ∈ [((1 : Nat), (0 : Nat)), (1000, 3), (1000000, 6), (1000000000, 9), (60000000000, 10), (3600000000000, 11)] := by
      simp only [List.mem_cons, List.not_mem_nil, or_false] at hcase ⊢
      rcases hcase with h | h | h | h | h | h | h
      · simp [h]
      · simp [h]
      · simp [h]
      · simp [h]
      · simp [h]
      · simp [h]
      · unfold unitN at hu; rw [h] at hu; exact absurd hu (by decide)
    obtain ⟨d1, d2⟩ := div_tab _ hmem (fpart l).length (by omega) hm
    have d1 : Ieee.double.div (fl (unitN l)) (fl (10 ^ (fpart l).length)) = some (fl (unitN l / 10 ^ (fpart l).length)) := d1
    have d2 : unitN l / 10 ^ (fpart l).length * 10 ^ (fpart l).length = unitN l := d2
    have hq1 : 1 ≤ unitN l / 10 ^ (fpart l).length := by
      rcases Nat.eq_zero_or_pos (unitN l / 10 ^ (fpart l).length) with h | h
      · rw [h] at d2; omega
      · exact h
    have hp := part_le l
    have hul : unitN l ≤ 3600000000000 := unit_le _
    generalize unitN l / 10 ^ (fpart l).length = q at d1 hq1 hp
    have hpos : 1 ≤ numOf (fpart l) * q := Nat.mul_pos hf0 hq1
    have hlt : numOf (fpart l) * q < 2 ^ 53 := by omega
    refine ⟨fl q, fl (numOf (fpart l) * q), numOf (fpart l) * q, 0, 0, 0, by omega, ?_, ?_, ?_, fun _ => rfl⟩
    · refine run_float_arith w .quo 196 .f64 _ _ _ ?_
      rw [of_int]
      exact d1
    · refine run_float_arith _ .mul 196 .f64 _ _ _ ?_
      rw [of_int]
      exact mul_exact hf0 hq1 hlt
    · exact run_convert_float_int _ 196 26 .f64 .u64 _ _ hs Tryz.underlying26 (int_fl hpos hlt)
  · obtain ⟨b1, n1, h1⟩ := arith_gen Tryz.prog .quo (.inr rfl) 196 (floatOfInt .f64 (unitN l : Int)) sc w
    obtain ⟨b2, n2, h2⟩ := arith_gen Tryz.prog .mul (.inl rfl) 196 (floatOfInt .f64 (f : Int)) b1 (w.drewN n1)
    obtain ⟨m, n3, hm, h3⟩ := conv_gen Tryz.prog 196 26 b2 ((w.drewN n1).drewN n2) hs Tryz.underlying26
    exact ⟨b1, b2, m, n1, n1 + n2, n1 + n2 + n3, hm, h1, by simpa using h2, by simpa using h3, fun h => absurd h ho⟩
set_option maxHeartbeats 4000000 in
set_option maxRecDepth 100000 in
theorem dur_any (s : ByteArray) (w : World) (hs : s.size ≤ 65536) (hv : LeadErr w) :
    Calls Tryz.prog 94 #[.string s] w fun e w' => DurRes (dur s.data.toList) e ∧ Below w.heap.size w w' := by
  have HV := Lib.hid hv
  clear hv
  obtain ⟨sg, hsg⟩ : ∃ sg, signOf s.data.toList = sg := ⟨_, rfl⟩
  have HSG := Lib.hid hsg
  have HDUR : Hid (dur s.data.toList = if sg.2 = [48] then some (some 0) else if sg.2 = [] then none else finish sg.1 (durGo sg.2.length sg.2 0 true)) := Lib.hid (by unfold dur; rw [hsg])
  obtain ⟨D, hD⟩ : ∃ D, dur s.data.toList = D := ⟨_, rfl⟩
  rw [hD] at HDUR ⊢
  clear hsg hD
  obtain ⟨neg, l0⟩ := sg
  go_enter Tryz.func94, Tryz.ntmps94
  go_upto_if 23 with fail
  go_cut [0, 6] (fun v n wx => ∃ t : ByteArray, v = .string t ∧ n = .bool neg ∧ Hid (t.data.toList = l0) ∧ t.size ≤ s.size ∧ wx = w)
  case first =>
   as_aux_lemma =>
    by_cases h0 : 0 < s.size
    · obtain ⟨q1, q2⟩ := empty_false h0
      have q3 : (!s.toList.isEmpty) = true := by rw [q2]; rfl
      rw [q3]
      have HL := Lib.hid (list_cons h0)
      have hsz : (1 : Int) ≤ (s.size : Int) := by omega
      by_cases hm : s[0] = 45
      · have x1 : (((s[0]).toNat : Int) == 45) = true := by rw [hm]; rfl
        have HE : Hid (neg = true ∧ (s.extract 1 s.size).data.toList = l0) := Lib.hid (by
          have h := HSG.out
          rw [HL.out] at h
          simp only [signOf, if_pos hm] at h
          cases h; exact ⟨rfl, rfl⟩)
        clear hm
        go_wp2
        go_meet
        case rel => exact ⟨_, rfl, by rw [HE.out.1], Lib.hid HE.out.2, by simp, rfl⟩
      · have x1 : (((s[0]).toNat : Int) == 45) = false := by
          rw [beq_eq_false_iff_ne]; intro e; exact hm (by rw [← UInt8.toNat_inj]; exact Int.ofNat.inj e)
        by_cases hp : s[0] = 43
        · have x2 : (((s[0]).toNat : Int) == 43) = true := by rw [hp]; rfl
          have HE : Hid (neg = false ∧ (s.extract 1 s.size).data.toList = l0) := Lib.hid (by
            have h := HSG.out
            rw [HL.out] at h
            simp only [signOf, if_neg hm, if_pos hp] at h
            cases h; exact ⟨rfl, rfl⟩)
          clear hm hp
          go_wp2
          go_meet
          case rel => exact ⟨_, rfl, by rw [HE.out.1], Lib.hid HE.out.2, by simp, rfl⟩
        · have x2 : (((s[0]).toNat : Int) == 43) = false := by
            rw [beq_eq_false_iff_ne]; intro e; exact hp (by rw [← UInt8.toNat_inj]; exact Int.ofNat.inj e)
          have HE : Hid (neg = false ∧ s.data.toList = l0) := Lib.hid (by
            have h := HSG.out
            rw [HL.out] at h ⊢
            simp only [signOf, if_neg hm, if_neg hp] at h
            cases h; exact ⟨rfl, rfl⟩)
          clear hm hp
          go_wp2
          go_meet
          case rel => exact ⟨_, rfl, by rw [HE.out.1], Lib.hid HE.out.2, Nat.le_refl _, rfl⟩
    · obtain ⟨q1, q2⟩ := empty_true h0
      have q3 : (!s.toList.isEmpty) = false := by rw [q2]; rfl
      rw [q3]
      have HE : Hid (neg = false ∧ s.data.toList = l0) := Lib.hid (by
        have h := HSG.out
        rw [nil_of h0] at h ⊢
        cases h; exact ⟨rfl, rfl⟩)
      go_wp2
      go_meet
      case rel => exact ⟨_, rfl, by rw [HE.out.1], Lib.hid HE.out.2, Nat.le_refl _, rfl⟩
  case rest =>
   as_aux_lemma =>
    obtain ⟨t0, rfl, rfl, HT0, ht0, rfl⟩ := hcut
    obtain ⟨w, rfl⟩ : ∃ w, w = wc := ⟨_, rfl⟩
    by_cases hz : t0.data.toList = [48]
    · have q : (t0.toList == [48]) = true := ZoneName.beq_list hz
      have HR : Hid (D = some (some 0)) := Lib.hid (by rw [HDUR.out]; simp only; rw [← HT0.out, hz, if_pos rfl])
      clear hz
      go_wp2
      go_ret2
      exact ⟨.inr ⟨0, rfl, by rw [HR.out]; simp, by rw [HR.out]; intro y hy; cases hy; rfl, by omega, by omega⟩, Below.refl _ _⟩
    · have q : (t0.toList == [48]) = false := ZoneName.beq_not hz
      by_cases h00 : 0 < t0.size
      · obtain ⟨q1, q2⟩ := empty_false h00
        have HR0 : Hid (D = finish neg (durGo l0.length l0 0 true)) := Lib.hid (by rw [HDUR.out]; simp only; rw [← HT0.out, if_neg hz, if_neg (ne_nil h00)])
        obtain ⟨R, hR⟩ : ∃ R, durGo l0.length l0 0 true = R := ⟨_, rfl⟩
        have HK0 : Hid (Kept R t0 0) := Lib.hid ⟨0, l0.length, true, by rw [HT0.out]; exact Nat.le_refl _, by rw [HT0.out]; exact hR, fun _ => ⟨rfl, by omega⟩⟩
        rw [hR] at HR0
        have HERR : Hid ((∀ x, R ≠ some (some x)) → ∀ x, D ≠ some (some x)) := Lib.hid (fun h x => by
          rw [HR0.out]
          cases R with
          | none => simp [finish]
          | some r =>
            cases r with
            | none => simp [finish]
            | some n => exact absurd rfl (h n))
        clear hz hR HDUR HSG
        go_wp2
        clear q q1 q2
        go_loopw [0, 5] (fun v dv wr => ∃ (t : ByteArray) (d : Nat), v = .string t ∧ dv = .int .u64 (d : Int) ∧ t.size ≤ 65536 ∧ d ≤ 9223372036854775808 ∧ Hid (Kept R t d) ∧ Hid (Below w.heap.size w wr)) (fun v _ _ => strSize v)
        case atStart => exact ⟨t0, 0, rfl, rfl, by omega, by omega, HK0, Lib.hid (Below.refl _ _)⟩
        case round =>
          clear HK0 HT0 h00 ht0
          obtain ⟨t, d, rfl, rfl, ht, hd, HK, HB⟩ := hrel
          by_cases h0 : 0 < t.size
          · obtain ⟨q1, q2⟩ := empty_false h0
            go_upto_region 17 with fail
            go_cut [59] (fun v wx => v = .bool (!isNum t[0]) ∧ wx = wr)
            case first =>
             as_aux_lemma =>
              by_cases hp : t[0] = 46
              · have x1 : (((t[0]).toNat : Int) == 46) = true := by rw [hp]; rfl
                have HE : Hid (isNum t[0] = true) := Lib.hid (by rw [hp]; decide)
                clear hp
                go_wp2
                go_meet
                case rel => exact ⟨by rw [HE.out]; rfl, rfl⟩
              · have x1 : (((t[0]).toNat : Int) == 46) = false := by
                  rw [beq_eq_false_iff_ne]; intro e; exact hp (by rw [← UInt8.toNat_inj]; exact Int.ofNat.inj e)
                by_cases h48 : 48 ≤ (t[0]).toNat
                · have x2 : (48 : Int) ≤ ((t[0]).toNat : Int) := by omega
                  by_cases h57 : (t[0]).toNat ≤ 57
                  · have x3 : ((t[0]).toNat : Int) ≤ 57 := by omega
                    have HE : Hid (isNum t[0] = true) := Lib.hid (by unfold isNum; rw [(isDig_iff _).2 ⟨h48, h57⟩]; rfl)
                    clear hp
                    go_wp2
                    go_meet
                    case rel => exact ⟨by rw [HE.out]; rfl, rfl⟩
                  · have x3 : ¬ ((t[0]).toNat : Int) ≤ 57 := by omega
                    have x3d : decide (((t[0]).toNat : Int) ≤ 57) = false := decide_eq_false x3
                    have HE : Hid (isNum t[0] = false) := Lib.hid (by
                      unfold isNum
                      rw [Bool.or_eq_false_iff]
                      exact ⟨by rw [Bool.eq_false_iff]; intro h; exact h57 ((isDig_iff _).1 h).2, by simpa using hp⟩)
                    clear hp
                    go_wp2
                    go_meet
                    case rel => exact ⟨by rw [HE.out]; rfl, rfl⟩
                · have x2 : ¬ (48 : Int) ≤ ((t[0]).toNat : Int) := by omega
                  have x2d : decide ((48 : Int) ≤ ((t[0]).toNat : Int)) = false := decide_eq_false x2
                  have HE : Hid (isNum t[0] = false) := Lib.hid (by
                    unfold isNum
                    rw [Bool.or_eq_false_iff]
                    exact ⟨by rw [Bool.eq_false_iff]; intro h; exact h48 ((isDig_iff _).1 h).1, by simpa using hp⟩)
                  clear hp
                  go_wp2
                  go_meet
                  case rel => exact ⟨by rw [HE.out]; rfl, rfl⟩
            case rest =>
             as_aux_lemma =>
              obtain ⟨rfl, rfl⟩ := hcut
              obtain ⟨wr, rfl⟩ : ∃ wr, wr = wc := ⟨_, rfl⟩
              cases hc : isNum t[0] with
              | false =>
                have HE : Hid (∀ x, D ≠ some (some x)) := Lib.hid (HERR.out (HK.out.bad h0 (bad_of_first (list_cons h0) hc)))
                simp only [Bool.not_false]
                clear hc
                go_wp2
                go_ret2
                exact ⟨.inl ⟨_, _, _, rfl, HE.out⟩, (HB.out.alloc HB.out.size _)⟩
              | true =>
                simp only [Bool.not_true]
                have HLA := Lib.hid (fun w1 (h : LeadErr w1) => lead_any t w1 ht h)
                have HVr : Hid (LeadErr wr) := Lib.hid (HV.out.below HB.out)
                have htl : t.data.toList.length = t.size := (Lib.size_eq t).symm
                clear hc
                go_upto_region 21 with (go_at_call 124; (with_reducible refine (HLA.out _ HVr.out).mono ?_); rintro e w1 ⟨he, hb1⟩; obtain ⟨xv, tv, ev, rfl, hld⟩ := lead_shape he; have HLD := Lib.hid hld; have HB1 : Hid (Below w.heap.size w w1) := Lib.hid (HB.out.trans (hb1.mono HB.out.size)); clear he hld hb1)
                clear HLA HVr
                rcases HLD.out with ⟨t2, rfl, rfl, rfl, h2, h2s, hvm⟩ | ⟨T, p, rfl, hno⟩
                · have HT2 := Lib.hid h2
                  have HE13 : Hid (((t.size : Int) == (t2.size : Int)) = decide ((whole t.data.toList).length = 0)) := Lib.hid (by
                    have h3 := take_drop_len isDig t.data.toList
                    rw [← h2, htl, ← Lib.size_eq] at h3
                    unfold whole
                    by_cases hw : (t.data.toList.takeWhile isDig).length = 0
                    · rw [decide_eq_true hw, beq_iff_eq]; omega
                    · rw [decide_eq_false hw, beq_eq_false_iff_ne]; omega)
                  rw [htl] at h2s
                  have HVM := Lib.hid hvm
                  obtain ⟨v, hv⟩ : ∃ v, numOf (whole t.data.toList) = v := ⟨_, rfl⟩
                  rw [hv] at hvm ⊢
                  have HVV := Lib.hid hv
                  obtain ⟨wz, hwz⟩ : ∃ wz, decide ((whole t.data.toList).length = 0) = wz := ⟨_, rfl⟩
                  have e13 := HE13.out
                  rw [hwz] at e13
                  have HWZ := Lib.hid hwz
                  clear h2 hv hwz HE13 HLD HVM
                  go_upto_region 25 with fail
                  obtain ⟨pt, hpt⟩ : ∃ pt, pointed t2.data.toList = pt := ⟨_, rfl⟩
                  have HPT := Lib.hid hpt
                  go_cut [88] (fun v wx => v = .bool pt ∧ wx = w1)
                  case first =>
                   as_aux_lemma =>
                    by_cases h20 : 0 < t2.size
                    · obtain ⟨r1, r2⟩ := empty_false h20
                      have hp1 : pt = (t2[0] == 46) := by rw [← hpt, list_cons h20]; rfl
                      by_cases hd : t2[0] = 46
                      · have x1 : (((t2[0]).toNat : Int) == 46) = true := by rw [hd]; rfl
                        have HP1 : Hid (pt = true) := Lib.hid (by rw [hp1, hd]; rfl)
                        clear hd hp1 hpt
                        go_wp2
                        go_meet
                        case rel => exact ⟨by rw [HP1.out], rfl⟩
                      · have x1 : (((t2[0]).toNat : Int) == 46) = false := by
                          rw [beq_eq_false_iff_ne]; intro e; exact hd (by rw [← UInt8.toNat_inj]; exact Int.ofNat.inj e)
                        have HP1 : Hid (pt = false) := Lib.hid (by rw [hp1]; simpa using hd)
                        clear hd hp1 hpt
                        go_wp2
                        go_meet
                        case rel => exact ⟨by rw [HP1.out], rfl⟩
                    · obtain ⟨r1, r2⟩ := empty_true h20
                      have HP1 : Hid (pt = false) := Lib.hid (by rw [← hpt, nil_of h20]; rfl)
                      clear hpt
                      go_wp2
                      go_meet
                      case rel => exact ⟨by rw [HP1.out], rfl⟩
                  case rest =>
                   as_aux_lemma =>
                    obtain ⟨rfl, rfl⟩ := hcut
                    obtain ⟨w1, rfl⟩ : ∃ w1, w1 = wc := ⟨_, rfl⟩
                    have HFA := Lib.hid (fun w2 (t4 : ByteArray) (h : t4.size ≤ 65536) => frac_any t4 w2 h)
                    clear hpt
                    go_upto_if 88 with fail
                    go_cut [0, 9, 10, 14] (fun v0 v9 v10 v14 wx => ∃ (t3 : ByteArray) (f sc : Nat), v0 = .string t3 ∧ v9 = .int .u64 (f : Int) ∧ v10 = .float .f64 sc ∧ v14 = .bool (!decide ((fpart t.data.toList).length = 0)) ∧ t3.size ≤ t.size ∧ f ≤ 9223372036854775808 ∧ Hid (t3.data.toList = behind t.data.toList ∧ ((fpart t.data.toList).length ≤ 11 → f = numOf (fpart t.data.toList) ∧ sc = fl (10 ^ (fpart t.data.toList).length))) ∧ Hid (Below w.heap.size w wx))
                    case first =>
                     as_aux_lemma =>
                      cases pt with
                      | true =>
                        have h20 : 0 < t2.size := by
                          rcases Nat.eq_zero_or_pos t2.size with h | h
                          · have := HPT.out
                            rw [nil_of (by omega)] at this
                            cases this
                          · exact h
                        have h21 : (1 : Int) ≤ (t2.size : Int) := by omega
                        obtain ⟨t4, ht4⟩ : ∃ t4, t2.extract 1 t2.size = t4 := ⟨_, rfl⟩
                        have h4s : t4.size ≤ t.size := by rw [← ht4]; simp; omega
                        have HFR : Hid (fpart t.data.toList = t4.data.toList.takeWhile isDig ∧ behind t.data.toList = t4.data.toList.dropWhile isDig) := Lib.hid (by
                          have h3 := HPT.out
                          unfold fpart behind
                          rw [← HT2.out]
                          rw [list_cons h20] at h3 ⊢
                          rw [frac_pt h3, ht4]
                          exact ⟨rfl, rfl⟩)
                        go_wp2_with (go_at_call 125; (with_reducible refine (HFA.out _ _ (by omega)).mono ?_); rintro e w2 ⟨⟨x, sc, t3, rfl, g1, g2, g3, g4⟩, hb2⟩; have HG1 := Lib.hid g1; have HG4 := Lib.hid g4; have HB2 : Hid (Below w.heap.size w w2) := Lib.hid (HB1.out.trans (hb2.mono HB1.out.size)); have e14 : ((t4.size : Int) == (t3.size : Int)) = decide ((fpart t.data.toList).length = 0) := (by
                            have h3 := take_drop_len isDig t4.data.toList
                            rw [← g1, ← Lib.size_eq, ← Lib.size_eq] at h3
                            rw [HFR.out.1]
                            by_cases hw : (t4.data.toList.takeWhile isDig).length = 0
                            · rw [decide_eq_true hw, beq_iff_eq]; omega
                            · rw [decide_eq_false hw, beq_eq_false_iff_ne]; omega); rw [← Lib.size_eq] at g2; clear g1 g4 hb2)
                        go_meet
                        case rel => exact ⟨t3, x, sc, rfl, rfl, rfl, congrArg Value.bool (by rw [bne, e14]), by omega, g3, Lib.hid ⟨by rw [HG1.out, HFR.out.2], by rw [HFR.out.1]; exact HG4.out⟩, HB2⟩
                      | false =>
                        have HFR : Hid (fpart t.data.toList = [] ∧ behind t.data.toList = t2.data.toList) := Lib.hid (by
                          unfold fpart behind
                          rw [← HT2.out, frac_no HPT.out]
                          exact ⟨rfl, rfl⟩)
                        go_wp2
                        go_meet
                        case rel => exact ⟨t2, 0, _, rfl, rfl, rfl, by rw [HFR.out.1]; rfl, h2s, by omega, Lib.hid ⟨HFR.out.2.symm, fun _ => by rw [HFR.out.1]; exact ⟨rfl, fl_one.symm⟩⟩, HB1⟩
                    case rest =>
                     as_aux_lemma =>
                      obtain ⟨t3, f, sc, rfl, rfl, rfl, rfl, h3s, hf, HF3, HB3⟩ := hcut
                      obtain ⟨w3, rfl⟩ : ∃ w3, w3 = wc := ⟨_, rfl⟩
                      obtain ⟨pz, hpz⟩ : ∃ pz, decide ((fpart t.data.toList).length = 0) = pz := ⟨_, rfl⟩
                      rw [hpz]
                      have HPZ := Lib.hid hpz
                      have e13' : ((t.size : Int) != (t2.size : Int)) = !wz := by rw [bne, e13]
                      rw [e13']
                      obtain ⟨nw, hnw⟩ : ∃ nw, (!wz) = nw := ⟨_, rfl⟩
                      obtain ⟨np, hnp⟩ : ∃ np, (!pz) = np := ⟨_, rfl⟩
                      rw [hnw, hnp]
                      have HNW : Hid (wz = !nw) := Lib.hid (by rw [← hnw, Bool.not_not])
                      have HNP : Hid (pz = !np) := Lib.hid (by rw [← hnp, Bool.not_not])
                      clear hpz HFA e13 e13' hnw hnp
                      go_upto_region 30 with fail
                      go_cut [108] (fun v wx => v = .bool (wz && pz) ∧ wx = w3)
                      case first =>
                       as_aux_lemma =>
                        cases nw with
                        | false =>
                          cases np with
                          | false =>
                            go_wp2
                            go_meet
                            case rel => exact ⟨by rw [HNW.out, HNP.out]; rfl, rfl⟩
                          | true =>
                            go_wp2
                            go_meet
                            case rel => exact ⟨by rw [HNW.out, HNP.out]; rfl, rfl⟩
                        | true =>
                          go_wp2
                          go_meet
                          case rel => exact ⟨by rw [HNW.out]; rfl, rfl⟩
                      case rest =>
                       as_aux_lemma =>
                        obtain ⟨rfl, rfl⟩ := hcut
                        obtain ⟨w3, rfl⟩ : ∃ w3, w3 = wc := ⟨_, rfl⟩
                        cases hwp : wz && pz with
                        | true =>
                          have HE : Hid (∀ x, D ≠ some (some x)) := Lib.hid (HERR.out (HK.out.bad h0 (by
                            have h := Bool.and_eq_true_iff.1 hwp
                            have a := of_decide_eq_true (HWZ.out.trans h.1)
                            have b := of_decide_eq_true (HPZ.out.trans h.2)
                            unfold termBad
                            rw [decide_eq_true (by omega)]
                            rfl)))
                          clear hwp
                          go_wp2
                          go_ret2
                          exact ⟨.inl ⟨_, _, _, rfl, HE.out⟩, (HB3.out.alloc HB3.out.size _)⟩
                        | false =>
                          have HCNT : Hid ((whole t.data.toList).length + (fpart t.data.toList).length ≠ 0) := Lib.hid (by
                            intro e
                            have a := HWZ.out
                            have b := HPZ.out
                            rw [decide_eq_true (by omega)] at a b
                            rw [← a, ← b] at hwp
                            cases hwp)
                          clear hwp
                          go_upto_block 2 with fail
                          go_cut [16] (fun i wx => ∃ k : Nat, i = .int .i64 (k : Int) ∧ k ≤ t3.size ∧ Hid (unitName t.data.toList = t3.data.toList.take k ∧ tailOf t.data.toList = t3.data.toList.drop k) ∧ wx = w3)
                          case first =>
                           as_aux_lemma =>
                            go_wp2
                            go_loop [16] (fun i => ∃ k : Nat, i = .int .i64 (k : Int) ∧ k ≤ t3.size ∧ Hid (∀ j, j < k → isNum (t3.data.toList.getD j 0) = false)) (fun i => t3.size - (intOf i).toNat)
                            case atStart => exact ⟨0, rfl, Nat.zero_le _, Lib.hid (fun j hj => by omega)⟩
                            case round =>
                              obtain ⟨k, rfl, hk, HN⟩ := hrel
                              by_cases hlt : k < t3.size
                              · have hki : (k : Int) < (t3.size : Int) := by omega
                                cases hn : isNum t3[k] with
                                | true =>
                                  have HE := Lib.hid (span_num HF3.out.1 hk HN.out (fun _ => hn))
                                  by_cases hp : t3[k] = 46
                                  · have x1 : (((t3[k]).toNat : Int) == 46) = true := by rw [hp]; rfl
                                    clear hp hn
                                    go_wp2
                                    go_meet
                                    case rel => exact ⟨k, rfl, hk, HE, rfl⟩
                                  · have x1 : (((t3[k]).toNat : Int) == 46) = false := by
                                      rw [beq_eq_false_iff_ne]; intro e; exact hp (by rw [← UInt8.toNat_inj]; exact Int.ofNat.inj e)
                                    have hd : isDig t3[k] = true := by
                                      unfold isNum at hn
                                      simpa [hp] using hn
                                    obtain ⟨d1, d2⟩ := (isDig_iff _).1 hd
                                    have x2 : (48 : Int) ≤ ((t3[k]).toNat : Int) := by omega
                                    have x3 : ((t3[k]).toNat : Int) ≤ 57 := by omega
                                    clear hp hn hd d1 d2
                                    go_wp2
                                    go_meet
                                    case rel => exact ⟨k, rfl, hk, HE, rfl⟩
                                | false =>
                                  have HN2 := Lib.hid (snoc_num hlt hn HN.out)
                                  have hp : ¬ t3[k] = 46 := fun e => by rw [e] at hn; revert hn; decide
                                  have x1 : (((t3[k]).toNat : Int) == 46) = false := by
                                    rw [beq_eq_false_iff_ne]; intro e; exact hp (by rw [← UInt8.toNat_inj]; exact Int.ofNat.inj e)
                                  have hd : ¬ (48 ≤ (t3[k]).toNat ∧ (t3[k]).toNat ≤ 57) := fun h => by
                                    unfold isNum at hn
                                    rw [(isDig_iff _).2 h] at hn
                                    cases hn
                                  by_cases h48 : 48 ≤ (t3[k]).toNat
                                  · have x2 : (48 : Int) ≤ ((t3[k]).toNat : Int) := by omega
                                    have x3 : ¬ ((t3[k]).toNat : Int) ≤ 57 := by omega
                                    have x3d : decide (((t3[k]).toNat : Int) ≤ 57) = false := decide_eq_false x3
                                    clear hp hn hd h48
                                    go_wp2
                                    go_round
                                    case rel => exact ⟨k + 1, by go_num, by omega, HN2⟩
                                    case measure => simp [intOf]; omega
                                  · have x2 : ¬ (48 : Int) ≤ ((t3[k]).toNat : Int) := by omega
                                    have x2d : decide ((48 : Int) ≤ ((t3[k]).toNat : Int)) = false := decide_eq_false x2
                                    clear hp hn hd h48
                                    go_wp2
                                    go_round
                                    case rel => exact ⟨k + 1, by go_num, by omega, HN2⟩
                                    case measure => simp [intOf]; omega
                              · have HE := Lib.hid (span_num HF3.out.1 hk HN.out (fun h => absurd h hlt))
                                have hki : ¬ (k : Int) < (t3.size : Int) := by omega
                                go_wp2
                                go_meet
                                case rel => exact ⟨k, rfl, hk, HE, rfl⟩
                          case rest =>
                           as_aux_lemma =>
                            obtain ⟨k, rfl, hk, HU, rfl⟩ := hcut
                            obtain ⟨w3, rfl⟩ : ∃ w3, w3 = wc := ⟨_, rfl⟩
                            have hki : (k : Int) ≤ (t3.size : Int) := by omega
                            by_cases hk0 : k = 0
                            · have hz0 : ((k : Int) == 0) = true := by subst hk0; rfl
                              have HE : Hid (∀ x, D ≠ some (some x)) := Lib.hid (HERR.out (HK.out.bad h0 (bad_of_name (by rw [HU.out.1, hk0]; rfl))))
                              clear hk0
                              go_wp2
                              go_ret2
                              exact ⟨.inl ⟨_, _, _, rfl, HE.out⟩, (HB3.out.alloc HB3.out.size _)⟩
                            · have hz0 : ((k : Int) == 0) = false := beq_eq_false_iff_ne.2 (by omega)
                              have hul : nlook units (t3.extract 0 k) = if unitN t.data.toList = 0 then none else some (unitN t.data.toList) := by
                                have h1 := units_look (unitName t.data.toList)
                                rw [HU.out.1, ← show t3.extract 0 k = ofL (t3.data.toList.take k) by rw [← ofL_toList (t3.extract 0 k), Lib.extract_data, List.drop_zero, Nat.sub_zero]] at h1
                                rw [h1]
                                unfold unitN
                                rw [HU.out.1]
                              have HUA := Lib.hid (fun w => units_any w)
                              obtain ⟨n, hn⟩ : ∃ n, unitN t.data.toList = n := ⟨_, rfl⟩
                              rw [hn] at hul
                              have HNN := Lib.hid hn
                              clear hn hk0
                              by_cases hn0 : n = 0
                              · have hf : nlook units (t3.extract 0 k) = none := by rw [hul, if_pos hn0]
                                have HE : Hid (∀ x, D ≠ some (some x)) := Lib.hid (HERR.out (HK.out.bad h0 (bad_of_unit (HNN.out.trans hn0))))
                                clear hn0 hul
                                go_wp2_with (first
                                  | (go_at_call 126; (with_reducible refine (HUA.out _).mono ?_); rintro e w4 ⟨m, rfl, hnm, hb4⟩; have HNM := Lib.hid hnm; have HB4 : Hid (Below w.heap.size w w4) := Lib.hid (HB3.out.trans (hb4.mono HB3.out.size)); clear hnm hb4)
                                  | (with_reducible refine wpList_lookupU rfl (.tmp 145) (.tmp 146) rfl m units (t3.extract 0 k) rfl rfl HNM.out ?_; rw [hf]; unfold found))
                                go_ret2
                                exact ⟨.inl ⟨_, _, _, rfl, HE.out⟩, (HB4.out.alloc HB4.out.size _)⟩
                              · have hf : nlook units (t3.extract 0 k) = some n := by rw [hul, if_neg hn0]
                                have HTB : Hid (termBad t.data.toList = false) := Lib.hid (not_bad HCNT.out (by rw [HNN.out]; exact hn0))
                                have hnz : ((n : Int) == 0) = false := beq_eq_false_iff_ne.2 (by omega)
                                have HNB : Hid (n ≤ 3600000000000) := Lib.hid (by rw [← HNN.out]; exact unit_le _)
                                clear hul HCNT
                                go_upto_region 44 with (first
                                  | (go_at_call 126; (with_reducible refine (HUA.out _).mono ?_); rintro e w4 ⟨m, rfl, hnm, hb4⟩; have HNM := Lib.hid hnm; have HB4 : Hid (Below w.heap.size w w4) := Lib.hid (HB3.out.trans (hb4.mono HB3.out.size)); clear hnm hb4)
                                  | (with_reducible refine wpList_lookupU rfl (.tmp 145) (.tmp 146) rfl m units (t3.extract 0 k) rfl rfl HNM.out ?_; rw [hf]; unfold found))
                                by_cases hgt : (9223372036854775808 : Int) / (n : Int) < (v : Int)
                                · as_aux_lemma =>
                                    have HE : Hid (∀ x, D ≠ some (some x)) := Lib.hid (HERR.out (HK.out.nok h0 (nok_of_gt HTB.out (by rw [HNN.out, HVV.out]; exact Int.ofNat_lt.1 (by rw [Int.natCast_ediv]; exact hgt)))))
                                    go_wp2
                                    go_ret2
                                    exact ⟨.inl ⟨_, _, _, rfl, HE.out⟩, (HB4.out.alloc HB4.out.size _)⟩
                                · obtain ⟨pr, hpr⟩ : ∃ pr : Nat, v * n = pr := ⟨_, rfl⟩
                                  have hple : pr ≤ 9223372036854775808 := by
                                    have h1 : v ≤ 9223372036854775808 / n := Int.ofNat_le.1 (by rw [Int.natCast_ediv]; exact Int.not_lt.1 hgt)
                                    have h2 := (Nat.le_div_iff_mul_le (by omega : 0 < n)).1 h1
                                    omega
                                  have hwp : IntKind.u64.wrap ((v : Int) * (n : Int)) = (pr : Int) := by
                                    rw [show (v : Int) * (n : Int) = ((v * n : Nat) : Int) by simp, hpr, IntKind.wrap_u64]; omega
                                  have HPR : Hid (numOf (whole t.data.toList) * unitN t.data.toList = pr) := Lib.hid (by rw [HVV.out, HNN.out, hpr])
                                  have HFS := Lib.hid (fun (h : 0 < f) => float_step (l := t.data.toList) f sc HTB.out HF3.out.2 h w4)
                                  rw [HNN.out] at HFS
                                  clear hpr HNM HUA hf
                                  go_upto_if 171 with fail
                                  go_cut [8] (fun x wx => ∃ v2 : Nat, x = .int .u64 (v2 : Int) ∧ v2 ≤ 9223372036854775808 ∧ Hid (termOk t.data.toList = true → v2 = termNum t.data.toList) ∧ Hid (Below w.heap.size w wx))
                                  case first =>
                                    as_aux_lemma =>
                                      by_cases hf0 : 0 < f
                                      · obtain ⟨b1, b2, m, n1, n2, n3, hm, hq, hmu, hcv, hmk⟩ := HFS.out hf0
                                        have hf1 : (0 : Int) < (f : Int) := by omega
                                        obtain ⟨v2, hv2⟩ : ∃ v2 : Nat, (pr + m) % 18446744073709551616 = v2 := ⟨_, rfl⟩
                                        have hw2 : IntKind.u64.wrap ((pr : Int) + (m : Int)) = (v2 : Int) := by rw [IntKind.wrap_u64]; omega
                                        have HV2 : Hid (termOk t.data.toList = true → v2 = termNum t.data.toList) := Lib.hid (fun ho => by
                                          have h1 := hmk ho
                                          have h2 := num_le HTB.out ho
                                          have h3 : termNum t.data.toList = pr + m := by unfold termNum; rw [HPR.out, h1, HNN.out]
                                          rw [← hv2, h3]
                                          exact Nat.mod_eq_of_lt (by omega))
                                        have HB5 : Hid (Below w.heap.size w (w4.drewN n3)) := Lib.hid (drewNd HB4.out n3)
                                        clear hmk hv2 HFS
                                        by_cases hbig : v2 ≤ 9223372036854775808
                                        · have hbi : ¬ (9223372036854775808 : Int) < (v2 : Int) := by omega
                                          go_wp2
                                          go_meet
                                          case rel => exact ⟨v2, rfl, hbig, HV2, HB5⟩
                                        · have hbi : (9223372036854775808 : Int) < (v2 : Int) := by omega
                                          have HE : Hid (∀ x, D ≠ some (some x)) := Lib.hid (HERR.out (HK.out.nok h0 (by
                                            rw [Bool.eq_false_iff]
                                            intro ho
                                            have h2 := num_le HTB.out ho
                                            have h3 := HV2.out ho
                                            omega)))
                                          go_wp2
                                          go_ret2
                                          exact ⟨.inl ⟨_, _, _, rfl, HE.out⟩, (HB5.out.alloc HB5.out.size _)⟩
                                      · have hf1 : ¬ (0 : Int) < (f : Int) := by omega
                                        have HV2 : Hid (termOk t.data.toList = true → pr = termNum t.data.toList) := Lib.hid (fun ho => by
                                          have h1 := (HF3.out.2 (Nat.le_trans (ok_parts ho).1 (most_le _))).1
                                          unfold termNum
                                          rw [← h1, HPR.out, show f = 0 by omega]
                                          omega)
                                        clear HFS
                                        go_wp2
                                        go_meet
                                        case rel => exact ⟨pr, rfl, hple, HV2, HB4⟩
                                  case rest =>
                                    as_aux_lemma =>
                                      obtain ⟨v2, rfl, hv2, HV2, HB5⟩ := hcut
                                      obtain ⟨w5, rfl⟩ : ∃ w5, w5 = wc := ⟨_, rfl⟩
                                      obtain ⟨d2, hd2⟩ : ∃ d2 : Nat, (d + v2) % 18446744073709551616 = d2 := ⟨_, rfl⟩
                                      have hw2 : IntKind.u64.wrap ((d : Int) + (v2 : Int)) = (d2 : Int) := by rw [IntKind.wrap_u64]; omega
                                      have hnx := HK.out.next (t' := t3.extract k t3.size) h0 HTB.out hd hv2 HV2.out (by rw [HU.out.2]; exact Lib.extract_to_end t3 k)
                                      rw [hd2] at hnx
                                      have HNX := Lib.hid hnx
                                      have hks : 0 < k := by
                                        rcases Nat.eq_zero_or_pos k with h | h
                                        · subst h; simp at hz0
                                        · exact h
                                      have hlts : (t3.extract k t3.size).size < t.size := by simp; omega
                                      clear hnx hd2 HFS
                                      by_cases hbig : d2 ≤ 9223372036854775808
                                      · have hbi : ¬ (9223372036854775808 : Int) < (d2 : Int) := by omega
                                        go_wp2
                                        go_round
                                        case rel => exact ⟨_, d2, rfl, rfl, by omega, hbig, Lib.hid (HNX.out.1 hbig), HB5⟩
                                        case measure => simp only [strSize]; exact hlts
                                      · have hbi : (9223372036854775808 : Int) < (d2 : Int) := by omega
                                        have HE : Hid (∀ x, D ≠ some (some x)) := Lib.hid (HERR.out (HNX.out.2 (by omega)))
                                        go_wp2
                                        go_ret2
                                        exact ⟨.inl ⟨_, _, _, rfl, HE.out⟩, (HB5.out.alloc HB5.out.size _)⟩
                · have HE : Hid (∀ x, D ≠ some (some x)) := Lib.hid (HERR.out (HK.out.nok h0 hno))
                  clear hno HLD
                  go_wp2
                  go_ret2
                  exact ⟨.inl ⟨_, _, _, rfl, HE.out⟩, (HB1.out.alloc HB1.out.size _)⟩
          · obtain ⟨q1, q2⟩ := empty_true h0
            obtain ⟨sum, n, fine, hn, hr, hf⟩ := HK.out
            rw [nil_of h0, dur_nil] at hr
            have HF : Hid (∀ n, R = some (some n) → d = n ∧ n ≤ 4611686018427387904) := Lib.hid (fun n hn => by
              rw [← hr] at hn
              cases fine with
              | false => simp at hn
              | true => simp at hn; subst hn; exact hf rfl)
            have HN : Hid (D ≠ none) := Lib.hid (by
              rw [HR0.out, ← hr]
              cases fine <;> simp [finish])
            have HY : Hid (∀ y, D = some (some y) → d ≤ 4611686018427387904 ∧ y = if neg then -(d : Int) else (d : Int)) := Lib.hid (fun y hy => by
              rw [HR0.out] at hy
              cases hR : R with
              | none => rw [hR] at hy; simp [finish] at hy
              | some r =>
                cases r with
                | none => rw [hR] at hy; simp [finish] at hy
                | some n =>
                  obtain ⟨h1, h2⟩ := HF.out n hR
                  rw [hR] at hy
                  simp [finish] at hy
                  subst h1
                  exact ⟨h2, hy.symm⟩)
            clear hr hn hf
            by_cases hd2 : d ≤ 9223372036854775807
            · have hd3 : ¬ (9223372036854775807 : Int) < (d : Int) := by omega
              cases neg with
              | true =>
                go_wp2
                go_ret2
                exact ⟨.inr ⟨_, rfl, HN.out, fun y hy => by have := (HY.out y hy).2; simpa using this, by omega, by omega⟩, HB.out⟩
              | false =>
                go_wp2
                go_ret2
                exact ⟨.inr ⟨_, rfl, HN.out, fun y hy => by have := (HY.out y hy).2; simpa using this, by omega, by omega⟩, HB.out⟩
            · have hd3 : (9223372036854775807 : Int) < (d : Int) := by omega
              have hd4 : d = 9223372036854775808 := by omega
              have HX : Hid (∀ x, D ≠ some (some x)) := Lib.hid (fun x hx => by have := (HY.out x hx).1; omega)
              subst hd4
              cases neg with
              | true =>
                go_wp2
                go_ret2
                exact ⟨.inr ⟨_, rfl, HN.out, fun y hy => absurd hy (HX.out y), by simp [wrap64], by simp [wrap64]⟩, HB.out⟩
              | false =>
                go_wp2
                go_ret2
                exact ⟨.inl ⟨_, _, _, rfl, HX.out⟩, (HB.out.alloc HB.out.size _)⟩
      · obtain ⟨q1, q2⟩ := empty_true h00
        have HR : Hid (D = none) := Lib.hid (by rw [HDUR.out]; simp only; rw [← HT0.out, if_neg hz, nil_of h00]; simp)
        clear hz
        go_wp2
        go_ret2
        exact ⟨.inl ⟨_, _, _, rfl, by rw [HR.out]; intro x; simp⟩, (Below.refl _ _).alloc (Nat.le_refl _) _⟩
end Go.Proofs.YtmnjmhlodbifjaaGreatDoor.ParseDur
