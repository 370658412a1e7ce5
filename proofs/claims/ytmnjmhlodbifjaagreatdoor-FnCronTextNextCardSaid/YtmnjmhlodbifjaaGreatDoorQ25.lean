/- The reference's cronUnit, cronTerm and CronDuration. Conditions: texts of at most 65536 bytes. -/
import Derived.Test.YtmnjmhlodbifjaaGreatDoorQ22
import Derived.Test.YtmnjmhlodbifjaaGreatDoorQ20
import Derived.Test.YtmnjmhlodbifjaaGreatDoorQ12
import Derived.Outline

namespace Go.Proofs.YtmnjmhlodbifjaaGreatDoor.SpecDur
open Go Go.RowKit Go.Proofs.YtmnjmhlodbifjaaGreatDoor.Mem Go.Proofs.YtmnjmhlodbifjaaGreatDoor.Aid Go.Proofs.YtmnjmhlodbifjaaGreatDoor.NumPure Go.Proofs.YtmnjmhlodbifjaaGreatDoor.SplitPure Go.Proofs.YtmnjmhlodbifjaaGreatDoor.DurPure Go.Proofs.YtmnjmhlodbifjaaGreatDoor.DurKept Go.Proofs.YtmnjmhlodbifjaaGreatDoor.TrimSpec Go.Proofs.YtmnjmhlodbifjaaGreatDoor.ZoneName Go.Proofs.YtmnjmhlodbifjaaGreatDoor.SpecNum Go.Proofs.YtmnjmhlodbifjaaGreatDoor.SpecEnds
set_option linter.unusedVariables false
theorem unit_spec (s : ByteArray) (w : World) :
    Calls Tryz.prog 152 #[.string s] w fun e w' => e = .returned (.tuple #[.int .i64 ((unitOf s.data.toList).1 : Int), .int .i64 ((unitOf s.data.toList).2 : Int)]) ∧ w = w' := by
  unfold unitOf
  by_cases c0 : s.data.toList = [110, 115]
  · have q0 := beq_list c0
    rw [if_pos c0]
    clear c0
    go_enter Tryz.func152, Tryz.ntmps152
    go_wp2
    go_ret2
    exact ⟨rfl, rfl⟩
  have q0 := beq_not c0
  rw [if_neg c0]
  clear c0
  by_cases c1 : s.data.toList = [117, 115]
  · have q1 := beq_list c1
    rw [if_pos (.inl c1)]
    clear c1
    go_enter Tryz.func152, Tryz.ntmps152
    go_wp2
    go_ret2
    exact ⟨rfl, rfl⟩
  have q1 := beq_not c1
  by_cases c2 : s.data.toList = [194, 181, 115]
  · have q2 := beq_list c2
    rw [if_pos (.inr (.inl c2))]
    clear c1 c2
    go_enter Tryz.func152, Tryz.ntmps152
    go_wp2
    go_ret2
    exact ⟨rfl, rfl⟩
  have q2 := beq_not c2
  by_cases c3 : s.data.toList = [206, 188, 115]
  · have q3 := beq_list c3
    rw [if_pos (.inr (.inr c3))]
    clear c1 c2 c3
    go_enter Tryz.func152, Tryz.ntmps152
    go_wp2
    go_ret2
    exact ⟨rfl, rfl⟩
  have q3 := beq_not c3
  rw [if_neg (by rintro (h | h | h); exact c1 h; exact c2 h; exact c3 h)]
  clear c1 c2 c3
  by_cases c4 : s.data.toList = [109, 115]
  · have q4 := beq_list c4
    rw [if_pos c4]
    clear c4
    go_enter Tryz.func152, Tryz.ntmps152
    go_wp2
    go_ret2
    exact ⟨rfl, rfl⟩
  have q4 := beq_not c4
  rw [if_neg c4]
  clear c4
  by_cases c5 : s.data.toList = [115]
  · have q5 := beq_list c5
    rw [if_pos c5]
    clear c5
    go_enter Tryz.func152, Tryz.ntmps152
    go_wp2
    go_ret2
    exact ⟨rfl, rfl⟩
  have q5 := beq_not c5
  rw [if_neg c5]
  clear c5
  by_cases c6 : s.data.toList = [109]
  · have q6 := beq_list c6
    rw [if_pos c6]
    clear c6
    go_enter Tryz.func152, Tryz.ntmps152
    go_wp2
    go_ret2
    exact ⟨rfl, rfl⟩
  have q6 := beq_not c6
  rw [if_neg c6]
  clear c6
  by_cases c7 : s.data.toList = [104]
  · have q7 := beq_list c7
    rw [if_pos c7]
    clear c7
    go_enter Tryz.func152, Tryz.ntmps152
    go_wp2
    go_ret2
    exact ⟨rfl, rfl⟩
  have q7 := beq_not c7
  rw [if_neg c7]
  clear c7
  go_enter Tryz.func152, Tryz.ntmps152
  go_wp2
  go_ret2
  exact ⟨rfl, rfl⟩
def TermRes (l : List UInt8) (e : Ending) : Prop :=
  (termBad l = true ∧ ∃ t : ByteArray, e = .returned (.tuple #[.int .i64 0, .string t, .int .i64 0])) ∨
  (termBad l = false ∧ ∃ (x v : Nat) (t : ByteArray), e = .returned (.tuple #[.int .i64 (x : Int), .string t, .int .i64 (v : Int)]) ∧ t.data.toList = tailOf l ∧ x ≤ 4611686018427387904 ∧ ((termOk l = true ∧ v = 1 ∧ x = termNum l) ∨ (termOk l = false ∧ v = 2)))
theorem drop_take {s : ByteArray} {a b : Nat} : (s.extract a b).data.toList = (s.data.toList.drop a).take (b - a) := Lib.extract_data s a b
theorem dot_of {s : ByteArray} {k : Nat} (hk : k < s.size) (hp : s[k] = 46) : frac (s.data.toList.drop k) = ((s.data.toList.drop (k + 1)).takeWhile isDig, (s.data.toList.drop (k + 1)).dropWhile isDig) := by
  rw [List.drop_eq_getElem_cons (by simpa using hk)]
  have h : s.data.toList[k]'(by simpa using hk) = 46 := hp
  simp only [frac, h, if_pos]
theorem no_dot {s : ByteArray} {k : Nat} (h : ∀ hk : k < s.size, ¬ s[k] = 46) : frac (s.data.toList.drop k) = ([], s.data.toList.drop k) := by
  by_cases hk : k < s.size
  · rw [List.drop_eq_getElem_cons (by simpa using hk)]
    have h2 : ¬ s.data.toList[k]'(by simpa using hk) = 46 := h hk
    simp only [frac, h2, if_neg, not_false_eq_true]
  · rw [List.drop_of_length_le (by rw [← Lib.size_eq]; omega)]
    rfl
theorem span_from {p : UInt8 → Bool} {s : ByteArray} {a k : Nat} (hak : a ≤ k) (hk : k ≤ s.size) (h : ∀ j, a ≤ j → j < k → p (s.data.toList.getD j 0) = true) (he : ∀ h : k < s.size, p s[k] = false) :
    (s.data.toList.drop a).takeWhile p = (s.data.toList.drop a).take (k - a) ∧ (s.data.toList.drop a).dropWhile p = s.data.toList.drop k := by
  have hl : s.data.toList.length = s.size := (Lib.size_eq s).symm
  have hg : ∀ j, (s.data.toList.drop a).getD j 0 = s.data.toList.getD (a + j) 0 := fun j => by
    rw [List.getD_eq_getElem?_getD, List.getD_eq_getElem?_getD, List.getElem?_drop]
  have := span_at (p := p) (l := s.data.toList.drop a) (k := k - a) (by rw [List.length_drop]; omega) (fun j hj => by rw [hg]; exact h _ (by omega) (by omega)) (fun hlt => by
    rw [List.length_drop] at hlt
    rw [hg, show a + (k - a) = k by omega, Words.getD_at s k (by omega)]
    exact he (by omega))
  rw [List.drop_drop, show a + (k - a) = k by omega] at this
  exact this
theorem first_lt {l : List UInt8} (h : ∀ c ∈ l, isDig c = true) (m : Nat) : numOf (l.take m) < 10 ^ m := by
  have h1 := val_lt (l.take m) (fun c hc => h c (List.mem_of_mem_take hc))
  refine Nat.lt_of_lt_of_le h1 (Nat.pow_le_pow_right (by decide) ?_)
  rw [List.length_take]; omega
theorem first_next {s : ByteArray} {a k : Nat} (hk : k < s.size) (hak : a ≤ k) : numOf ((s.data.toList.drop a).take (k + 1 - a)) = 10 * numOf ((s.data.toList.drop a).take (k - a)) + ((s[k]).toNat - 48) := by
  rw [show k + 1 - a = (k - a) + 1 by omega, List.take_add_one, List.getElem?_drop, show a + (k - a) = k by omega, List.getElem?_eq_getElem (by simpa using hk)]
  exact val_snoc _ _
theorem digs_first {s : ByteArray} {a k : Nat} (hk : k ≤ s.size) (h : ∀ j, a ≤ j → j < k → isDig (s.data.toList.getD j 0) = true) : ∀ c ∈ (s.data.toList.drop a).take (k - a), isDig c = true := by
  intro c hc
  obtain ⟨j, hj, rfl⟩ := List.getElem_of_mem hc
  rw [List.length_take, List.length_drop, ← Lib.size_eq] at hj
  have := h (a + j) (by omega) (by omega)
  rw [List.getD_eq_getElem?_getD, List.getElem?_eq_getElem (by rw [← Lib.size_eq]; omega)] at this
  rw [List.getElem_take, List.getElem_drop]
  exact this
theorem snoc_from {p : UInt8 → Bool} {s : ByteArray} {a k : Nat} (hk : k < s.size) (hd : p s[k] = true) (h : ∀ j, a ≤ j → j < k → p (s.data.toList.getD j 0) = true) : ∀ j, a ≤ j → j < k + 1 → p (s.data.toList.getD j 0) = true := by
  intro j ha hj
  by_cases hjk : j = k
  · subst hjk; rw [Words.getD_at s j hk]; exact hd
  · exact h j ha (by omega)
theorem frac_done {s : ByteArray} {k m y dg : Nat} (hf : fpart s.data.toList = (s.data.toList.drop (k + 1)).takeWhile isDig ∧ behind s.data.toList = (s.data.toList.drop (k + 1)).dropWhile isDig)
    (he : (s.data.toList.drop (k + 1)).takeWhile isDig = (s.data.toList.drop (k + 1)).take (m - (k + 1)) ∧ (s.data.toList.drop (k + 1)).dropWhile isDig = s.data.toList.drop m) (hdg : m - (k + 1) = dg) (hm : m ≤ s.size)
    (hy : y = numOf ((s.data.toList.drop (k + 1)).take (min (m - (k + 1)) 11))) : ((fpart s.data.toList).length = dg ∧ y = numOf ((fpart s.data.toList).take 11)) ∧ behind s.data.toList = s.data.toList.drop m := by
  have hl : s.data.toList.length = s.size := (Lib.size_eq s).symm
  rw [hf.1, hf.2, he.1, he.2]
  refine ⟨⟨?_, ?_⟩, rfl⟩
  · rw [List.length_take, List.length_drop]; omega
  · rw [List.take_take, Nat.min_comm 11]; exact hy
theorem ok_len {l : List UInt8} (h : termOk l = true) : (whole l).length ≤ 15 := by
  unfold termOk at h
  simp only [Bool.and_eq_true, decide_eq_true_eq] at h
  exact h.1.1
theorem name_done {s : ByteArray} {m q : Nat} (hb : behind s.data.toList = s.data.toList.drop m) (he : (s.data.toList.drop m).takeWhile (fun c => !isNum c) = (s.data.toList.drop m).take (q - m) ∧ (s.data.toList.drop m).dropWhile (fun c => !isNum c) = s.data.toList.drop q) (hq : q ≤ s.size) :
    unitName s.data.toList = (s.extract m q).data.toList ∧ tailOf s.data.toList = (s.extract q s.size).data.toList := by
  unfold unitName tailOf
  rw [hb, he.1, he.2, drop_take, Lib.extract_to_end]
  exact ⟨rfl, rfl⟩
set_option maxHeartbeats 4000000 in
set_option maxRecDepth 100000 in
theorem term_any (s : ByteArray) (w : World) (hs : s.size ≤ 65536) :
    Calls Tryz.prog 139 #[.string s] w fun e w' => TermRes s.data.toList e ∧ Below w.heap.size w w' := by
  have hlen : s.data.toList.length = s.size := (Lib.size_eq s).symm
  have HU := Lib.hid (fun (u : ByteArray) (w : World) => unit_spec u w)
  go_enter Tryz.func139, Tryz.ntmps139
  go_upto_block 0 with fail
  go_cut [4, 5, 6] (fun vv i xv wx => ∃ k x v : Nat, vv = .int .i64 (v : Int) ∧ i = .int .i64 (k : Int) ∧ xv = .int .i64 (x : Int) ∧ k ≤ s.size ∧ x < 1000000000000000 ∧ v ≤ 2 ∧ Hid (v = if k ≤ 15 then 1 else 2) ∧ Hid (x = numOf (s.data.toList.take (min k 15))) ∧ Hid (whole s.data.toList = s.data.toList.take k ∧ s.data.toList.dropWhile isDig = s.data.toList.drop k) ∧ wx = w)
  case first =>
   as_aux_lemma =>
    go_wp2
    go_loop [4, 5, 6] (fun vv i xv => ∃ k x v : Nat, vv = .int .i64 (v : Int) ∧ i = .int .i64 (k : Int) ∧ xv = .int .i64 (x : Int) ∧ k ≤ s.size ∧ x < 1000000000000000 ∧ v ≤ 2 ∧ Hid (v = if k ≤ 15 then 1 else 2) ∧ Hid (x = numOf (s.data.toList.take (min k 15))) ∧ Hid (∀ j, j < k → isDig (s.data.toList.getD j 0) = true)) (fun _ i _ => s.size - (intOf i).toNat)
    case atStart => exact ⟨0, 0, 1, rfl, rfl, rfl, Nat.zero_le _, by omega, by omega, Lib.hid rfl, Lib.hid rfl, Lib.hid (fun j hj => by omega)⟩
    case round =>
      obtain ⟨k, x, v, rfl, rfl, rfl, hk, hx, hv, HV, HX, HD⟩ := hrel
      by_cases hlt : k < s.size
      · have hki : (k : Int) < (s.size : Int) := by omega
        cases hd : isDig s[k] with
        | true =>
          obtain ⟨d1, d2⟩ := (isDig_iff _).1 hd
          have HY := Lib.hid (fun w => isDigit_yes s[k] w hd)
          have HD2 := Lib.hid (Lead.snoc_digs hlt hd HD.out)
          have hc2 : (s[k]).toNat < 256 := (s[k]).toNat_lt
          clear hd
          by_cases h15 : k < 15
          · have h15i : (k : Int) < 15 := by omega
            obtain ⟨y, hy⟩ : ∃ y : Nat, 10 * x + ((s[k]).toNat - 48) = y := ⟨_, rfl⟩
            have hyi : 10 * (x : Int) + (((s[k]).toNat : Int) - 48) = (y : Int) := by omega
            have HX2 : Hid (y = numOf (s.data.toList.take (min (k + 1) 15))) := Lib.hid (by
              rw [show min (k + 1) 15 = k + 1 by omega, Lead.val_next hlt, ← hy, HX.out, show min k 15 = k by omega])
            have hyb : y < 1000000000000000 := by
              have h1 := Lead.digs_val (k := k + 1) (by omega) HD2.out
              have h2 := HX2.out
              rw [show min (k + 1) 15 = k + 1 by omega] at h2
              rw [← h2] at h1
              exact Nat.lt_of_lt_of_le h1 (Nat.le_trans (Nat.pow_le_pow_right (by decide) (show k + 1 ≤ 15 by omega)) (by decide))
            have HV2 : Hid (v = if k + 1 ≤ 15 then 1 else 2) := Lib.hid (by rw [HV.out, if_pos (by omega), if_pos (by omega)])
            clear hy
            go_wp2_with (go_at_call 151; refine (HY.out _).mono ?_; rintro e w' ⟨rfl, rfl⟩)
            go_round
            case rel => exact ⟨k + 1, y, v, rfl, by go_num, rfl, by omega, hyb, hv, HV2, HX2, HD2⟩
            case measure => simp [intOf]; omega
          · have h15i : ¬ (k : Int) < 15 := by omega
            have HX2 : Hid (x = numOf (s.data.toList.take (min (k + 1) 15))) := Lib.hid (by rw [HX.out, show min (k + 1) 15 = min k 15 by omega])
            have HV2 : Hid (2 = if k + 1 ≤ 15 then 1 else 2) := Lib.hid (by rw [if_neg (by omega)])
            go_wp2_with (go_at_call 151; refine (HY.out _).mono ?_; rintro e w' ⟨rfl, rfl⟩)
            go_round
            case rel => exact ⟨k + 1, x, 2, rfl, by go_num, rfl, by omega, hx, by omega, HV2, HX2, HD2⟩
            case measure => simp [intOf]; omega
        | false =>
          have HN := Lib.hid (fun w => isDigit_no s[k] w hd)
          have HE := Lib.hid (Lead.span_dig hk HD.out (fun _ => hd))
          clear hd
          go_wp2_with (go_at_call 151; refine (HN.out _).mono ?_; rintro e w' ⟨rfl, rfl⟩)
          go_meet
          case rel => exact ⟨k, x, v, rfl, rfl, rfl, hk, hx, hv, HV, HX, HE, rfl⟩
      · have hki : ¬ (k : Int) < (s.size : Int) := by omega
        have HE := Lib.hid (Lead.span_dig hk HD.out (fun h => absurd h hlt))
        go_wp2
        go_meet
        case rel => exact ⟨k, x, v, rfl, rfl, rfl, hk, hx, hv, HV, HX, HE, rfl⟩
  case rest =>
   as_aux_lemma =>
    obtain ⟨k, x, v, rfl, rfl, rfl, hk, hx, hv, HV, HX, HW, rfl⟩ := hcut
    obtain ⟨w, rfl⟩ : ∃ w, w = wc := ⟨_, rfl⟩
    obtain ⟨pt, hpt⟩ : ∃ pt, (if h : k < s.size then s[k] == 46 else false) = pt := ⟨_, rfl⟩
    have HPT := Lib.hid hpt
    clear hpt
    go_upto_region 9 with fail
    go_cut [47] (fun b wx => b = .bool pt ∧ wx = w)
    case first =>
     as_aux_lemma =>
      by_cases hlt : k < s.size
      · have hki : (k : Int) < (s.size : Int) := by omega
        by_cases hp : s[k] = 46
        · have x1 : (((s[k]).toNat : Int) == 46) = true := by rw [hp]; rfl
          have HE : Hid (pt = true) := Lib.hid (by have := HPT.out; rw [dif_pos hlt, hp] at this; exact this.symm)
          clear hp
          go_wp2
          go_meet
          case rel => exact ⟨by rw [HE.out], rfl⟩
        · have x1 : (((s[k]).toNat : Int) == 46) = false := by
            rw [beq_eq_false_iff_ne]; intro e; exact hp (by rw [← UInt8.toNat_inj]; exact Int.ofNat.inj e)
          have HE : Hid (pt = false) := Lib.hid (by have := HPT.out; rw [dif_pos hlt] at this; rw [← this]; simpa using hp)
          clear hp
          go_wp2
          go_meet
          case rel => exact ⟨by rw [HE.out], rfl⟩
      · have hki : ¬ (k : Int) < (s.size : Int) := by omega
        have HE : Hid (pt = false) := Lib.hid (by have := HPT.out; rw [dif_neg hlt] at this; exact this.symm)
        go_wp2
        go_meet
        case rel => exact ⟨by rw [HE.out], rfl⟩
    case rest =>
     as_aux_lemma =>
      obtain ⟨rfl, rfl⟩ := hcut
      obtain ⟨w, rfl⟩ : ∃ w, w = wc := ⟨_, rfl⟩
      go_upto_if 47 with fail
      go_cut [5, 7, 8, 9] (fun i yv dv cv wx => ∃ m y dg ct : Nat, i = .int .i64 (m : Int) ∧ yv = .int .i64 (y : Int) ∧ dv = .int .i64 (dg : Int) ∧ cv = .int .i64 (ct : Int) ∧ ct = k + dg ∧ m ≤ s.size ∧ y < 1000000000000 ∧ dg ≤ 65536 ∧ Hid ((fpart s.data.toList).length = dg ∧ y = numOf ((fpart s.data.toList).take 11)) ∧ Hid (behind s.data.toList = s.data.toList.drop m) ∧ wx = w)
      case first =>
       as_aux_lemma =>
        cases pt with
        | false =>
          have HF : Hid (fpart s.data.toList = [] ∧ behind s.data.toList = s.data.toList.drop k) := Lib.hid (by
            have h := no_dot (s := s) (k := k) (fun hk => by
              have := HPT.out
              rw [dif_pos hk] at this
              simpa using this)
            unfold fpart behind
            rw [HW.out.2, h]
            exact ⟨rfl, rfl⟩)
          go_wp2
          go_meet
          case rel => exact ⟨k, 0, 0, k, rfl, rfl, rfl, rfl, rfl, hk, by omega, by omega, Lib.hid (by rw [HF.out.1]; exact ⟨rfl, rfl⟩), Lib.hid HF.out.2, rfl⟩
        | true =>
          have hlt : k < s.size := by
            by_cases h : k < s.size
            · exact h
            · have := HPT.out
              rw [dif_neg h] at this
              cases this
          have HF : Hid (fpart s.data.toList = (s.data.toList.drop (k + 1)).takeWhile isDig ∧ behind s.data.toList = (s.data.toList.drop (k + 1)).dropWhile isDig) := Lib.hid (by
            have h := dot_of (s := s) (k := k) hlt (by
              have := HPT.out
              rw [dif_pos hlt] at this
              simpa using this)
            unfold fpart behind
            rw [HW.out.2, h]
            exact ⟨rfl, rfl⟩)
          have hki : (k : Int) < (s.size : Int) := by omega
          go_wp2
          go_loop [5, 7, 8] (fun i yv dv => ∃ m y : Nat, i = .int .i64 (m : Int) ∧ yv = .int .i64 (y : Int) ∧ dv = .int .i64 ((m - (k + 1) : Nat) : Int) ∧ k + 1 ≤ m ∧ m ≤ s.size ∧ y < 1000000000000 ∧ Hid (y = numOf ((s.data.toList.drop (k + 1)).take (min (m - (k + 1)) 11))) ∧ Hid (∀ j, k + 1 ≤ j → j < m → isDig (s.data.toList.getD j 0) = true)) (fun i _ _ => s.size - (intOf i).toNat)
          case atStart => exact ⟨k + 1, 0, by go_num, rfl, by simp, by omega, by omega, by omega, Lib.hid (by simp [numOf]), Lib.hid (fun j h1 h2 => by omega)⟩
          case round =>
            obtain ⟨m, y, rfl, rfl, rfl, hkm, hm, hy, HY, HD⟩ := hrel
            obtain ⟨dg, hdg⟩ : ∃ dg, m - (k + 1) = dg := ⟨_, rfl⟩
            rw [hdg]
            have HDG := Lib.hid hdg
            have hdgb : dg ≤ 65536 := by omega
            clear hdg
            by_cases hml : m < s.size
            · have hmi : (m : Int) < (s.size : Int) := by omega
              cases hd : isDig s[m] with
              | true =>
                obtain ⟨d1, d2⟩ := (isDig_iff _).1 hd
                have HYS := Lib.hid (fun w => isDigit_yes s[m] w hd)
                have HD2 := Lib.hid (snoc_from hml hd HD.out)
                have hc2 : (s[m]).toNat < 256 := (s[m]).toNat_lt
                have hdg2 : m + 1 - (k + 1) = dg + 1 := by have := HDG.out; omega
                clear hd
                by_cases h11 : dg + 1 ≤ 11
                · have h11i : (dg : Int) + 1 ≤ 11 := by omega
                  obtain ⟨z, hz⟩ : ∃ z : Nat, 10 * y + ((s[m]).toNat - 48) = z := ⟨_, rfl⟩
                  have hzi : 10 * (y : Int) + (((s[m]).toNat : Int) - 48) = (z : Int) := by omega
                  have HZ2 : Hid (z = numOf ((s.data.toList.drop (k + 1)).take (min (m + 1 - (k + 1)) 11))) := Lib.hid (by
                    rw [hdg2, show min (dg + 1) 11 = dg + 1 by omega, ← hdg2, first_next hml hkm, ← hz, HY.out, HDG.out, show min dg 11 = dg by omega])
                  have hzb : z < 1000000000000 := by
                    have h1 := first_lt (digs_first (a := k + 1) (k := m + 1) (by omega) HD2.out) 11
                    have h2 := HZ2.out
                    rw [hdg2, show min (dg + 1) 11 = dg + 1 by omega] at h2
                    rw [hdg2, List.take_take, show min 11 (dg + 1) = dg + 1 by omega, ← h2] at h1
                    omega
                  clear hz
                  go_wp2_with (go_at_call 151; refine (HYS.out _).mono ?_; rintro e w' ⟨rfl, rfl⟩)
                  go_round
                  case rel => exact ⟨m + 1, z, by go_num, rfl, by rw [hdg2]; go_num, by omega, by omega, hzb, HZ2, HD2⟩
                  case measure => simp [intOf]; omega
                · have h11i : ¬ (dg : Int) + 1 ≤ 11 := by omega
                  have HZ2 : Hid (y = numOf ((s.data.toList.drop (k + 1)).take (min (m + 1 - (k + 1)) 11))) := Lib.hid (by
                    have := HY.out
                    rw [HDG.out] at this
                    rw [hdg2, show min (dg + 1) 11 = min dg 11 by omega]
                    exact this)
                  go_wp2_with (go_at_call 151; refine (HYS.out _).mono ?_; rintro e w' ⟨rfl, rfl⟩)
                  go_round
                  case rel => exact ⟨m + 1, y, by go_num, rfl, by rw [hdg2]; go_num, by omega, by omega, hy, HZ2, HD2⟩
                  case measure => simp [intOf]; omega
              | false =>
                have HN := Lib.hid (fun w => isDigit_no s[m] w hd)
                have HE := Lib.hid (span_from hkm hm HD.out (fun _ => hd))
                have HFD := Lib.hid (frac_done HF.out HE.out HDG.out hm HY.out)
                clear hd
                go_wp2_with (go_at_call 151; refine (HN.out _).mono ?_; rintro e w' ⟨rfl, rfl⟩)
                go_meet
                case rel => exact ⟨m, y, dg, k + dg, rfl, rfl, rfl, by go_num, rfl, hm, hy, hdgb, Lib.hid HFD.out.1, Lib.hid HFD.out.2, rfl⟩
            · have hmi : ¬ (m : Int) < (s.size : Int) := by omega
              have HE := Lib.hid (span_from hkm hm HD.out (fun h => absurd h hml))
              have HFD := Lib.hid (frac_done HF.out HE.out HDG.out hm HY.out)
              go_wp2
              go_meet
              case rel => exact ⟨m, y, dg, k + dg, rfl, rfl, rfl, by go_num, rfl, hm, hy, hdgb, Lib.hid HFD.out.1, Lib.hid HFD.out.2, rfl⟩
      case rest =>
       as_aux_lemma =>
        obtain ⟨m, y, dg, ct, rfl, rfl, rfl, rfl, hct, hm, hy, hdg, HFP, HBE, rfl⟩ := hcut
        obtain ⟨w, rfl⟩ : ∃ w, w = wc := ⟨_, rfl⟩
        have HCT := Lib.hid hct
        clear HPT hct
        go_upto_block 4 with fail
        go_cut [5] (fun i wx => ∃ q : Nat, i = .int .i64 (q : Int) ∧ m ≤ q ∧ q ≤ s.size ∧ Hid (unitName s.data.toList = (s.extract m q).data.toList ∧ tailOf s.data.toList = (s.extract q s.size).data.toList) ∧ wx = w)
        case first =>
         as_aux_lemma =>
          go_wp2
          go_loop [5] (fun i => ∃ q : Nat, i = .int .i64 (q : Int) ∧ m ≤ q ∧ q ≤ s.size ∧ Hid (∀ j, m ≤ j → j < q → (!isNum (s.data.toList.getD j 0)) = true)) (fun i => s.size - (intOf i).toNat)
          case atStart => exact ⟨m, rfl, by omega, hm, Lib.hid (fun j h1 h2 => by omega)⟩
          case round =>
            obtain ⟨q, rfl, hmq, hq, HN⟩ := hrel
            by_cases hlt : q < s.size
            · have hqi : (q : Int) < (s.size : Int) := by omega
              cases hd : isDig s[q] with
              | true =>
                have HY := Lib.hid (fun w => isDigit_yes s[q] w hd)
                have HE := Lib.hid (name_done HBE.out (span_from (p := fun c => !isNum c) hmq hq HN.out (fun _ => by simp [isNum, hd])) hq)
                clear hd
                go_wp2_with (go_at_call 151; refine (HY.out _).mono ?_; rintro e w' ⟨rfl, rfl⟩)
                go_meet
                case rel => exact ⟨q, rfl, hmq, hq, HE, rfl⟩
              | false =>
                have HYN := Lib.hid (fun w => isDigit_no s[q] w hd)
                by_cases hp : s[q] = 46
                · have x1 : (((s[q]).toNat : Int) != 46) = false := by rw [hp]; rfl
                  have HE := Lib.hid (name_done HBE.out (span_from (p := fun c => !isNum c) hmq hq HN.out (fun _ => by rw [hp]; rfl)) hq)
                  clear hd hp
                  go_wp2_with (go_at_call 151; refine (HYN.out _).mono ?_; rintro e w' ⟨rfl, rfl⟩)
                  go_meet
                  case rel => exact ⟨q, rfl, hmq, hq, HE, rfl⟩
                · have x1 : (((s[q]).toNat : Int) != 46) = true := by
                    rw [bne_iff_ne]; intro e; exact hp (by rw [← UInt8.toNat_inj]; exact Int.ofNat.inj e)
                  have HN2 := Lib.hid (snoc_from (p := fun c => !isNum c) hlt (by simp [isNum, hd, hp]) HN.out)
                  clear hd hp
                  go_wp2_with (go_at_call 151; refine (HYN.out _).mono ?_; rintro e w' ⟨rfl, rfl⟩)
                  go_round
                  case rel => exact ⟨q + 1, by go_num, by omega, by omega, HN2⟩
                  case measure => simp [intOf]; omega
            · have hqi : ¬ (q : Int) < (s.size : Int) := by omega
              have HE := Lib.hid (name_done HBE.out (span_from (p := fun c => !isNum c) hmq hq HN.out (fun h => absurd h hlt)) hq)
              go_wp2
              go_meet
              case rel => exact ⟨q, rfl, hmq, hq, HE, rfl⟩
        case rest =>
         as_aux_lemma =>
          obtain ⟨q, rfl, hmq, hq, HUN, rfl⟩ := hcut
          obtain ⟨w, rfl⟩ : ∃ w, w = wc := ⟨_, rfl⟩
          have hmqi : (m : Int) ≤ (q : Int) := by omega
          have hqi : (q : Int) ≤ (s.size : Int) := by omega
          have HU1 := Lib.hid (fun w => unit_spec (s.extract m q) w)
          rw [← HUN.out.1] at HU1
          obtain ⟨n, hn⟩ : ∃ n, unitN s.data.toList = n := ⟨_, rfl⟩
          obtain ⟨mo, hmo⟩ : ∃ mo, most s.data.toList = mo := ⟨_, rfl⟩
          unfold unitN at hn
          unfold most at hmo
          rw [hn, hmo] at HU1
          have HNN : Hid (unitN s.data.toList = n) := Lib.hid hn
          have HMM : Hid (most s.data.toList = mo) := Lib.hid hmo
          have hmo11 : mo ≤ 11 := by rw [← HMM.out]; exact most_le _
          have hnle : n ≤ 3600000000000 := by rw [← HNN.out]; exact unit_le _
          have hwl : (whole s.data.toList).length = k := by rw [HW.out.1, List.length_take]; omega
          have HBAD : Hid (termBad s.data.toList = ((ct : Int) == 0 || (n : Int) == 0)) := Lib.hid (by
            unfold termBad
            rw [hwl, HFP.out.1, HNN.out]
            rw [Bool.eq_iff_iff]
            simp only [Bool.or_eq_true, decide_eq_true_eq, beq_iff_eq]
            have := HCT.out
            omega)
          clear hn hmo
          cases hb1 : ((ct : Int) == 0) with
          | true =>
            have HB : Hid (termBad s.data.toList = true) := Lib.hid (by rw [HBAD.out, hb1]; rfl)
            go_wp2_with (go_at_call 152; refine (HU1.out _).mono ?_; rintro e w' ⟨rfl, rfl⟩)
            go_ret3
            exact ⟨.inl ⟨HB.out, _, rfl⟩, Below.refl _ _⟩
          | false =>
            cases hb2 : ((n : Int) == 0) with
            | true =>
              have HB : Hid (termBad s.data.toList = true) := Lib.hid (by rw [HBAD.out, hb2, Bool.or_true])
              go_wp2_with (go_at_call 152; refine (HU1.out _).mono ?_; rintro e w' ⟨rfl, rfl⟩)
              go_ret3
              exact ⟨.inl ⟨HB.out, _, rfl⟩, Below.refl _ _⟩
            | false =>
              have HB : Hid (termBad s.data.toList = false) := Lib.hid (by rw [HBAD.out, hb1, hb2]; rfl)
              have hn0 : 0 < n := by
                rcases Nat.eq_zero_or_pos n with h | h
                · subst h; cases hb2
                · exact h
              have HT : Hid (tailOf s.data.toList = (s.extract q s.size).data.toList) := Lib.hid HUN.out.2
              clear HBAD hwl
              by_cases hdm : mo < dg
              · have hdmi : (mo : Int) < (dg : Int) := by omega
                have HNO : Hid (termOk s.data.toList = false) := Lib.hid (by
                  rw [Bool.eq_false_iff]
                  intro h
                  have := (ok_parts h).1
                  rw [HFP.out.1, HMM.out] at this
                  omega)
                go_wp2_with (go_at_call 152; refine (HU1.out _).mono ?_; rintro e w' ⟨rfl, rfl⟩)
                go_quiet (fail)
                go_wp2
                go_ret3
                exact ⟨.inr ⟨HB.out, 0, 2, _, rfl, HT.out.symm, by omega, .inr ⟨HNO.out, rfl⟩⟩, drewNd (Below.refl _ _) _⟩
              · have hdmi : ¬ (mo : Int) < (dg : Int) := by omega
                obtain ⟨lim, hlim⟩ : ∃ lim : Nat, 4611686018427387904 / n = lim := ⟨_, rfl⟩
                have hl1 : 1 ≤ lim := by rw [← hlim, Nat.le_div_iff_mul_le hn0]; omega
                have hlb : lim ≤ 4611686018427387904 := by rw [← hlim]; exact Nat.div_le_self _ _
                have hli : (4611686018427387904 : Int) / (n : Int) = (lim : Int) := by rw [← hlim, Int.natCast_ediv]; rfl
                have hli2 : (4611686018427387904 : Int).tdiv (n : Int) = (lim : Int) := by rw [Int.tdiv_eq_ediv_of_nonneg (by omega)]; exact hli
                have HLIM := Lib.hid hlim
                clear hlim
                by_cases hxl : lim - 1 < x
                · have hxi : (lim : Int) - 1 < (x : Int) := by omega
                  have HNO : Hid (termOk s.data.toList = false) := Lib.hid (by
                    rw [Bool.eq_false_iff]
                    intro h
                    have h1 := (ok_parts h).2
                    rw [HNN.out, HLIM.out] at h1
                    have h3 := ok_len h
                    rw [HW.out.1, List.length_take] at h3
                    have h4 := HX.out
                    rw [show min k 15 = k by omega, ← HW.out.1] at h4
                    omega)
                  go_wp2_with (go_at_call 152; refine (HU1.out _).mono ?_; rintro e w' ⟨rfl, rfl⟩)
                  go_quiet (fail)
                  go_wp2
                  go_ret3
                  exact ⟨.inr ⟨HB.out, 0, 2, _, rfl, HT.out.symm, by omega, .inr ⟨HNO.out, rfl⟩⟩, drewNd (Below.refl _ _) _⟩
                · have hxi : ¬ (lim : Int) - 1 < (x : Int) := by omega
                  have HFN : Hid (y = numOf (fpart s.data.toList)) := Lib.hid (by
                    rw [HFP.out.2, List.take_of_length_le (by rw [HFP.out.1]; omega)])
                  go_upto_block 6 with (go_at_call 152; refine (HU1.out _).mono ?_; rintro e w' ⟨rfl, rfl⟩)
                  go_cut [11] (fun uv wx => uv = .int .i64 ((n / 10 ^ dg : Nat) : Int) ∧ wx = w)
                  case first =>
                   as_aux_lemma =>
                    go_wp2
                    go_loop [11, 125] (fun uv jv => ∃ j u : Nat, jv = .int .i64 (j : Int) ∧ uv = .int .i64 (u : Int) ∧ j ≤ dg ∧ u ≤ 3600000000000 ∧ Hid (u = n / 10 ^ j)) (fun _ jv => dg - (intOf jv).toNat)
                    case atStart => exact ⟨0, n, rfl, rfl, Nat.zero_le _, hnle, Lib.hid (by simp)⟩
                    case round =>
                      obtain ⟨j, u, rfl, rfl, hj, hu, HJ⟩ := hrel
                      by_cases hjd : j < dg
                      · have hji : (j : Int) < (dg : Int) := by omega
                        go_wp2
                        go_round
                        case rel => exact ⟨j + 1, u / 10, by go_num, by go_num, by omega, by omega, Lib.hid (by rw [HJ.out, Nat.div_div_eq_div_mul, Nat.pow_succ])⟩
                        case measure => simp [intOf]; omega
                      · have hji : ¬ (j : Int) < (dg : Int) := by omega
                        have HE : Hid (u = n / 10 ^ dg) := Lib.hid (by rw [HJ.out, show j = dg by omega])
                        go_wp2
                        go_meet
                        case rel => exact ⟨by rw [HE.out], rfl⟩
                  case rest =>
                   as_aux_lemma =>
                    obtain ⟨rfl, rfl⟩ := hcut
                    obtain ⟨w, rfl⟩ : ∃ w, w = wc := ⟨_, rfl⟩
                    obtain ⟨q1, hq1⟩ : ∃ q1, n / 10 ^ dg = q1 := ⟨_, rfl⟩
                    rw [hq1]
                    have hpl : y * q1 ≤ n := by
                      have := part_le s.data.toList
                      rw [HFP.out.1, HNN.out, hq1, ← HFN.out] at this
                      exact this
                    have hxn : x * n + n ≤ 4611686018427387904 := by
                      have h1 : x + 1 ≤ 4611686018427387904 / n := by have := HLIM.out; omega
                      have := (Nat.le_div_iff_mul_le hn0).1 h1
                      rw [Nat.add_mul, Nat.one_mul] at this
                      exact this
                    obtain ⟨pa, hpa⟩ : ∃ a, x * n = a := ⟨_, rfl⟩
                    obtain ⟨pb, hpb⟩ : ∃ b, y * q1 = b := ⟨_, rfl⟩
                    have hai : (x : Int) * (n : Int) = (pa : Int) := by rw [← hpa]; simp
                    have hbi : (y : Int) * (q1 : Int) = (pb : Int) := by rw [← hpb]; simp
                    rw [hpb] at hpl
                    rw [hpa] at hxn
                    have hab : pa + pb ≤ 4611686018427387904 := by omega
                    have HAB : Hid (pa + pb = x * n + y * q1) := Lib.hid (by rw [hpa, hpb])
                    have HOK : Hid ((termOk s.data.toList = true ∧ v = 1 ∧ pa + pb = termNum s.data.toList) ∨ (termOk s.data.toList = false ∧ v = 2)) := Lib.hid (by
                      by_cases h15 : k ≤ 15
                      · have hv1 := HV.out
                        rw [if_pos h15] at hv1
                        have hxw : x = numOf (whole s.data.toList) := by rw [HX.out, show min k 15 = k by omega, ← HW.out.1]
                        refine .inl ⟨?_, hv1, ?_⟩
                        · unfold termOk
                          rw [HFP.out.1, HMM.out, HNN.out, HLIM.out, ← hxw, HW.out.1, List.length_take]
                          simp only [Bool.and_eq_true, decide_eq_true_eq]
                          omega
                        · unfold termNum
                          rw [HAB.out, HNN.out, HFP.out.1, hq1, ← hxw, ← HFN.out]
                      · have hv1 := HV.out
                        rw [if_neg h15] at hv1
                        refine .inr ⟨?_, hv1⟩
                        rw [Bool.eq_false_iff]
                        intro h
                        have h3 := ok_len h
                        rw [HW.out.1, List.length_take] at h3
                        omega)
                    clear hpa hpb hq1
                    go_upto_region 30 with (go_at_call 152; refine (HU1.out _).mono ?_; rintro e w' ⟨rfl, rfl⟩)
                    go_quiet (fail)
                    go_wp2
                    go_ret3
                    exact ⟨.inr ⟨HB.out, pa + pb, v, _, rfl, HT.out.symm, hab, HOK.out⟩, drewNd (Below.refl _ _) _⟩
def DurSpec (r : Option (Option Int)) (e : Ending) : Prop :=
  match r with
  | none => e = .returned (.tuple #[.int .i64 0, .int .i64 0])
  | some none => e = .returned (.tuple #[.int .i64 0, .int .i64 2])
  | some (some x) => e = .returned (.tuple #[.int .i64 x, .int .i64 1]) ∧ -4611686018427387904 ≤ x ∧ x ≤ 4611686018427387904
theorem worse_lit (a b : Nat) (r : Int) (ha : a ≤ 2) (hb : b ≤ 2) (h : (worseN a b : Int) = r) (w : World) :
    Calls Tryz.prog 46 #[.int .i64 (a : Int), .int .i64 (b : Int)] w fun e w' => e = .returned (.int .i64 r) ∧ w = w' := by
  rw [← h]; exact worse_any a b w ha hb
def signed : List UInt8 → Bool
  | [] => false
  | c :: _ => c == 45 || c == 43
def Run (R : Option (Option Nat)) (l : List UInt8) (sum v : Nat) : Prop := ∃ n, l.length ≤ n ∧ ((v = 1 ∧ durGo n l sum true = R) ∨ (v = 2 ∧ durGo n l 0 false = R))
theorem Run.bad {R : Option (Option Nat)} {l : List UInt8} {sum v : Nat} (h : Run R l sum v) (h0 : l ≠ []) (hb : termBad l = true) : R = none := by
  obtain ⟨n, hn, h⟩ := h
  obtain ⟨m, rfl⟩ : ∃ m, n = m + 1 := ⟨n - 1, by
    have : 0 < l.length := List.length_pos_iff.2 h0
    omega⟩
  rcases h with ⟨_, h⟩ | ⟨_, h⟩ <;> rw [← h] <;> exact dur_bad h0 hb
theorem Run.step {R : Option (Option Nat)} {l : List UInt8} {sum : Nat} (h : Run R l sum 1) (h0 : l ≠ []) (hb : termBad l = false) (ho : termOk l = true) (hs : sum + termNum l ≤ 4611686018427387904) : Run R (tailOf l) (sum + termNum l) 1 := by
  obtain ⟨n, hn, h⟩ := h
  have hlt := rest_lt _ hb
  obtain ⟨m, rfl⟩ : ∃ m, n = m + 1 := ⟨n - 1, by omega⟩
  rcases h with ⟨_, h⟩ | ⟨h, _⟩
  · exact ⟨m, by omega, .inl ⟨rfl, by rw [← h, dur_step h0 hn hb (by rw [ho, decide_eq_true hs]; rfl)]⟩⟩
  · cases h
theorem Run.other {R : Option (Option Nat)} {l : List UInt8} {sum v s2 : Nat} (h : Run R l sum v) (h0 : l ≠ []) (hb : termBad l = false) (ho : v = 2 ∨ termOk l = false ∨ 4611686018427387904 < sum + termNum l) : Run R (tailOf l) s2 2 := by
  obtain ⟨n, hn, h⟩ := h
  have hlt := rest_lt _ hb
  obtain ⟨m, rfl⟩ : ∃ m, n = m + 1 := ⟨n - 1, by omega⟩
  refine ⟨m, by omega, .inr ⟨rfl, ?_⟩⟩
  rcases h with ⟨h1, h⟩ | ⟨h1, h⟩
  · rw [← h, dur_open h0 hb]
    rcases ho with ho | ho | ho
    · omega
    · rw [ho]; simp
    · rw [decide_eq_false (by omega)]; simp
  · rw [← h, dur_open h0 hb]
    simp
theorem Run.done {R : Option (Option Nat)} {l : List UInt8} {sum v : Nat} (h : Run R l sum v) (h0 : l = []) : (v = 1 ∧ R = some (some sum)) ∨ (v = 2 ∧ R = some none) := by
  subst h0
  obtain ⟨n, hn, ⟨h1, h⟩ | ⟨h1, h⟩⟩ := h
  · rw [dur_nil] at h; exact .inl ⟨h1, h.symm⟩
  · rw [dur_nil] at h; exact .inr ⟨h1, h.symm⟩
theorem term_bad {l : List UInt8} {e : Ending} (h : TermRes l e) (hb : termBad l = true) : ∃ t : ByteArray, e = .returned (.tuple #[.int .i64 0, .string t, .int .i64 0]) := by
  rcases h with ⟨_, h⟩ | ⟨h, _⟩
  · exact h
  · rw [hb] at h; cases h
def TermV (l : List UInt8) (x v : Nat) : Prop := (termOk l = true ∧ v = 1 ∧ x = termNum l) ∨ (termOk l = false ∧ v = 2)
theorem term_fine {l : List UInt8} {e : Ending} (h : TermRes l e) (hb : termBad l = false) : ∃ (x v : Nat) (t : ByteArray), e = .returned (.tuple #[.int .i64 (x : Int), .string t, .int .i64 (v : Int)]) ∧ t.data.toList = tailOf l ∧ x ≤ 4611686018427387904 ∧ TermV l x v := by
  rcases h with ⟨h, _⟩ | ⟨_, h⟩
  · rw [hb] at h; cases h
  · exact h
theorem round_mix {R : Option (Option Nat)} {l : List UInt8} {sm k x v : Nat} (h : Run R l sm k) (h0 : l ≠ []) (hb : termBad l = false) (hk : k = 1 ∨ k = 2) (hv : TermV l x v) :
    ∃ r : Nat, (r = 1 ∨ r = 2) ∧ (∀ w, Calls Tryz.prog 46 #[.int .i64 (k : Int), .int .i64 (v : Int)] w fun e w' => e = .returned (.int .i64 (r : Int)) ∧ w = w') ∧
      (sm + x ≤ 4611686018427387904 → Run R (tailOf l) (sm + x) r) ∧ (4611686018427387904 < sm + x → Run R (tailOf l) sm 2) := by
  rcases hk with rfl | rfl <;> rcases hv with ⟨ho, rfl, rfl⟩ | ⟨ho, rfl⟩
  · exact ⟨1, .inl rfl, fun w => worse_lit 1 1 1 (by decide) (by decide) rfl w, fun hs => h.step h0 hb ho hs, fun hs => h.other h0 hb (.inr (.inr hs))⟩
  · exact ⟨2, .inr rfl, fun w => worse_lit 1 2 2 (by decide) (by decide) rfl w, fun hs => h.other h0 hb (.inr (.inl ho)), fun hs => h.other h0 hb (.inr (.inl ho))⟩
  · exact ⟨2, .inr rfl, fun w => worse_lit 2 1 2 (by decide) (by decide) rfl w, fun hs => h.other h0 hb (.inl rfl), fun hs => h.other h0 hb (.inl rfl)⟩
  · exact ⟨2, .inr rfl, fun w => worse_lit 2 2 2 (by decide) (by decide) rfl w, fun hs => h.other h0 hb (.inl rfl), fun hs => h.other h0 hb (.inl rfl)⟩
set_option maxHeartbeats 4000000 in
set_option maxRecDepth 100000 in
theorem duration_any (s : ByteArray) (w : World) (hs : s.size ≤ 65536) :
    Calls Tryz.prog 111 #[.string s] w fun e w' => DurSpec (dur s.data.toList) e ∧ Below w.heap.size w w' := by
  have HT := Lib.hid (fun (t : ByteArray) (w : World) (h : t.size ≤ 65536) => term_any t w h)
  have HW10 := Lib.hid (fun w => worse_lit 1 0 0 (by decide) (by decide) rfl w)
  have HW11 := Lib.hid (fun w => worse_lit 1 1 1 (by decide) (by decide) rfl w)
  have HW12 := Lib.hid (fun w => worse_lit 1 2 2 (by decide) (by decide) rfl w)
  have HW20 := Lib.hid (fun w => worse_lit 2 0 0 (by decide) (by decide) rfl w)
  have HW21 := Lib.hid (fun w => worse_lit 2 1 2 (by decide) (by decide) rfl w)
  have HW22 := Lib.hid (fun w => worse_lit 2 2 2 (by decide) (by decide) rfl w)
  obtain ⟨sg, hsg⟩ : ∃ sg, signOf s.data.toList = sg := ⟨_, rfl⟩
  have HSG := Lib.hid hsg
  have HDUR : Hid (dur s.data.toList = if sg.2 = [48] then some (some 0) else if sg.2 = [] then none else finish sg.1 (durGo sg.2.length sg.2 0 true)) := Lib.hid (by unfold dur; rw [hsg])
  obtain ⟨D, hD⟩ : ∃ D, dur s.data.toList = D := ⟨_, rfl⟩
  rw [hD] at HDUR ⊢
  clear hsg hD
  obtain ⟨neg, l0⟩ := sg
  obtain ⟨sb, hsb⟩ : ∃ sb, signed s.data.toList = sb := ⟨_, rfl⟩
  have HSB := Lib.hid hsb
  clear hsb
  go_enter Tryz.func111, Tryz.ntmps111
  go_upto_region 2 with fail
  go_cut [21] (fun b wx => b = .bool sb ∧ wx = w)
  case first =>
   as_aux_lemma =>
    by_cases h0 : 0 < s.size
    · obtain ⟨q1, q2⟩ := empty_false h0
      have q3 : (!s.toList.isEmpty) = true := by rw [q2]; rfl
      have HE : Hid (sb = (s[0] == 45 || s[0] == 43)) := Lib.hid (by rw [← HSB.out, list_cons h0]; rfl)
      by_cases hm : s[0] = 45
      · have x1 : (((s[0]).toNat : Int) == 45) = true := by rw [hm]; rfl
        have HE : Hid (sb = true) := Lib.hid (by rw [HE.out, hm]; rfl)
        clear hm
        go_wp2
        go_meet
        case rel => exact ⟨by rw [HE.out], rfl⟩
      · have x1 : (((s[0]).toNat : Int) == 45) = false := by
          rw [beq_eq_false_iff_ne]; intro e; exact hm (by rw [← UInt8.toNat_inj]; exact Int.ofNat.inj e)
        by_cases hp : s[0] = 43
        · have x2 : (((s[0]).toNat : Int) == 43) = true := by rw [hp]; rfl
          have HE : Hid (sb = true) := Lib.hid (by rw [HE.out, hp]; rfl)
          clear hm hp
          go_wp2
          go_meet
          case rel => exact ⟨by rw [HE.out], rfl⟩
        · have x2 : (((s[0]).toNat : Int) == 43) = false := by
            rw [beq_eq_false_iff_ne]; intro e; exact hp (by rw [← UInt8.toNat_inj]; exact Int.ofNat.inj e)
          have HE : Hid (sb = false) := Lib.hid (by rw [HE.out]; simp [hm, hp])
          clear hm hp
          go_wp2
          go_meet
          case rel => exact ⟨by rw [HE.out], rfl⟩
    · obtain ⟨q1, q2⟩ := empty_true h0
      have q3 : (!s.toList.isEmpty) = false := by rw [q2]; rfl
      have HE : Hid (sb = false) := Lib.hid (by rw [← HSB.out, nil_of h0]; rfl)
      go_wp2
      go_meet
      case rel => exact ⟨by rw [HE.out], rfl⟩
  case rest =>
   as_aux_lemma =>
    obtain ⟨rfl, rfl⟩ := hcut
    obtain ⟨w, rfl⟩ : ∃ w, w = wc := ⟨_, rfl⟩
    go_upto_if 21 with fail
    go_cut [0, 4] (fun v n wx => ∃ t : ByteArray, v = .string t ∧ n = .bool neg ∧ Hid (t.data.toList = l0) ∧ t.size ≤ s.size ∧ Hid (Below w.heap.size w wx))
    case first =>
     as_aux_lemma =>
      cases sb with
      | false =>
        have HE : Hid (neg = false ∧ s.data.toList = l0) := Lib.hid (by
          have h1 := HSB.out
          have h2 := HSG.out
          cases hl : s.data.toList with
          | nil => rw [hl] at h2; cases h2; exact ⟨rfl, rfl⟩
          | cons c r =>
            rw [hl] at h1 h2
            simp only [signed, Bool.or_eq_false_iff, beq_eq_false_iff_ne] at h1
            simp only [signOf, if_neg h1.1, if_neg h1.2] at h2
            cases h2; exact ⟨rfl, rfl⟩)
        go_wp2
        go_meet
        case rel => exact ⟨s, rfl, by rw [HE.out.1], Lib.hid HE.out.2, Nat.le_refl _, Lib.hid (Below.refl _ _)⟩
      | true =>
        have h0 : 0 < s.size := by
          rcases Nat.eq_zero_or_pos s.size with h | h
          · have := HSB.out
            rw [nil_of (by omega)] at this
            cases this
          · exact h
        have hsz : (1 : Int) ≤ (s.size : Int) := by omega
        have hsz0 : (0 : Int) < (s.size : Int) := by omega
        have HE : Hid ((((s[0]).toNat : Int) == 45) = neg ∧ (s.extract 1 s.size).data.toList = l0) := Lib.hid (by
          have h1 := HSB.out
          have h2 := HSG.out
          rw [list_cons h0] at h1 h2
          simp only [signed, Bool.or_eq_true, beq_iff_eq] at h1
          by_cases hm : s[0] = 45
          · simp only [signOf, if_pos hm] at h2
            cases h2; exact ⟨by rw [hm]; rfl, rfl⟩
          · have hp : s[0] = 43 := by rcases h1 with h | h; exact absurd h hm; exact h
            simp only [signOf, if_neg hm, if_pos hp] at h2
            cases h2; exact ⟨by rw [hp]; rfl, rfl⟩)
        have x1 := HE.out.1
        go_wp2
        go_quiet (fail)
        go_wp2
        go_meet
        case rel => exact ⟨_, rfl, rfl, Lib.hid HE.out.2, by simp, Lib.hid (drewNd (Below.refl _ _) _)⟩
    case rest =>
     as_aux_lemma =>
      obtain ⟨t0, rfl, rfl, HT0, ht0, HB0⟩ := hcut
      obtain ⟨w0, rfl⟩ : ∃ w0, w0 = wc := ⟨_, rfl⟩
      clear HSG HSB
      by_cases hz : t0.data.toList = [48]
      · have q : (t0.toList == [48]) = true := ZoneName.beq_list hz
        have HR : Hid (D = some (some 0)) := Lib.hid (by rw [HDUR.out]; simp only; rw [← HT0.out, hz, if_pos rfl])
        clear hz
        go_wp2
        go_ret2
        exact ⟨by rw [HR.out]; exact ⟨rfl, by omega, by omega⟩, HB0.out⟩
      · have q : (t0.toList == [48]) = false := ZoneName.beq_not hz
        by_cases h00 : 0 < t0.size
        · obtain ⟨q1, q2⟩ := empty_false h00
          have HR0 : Hid (D = finish neg (durGo l0.length l0 0 true)) := Lib.hid (by rw [HDUR.out]; simp only; rw [← HT0.out, if_neg hz, if_neg (ne_nil h00)])
          obtain ⟨R, hR⟩ : ∃ R, durGo l0.length l0 0 true = R := ⟨_, rfl⟩
          have HK0 : Hid (Run R t0.data.toList 0 1) := Lib.hid ⟨l0.length, by rw [HT0.out]; exact Nat.le_refl _, .inl ⟨rfl, by rw [HT0.out]; exact hR⟩⟩
          rw [hR] at HR0
          clear hz hR HDUR
          go_wp2
          clear q q1 q2
          go_loopw [0, 5, 6] (fun v sv vv wr => ∃ (t : ByteArray) (sm k : Nat), v = .string t ∧ sv = .int .i64 (sm : Int) ∧ vv = .int .i64 (k : Int) ∧ (k = 1 ∨ k = 2) ∧ t.size ≤ 65536 ∧ sm ≤ 4611686018427387904 ∧ Hid (Run R t.data.toList sm k) ∧ Hid (Below w.heap.size w wr)) (fun v _ _ _ => strSize v)
          case atStart => exact ⟨t0, 0, 1, rfl, rfl, rfl, .inl rfl, by omega, by omega, HK0, HB0⟩
          case round =>
            clear HK0 HT0 h00 ht0 HB0
            obtain ⟨t, sm, k, rfl, rfl, rfl, hk12, ht, hsm, HK, HB⟩ := hrel
            by_cases h0 : 0 < t.size
            · obtain ⟨q1, q2⟩ := empty_false h0
              have htl := ne_nil h0
              cases hb : termBad t.data.toList with
              | true =>
               as_aux_lemma =>
                have HD : Hid (D = none) := Lib.hid (by rw [HR0.out, HK.out.bad htl hb]; rfl)
                have HTB := Lib.hid hb
                clear hb htl
                rcases hk12 with rfl | rfl
                · go_wp2_with (first
                    | (go_at_call 139; refine (HT.out t _ ht).mono ?_; rintro e w1 ⟨he, hb1⟩; obtain ⟨tb, rfl⟩ := term_bad he HTB.out; have HB1 : Hid (Below w.heap.size w w1) := Lib.hid (HB.out.trans (hb1.mono HB.out.size)); clear he hb1)
                    | (go_at_call 46; refine (HW10.out _).mono ?_; rintro e w' ⟨rfl, rfl⟩))
                  go_ret2
                  exact ⟨by rw [HD.out]; rfl, HB1.out⟩
                · go_wp2_with (first
                    | (go_at_call 139; refine (HT.out t _ ht).mono ?_; rintro e w1 ⟨he, hb1⟩; obtain ⟨tb, rfl⟩ := term_bad he HTB.out; have HB1 : Hid (Below w.heap.size w w1) := Lib.hid (HB.out.trans (hb1.mono HB.out.size)); clear he hb1)
                    | (go_at_call 46; refine (HW20.out _).mono ?_; rintro e w' ⟨rfl, rfl⟩))
                  go_ret2
                  exact ⟨by rw [HD.out]; rfl, HB1.out⟩
              | false =>
               as_aux_lemma =>
                have HTB := Lib.hid hb
                have HLT := Lib.hid (rest_lt _ hb)
                have hts : t.data.toList.length = t.size := (Lib.size_eq t).symm
                have HMIX := Lib.hid (fun x v => round_mix (x := x) (v := v) HK.out htl hb hk12)
                clear hb htl
                go_upto_region 11 with (go_at_call 139; refine (HT.out t _ ht).mono ?_; rintro e w1 ⟨he, hb1⟩; obtain ⟨x, v, tt, rfl, htt, hx, hv⟩ := term_fine he HTB.out; have HB1 : Hid (Below w.heap.size w w1) := Lib.hid (HB.out.trans (hb1.mono HB.out.size)); have HTT := Lib.hid htt; have HV := Lib.hid hv; clear he hb1 htt hv)
                obtain ⟨r, hr, hwr, hn1, hn2⟩ := HMIX.out x v HV.out
                have HWR := Lib.hid hwr
                have hr0 : ((r : Int) == 0) = false := beq_eq_false_iff_ne.2 (by omega)
                have htts : tt.size < t.size := by
                  have h1 := HLT.out
                  rw [← HTT.out, hts, ← Lib.size_eq] at h1
                  exact h1
                rw [← HTT.out] at hn1 hn2
                clear hwr HMIX
                by_cases hsx : sm + x ≤ 4611686018427387904
                · have hsi : ¬ (4611686018427387904 : Int) - (x : Int) < (sm : Int) := by omega
                  have HN := Lib.hid (hn1 hsx)
                  clear hn1 hn2
                  go_wp2_with (go_at_call 46; refine (HWR.out _).mono ?_; rintro e w' ⟨rfl, rfl⟩)
                  go_round
                  case rel => exact ⟨tt, sm + x, r, rfl, by go_num, rfl, hr, by omega, hsx, HN, HB1⟩
                  case measure => simp only [strSize]; exact htts
                · have hsi : (4611686018427387904 : Int) - (x : Int) < (sm : Int) := by omega
                  have HN := Lib.hid (hn2 (by omega))
                  clear hn1 hn2
                  go_wp2_with (go_at_call 46; refine (HWR.out _).mono ?_; rintro e w' ⟨rfl, rfl⟩)
                  go_round
                  case rel => exact ⟨tt, sm, 2, rfl, by go_num, rfl, .inr rfl, by omega, hsm, HN, HB1⟩
                  case measure => simp only [strSize]; exact htts
            · as_aux_lemma =>
              obtain ⟨q1, q2⟩ := empty_true h0
              rcases HK.out.done (nil_of h0) with ⟨rfl, hR⟩ | ⟨rfl, hR⟩
              · have HD : Hid (D = some (some (if neg then -(sm : Int) else (sm : Int)))) := Lib.hid (by rw [HR0.out, hR]; rfl)
                clear hR
                cases neg with
                | true =>
                  go_wp2
                  go_ret2
                  exact ⟨by rw [HD.out]; exact ⟨rfl, by first | (simp; omega) | simp, by first | (simp; omega) | simp⟩, HB.out⟩
                | false =>
                  go_wp2
                  go_ret2
                  exact ⟨by rw [HD.out]; exact ⟨rfl, by first | (simp; omega) | simp, by first | (simp; omega) | simp⟩, HB.out⟩
              · have HD : Hid (D = some none) := Lib.hid (by rw [HR0.out, hR]; rfl)
                clear hR
                go_wp2
                go_ret2
                exact ⟨by rw [HD.out]; rfl, HB.out⟩
        · obtain ⟨q1, q2⟩ := empty_true h00
          have HR : Hid (D = none) := Lib.hid (by rw [HDUR.out]; simp only; rw [← HT0.out, if_neg hz, nil_of h00]; simp)
          clear hz
          go_wp2
          go_ret2
          exact ⟨by rw [HR.out]; rfl, HB0.out⟩
end Go.Proofs.YtmnjmhlodbifjaaGreatDoor.SpecDur
