/- The reference's CronDescribed, CronDelay, CronDescriptor and cronPlain at every text. Conditions: options below 512, texts of at most 65536 bytes. · The reference's cronPlain and CronParse at every text. Conditions: options below 512, texts of at most 65536 bytes. -/
import Derived.Test.YtmnjmhlodbifjaaGreatDoorQ21
import Derived.Test.YtmnjmhlodbifjaaGreatDoorQ25

namespace Go.Proofs.YtmnjmhlodbifjaaGreatDoor.SpecDesc
open Go Go.RowKit Go.Proofs.YtmnjmhlodbifjaaGreatDoor.Mem Go.Proofs.YtmnjmhlodbifjaaGreatDoor.Aid Go.Proofs.YtmnjmhlodbifjaaGreatDoor.NumPure Go.Proofs.YtmnjmhlodbifjaaGreatDoor.SplitPure Go.Proofs.YtmnjmhlodbifjaaGreatDoor.Split Go.Proofs.YtmnjmhlodbifjaaGreatDoor.FillPure Go.Proofs.YtmnjmhlodbifjaaGreatDoor.FillA Go.Proofs.YtmnjmhlodbifjaaGreatDoor.PlainPure Go.Proofs.YtmnjmhlodbifjaaGreatDoor.NameRel Go.Proofs.YtmnjmhlodbifjaaGreatDoor.SpecName Go.Proofs.YtmnjmhlodbifjaaGreatDoor.SpecSix Go.Proofs.YtmnjmhlodbifjaaGreatDoor.SpecPlain Go.Proofs.YtmnjmhlodbifjaaGreatDoor.Meaning Go.Proofs.YtmnjmhlodbifjaaGreatDoor.Fields Go.Proofs.YtmnjmhlodbifjaaGreatDoor.Big Go.Proofs.YtmnjmhlodbifjaaGreatDoor.Head Go.Proofs.YtmnjmhlodbifjaaGreatDoor.ZoneName Go.Proofs.YtmnjmhlodbifjaaGreatDoor.TrimSpec Go.Proofs.YtmnjmhlodbifjaaGreatDoor.Mean Go.Proofs.YtmnjmhlodbifjaaGreatDoor.SpecDur Go.Proofs.YtmnjmhlodbifjaaGreatDoor.DurPure
set_option linter.unusedVariables false
theorem described_any (s : ByteArray) (w : World) :
    Calls Tryz.prog 110 #[.string s] w fun e w' => e = .returned (.string (ofL (fiveOf s.data.toList))) ∧ w = w' := by
  unfold fiveOf
  by_cases c0 : s.data.toList = yearlyB
  · have q0 := beq_list c0
    rw [if_pos (.inl c0)]
    clear c0
    unfold yearlyB at q0
    go_enter Tryz.func110, Tryz.ntmps110
    go_wp2
    go_ret
    exact ⟨rfl, rfl⟩
  have q0 := beq_not c0
  unfold yearlyB at q0
  by_cases c1 : s.data.toList = annuallyB
  · have q1 := beq_list c1
    rw [if_pos (.inr c1)]
    clear c0 c1
    unfold annuallyB at q1
    go_enter Tryz.func110, Tryz.ntmps110
    go_wp2
    go_ret
    exact ⟨rfl, rfl⟩
  have q1 := beq_not c1
  unfold annuallyB at q1
  rw [if_neg (by rintro (h | h); exact c0 h; exact c1 h)]
  clear c0 c1
  by_cases c2 : s.data.toList = monthlyB
  · have q2 := beq_list c2
    rw [if_pos c2]
    clear c2
    unfold monthlyB at q2
    go_enter Tryz.func110, Tryz.ntmps110
    go_wp2
    go_ret
    exact ⟨rfl, rfl⟩
  have q2 := beq_not c2
  unfold monthlyB at q2
  rw [if_neg c2]
  clear c2
  by_cases c3 : s.data.toList = weeklyB
  · have q3 := beq_list c3
    rw [if_pos c3]
    clear c3
    unfold weeklyB at q3
    go_enter Tryz.func110, Tryz.ntmps110
    go_wp2
    go_ret
    exact ⟨rfl, rfl⟩
  have q3 := beq_not c3
  unfold weeklyB at q3
  rw [if_neg c3]
  clear c3
  by_cases c4 : s.data.toList = dailyB
  · have q4 := beq_list c4
    rw [if_pos (.inl c4)]
    clear c4
    unfold dailyB at q4
    go_enter Tryz.func110, Tryz.ntmps110
    go_wp2
    go_ret
    exact ⟨rfl, rfl⟩
  have q4 := beq_not c4
  unfold dailyB at q4
  by_cases c5 : s.data.toList = midnightB
  · have q5 := beq_list c5
    rw [if_pos (.inr c5)]
    clear c4 c5
    unfold midnightB at q5
    go_enter Tryz.func110, Tryz.ntmps110
    go_wp2
    go_ret
    exact ⟨rfl, rfl⟩
  have q5 := beq_not c5
  unfold midnightB at q5
  rw [if_neg (by rintro (h | h); exact c4 h; exact c5 h)]
  clear c4 c5
  by_cases c6 : s.data.toList = hourlyB
  · have q6 := beq_list c6
    rw [if_pos c6]
    clear c6
    unfold hourlyB at q6
    go_enter Tryz.func110, Tryz.ntmps110
    go_wp2
    go_ret
    exact ⟨rfl, rfl⟩
  have q6 := beq_not c6
  unfold hourlyB at q6
  rw [if_neg c6]
  clear c6
  go_enter Tryz.func110, Tryz.ntmps110
  go_wp2
  go_ret
  exact ⟨rfl, rfl⟩
theorem delay_any (d : Int) (w : World) (h1 : -4611686018427387904 ≤ d) (h2 : d ≤ 4611686018427387904) :
    Calls Tryz.prog 112 #[.int .i64 d] w fun e w' => e = .returned (.int .i64 (delayOf d)) ∧ w = w' := by
  unfold delayOf
  by_cases h : d < 1000000000
  · rw [if_pos h]
    go_enter Tryz.func112, Tryz.ntmps112
    go_wp2
    go_ret
    exact ⟨rfl, rfl⟩
  · rw [if_neg h]
    have ht : d.tdiv 1000000000 = d / 1000000000 := Int.tdiv_eq_ediv_of_nonneg (by omega)
    go_enter Tryz.func112, Tryz.ntmps112
    go_wp2
    go_ret
    exact ⟨rfl, rfl⟩
theorem five_cases (l : List UInt8) : fiveOf l = [] ∨ ((fiveOf l).length = 9 ∧ starts [64] (fiveOf l) = false) := by
  unfold fiveOf
  repeat' split
  all_goals first | (left; rfl) | (right; decide)
section
variable {ops : Array Oper} {rest : List Oper} {o : Oper} {a : Act} {w : World} {Q : Exit → Act → World → Prop}
theorem wpList_build_delay (hg : o.guard = none) (x y : Operand) (ho : o.op = .build 59 #[(0, x), (1, y)]) (d : Int) (hx : a.eval x = .bool true) (hy : a.eval y = .int .i64 d)
    (h : wpList Tryz.prog ops Q rest (a.put o.dst (.agg (meanArr true d noFields false))) w) : wpList Tryz.prog ops Q (o :: rest) a w := by
  refine wpList_build hg 59 #[(0, x), (1, y)] ho (by simp [hx, hy, built_delay d]) ?_
  simpa [hx, hy, built_delay d] using h
end
theorem sres_const {r : Option (Option MV)} {v : Nat} (hv : v = 0 ∨ v = 2) (h : v = 0 → r = none) : SRes r false (.returned (.tuple #[.agg (meanArr false 0 noFields false), .int .i64 (v : Int)])) :=
  ⟨false, 0, noFields, false, v, rfl, noFields_size, noFields_one, by omega, h, fun h1 => by omega⟩
theorem sres_every (d : Int) : SRes (some (some (.every d))) false (.returned (.tuple #[.agg (meanArr true d noFields false), .int .i64 1])) :=
  ⟨true, d, noFields, false, 1, rfl, noFields_size, noFields_one, by omega, fun h => by omega, fun _ => .inr ⟨d, rfl, rfl, rfl, by dsimp only, rfl⟩⟩
theorem starts_every (s : ByteArray) : starts everyB s.data.toList = true → 7 ≤ s.size := by
  intro h
  rcases Nat.lt_or_ge s.size 7 with hlt | hge
  · rw [starts_short (by rw [← Lib.size_eq]; exact hlt)] at h; cases h
  · exact hge
set_option maxHeartbeats 4000000 in
set_option maxRecDepth 100000 in
theorem descriptor_any (s : ByteArray) (w : World) (hs : s.size ≤ 65536) :
    Calls Tryz.prog 81 #[.string s] w fun e w' => SRes (mvDesc s.data.toList) false e ∧ Below w.heap.size w w' := by
  have hsm : s.size ≤ maxLen := by unfold maxLen; omega
  have HD := Lib.hid (fun w => described_any s w)
  have HM0 := Lib.hid (Blk.new w (meanArr false 0 noFields false) 59)
  have hbA : Below w.heap.size w (w.alloc (.cells (meanArr false 0 noFields false) 59)) := (Below.refl _ w).alloc (Nat.le_refl _) _
  have HBA := Lib.hid hbA
  clear hbA
  unfold mvDesc
  rcases five_cases s.data.toList with h5 | ⟨h5, h6⟩
  · rw [if_neg (by rw [h5]; simp)]
    rw [h5] at HD
    have HD : Hid (∀ w, Calls Tryz.prog 110 #[.string s] w fun e w' => e = .returned (.string ⟨#[]⟩) ∧ w = w') := HD
    clear h5
    have H1 : Hid (∀ w, Calls Tryz.prog 50 #[.string s, .string ⟨#[64, 101, 118, 101, 114, 121, 32]⟩] w fun e w' => e = .returned (.bool (starts everyB s.data.toList)) ∧ w = w') := Lib.hid (fun w => begins_any s ⟨#[64, 101, 118, 101, 114, 121, 32]⟩ w hsm (by decide))
    cases he : starts everyB s.data.toList with
    | true =>
      rw [he] at H1
      rw [if_pos rfl]
      have h7 := starts_every s he
      have h7i : (7 : Int) ≤ (s.size : Int) := by omega
      have HDUR : Hid (∀ w, Calls Tryz.prog 111 #[.string (s.extract 7 s.size)] w fun e w' => DurSpec (dur (s.data.toList.drop 7)) e ∧ Below w.heap.size w w') := Lib.hid (fun w => by
        have := duration_any (s.extract 7 s.size) w (by simp; omega)
        rwa [Lib.extract_to_end] at this)
      have HDEL := Lib.hid (fun (d : Int) (w : World) (h1 : -4611686018427387904 ≤ d) (h2 : d ≤ 4611686018427387904) => delay_any d w h1 h2)
      obtain ⟨r, hr⟩ : ∃ r, dur (s.data.toList.drop 7) = r := ⟨_, rfl⟩
      rw [hr] at HDUR ⊢
      clear hr he hsm
      cases r with
      | none =>
        go_enter Tryz.func81, Tryz.ntmps81
        go_wp2_with (first
          | (with_reducible refine wpList_alloc_mean rfl rfl ?_)
          | (with_reducible refine wpList_build_mean rfl rfl ?_)
          | (go_at_call 110; refine (HD.out _).mono ?_; rintro e w' ⟨rfl, rfl⟩)
          | (go_at_call 50; refine (H1.out _).mono ?_; rintro e w' ⟨rfl, rfl⟩)
          | (go_at_call 111; refine (HDUR.out _).mono ?_; rintro e w1 ⟨hd, hb1⟩; obtain rfl := hd; have HB1 := Lib.hid (Below.trans HBA.out (hb1.mono (by simp))); have HM1 := Lib.hid (HM0.out.after hb1); clear hb1)
          | (with_reducible refine wpList_store_mean rfl (.tmp 2) (.tmp 30) rfl w.heap.size _ _ mean0 mean0 mean0_one rfl rfl HM1.out ?_))
        exact bodyPost_ret (results_mean_tmp rfl _ _ w.heap.size _ mean0 rfl (blk_row HM1.out _)) rfl ⟨by dsimp only [mvDur]; exact sres_const (v := 0) (.inl rfl) (fun _ => rfl), below_row HB1.out (Nat.le_refl _) _⟩
      | some r =>
        cases r with
        | none =>
          go_enter Tryz.func81, Tryz.ntmps81
          go_wp2_with (first
            | (with_reducible refine wpList_alloc_mean rfl rfl ?_)
            | (with_reducible refine wpList_build_mean rfl rfl ?_)
            | (go_at_call 110; refine (HD.out _).mono ?_; rintro e w' ⟨rfl, rfl⟩)
            | (go_at_call 50; refine (H1.out _).mono ?_; rintro e w' ⟨rfl, rfl⟩)
            | (go_at_call 111; refine (HDUR.out _).mono ?_; rintro e w1 ⟨hd, hb1⟩; obtain rfl := hd; have HB1 := Lib.hid (Below.trans HBA.out (hb1.mono (by simp))); have HM1 := Lib.hid (HM0.out.after hb1); clear hb1)
            | (with_reducible refine wpList_store_mean rfl (.tmp 2) (.tmp 30) rfl w.heap.size _ _ mean0 mean0 mean0_one rfl rfl HM1.out ?_))
          exact bodyPost_ret (results_mean_tmp rfl _ _ w.heap.size _ mean0 rfl (blk_row HM1.out _)) rfl ⟨by dsimp only [mvDur]; exact sres_const (v := 2) (.inr rfl) (fun h => by omega), below_row HB1.out (Nat.le_refl _) _⟩
        | some x =>
          go_enter Tryz.func81, Tryz.ntmps81
          go_wp2_with (first
            | (with_reducible refine wpList_alloc_mean rfl rfl ?_)
            | (with_reducible refine wpList_build_delay rfl (.const (.bool true)) (.tmp 33) rfl (delayOf x) rfl rfl ?_)
            | (go_at_call 110; refine (HD.out _).mono ?_; rintro e w' ⟨rfl, rfl⟩)
            | (go_at_call 50; refine (H1.out _).mono ?_; rintro e w' ⟨rfl, rfl⟩)
            | (go_at_call 111; refine (HDUR.out _).mono ?_; rintro e w1 ⟨hd, hb1⟩; obtain ⟨rfl, hx1, hx2⟩ := hd; have HB1 := Lib.hid (Below.trans HBA.out (hb1.mono (by simp))); have HM1 := Lib.hid (HM0.out.after hb1); clear hb1)
            | (go_at_call 112; refine (HDEL.out x _ hx1 hx2).mono ?_; rintro e w' ⟨rfl, rfl⟩)
            | (with_reducible refine wpList_store_mean rfl (.tmp 2) (.tmp 34) rfl w.heap.size _ (meanArr true (delayOf x) noFields false) mean0 (meanArr_size _ _ _ _ noFields_size) (meanArr_one _ _ _ _ noFields_one) rfl rfl HM1.out ?_))
          exact bodyPost_ret (results_mean_tmp rfl _ _ w.heap.size _ (meanArr_size _ _ _ _ noFields_size) rfl (blk_row HM1.out _)) rfl ⟨by dsimp only [mvDur]; exact sres_every _, below_row HB1.out (Nat.le_refl _) _⟩
    | false =>
      rw [he] at H1
      rw [if_neg (by decide)]
      have HF := Lib.hid (fun w => foreign_any s w hs)
      have HW := Lib.hid (fun w => SpecWords.words_any s w hs)
      clear he hsm
      unfold Mean.lone
      obtain ⟨fo, hfo⟩ : ∃ fo, foreign s.data.toList = fo := ⟨_, rfl⟩
      rw [hfo] at HF ⊢
      clear hfo
      unfold Words.WordsRes at HW
      obtain ⟨ws, hws⟩ : ∃ ws, words s.data.toList = ws := ⟨_, rfl⟩
      rw [hws] at HW ⊢
      have HWS := Lib.hid hws
      clear hws
      obtain ⟨nw, hnw⟩ : ∃ n, (ws.map ofL).length = n := ⟨_, rfl⟩
      have hnw2 : ws.length = nw := by rw [← hnw, List.length_map]
      have HNW := Lib.hid hnw
      clear hnw
      cases fo with
      | true =>
        simp only [Bool.true_or, if_true]
        clear hnw2
        go_enter Tryz.func81, Tryz.ntmps81
        go_wp2_with (first
                | (with_reducible refine wpList_alloc_mean rfl rfl ?_)
                | (with_reducible refine wpList_build_mean rfl rfl ?_)
                | (go_at_call 110; refine (HD.out _).mono ?_; rintro e w' ⟨rfl, rfl⟩)
                | (go_at_call 50; refine (H1.out _).mono ?_; rintro e w' ⟨rfl, rfl⟩)
                | (go_at_call 45; refine (HF.out _).mono ?_; rintro e w' ⟨rfl, rfl⟩)
                | (go_at_call 82; refine (HW.out _).mono ?_; rintro e w1 ⟨hw, hb1⟩; obtain ⟨v, rfl, hown, hvn⟩ := hw; have HB1 := Lib.hid (Below.trans HBA.out (hb1.mono (by simp))); have HM1 := Lib.hid (HM0.out.after hb1); obtain ⟨oa, cap, hv, htx⟩ := texts_words hown hvn; rw [HNW.out] at hv; obtain rfl := hv; clear hown hvn htx; clear hb1)
                | (with_reducible refine wpList_store_mean rfl (.tmp 2) (.tmp 53) rfl w.heap.size _ _ mean0 mean0 mean0_one rfl rfl HM1.out ?_))
        exact bodyPost_ret (results_mean_tmp rfl _ _ w.heap.size _ mean0 rfl (blk_row HM1.out _)) rfl ⟨by exact sres_const (v := 2) (.inr rfl) (fun h => by omega), below_row HB1.out (Nat.le_refl _) _⟩
      | false =>
        by_cases h1 : ws.length = 1
        · obtain ⟨p, rfl⟩ : ∃ p, ws = [p] := List.length_eq_one_iff.1 h1
          have hpl : p.length = (ofL p).size := (size_ofL p).symm
          have hsl : s.data.toList.length = s.size := (Lib.size_eq s).symm
          rw [show ([p] : List (List UInt8)).getD 0 [] = p from rfl, decide_eq_true h1, hpl, hsl]
          clear hnw2 HNW h1
          by_cases hlt : (ofL p).size < s.size
          · have hli : ((ofL p).size : Int) < (s.size : Int) := by omega
            rw [decide_eq_true hlt]
            simp only [Bool.and_self, Bool.or_true, if_true]
            clear hpl hsl
            go_enter Tryz.func81, Tryz.ntmps81
            go_wp2_with (first
                    | (with_reducible refine wpList_alloc_mean rfl rfl ?_)
                    | (with_reducible refine wpList_build_mean rfl rfl ?_)
                    | (go_at_call 110; refine (HD.out _).mono ?_; rintro e w' ⟨rfl, rfl⟩)
                    | (go_at_call 50; refine (H1.out _).mono ?_; rintro e w' ⟨rfl, rfl⟩)
                    | (go_at_call 45; refine (HF.out _).mono ?_; rintro e w' ⟨rfl, rfl⟩)
                    | (go_at_call 82; refine (HW.out _).mono ?_; rintro e w1 ⟨hw, hb1⟩; obtain ⟨v, rfl, hown, hvn⟩ := hw; have HB1 := Lib.hid (Below.trans HBA.out (hb1.mono (by simp))); have HM1 := Lib.hid (HM0.out.after hb1); obtain ⟨g, cap, rfl, hc0, hg0, hst⟩ := strs_of_owns hown (by simp); have hcell := hst.2 0 p rfl; clear hown hvn hst; clear hb1)
                    | (with_reducible refine wpList_store_mean rfl (.tmp 2) (.tmp 53) rfl w.heap.size _ _ mean0 mean0 mean0_one rfl rfl HM1.out ?_))
            exact bodyPost_ret (results_mean_tmp rfl _ _ w.heap.size _ mean0 rfl (blk_row HM1.out _)) rfl ⟨by exact sres_const (v := 2) (.inr rfl) (fun h => by omega), below_row HB1.out (Nat.le_refl _) _⟩
          · have hli : ¬ ((ofL p).size : Int) < (s.size : Int) := by omega
            rw [decide_eq_false hlt]
            simp only [Bool.and_false, Bool.or_false, Bool.false_eq_true, if_false]
            clear hpl hsl
            go_enter Tryz.func81, Tryz.ntmps81
            go_wp2_with (first
                    | (with_reducible refine wpList_alloc_mean rfl rfl ?_)
                    | (with_reducible refine wpList_build_mean rfl rfl ?_)
                    | (go_at_call 110; refine (HD.out _).mono ?_; rintro e w' ⟨rfl, rfl⟩)
                    | (go_at_call 50; refine (H1.out _).mono ?_; rintro e w' ⟨rfl, rfl⟩)
                    | (go_at_call 45; refine (HF.out _).mono ?_; rintro e w' ⟨rfl, rfl⟩)
                    | (go_at_call 82; refine (HW.out _).mono ?_; rintro e w1 ⟨hw, hb1⟩; obtain ⟨v, rfl, hown, hvn⟩ := hw; have HB1 := Lib.hid (Below.trans HBA.out (hb1.mono (by simp))); have HM1 := Lib.hid (HM0.out.after hb1); obtain ⟨g, cap, rfl, hc0, hg0, hst⟩ := strs_of_owns hown (by simp); have hcell := hst.2 0 p rfl; clear hown hvn hst; clear hb1)
                    | (with_reducible refine wpList_store_mean rfl (.tmp 2) (.tmp 54) rfl w.heap.size _ _ mean0 mean0 mean0_one rfl rfl HM1.out ?_))
            exact bodyPost_ret (results_mean_tmp rfl _ _ w.heap.size _ mean0 rfl (blk_row HM1.out _)) rfl ⟨by exact sres_const (v := 0) (.inl rfl) (fun _ => rfl), below_row HB1.out (Nat.le_refl _) _⟩
        · have hn1 : ((nw : Int) == 1) = false := by rw [beq_eq_false_iff_ne]; omega
          rw [decide_eq_false h1]
          simp only [Bool.false_and, Bool.or_false, Bool.false_eq_true, if_false]
          clear hnw2 h1
          go_enter Tryz.func81, Tryz.ntmps81
          go_wp2_with (first
                  | (with_reducible refine wpList_alloc_mean rfl rfl ?_)
                  | (with_reducible refine wpList_build_mean rfl rfl ?_)
                  | (go_at_call 110; refine (HD.out _).mono ?_; rintro e w' ⟨rfl, rfl⟩)
                  | (go_at_call 50; refine (H1.out _).mono ?_; rintro e w' ⟨rfl, rfl⟩)
                  | (go_at_call 45; refine (HF.out _).mono ?_; rintro e w' ⟨rfl, rfl⟩)
                  | (go_at_call 82; refine (HW.out _).mono ?_; rintro e w1 ⟨hw, hb1⟩; obtain ⟨v, rfl, hown, hvn⟩ := hw; have HB1 := Lib.hid (Below.trans HBA.out (hb1.mono (by simp))); have HM1 := Lib.hid (HM0.out.after hb1); obtain ⟨oa, cap, hv, htx⟩ := texts_words hown hvn; rw [HNW.out] at hv; obtain rfl := hv; clear hown hvn htx; clear hb1)
                  | (with_reducible refine wpList_store_mean rfl (.tmp 2) (.tmp 54) rfl w.heap.size _ _ mean0 mean0 mean0_one rfl rfl HM1.out ?_))
          exact bodyPost_ret (results_mean_tmp rfl _ _ w.heap.size _ mean0 rfl (blk_row HM1.out _)) rfl ⟨by exact sres_const (v := 0) (.inl rfl) (fun _ => rfl), below_row HB1.out (Nat.le_refl _) _⟩
  · rw [if_pos (by intro e; rw [e] at h5; cases h5)]
    obtain ⟨five, hfive⟩ : ∃ five, fiveOf s.data.toList = five := ⟨_, rfl⟩
    rw [hfive] at h5 h6 HD ⊢
    clear hfive
    obtain ⟨q1, q2⟩ := empty_false (t := ofL five) (by rw [size_ofL]; omega)
    have q3 : (!(ofL five).toList.isEmpty) = true := by rw [q2]; rfl
    have HP := Lib.hid (fun w => plain_any 380 (ofL five) w (by decide) (by rw [size_ofL]; omega) (by rw [toList_ofL]; exact h6))
    rw [toList_ofL] at HP
    have HRES := Lib.hid (fun e (h : MeanRes (plainM ((380 : Nat) : Int) five) e) => plain_res h)
    have HS := Lib.hid (plainM_size ((380 : Nat) : Int) five)
    have HO := Lib.hid (plainM_one' ((380 : Nat) : Int) five)
    obtain ⟨t, ht⟩ : ∃ t, ofL five = t := ⟨_, rfl⟩
    rw [ht] at HD HP q1 q2 q3
    have HR2 : Hid (∀ e, MeanRes (plainM ((380 : Nat) : Int) five) e → SRes (mvPlain 380 five) false e) := HRES
    clear HRES ht h5 h6
    generalize plainM ((380 : Nat) : Int) five = R at HP HS HO HR2
    obtain ⟨R1, R2⟩ := R
    have HR : Hid ((meanArr false 0 R1 false).size = 387) := Lib.hid (meanArr_size _ _ _ _ HS.out)
    have HR1 := Lib.hid (meanArr_one false 0 R1 false HO.out)
    go_enter Tryz.func81, Tryz.ntmps81
    go_wp2_with (first
      | (with_reducible refine wpList_alloc_mean rfl rfl ?_)
      | (go_at_call 110; refine (HD.out _).mono ?_; rintro e w' ⟨rfl, rfl⟩)
      | (go_at_call 42; refine (HP.out _).mono ?_; rintro e w1 ⟨he, hb1⟩; have HRE := Lib.hid (HR2.out _ he); obtain rfl := he; have HM1 := Lib.hid (HM0.out.after hb1); have HB1 := Lib.hid (Below.trans HBA.out (hb1.mono (by simp))); clear hb1)
      | (with_reducible refine wpList_store_mean rfl (.tmp 2) (.tmp 15) rfl w.heap.size _ (meanArr false 0 R1 false) mean0 HR.out HR1.out rfl rfl HM1.out ?_))
    exact bodyPost_ret (results_mean_tmp rfl _ _ w.heap.size _ HR.out rfl (blk_row HM1.out _)) rfl ⟨by exact HRE.out, below_row HB1.out (Nat.le_refl _) _⟩
end Go.Proofs.YtmnjmhlodbifjaaGreatDoor.SpecDesc
namespace Go.Proofs.YtmnjmhlodbifjaaGreatDoor.SpecParse
open Go Go.RowKit Go.Proofs.YtmnjmhlodbifjaaGreatDoor.Mem Go.Proofs.YtmnjmhlodbifjaaGreatDoor.Aid Go.Proofs.YtmnjmhlodbifjaaGreatDoor.NumPure Go.Proofs.YtmnjmhlodbifjaaGreatDoor.SplitPure Go.Proofs.YtmnjmhlodbifjaaGreatDoor.FillPure Go.Proofs.YtmnjmhlodbifjaaGreatDoor.PlainPure Go.Proofs.YtmnjmhlodbifjaaGreatDoor.NameRel Go.Proofs.YtmnjmhlodbifjaaGreatDoor.SpecName Go.Proofs.YtmnjmhlodbifjaaGreatDoor.SpecSix Go.Proofs.YtmnjmhlodbifjaaGreatDoor.SpecPlain Go.Proofs.YtmnjmhlodbifjaaGreatDoor.Meaning Go.Proofs.YtmnjmhlodbifjaaGreatDoor.Fields Go.Proofs.YtmnjmhlodbifjaaGreatDoor.Big Go.Proofs.YtmnjmhlodbifjaaGreatDoor.Head Go.Proofs.YtmnjmhlodbifjaaGreatDoor.ZoneHead Go.Proofs.YtmnjmhlodbifjaaGreatDoor.ZoneName Go.Proofs.YtmnjmhlodbifjaaGreatDoor.TrimSpec Go.Proofs.YtmnjmhlodbifjaaGreatDoor.Trim Go.Proofs.YtmnjmhlodbifjaaGreatDoor.Mean Go.Proofs.YtmnjmhlodbifjaaGreatDoor.SpecDesc Go.Proofs.YtmnjmhlodbifjaaGreatDoor.SpecDur Go.Proofs.YtmnjmhlodbifjaaGreatDoor.SpecEnds
set_option linter.unusedVariables false
set_option maxHeartbeats 2000000 in
set_option maxRecDepth 100000 in
theorem plainA_any (o : Nat) (s : ByteArray) (w : World) (ho : o < 512) (hs : s.size ≤ 65536) :
    Calls Tryz.prog 42 #[.int .i64 (o : Int), .string s] w fun e w' => SRes (mvAll (o : Int) s.data.toList) false e ∧ Below w.heap.size w w' := by
  unfold mvAll
  cases hst : starts [64] s.data.toList with
  | false =>
    rw [if_neg (by decide)]
    refine (plain_any o s w ho hs hst).mono ?_
    rintro e w' ⟨h1, h2⟩
    exact ⟨plain_res h1, h2⟩
  | true =>
    rw [if_pos rfl]
    have hsm : s.size ≤ maxLen := by unfold maxLen; omega
    have H1 : Hid (∀ w, Calls Tryz.prog 50 #[.string s, .string ⟨#[64]⟩] w fun e w' => e = .returned (.bool true) ∧ w = w') := Lib.hid (fun w => by
      have := begins_any s ⟨#[64]⟩ w hsm (by decide); rwa [show (⟨#[64]⟩ : ByteArray).data.toList = [64] from rfl, hst] at this)
    have HM0 := Lib.hid (Blk.new w (meanArr false 0 noFields false) 59)
    have hbA : Below w.heap.size w (w.alloc (.cells (meanArr false 0 noFields false) 59)) := (Below.refl _ w).alloc (Nat.le_refl _) _
    have HBA := Lib.hid hbA
    have HD := Lib.hid (fun w => descriptor_any s w hs)
    clear hbA hst hsm
    unfold takesAt
    cases ht : (Go.bits .and .i64 (o : Int) 256 == 0) with
    | true =>
      simp only [Bool.not_true, Bool.false_eq_true, if_false]
      go_enter Tryz.func42, Tryz.ntmps42
      go_wp2_with (first
        | (with_reducible refine wpList_alloc_mean rfl rfl ?_)
        | (with_reducible refine wpList_build_mean rfl rfl ?_)
        | (go_at_call 50; refine (H1.out _).mono ?_; rintro e w' ⟨rfl, rfl⟩)
        | (with_reducible refine wpList_store_mean rfl (.tmp 4) (.tmp 16) rfl w.heap.size _ _ mean0 mean0 mean0_one rfl rfl HM0.out ?_))
      exact bodyPost_ret (results_mean_tmp rfl _ _ w.heap.size _ mean0 rfl (blk_row HM0.out _)) rfl ⟨by exact sres_const (v := 0) (.inl rfl) (fun _ => rfl), below_row HBA.out (Nat.le_refl _) _⟩
    | false =>
      simp only [Bool.not_false, if_true]
      go_enter Tryz.func42, Tryz.ntmps42
      go_wp2_with (first
        | (with_reducible refine wpList_alloc_mean rfl rfl ?_)
        | (go_at_call 50; refine (H1.out _).mono ?_; rintro e w' ⟨rfl, rfl⟩)
        | (go_at_call 81; refine (HD.out _).mono ?_; rintro e w1 ⟨he, hb1⟩; have HRE := Lib.hid he; obtain ⟨ev, d, cs, u, v, rfl, hcs, hon, hv, -, -⟩ := he; have HM1 := Lib.hid (HM0.out.after hb1); have HB1 := Lib.hid (Below.trans HBA.out (hb1.mono (by simp))); clear hb1)
        | (with_reducible refine wpList_store_mean rfl (.tmp 4) (.tmp 19) rfl w.heap.size _ (meanArr ev d cs u) mean0 (meanArr_size _ _ _ _ hcs) (meanArr_one _ _ _ _ hon) rfl rfl HM1.out ?_))
      exact bodyPost_ret (results_mean_tmp rfl _ _ w.heap.size _ (meanArr_size _ _ _ _ hcs) rfl (blk_row HM1.out _)) rfl ⟨by exact HRE.out, below_row HB1.out (Nat.le_refl _) _⟩
theorem head_no {l : List UInt8} {h : Nat} (hz : zoneHead l = h) : ∀ j, j < h → l.getD j 0 ≠ 32 := by
  intro j hlt hg
  have hpre : ∀ (p l : List UInt8), starts p l = true → ∀ j, j < p.length → l.getD j 0 = p.getD j 0 := by
    intro p l hs j hj
    unfold starts at hs
    have hs : l.take p.length = p := by simpa using hs
    have h1 : p[j]? = l[j]? := by
      conv => lhs; rw [← hs]
      rw [List.getElem?_take, if_pos hj]
    rw [List.getD_eq_getElem?_getD, List.getD_eq_getElem?_getD, h1]
  unfold zoneHead at hz
  split at hz
  · rename_i h1
    have := hpre _ _ h1 j (by unfold tzB; simp; omega)
    rw [hg] at this
    have hj3 : j = 0 ∨ j = 1 ∨ j = 2 := by omega
    rcases hj3 with rfl | rfl | rfl <;> revert this <;> decide
  · split at hz
    · rename_i h1
      have := hpre _ _ h1 j (by unfold cronB; simp; omega)
      rw [hg] at this
      have hj8 : j = 0 ∨ j = 1 ∨ j = 2 ∨ j = 3 ∨ j = 4 ∨ j = 5 ∨ j = 6 ∨ j = 7 := by omega
      rcases hj8 with rfl | rfl | rfl | rfl | rfl | rfl | rfl | rfl <;> revert this <;> decide
    · omega
theorem space_at {s : ByteArray} {h : Nat} (hh : h = 3 ∨ h = 8) (hz : zoneHead s.data.toList = h) (hn : noAnswer s.data.toList = false) : ∃ j, h ≤ j ∧ j < s.size ∧ s.data.toList.getD j 0 = 32 := by
  unfold noAnswer at hn
  rw [hz, decide_eq_true (by omega : 0 < h)] at hn
  simp only [Bool.and_true, Bool.not_eq_false'] at hn
  rw [List.contains_iff_mem] at hn
  obtain ⟨j, hj, he⟩ := List.getElem_of_mem hn
  have hg : s.data.toList.getD j 0 = 32 := by rw [List.getD_eq_getElem?_getD, List.getElem?_eq_getElem hj]; exact he
  refine ⟨j, ?_, by simpa using hj, hg⟩
  rcases Nat.lt_or_ge j h with hlt | hge
  · exact absurd hg (head_no hz j hlt)
  · exact hge
theorem zone_cases (l : List UInt8) : zoneHead l = 0 ∨ zoneHead l = 3 ∨ zoneHead l = 8 := by
  unfold zoneHead
  split
  · exact .inr (.inl rfl)
  · split
    · exact .inr (.inr rfl)
    · exact .inl rfl
theorem name_rest {s : ByteArray} {h k : Nat} (hz : zoneHead s.data.toList = h) (hk : h ≤ k) (hks : k < s.size) (h1 : ∀ j, h ≤ j → j < k → s.data.toList.getD j 0 ≠ 32) (h2 : s.data.toList.getD k 0 = 32) :
    nameOf s.data.toList = (s.extract h k).data.toList ∧ restOf s.data.toList = (s.extract k s.size).data.toList := by
  have h3 := span_from (p := fun c => c != 32) (s := s) hk (by omega) (fun j ha hj => by simpa using h1 j ha hj) (fun hlt => by rw [← Words.getD_at s k hlt, h2]; rfl)
  unfold nameOf restOf
  rw [hz, h3.1, h3.2, drop_take, Lib.extract_to_end]
  exact ⟨rfl, rfl⟩
theorem worse_one (v : Nat) (hv : v ≤ 2) (w : World) : Calls Tryz.prog 46 #[.int .i64 1, .int .i64 (v : Int)] w fun e w' => e = .returned (.int .i64 (v : Int)) ∧ w = w' := by
  have h : v = 0 ∨ v = 1 ∨ v = 2 := by omega
  rcases h with rfl | rfl | rfl
  · exact worse_lit 1 0 0 (by decide) (by decide) rfl w
  · exact worse_lit 1 1 1 (by decide) (by decide) rfl w
  · exact worse_lit 1 2 2 (by decide) (by decide) rfl w
theorem worse_no (a v : Nat) (ha : a = 0 ∨ a = 2) (hv : v ≤ 2) (w : World) : ∃ r : Nat, (r = 0 ∨ r = 2) ∧ ∀ w, Calls Tryz.prog 46 #[.int .i64 (a : Int), .int .i64 (v : Int)] w fun e w' => e = .returned (.int .i64 (r : Int)) ∧ w = w' := by
  have h : v = 0 ∨ v = 1 ∨ v = 2 := by omega
  rcases ha with rfl | rfl <;> rcases h with rfl | rfl | rfl
  · exact ⟨0, .inl rfl, fun w => worse_lit 0 0 0 (by decide) (by decide) rfl w⟩
  · exact ⟨0, .inl rfl, fun w => worse_lit 0 1 0 (by decide) (by decide) rfl w⟩
  · exact ⟨0, .inl rfl, fun w => worse_lit 0 2 0 (by decide) (by decide) rfl w⟩
  · exact ⟨0, .inl rfl, fun w => worse_lit 2 0 0 (by decide) (by decide) rfl w⟩
  · exact ⟨2, .inr rfl, fun w => worse_lit 2 1 2 (by decide) (by decide) rfl w⟩
  · exact ⟨2, .inr rfl, fun w => worse_lit 2 2 2 (by decide) (by decide) rfl w⟩
theorem sres_any {ut : Bool} {r : Nat} (h : r = 0 ∨ r = 2) : SRes none ut (.returned (.tuple #[.agg (meanArr false 0 noFields false), .int .i64 (r : Int)])) :=
  ⟨false, 0, noFields, false, r, rfl, noFields_size, noFields_one, by omega, fun _ => rfl, fun h1 => by omega⟩
theorem sres_utc {q : Option (Option MV)} {ev : Bool} {d : Int} {cs : Array Value} {u uz : Bool} (hcs : cs.size = 384) (hon : cs.all (·.oneCell') = true)
    (h : (∃ LL, q = some (some (.sets LL)) ∧ ev = false ∧ d = 0 ∧ cs = fldArr (stL LL 6) (fLs LL 6) ∧ u = false) ∨ (∃ x, q = some (some (.every x)) ∧ ev = true ∧ d = x ∧ cs = noFields ∧ u = false)) :
    SRes q uz (.returned (.tuple #[.agg (meanArr ev d cs (uz && !ev)), .int .i64 ((1 : Nat) : Int)])) := by
  refine ⟨ev, d, cs, uz && !ev, 1, rfl, hcs, hon, by omega, fun h => by omega, fun _ => ?_⟩
  rcases h with ⟨LL, h1, h2, h3, h4, -⟩ | ⟨x, h1, h2, h3, h4, -⟩
  · exact .inl ⟨LL, h1, h2, h3, h4, by rw [h2]; simp⟩
  · exact .inr ⟨x, h1, h2, h3, h4, by rw [h2]; simp⟩
theorem sres_two {q : Option (Option MV)} {ut : Bool} : SRes q ut (.returned (.tuple #[.agg (meanArr false 0 noFields false), .int .i64 ((2 : Nat) : Int)])) :=
  ⟨false, 0, noFields, false, 2, rfl, noFields_size, noFields_one, by omega, fun h => by omega, fun h1 => by omega⟩
set_option maxHeartbeats 4000000 in
set_option maxRecDepth 100000 in
theorem parse_any (o : Nat) (s : ByteArray) (w : World) (ho : o < 512) (hs : s.size ≤ 65536) :
    Calls Tryz.prog 21 #[.int .i64 (o : Int), .string s] w fun e w' => SRes (mean (o : Int) s.data.toList) (utcOf s.data.toList) e ∧ Below w.heap.size w w' := by
  have HZ := Lib.hid (fun w => zoneHead_any s w (by omega))
  have HM0 := Lib.hid (Blk.new w (meanArr false 0 noFields false) 59)
  have hbA : Below w.heap.size w (w.alloc (.cells (meanArr false 0 noFields false) 59)) := (Below.refl _ w).alloc (Nat.le_refl _) _
  have HBA := Lib.hid hbA
  clear hbA
  unfold mean utcOf
  rcases zone_cases s.data.toList with hz | hz
  · rw [if_pos hz, if_pos hz]
    rw [hz] at HZ
    clear hz
    by_cases h0 : 0 < s.size
    · obtain ⟨q1, q2⟩ := empty_false h0
      rw [if_neg (DurKept.ne_nil h0)]
      have HP := Lib.hid (fun w => plainA_any o s w ho hs)
      go_enter Tryz.func21, Tryz.ntmps21
      go_wp2_with (first
        | (with_reducible refine wpList_alloc_mean rfl rfl ?_)
        | (go_at_call 28; refine (HZ.out _).mono ?_; rintro e w' ⟨rfl, rfl⟩)
        | (go_at_call 42; refine (HP.out _).mono ?_; rintro e w1 ⟨he, hb1⟩; have HRE := Lib.hid he; obtain ⟨ev, d, cs, u, v, rfl, hcs, hon, hv, -, -⟩ := he; have HM1 := Lib.hid (HM0.out.after hb1); have HB1 := Lib.hid (Below.trans HBA.out (hb1.mono (by simp))); clear hb1)
        | (with_reducible refine wpList_store_mean rfl (.tmp 4) (.tmp 23) rfl w.heap.size _ (meanArr ev d cs u) mean0 (meanArr_size _ _ _ _ hcs) (meanArr_one _ _ _ _ hon) rfl rfl HM1.out ?_))
      exact bodyPost_ret (results_mean_tmp rfl _ _ w.heap.size _ (meanArr_size _ _ _ _ hcs) rfl (blk_row HM1.out _)) rfl ⟨by exact HRE.out, below_row HB1.out (Nat.le_refl _) _⟩
    · obtain ⟨q1, q2⟩ := empty_true h0
      rw [if_pos (nil_of h0)]
      go_enter Tryz.func21, Tryz.ntmps21
      go_wp2_with (first
        | (with_reducible refine wpList_alloc_mean rfl rfl ?_)
        | (with_reducible refine wpList_build_mean rfl rfl ?_)
        | (go_at_call 28; refine (HZ.out _).mono ?_; rintro e w' ⟨rfl, rfl⟩)
        | (with_reducible refine wpList_store_mean rfl (.tmp 4) (.tmp 19) rfl w.heap.size _ _ mean0 mean0 mean0_one rfl rfl HM0.out ?_))
      exact bodyPost_ret (results_mean_tmp rfl _ _ w.heap.size _ mean0 rfl (blk_row HM0.out _)) rfl ⟨by exact sres_const (v := 0) (.inl rfl) (fun _ => rfl), below_row HBA.out (Nat.le_refl _) _⟩
  · obtain ⟨hd, hhd⟩ : ∃ h, zoneHead s.data.toList = h := ⟨_, rfl⟩
    rw [hhd] at hz HZ ⊢
    rw [if_neg (show ¬ hd = 0 by omega), if_neg (show ¬ hd = 0 by omega)]
    have hd0 : ((hd : Int) == 0) = false := beq_eq_false_iff_ne.2 (by omega)
    have HNA := Lib.hid (fun w => noAnswer_any s w hs)
    cases hna : noAnswer s.data.toList with
    | true =>
      rw [hna] at HNA
      rw [if_pos rfl]
      clear hna hhd hz
      go_enter Tryz.func21, Tryz.ntmps21
      go_wp2_with (first
        | (with_reducible refine wpList_alloc_mean rfl rfl ?_)
        | (with_reducible refine wpList_build_mean rfl rfl ?_)
        | (go_at_call 28; refine (HZ.out _).mono ?_; rintro e w' ⟨rfl, rfl⟩)
        | (go_at_call 20; refine (HNA.out _).mono ?_; rintro e w1 ⟨rfl, hb1⟩; have HM1 := Lib.hid (HM0.out.after hb1); have HB1 := Lib.hid (Below.trans HBA.out (hb1.mono (by simp))); clear hb1)
        | (with_reducible refine wpList_store_mean rfl (.tmp 4) (.tmp 27) rfl w.heap.size _ _ mean0 mean0 mean0_one rfl rfl HM1.out ?_))
      refine bodyPost_ret (results_mean_tmp rfl _ _ w.heap.size _ mean0 rfl (blk_row HM1.out _)) rfl ⟨?_, below_row HB1.out (Nat.le_refl _) _⟩
      exact ⟨false, 0, noFields, false, 2, rfl, noFields_size, noFields_one, by omega, fun h => by omega, fun h => by omega⟩
    | false =>
      rw [hna] at HNA
      rw [if_neg (by decide)]
      obtain ⟨j0, hj1, hj2, hj3⟩ := space_at hz hhd hna
      obtain ⟨mr, hmr⟩ : ∃ mr, zoned (zname (nameOf s.data.toList)) (restM (o : Int) s.data.toList) = mr := ⟨_, rfl⟩
      obtain ⟨ut, hut⟩ : ∃ ut, (zname (nameOf s.data.toList) == some true) = ut := ⟨_, rfl⟩
      rw [hmr, hut]
      have HMR := Lib.hid hmr
      have HUT := Lib.hid hut
      clear hmr hut
      have HHD := Lib.hid hhd
      have HJ3 := Lib.hid hj3
      clear hna hhd hj3
      go_enter Tryz.func21, Tryz.ntmps21
      go_upto_block 0 with (first
        | (with_reducible refine wpList_alloc_mean rfl rfl ?_)
        | (go_at_call 28; refine (HZ.out _).mono ?_; rintro e w' ⟨rfl, rfl⟩)
        | (go_at_call 20; refine (HNA.out _).mono ?_; rintro e w1 ⟨rfl, hb1⟩; have HM1 := Lib.hid (HM0.out.after hb1); have HB1 := Lib.hid (Below.trans HBA.out (hb1.mono (by simp))); clear hb1))
      go_cut [7] (fun i wx => ∃ k : Nat, i = .int .i64 (k : Int) ∧ hd ≤ k ∧ k < s.size ∧ Hid (nameOf s.data.toList = (s.extract hd k).data.toList ∧ restOf s.data.toList = (s.extract k s.size).data.toList) ∧ wx = w1)
      case first =>
       as_aux_lemma =>
        go_wp2
        go_loop [7] (fun i => ∃ k : Nat, i = .int .i64 (k : Int) ∧ hd ≤ k ∧ k ≤ j0 ∧ Hid (∀ j, hd ≤ j → j < k → s.data.toList.getD j 0 ≠ 32)) (fun i => s.size - (intOf i).toNat)
        case atStart => exact ⟨hd, rfl, by omega, hj1, Lib.hid (fun j h1 h2 => by omega)⟩
        case round =>
          obtain ⟨k, rfl, hk1, hk2, HK⟩ := hrel
          have hlt : k < s.size := by omega
          have hki : (k : Int) < (s.size : Int) := by omega
          by_cases hp : s[k] = 32
          · have x1 : (((s[k]).toNat : Int) != 32) = false := by rw [hp]; rfl
            have HE := Lib.hid (name_rest HHD.out hk1 hlt HK.out (by rw [Words.getD_at s k hlt, hp]))
            clear hp
            go_wp2
            go_meet
            case rel => exact ⟨k, rfl, hk1, hlt, HE, rfl⟩
          · have x1 : (((s[k]).toNat : Int) != 32) = true := by
              rw [bne_iff_ne]; intro e; exact hp (by rw [← UInt8.toNat_inj]; exact Int.ofNat.inj e)
            have HK2 : Hid (∀ j, hd ≤ j → j < k + 1 → s.data.toList.getD j 0 ≠ 32) := Lib.hid (fun j h1 h2 => by
              by_cases hjk : j = k
              · subst hjk; rw [Words.getD_at s j hlt]; exact hp
              · exact HK.out j h1 (by omega))
            have hk3 : k + 1 ≤ j0 := by
              rcases Nat.lt_or_ge k j0 with h | h
              · exact h
              · have : k = j0 := by omega
                subst this
                have := HJ3.out
                rw [Words.getD_at s k hlt] at this
                exact absurd this hp
            clear hp
            go_wp2
            go_round
            case rel => exact ⟨k + 1, by go_num, by omega, hk3, HK2⟩
            case measure => simp [intOf]; omega
      case rest =>
       as_aux_lemma =>
        obtain ⟨k, rfl, hk1, hk2, HNR, rfl⟩ := hcut
        obtain ⟨w1, rfl⟩ : ∃ w1, w1 = wc := ⟨_, rfl⟩
        have hki1 : (hd : Int) ≤ (k : Int) := by omega
        have hki2 : (k : Int) ≤ (s.size : Int) := by omega
        have HN := Lib.hid (fun w => name_any (s.extract hd k) w (by simp; omega))
        rw [← HNR.out.1] at HN
        have HT : Hid (∀ w, Calls Tryz.prog 44 #[.string (s.extract k s.size)] w fun e w' => (∃ t : ByteArray, e = .returned (.string t) ∧ t.size ≤ 65536 ∧ t.data.toList = trimL (restOf s.data.toList)) ∧ w = w') := Lib.hid (fun w => by
          refine (trim_spec (s.extract k s.size) w (by simp; omega)).mono ?_
          rintro e w' ⟨⟨t, h1, h2, h3⟩, h4⟩
          refine ⟨⟨t, h1, ?_, by rw [h3, HNR.out.2]⟩, h4⟩
          have : (s.extract k s.size).size ≤ s.size := by simp
          omega)
        cases hzn : zname (nameOf s.data.toList) with
        | none =>
         as_aux_lemma =>
          rw [hzn] at HN
          have HMN : Hid (mr = none) := Lib.hid (by rw [← HMR.out, hzn]; rfl)
          clear hzn
          go_upto_region 13 with (first
            | (go_at_call 43; refine (HN.out _).mono ?_; rintro e w' hn; obtain ⟨va, rfl, hva, rfl⟩ := hn)
            | (go_at_call 44; refine (HT.out _).mono ?_; rintro e w' ⟨⟨t, rfl, hts, htl⟩, rfl⟩; have HTL := Lib.hid htl; clear htl))
          have HF := Lib.hid (fun w => foreign_any t w hts)
          cases hf : foreign t.data.toList with
          | true =>
            rw [hf] at HF
            obtain ⟨r, hr, hw⟩ := worse_no va 2 hva (by decide) w1
            have HW := Lib.hid hw
            clear hf hw
            go_wp2_with (first
              | (with_reducible refine wpList_build_mean rfl rfl ?_)
              | (go_at_call 45; refine (HF.out _).mono ?_; rintro e w' ⟨rfl, rfl⟩)
              | (go_at_call 46; refine (HW.out _).mono ?_; rintro e w' ⟨rfl, rfl⟩)
              | (with_reducible refine wpList_store_mean rfl (.tmp 4) (.tmp 49) rfl w.heap.size _ _ mean0 mean0 mean0_one rfl rfl HM1.out ?_))
            refine bodyPost_ret (results_mean_tmp rfl _ _ w.heap.size _ mean0 rfl (blk_row HM1.out _)) rfl ⟨?_, below_row HB1.out (Nat.le_refl _) _⟩
            rw [HMN.out]
            exact sres_any hr
          | false =>
            rw [hf] at HF
            have HP := Lib.hid (fun w => plainA_any o t w ho hts)
            clear hf
            go_upto_region 16 with (first
              | (go_at_call 45; refine (HF.out _).mono ?_; rintro e w' ⟨rfl, rfl⟩)
              | (go_at_call 42; refine (HP.out _).mono ?_; rintro e w3 ⟨he, hb3⟩; obtain ⟨ev, d, cs, u, v, rfl, hcs, hon, hv, -, -⟩ := he; have HM3 := Lib.hid (HM1.out.after hb3); have HB3 := Lib.hid (HB1.out.trans (hb3.mono HB1.out.size)); have HN3 := Lib.hid (Blk.new w3 (meanArr false 0 noFields false) 59); clear hb3)
              | (with_reducible refine wpList_alloc_mean rfl rfl ?_)
              | (with_reducible refine wpList_store_mean rfl (.tmp 11) (.tmp 56) rfl w3.heap.size _ (meanArr ev d cs u) mean0 (meanArr_size _ _ _ _ hcs) (meanArr_one _ _ _ _ hon) rfl rfl HN3.out ?_))
            refine name_world fun X hX => ?_
            have HBX : Hid (Below w3.heap.size w3 X) := Lib.hid (by rw [hX]; exact below_row ((Below.refl _ w3).alloc (Nat.le_refl _) _) (Nat.le_refl _) _)
            have HMX := Lib.hid (HM3.out.after HBX.out)
            have HBW := Lib.hid (HB3.out.trans (HBX.out.mono HB3.out.size))
            obtain ⟨r, hr, hw⟩ := worse_no va v hva hv w1
            have HW := Lib.hid hw
            have hr1 : ((r : Int) != 1) = true := by rw [bne_iff_ne]; omega
            clear hX hw
            go_wp2_with (first
              | (with_reducible refine wpList_build_mean rfl rfl ?_)
              | (go_at_call 46; refine (HW.out _).mono ?_; rintro e w' ⟨rfl, rfl⟩)
              | (with_reducible refine wpList_store_mean rfl (.tmp 4) (.tmp 63) rfl w.heap.size _ _ mean0 mean0 mean0_one rfl rfl HMX.out ?_))
            refine bodyPost_ret (results_mean_tmp rfl _ _ w.heap.size _ mean0 rfl (blk_row HMX.out _)) rfl ⟨?_, below_row HBW.out (Nat.le_refl _) _⟩
            rw [HMN.out]
            exact sres_any hr
        | some uz =>
         as_aux_lemma =>
          rw [hzn] at HN
          have HUZ : Hid (ut = uz) := Lib.hid (by rw [← HUT.out, hzn]; cases uz <;> rfl)
          have HMZ : Hid (mr = restM (o : Int) s.data.toList) := Lib.hid (by rw [← HMR.out, hzn]; rfl)
          clear hzn
          go_upto_region 13 with (first
            | (go_at_call 43; refine (HN.out _).mono ?_; rintro e w' hn; obtain ⟨rfl, rfl⟩ := hn)
            | (go_at_call 44; refine (HT.out _).mono ?_; rintro e w' ⟨⟨t, rfl, hts, htl⟩, rfl⟩; have HTL := Lib.hid htl; clear htl))
          have HF := Lib.hid (fun w => foreign_any t w hts)
          cases hf : foreign t.data.toList with
          | true =>
            rw [hf] at HF
            have HW := Lib.hid (fun w => worse_one 2 (by decide) w)
            clear hf
            go_wp2_with (first
              | (with_reducible refine wpList_build_mean rfl rfl ?_)
              | (go_at_call 45; refine (HF.out _).mono ?_; rintro e w' ⟨rfl, rfl⟩)
              | (go_at_call 46; refine (HW.out _).mono ?_; rintro e w' ⟨rfl, rfl⟩)
              | (with_reducible refine wpList_store_mean rfl (.tmp 4) (.tmp 49) rfl w.heap.size _ _ mean0 mean0 mean0_one rfl rfl HM1.out ?_))
            refine bodyPost_ret (results_mean_tmp rfl _ _ w.heap.size _ mean0 rfl (blk_row HM1.out _)) rfl ⟨?_, below_row HB1.out (Nat.le_refl _) _⟩
            exact sres_two
          | false =>
            rw [hf] at HF
            have HP := Lib.hid (fun w => plainA_any o t w ho hts)
            have HMV : Hid (mr = mvAll (o : Int) t.data.toList) := Lib.hid (by rw [HMZ.out]; unfold restM; rw [← HTL.out, hf]; rfl)
            rw [← HMV.out] at HP
            clear hf
            go_upto_region 16 with (first
              | (go_at_call 45; refine (HF.out _).mono ?_; rintro e w' ⟨rfl, rfl⟩)
              | (go_at_call 42; refine (HP.out _).mono ?_; rintro e w3 ⟨he, hb3⟩; obtain ⟨ev, d, cs, u, v, rfl, hcs, hon, hv, hv0, hv1⟩ := he; have HM3 := Lib.hid (HM1.out.after hb3); have HB3 := Lib.hid (HB1.out.trans (hb3.mono HB1.out.size)); have HN3 := Lib.hid (Blk.new w3 (meanArr false 0 noFields false) 59); have HV0 := Lib.hid hv0; have HV1 := Lib.hid hv1; clear hb3 hv0 hv1)
              | (with_reducible refine wpList_alloc_mean rfl rfl ?_)
              | (with_reducible refine wpList_store_mean rfl (.tmp 11) (.tmp 56) rfl w3.heap.size _ (meanArr ev d cs u) mean0 (meanArr_size _ _ _ _ hcs) (meanArr_one _ _ _ _ hon) rfl rfl HN3.out ?_))
            refine name_world fun X hX => ?_
            have HBX : Hid (Below w3.heap.size w3 X) := Lib.hid (by rw [hX]; exact below_row ((Below.refl _ w3).alloc (Nat.le_refl _) _) (Nat.le_refl _) _)
            have HNX : Hid (Blk X w3.heap.size (meanArr ev d cs u)) := Lib.hid (by rw [hX]; exact blk_row HN3.out _)
            have HMX := Lib.hid (HM3.out.after HBX.out)
            have HBW := Lib.hid (HB3.out.trans (HBX.out.mono HB3.out.size))
            have hw3 : w.heap.size < w3.heap.size := HM3.out.lt
            clear hX
            have HW := Lib.hid (fun w => worse_one v hv w)
            by_cases hv1 : v = 1
            · subst hv1
              have k0 := HNX.out.cell (mean_ev ev d cs u)
              have k1 := HNX.out.cell (mean_utc ev d cs u hcs)
              have k2 := HNX.out.free 386
              cases uz with
              | true =>
                have HNY : Hid (Blk (X.setCell ⟨w3.heap.size, 386, none⟩ (.bool (!ev))) w3.heap.size (meanArr ev d cs (!ev))) := Lib.hid (by
                  have := HNX.out.set 386 (.bool (!ev))
                  rwa [mean_set_utc _ _ _ _ _ hcs] at this)
                have HMY : Hid (Blk (X.setCell ⟨w3.heap.size, 386, none⟩ (.bool (!ev))) w.heap.size (meanArr false 0 noFields false)) := Lib.hid (HMX.out.other ⟨w3.heap.size, 386, none⟩ _ (by simp; omega))
                go_wp2_with (first
                  | (go_at_call 46; refine (HW.out _).mono ?_; rintro e w' ⟨rfl, rfl⟩)
                  | (with_reducible refine wpList_load_mean rfl (.tmp 11) rfl w3.heap.size (meanArr ev d cs (!ev)) (meanArr_size _ _ _ _ hcs) rfl HNY.out ?_)
                  | (with_reducible refine wpList_store_mean rfl (.tmp 4) (.tmp 72) rfl w.heap.size _ (meanArr ev d cs (!ev)) mean0 (meanArr_size _ _ _ _ hcs) (meanArr_one _ _ _ _ hon) rfl rfl HMY.out ?_))
                refine bodyPost_ret (results_mean_tmp rfl _ _ w.heap.size _ (meanArr_size _ _ _ _ hcs) rfl (blk_row HMY.out _)) rfl ⟨?_, below_row (HBW.out.setCell (by simp; omega) _) (Nat.le_refl _) _⟩
                rw [HUZ.out]
                exact sres_utc hcs hon (HV1.out (by trivial))
              | false =>
                have HNY : Hid (Blk (X.setCell ⟨w3.heap.size, 386, none⟩ (.bool false)) w3.heap.size (meanArr ev d cs false)) := Lib.hid (by
                  have := HNX.out.set 386 (.bool false)
                  rwa [mean_set_utc _ _ _ _ _ hcs] at this)
                have HMY : Hid (Blk (X.setCell ⟨w3.heap.size, 386, none⟩ (.bool false)) w.heap.size (meanArr false 0 noFields false)) := Lib.hid (HMX.out.other ⟨w3.heap.size, 386, none⟩ _ (by simp; omega))
                go_wp2_with (first
                  | (go_at_call 46; refine (HW.out _).mono ?_; rintro e w' ⟨rfl, rfl⟩)
                  | (with_reducible refine wpList_load_mean rfl (.tmp 11) rfl w3.heap.size (meanArr ev d cs false) (meanArr_size _ _ _ _ hcs) rfl HNY.out ?_)
                  | (with_reducible refine wpList_store_mean rfl (.tmp 4) (.tmp 72) rfl w.heap.size _ (meanArr ev d cs false) mean0 (meanArr_size _ _ _ _ hcs) (meanArr_one _ _ _ _ hon) rfl rfl HMY.out ?_))
                refine bodyPost_ret (results_mean_tmp rfl _ _ w.heap.size _ (meanArr_size _ _ _ _ hcs) rfl (blk_row HMY.out _)) rfl ⟨?_, below_row (HBW.out.setCell (by simp; omega) _) (Nat.le_refl _) _⟩
                rw [HUZ.out]
                exact sres_utc hcs hon (HV1.out (by trivial))
            · have hr1 : ((v : Int) != 1) = true := by rw [bne_iff_ne]; omega
              go_wp2_with (first
                | (with_reducible refine wpList_build_mean rfl rfl ?_)
                | (go_at_call 46; refine (HW.out _).mono ?_; rintro e w' ⟨rfl, rfl⟩)
                | (with_reducible refine wpList_store_mean rfl (.tmp 4) (.tmp 63) rfl w.heap.size _ _ mean0 mean0 mean0_one rfl rfl HMX.out ?_))
              refine bodyPost_ret (results_mean_tmp rfl _ _ w.heap.size _ mean0 rfl (blk_row HMX.out _)) rfl ⟨?_, below_row HBW.out (Nat.le_refl _) _⟩
              exact ⟨false, 0, noFields, false, v, rfl, noFields_size, noFields_one, hv, HV0.out, fun h => absurd h hv1⟩
end Go.Proofs.YtmnjmhlodbifjaaGreatDoor.SpecParse
