/- The walk of FnCronCase: letters of the other case change nothing. Conditions: strconv's sentinels hold something. -/
import Derived.Test.YtmnjmhlodbifjaaGreatDoorParseCron
import Derived.Test.YtmnjmhlodbifjaaGreatDoorFlip
namespace Go.Proofs.YtmnjmhlodbifjaaGreatDoor.fnCronCase
open Go Go.RowKit Go.Proofs.YtmnjmhlodbifjaaGreatDoor.Mem Go.Proofs.YtmnjmhlodbifjaaGreatDoor.Aid Go.Proofs.YtmnjmhlodbifjaaGreatDoor.Err Go.Proofs.YtmnjmhlodbifjaaGreatDoor.FillPure Go.Proofs.YtmnjmhlodbifjaaGreatDoor.PlainPure Go.Proofs.YtmnjmhlodbifjaaGreatDoor.NameRel Go.Proofs.YtmnjmhlodbifjaaGreatDoor.Head Go.Proofs.YtmnjmhlodbifjaaGreatDoor.ZoneHead Go.Proofs.YtmnjmhlodbifjaaGreatDoor.Big Go.Proofs.YtmnjmhlodbifjaaGreatDoor.SpecParse0 Go.Proofs.YtmnjmhlodbifjaaGreatDoor.ParseCron Go.Proofs.YtmnjmhlodbifjaaGreatDoor.Flip
set_option linter.unusedVariables false

theorem plain_facts {l : List UInt8} (h : plainT l = true) : foreign l = false ∧ l.length ≤ 65536 ∧ starts [64] l = false ∧ zoneHead l = 0 := by
  unfold plainT at h
  simpa [Bool.and_eq_true] using h
set_option maxHeartbeats 4000000 in
set_option maxRecDepth 100000 in
theorem walk (o : Int) (s : ByteArray) (fa : Option Addr) (fn fc : Nat) (w : World) (hsm : s.size ≤ maxLen) (hnm : fn ≤ maxLen) (hb : Bools w fa fn) (hv : ErrVars w) :
    Calls Tryz.prog 3 #[.int .i64 o, .string s, .slice fa fn fc] w fun e w' => e = .returned (.bool true) ∧ Below w.heap.size w w' := by
  unfold maxLen at hsm hnm
  by_cases hs : s.size ≤ 2147483647
  · by_cases hn : fn ≤ 2147483647
    · have HFL := Lib.hid (fun w1 (h : Bools w1 fa fn) => flip_any s fa fn fc w1 hs hn h)
      have HBO := Lib.hid hb
      have HO := Lib.hid (fun w => options_b o w)
      have HP := Lib.hid (fun w => plainText_any s w hs)
      clear hb
      cases hob : optB o with
      | false =>
        rw [hob] at HO
        clear hob
        go_enter Tryz.func3, Tryz.ntmps3
        go_wp2_with (first
          | (go_at_call 7; refine (HFL.out _ HBO.out).mono ?_; rintro e w1 ⟨he, hb1⟩; obtain ⟨l, rfl, hl1, hl2⟩ := he; have HB1 := Lib.hid hb1; clear hb1 hl1 hl2)
          | (go_at_call 8; refine (HO.out _).mono ?_; rintro e w' ⟨rfl, rfl⟩))
        go_ret
        exact ⟨rfl, HB1.out⟩
      | true =>
        rw [hob] at HO
        obtain ⟨n, rfl, hn2, hso⟩ := optB_facts hob
        clear hob
        cases hpt : plainT s.data.toList with
        | false =>
          rw [hpt] at HP
          clear hpt
          go_enter Tryz.func3, Tryz.ntmps3
          go_wp2_with (first
            | (go_at_call 7; refine (HFL.out _ HBO.out).mono ?_; rintro e w1 ⟨he, hb1⟩; obtain ⟨l, rfl, hl1, hl2⟩ := he; have HB1 := Lib.hid hb1; clear hb1 hl1 hl2)
            | (go_at_call 8; refine (HO.out _).mono ?_; rintro e w' ⟨rfl, rfl⟩)
            | (go_at_call 9; refine (HP.out _).mono ?_; rintro e w' ⟨rfl, rfl⟩))
          go_ret
          exact ⟨rfl, HB1.out⟩
        | true =>
          rw [hpt] at HP
          obtain ⟨p1, p2, p3, p4⟩ := plain_facts hpt
          clear hpt
          go_enter Tryz.func3, Tryz.ntmps3
          go_upto_region 4 with (go_at_call 7; refine (HFL.out _ HBO.out).mono ?_; rintro e w1 ⟨he, hb1⟩; obtain ⟨l, rfl, hl1, hl2⟩ := he; have HB1 := Lib.hid hb1; have HL1 := Lib.hid hl1; have HL2 := Lib.hid hl2; clear hb1 hl1 hl2)
          have HV1 := Lib.hid (hv.below HB1.out)
          obtain ⟨t, ht⟩ : ∃ t : ByteArray, (⟨l.toArray⟩ : ByteArray) = t := ⟨_, rfl⟩
          have HTL : Hid (t.data.toList = l) := Lib.hid (by rw [← ht])
          have hts : t.size ≤ 2147483647 := by rw [← ht, show (⟨l.toArray⟩ : ByteArray).size = l.length from by simp [ByteArray.size], HL1.out]; exact hs
          rw [ht]
          have HPT := Lib.hid (fun w => plainText_any t w hts)
          clear ht
          cases hpt : plainT t.data.toList with
          | false =>
            rw [hpt] at HPT
            clear hpt p1 p2 p3 p4 hso
            go_wp2_with (first
              | (go_at_call 8; refine (HO.out _).mono ?_; rintro e w' ⟨rfl, rfl⟩)
              | (go_at_call 9; (first | (with_reducible refine (HP.out _).mono ?_) | (with_reducible refine (HPT.out _).mono ?_)); rintro e w' ⟨rfl, rfl⟩))
            go_ret
            exact ⟨rfl, HB1.out⟩
          | true =>
            rw [hpt] at HPT
            obtain ⟨q1, q2, q3, q4⟩ := plain_facts hpt
            have hlen : s.size ≤ 65536 := by simpa using p2
            have hlen2 : t.size ≤ 65536 := by simpa using q2
            have hsame : plainOf (n : Int) t.data.toList = plainOf (n : Int) s.data.toList := plain_alike _ (foreign_not q1) (foreign_not p1) (by rw [HTL.out, HL2.out])
            have HC1 := Lib.hid (fun w2 (hb : Below w1.heap.size w1 w2) => cron_any n s w2 hn2 hso hlen p1 p4 p3 (HV1.out.below hb))
            have HC2 := Lib.hid (fun w2 (hb : Below w1.heap.size w1 w2) => cron_any n t w2 hn2 hso hlen2 q1 q4 q3 (HV1.out.below hb))
            have HN := Lib.hid (fun w => nothing_any n s w hn2 hlen p4 p3)
            have HNF := Lib.hid (fun (h : plainOf (n : Int) s.data.toList = none) => not_fine p1 h)
            obtain ⟨r, hr⟩ : ∃ r, plainOf (n : Int) s.data.toList = r := ⟨_, rfl⟩
            have HC2 : Hid (∀ w2, Below w1.heap.size w1 w2 → Calls Tryz.prog 10 #[.int .i64 (n : Int), .string t] w2 fun e w' => CronRes r e ∧ Below w2.heap.size w2 w') := Lib.hid (by have := HC2.out; rwa [hsame, hr] at this)
            rw [hr] at HC1 HNF
            clear hpt p1 p2 p3 p4 q1 q2 q3 q4 hso hsame hr
            have HS8 := Lib.hid (schedOf_size r)
            have HS1 := Lib.hid (schedOf_one r)
            have heq := eq_sched r
            have HC1 : Hid (∀ w2, Below w1.heap.size w1 w2 → Calls Tryz.prog 10 #[.int .i64 (n : Int), .string s] w2 fun e w' => e = .returned (.tuple #[.agg (schedOf r), .bool r.isSome]) ∧ Below w2.heap.size w2 w') := Lib.hid (fun w2 hb => (HC1.out w2 hb).mono fun e w' h => ⟨cronRes_eq h.1, h.2⟩)
            have HC2 : Hid (∀ w2, Below w1.heap.size w1 w2 → Calls Tryz.prog 10 #[.int .i64 (n : Int), .string t] w2 fun e w' => e = .returned (.tuple #[.agg (schedOf r), .bool r.isSome]) ∧ Below w2.heap.size w2 w') := Lib.hid (fun w2 hb => (HC2.out w2 hb).mono fun e w' h => ⟨cronRes_eq h.1, h.2⟩)
            have HNF : Hid (r.isSome = false → (parseM (n : Int) s.data.toList).2 ≠ 1) := Lib.hid (fun h => HNF.out (by cases r; rfl; cases h))
            generalize schedOf r = S at HS8 HS1 heq HC1 HC2
            generalize r.isSome = b at HC1 HC2 HNF
            have HONE : Hid True := Lib.hid trivial
            cases b with
            | false =>
              have HNT : Hid (∀ w, Calls Tryz.prog 11 #[.int .i64 (n : Int), .string s] w fun e w' => e = .returned (.bool true) ∧ Below w.heap.size w w') := Lib.hid (by have := HN.out; rwa [decide_eq_true (HNF.out rfl)] at this)
              clear HN HNF
              go_wp2_with (first
                | (go_at_call 8; refine (HO.out _).mono ?_; rintro e w' ⟨rfl, rfl⟩)
                | (go_at_call 9; (first | (with_reducible refine (HP.out _).mono ?_) | (with_reducible refine (HPT.out _).mono ?_)); rintro e w' ⟨rfl, rfl⟩)
                | (go_at_call 10; (have hone := HONE.out); (with_reducible refine (HC1.out _ (Below.refl _ _)).mono ?_); rintro e w2 ⟨rfl, hb2⟩; have HB2 := Lib.hid hb2; have HN2 := Lib.hid (Blk.new w2 zeroS 28); have HM2 := Lib.hid (blk_row HN2.out S); have HB3 := Lib.hid (below_row (hb2.alloc hb2.size (.cells zeroS 28)) hb2.size S); clear hb2 hone HONE)
                | (refine wpList_store_blk rfl 28 (.tmp 8) (.tmp 40) rfl w2.heap.size zeroS S (by rw [HS8.out]; exact infoSched) (by rw [HS8.out]; rfl) HS1.out (by rfl) (by rfl) HN2.out ?_)
                | (go_at_call 10; refine (HC2.out _ HB3.out).mono ?_; rintro e w3 ⟨rfl, hb3⟩; have HB4 := Lib.hid (HB3.out.trans (hb3.mono HB3.out.size)); have HM3 := Lib.hid (HM2.out.after hb3); have HN3 := Lib.hid (Blk.new w3 zeroS 28); have HM4 := Lib.hid (blk_row HN3.out S); have HM5 := Lib.hid (blk_else (b := w3.heap.size) (HM3.out.alloc (.cells zeroS 28)) S (by have := HM3.out.lt; omega)); have HB5 := Lib.hid (below_row (HB4.out.alloc HB4.out.size (.cells zeroS 28)) HB4.out.size S); clear hb3)
                | (refine wpList_store_blk rfl 28 (.tmp 10) (.tmp 46) rfl w3.heap.size zeroS S (by rw [HS8.out]; exact infoSched) (by rw [HS8.out]; rfl) HS1.out (by rfl) (by rfl) HN3.out ?_)
                | (refine wpList_want_blk (by rfl) 28 (.tmp 8) rfl w2.heap.size S Tryz.underlying28 rfl (by rw [HS8.out]; exact infoSched) (by rfl) HM5.out ?_)
                | (refine wpList_want_blk (by rfl) 28 (.tmp 10) rfl w3.heap.size S Tryz.underlying28 rfl (by rw [HS8.out]; exact infoSched) (by rfl) HM4.out ?_)
                | (go_at_call 11; (with_reducible refine (HNT.out _).mono ?_); rintro e w4 ⟨rfl, hb4⟩; have HB6 := Lib.hid (HB5.out.trans (hb4.mono HB5.out.size)); clear hb4))
              go_ret
              exact ⟨rfl, HB1.out.trans (HB6.out.mono HB1.out.size)⟩
            | true =>
              have HNT := HN
              clear HN HNF
              go_wp2_with (first
                | (go_at_call 8; refine (HO.out _).mono ?_; rintro e w' ⟨rfl, rfl⟩)
                | (go_at_call 9; (first | (with_reducible refine (HP.out _).mono ?_) | (with_reducible refine (HPT.out _).mono ?_)); rintro e w' ⟨rfl, rfl⟩)
                | (go_at_call 10; (have hone := HONE.out); (with_reducible refine (HC1.out _ (Below.refl _ _)).mono ?_); rintro e w2 ⟨rfl, hb2⟩; have HB2 := Lib.hid hb2; have HN2 := Lib.hid (Blk.new w2 zeroS 28); have HM2 := Lib.hid (blk_row HN2.out S); have HB3 := Lib.hid (below_row (hb2.alloc hb2.size (.cells zeroS 28)) hb2.size S); clear hb2 hone HONE)
                | (refine wpList_store_blk rfl 28 (.tmp 8) (.tmp 40) rfl w2.heap.size zeroS S (by rw [HS8.out]; exact infoSched) (by rw [HS8.out]; rfl) HS1.out (by rfl) (by rfl) HN2.out ?_)
                | (go_at_call 10; refine (HC2.out _ HB3.out).mono ?_; rintro e w3 ⟨rfl, hb3⟩; have HB4 := Lib.hid (HB3.out.trans (hb3.mono HB3.out.size)); have HM3 := Lib.hid (HM2.out.after hb3); have HN3 := Lib.hid (Blk.new w3 zeroS 28); have HM4 := Lib.hid (blk_row HN3.out S); have HM5 := Lib.hid (blk_else (b := w3.heap.size) (HM3.out.alloc (.cells zeroS 28)) S (by have := HM3.out.lt; omega)); have HB5 := Lib.hid (below_row (HB4.out.alloc HB4.out.size (.cells zeroS 28)) HB4.out.size S); clear hb3)
                | (refine wpList_store_blk rfl 28 (.tmp 10) (.tmp 46) rfl w3.heap.size zeroS S (by rw [HS8.out]; exact infoSched) (by rw [HS8.out]; rfl) HS1.out (by rfl) (by rfl) HN3.out ?_)
                | (refine wpList_want_blk (by rfl) 28 (.tmp 8) rfl w2.heap.size S Tryz.underlying28 rfl (by rw [HS8.out]; exact infoSched) (by rfl) HM5.out ?_)
                | (refine wpList_want_blk (by rfl) 28 (.tmp 10) rfl w3.heap.size S Tryz.underlying28 rfl (by rw [HS8.out]; exact infoSched) (by rfl) HM4.out ?_)
                | (go_at_call 11; (with_reducible refine (HNT.out _).mono ?_); rintro e w4 ⟨rfl, hb4⟩; have HB6 := Lib.hid (HB5.out.trans (hb4.mono HB5.out.size)); clear hb4))
              go_ret
              exact ⟨rfl, HB1.out.trans (HB5.out.mono HB1.out.size)⟩
    · have hni : (2147483647 : Int) < (fn : Int) := by omega
      clear hn
      go_enter Tryz.func3, Tryz.ntmps3
      go_wp2
      go_ret
      exact ⟨rfl, Below.refl _ _⟩
  · have hsi : (2147483647 : Int) < (s.size : Int) := by omega
    clear hs
    go_enter Tryz.func3, Tryz.ntmps3
    go_wp2
    go_ret
    exact ⟨rfl, Below.refl _ _⟩

end Go.Proofs.YtmnjmhlodbifjaaGreatDoor.fnCronCase
