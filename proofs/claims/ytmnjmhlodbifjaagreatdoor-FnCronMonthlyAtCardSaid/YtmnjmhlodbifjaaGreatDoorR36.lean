/- The walk of FnCronMonthlyAt: the day of each month that has it, at a minute of an hour. Conditions: the package variables hold what their initialisers lay. -/
import Derived.Test.YtmnjmhlodbifjaaGreatDoorR33
import Derived.Test.YtmnjmhlodbifjaaGreatDoorR35
import Derived.Deep.DeepCutAuto
import Derived.Deep.CutBlock

namespace Go.Proofs.YtmnjmhlodbifjaaGreatDoor.fnCronMonthlyAt
open Go Go.RowKit Go.Proofs.YtmnjmhlodbifjaaGreatDoor.Mem Go.Proofs.YtmnjmhlodbifjaaGreatDoor.Aid Go.Proofs.YtmnjmhlodbifjaaGreatDoor.Err Go.Proofs.YtmnjmhlodbifjaaGreatDoor.Big Go.Proofs.YtmnjmhlodbifjaaGreatDoor.SplitPure Go.Proofs.YtmnjmhlodbifjaaGreatDoor.PlainPure Go.Proofs.YtmnjmhlodbifjaaGreatDoor.ParseCron Go.Proofs.YtmnjmhlodbifjaaGreatDoor.LaidZ Go.Proofs.YtmnjmhlodbifjaaGreatDoor.Zoned Go.Proofs.YtmnjmhlodbifjaaGreatDoor.Itoa Go.Proofs.YtmnjmhlodbifjaaGreatDoor.MonText Go.Proofs.YtmnjmhlodbifjaaGreatDoor.MonPure Go.Proofs.YtmnjmhlodbifjaaGreatDoor.Std Go.Proofs.YtmnjmhlodbifjaaGreatDoor.Cal Go.Proofs.YtmnjmhlodbifjaaGreatDoor.Off Go.Proofs.YtmnjmhlodbifjaaGreatDoor.Search Go.Proofs.YtmnjmhlodbifjaaGreatDoor.NextI Go.Proofs.YtmnjmhlodbifjaaGreatDoor.NextJ Go.Proofs.YtmnjmhlodbifjaaGreatDoor.Stars Go.Proofs.YtmnjmhlodbifjaaGreatDoor.SpecCal
set_option linter.unusedVariables false
attribute [local go_sem ↓] Go.wp_at_zero Go.wp_at_succ
theorem allocI_eq : Instr.alloc 34 true (.tuple #[]) = allocB 34 := rfl
theorem loadI_eq (a : Value) : Instr.loadAt 34 a = loadB 34 a := rfl
theorem storeI_eq (a v : Value) : Instr.storeAt 34 a v = storeB 34 a v := rfl
theorem allocC_eq : Instr.alloc 46 true (.tuple #[]) = allocB 46 := rfl
theorem storeC_eq (a v : Value) : Instr.storeAt 46 a v = storeB 46 a v := rfl
theorem loadD_eq (a : Value) : Instr.loadAt 28 a = loadB 28 a := rfl
def zI : Array Value := #[.int .i64 0, .int .i64 0]
def zC : Array Value := #[.int .i64 0, .int .i64 0, .int .i64 0, .int .i64 0, .int .i64 0, .int .i64 0, .int .i64 0, .int .i64 0]
theorem zeroI (w : World) : (zeroValue 34).run Tryz.prog w = .ok (.agg zI) w := by kernel_rfl
theorem zeroC (w : World) : (zeroValue 46).run Tryz.prog w = .ok (.agg zC) w := by kernel_rfl
theorem infoC : (Tryz.prog.info? 46).map (·.size) = some 8 := by kernel_rfl
theorem allocI (w : World) : (allocB 34).run Tryz.prog w = .ok (.pointer (some ⟨w.heap.size, 0, none⟩)) (w.alloc (.cells zI 34)) := allocB_run zeroI w
theorem allocC (w : World) : (allocB 46).run Tryz.prog w = .ok (.pointer (some ⟨w.heap.size, 0, none⟩)) (w.alloc (.cells zC 46)) := allocB_run zeroC w
theorem storeI_new (w : World) (E : TypeId) (x y : Int) : (storeB 34 (.pointer (some ⟨w.heap.size, 0, none⟩)) (.agg #[.int .i64 x, .int .i64 y])).run Tryz.prog (w.alloc (.cells zI E)) = .ok () (w.alloc (.cells #[.int .i64 x, .int .i64 y] E)) :=
  storeB_new (Z := zI) (cs := #[.int .i64 x, .int .i64 y]) After.infoInst (by rfl) (After.inst_one _ _) w E
theorem storeI_old {w : World} {b : Nat} (h : Blk w b zI) (x y : Int) : (storeB 34 (.pointer (some ⟨b, 0, none⟩)) (.agg #[.int .i64 x, .int .i64 y])).run Tryz.prog w = .ok () (w.setRow b #[.int .i64 x, .int .i64 y]) := by
  obtain ⟨E, h⟩ := h
  exact storeB_row (old := zI) (cs := #[.int .i64 x, .int .i64 y]) After.infoInst (by rfl) (After.inst_one _ _) h
def civ (a b c d e f g h : Int) : Array Value := #[.int .i64 a, .int .i64 b, .int .i64 c, .int .i64 d, .int .i64 e, .int .i64 f, .int .i64 g, .int .i64 h]
theorem civ_one (a b c d e f g h : Int) : (civ a b c d e f g h).all (·.oneCell') = true := by simp [civ, Value.oneCell']
theorem storeC_new (w : World) (E : TypeId) (a b c d e f g h : Int) : (storeB 46 (.pointer (some ⟨w.heap.size, 0, none⟩)) (.agg (civ a b c d e f g h))).run Tryz.prog (w.alloc (.cells zC E)) = .ok () (w.alloc (.cells (civ a b c d e f g h) E)) :=
  storeB_new (Z := zC) (cs := civ a b c d e f g h) infoC (by rfl) (civ_one _ _ _ _ _ _ _ _) w E
theorem storeC_old {w : World} {bb : Nat} (hb : Blk w bb zC) (a b c d e f g h : Int) : (storeB 46 (.pointer (some ⟨bb, 0, none⟩)) (.agg (civ a b c d e f g h))).run Tryz.prog w = .ok () (w.setRow bb (civ a b c d e f g h)) := by
  obtain ⟨E, hb⟩ := hb
  exact storeB_row (old := zC) (cs := civ a b c d e f g h) infoC (by rfl) (civ_one _ _ _ _ _ _ _ _) hb
theorem loadI {w : World} {b : Nat} {x y : Int} (h : Blk w b #[.int .i64 x, .int .i64 y]) : (loadB 34 (.pointer (some ⟨b, 0, none⟩))).run Tryz.prog w = .ok (.agg #[.int .i64 x, .int .i64 y]) w := by
  obtain ⟨E, h⟩ := h
  exact loadB_row Tryz.underlying34 rfl After.infoInst h
theorem loadD {w : World} {b : Nat} {ev : Bool} {d a c e f g h : Int} (hb : Blk w b (schedA ev d a c e f g h)) : (loadB 28 (.pointer (some ⟨b, 0, none⟩))).run Tryz.prog w = .ok (.agg (schedA ev d a c e f g h)) w := by
  obtain ⟨E, hb⟩ := hb
  exact loadB_row Tryz.underlying28 rfl infoSched hb
theorem dig_size {n : Nat} (h : n < 100) : (ofL (dig n)).size ≤ 2 := by
  rw [size_ofL]
  rcases dig_shape h with ⟨a, e, -⟩ | ⟨a, b, e, -⟩ <;> (rw [e]; simp)
theorem pow_u64 (n : Nat) (h : n < 64) : DayM.U64 ((2 : Int) ^ n) := by
  have h1 : (2 : Int) ^ n = ((2 ^ n : Nat) : Int) := by push_cast; rfl
  have h2 := Nat.pow_le_pow_right (n := 2) (by decide) (show n ≤ 63 by omega)
  rw [h1]
  have h3 : (2 ^ n : Nat) ≤ 18446744073709551615 := Nat.le_trans h2 (by decide)
  exact ⟨Int.natCast_nonneg _, Int.ofNat_le.2 h3⟩
section
attribute [local go_sem ↓] allocI_eq loadI_eq storeI_eq allocC_eq storeC_eq loadD_eq
set_option maxHeartbeats 8000000 in
set_option maxRecDepth 100000 in
theorem walk (a b c s nano : Int) (w : World) (hv : Sents w) :
    Calls Tryz.prog 4 #[.int .i64 a, .int .i64 b, .int .i64 c, .agg #[.int .i64 s, .int .i64 nano]] w fun e w' => e = .returned (.bool true) ∧ Below w.heap.size w w' := by
  have HGD := Lib.hid (fun w => Case.good_b s nano w)
  go_enter Tryz.func4, Tryz.ntmps4
  go_upto_region 1 with fail
  refine name_world fun W hW => ?_
  have HWB : Hid (Below w.heap.size w W) := Lib.hid (by rw [hW]; exact (Below.refl _ _).alloc (Nat.le_refl _) _)
  have HWI : Hid (Blk W w.heap.size #[.int .i64 s, .int .i64 nano]) := Lib.hid (by rw [hW]; exact Blk.new _ _ _)
  have hl7 := loadI HWI.out
  clear hW
  by_cases c1 : a < 0
  · go_wp2
    go_ret
    exact ⟨rfl, HWB.out⟩
  by_cases c2 : 59 < a
  · go_wp2
    go_ret
    exact ⟨rfl, HWB.out⟩
  by_cases c3 : b < 0
  · go_wp2
    go_ret
    exact ⟨rfl, HWB.out⟩
  by_cases c4 : 23 < b
  · go_wp2
    go_ret
    exact ⟨rfl, HWB.out⟩
  by_cases c5 : c < 1
  · go_wp2
    go_ret
    exact ⟨rfl, HWB.out⟩
  by_cases c6 : 31 < c
  · go_wp2
    go_ret
    exact ⟨rfl, HWB.out⟩
  cases hgd : Case.goodB s nano with
  | false =>
    rw [hgd] at HGD
    go_wp2_with (go_at_call 12; refine (HGD.out _).mono ?_; rintro e w1 ⟨rfl, hb1⟩)
    go_ret
    exact ⟨rfl, HWB.out.trans (hb1.mono HWB.out.size)⟩
  | true =>
    rw [hgd] at HGD
    obtain ⟨⟨s0, s1⟩, n0, n1⟩ := Case.goodB_facts hgd
    clear hgd
    obtain ⟨m, rfl⟩ := Int.eq_ofNat_of_zero_le (show 0 ≤ a by omega)
    obtain ⟨h, rfl⟩ := Int.eq_ofNat_of_zero_le (show 0 ≤ b by omega)
    obtain ⟨d, rfl⟩ := Int.eq_ofNat_of_zero_le (show 0 ≤ c by omega)
    have hm : m < 60 := by omega
    have hh : h < 24 := by omega
    have hd0 : 1 ≤ d := by omega
    have hd1 : d < 32 := by omega
    have HPS := Lib.hid (fun (t : ByteArray) w1 (ht : t.data.toList = monT m h d) (hb : Below w.heap.size w w1) => monParse_any t m h d w1 hm hh hd0 hd1 ht (hv.below hb))
    have HMT := mon_text m h d
    have HA := Lib.hid (fun w => itoa_any m w (by omega))
    have HBi := Lib.hid (fun w => itoa_any h w (by omega))
    have HCi := Lib.hid (fun w => itoa_any d w (by omega))
    have hz1 := dig_size (n := m) (by omega)
    have hz2 := dig_size (n := h) (by omega)
    have hz3 := dig_size (n := d) (by omega)
    generalize ofL (dig m) = tA at HMT HA hz1
    generalize ofL (dig h) = tB at HMT HBi hz2
    generalize ofL (dig d) = tC at HMT HCi hz3
    have HMT := Lib.hid HMT
    obtain ⟨o, ho⟩ := Ask.isNext_ex (S := NextC.sched 1 (2 ^ m) (2 ^ h) (2 ^ d) 9223372036854783998 9223372036854775935) Case.utc_calm.pl (s + 1) (yOf (day (Zone2.Raw.off utc) (s + 1)) + 5) (by omega)
    have hask := Ask.asked Case.utc_calm.pl s0 s1 ((Case.utc_calm.pl (s + 1) (s + 1) (by omega)).m60 _ (Int.le_refl _) (Int.le_refl _)) ho
    obtain ⟨x, hop⟩ : ∃ x, ansV o = .tuple #[.agg #[.int .i64 x, .int .i64 0], .bool o.isSome] := by
      cases o with
      | none => exact ⟨0, rfl⟩
      | some x => exact ⟨x, rfl⟩
    have hu6 : U6 1 (2 ^ m) (2 ^ h) (2 ^ d) 9223372036854783998 9223372036854775935 := ⟨⟨by decide, by decide⟩, pow_u64 _ (by omega), pow_u64 _ (by omega), pow_u64 _ (by omega), ⟨by decide, by decide⟩, ⟨by decide, by decide⟩⟩
    have HNX : Hid (∀ w1, Calls Tryz.prog 15 #[.agg (schedA false 0 1 (2 ^ m) (2 ^ h) (2 ^ d) 9223372036854783998 9223372036854775935), .agg #[.int .i64 s, .int .i64 nano], .agg #[.slice none 0 0, .slice none 0 0, .slice none 0 0, .slice none 0 0]] w1 fun e w' => e = .returned (.tuple #[.agg #[.int .i64 x, .int .i64 0], .bool o.isSome]) ∧ Below w1.heap.size w1 w') := Lib.hid (fun w1 => by
      refine (NextJ.next_any utc 0 0 0 0 0 1 (2 ^ m) (2 ^ h) (2 ^ d) 9223372036854783998 9223372036854775935 s nano _ o w1 (utc_at w1) utc_ok hu6 n0 n1 hask).mono ?_
      rintro e w' ⟨rfl, hb⟩
      exact ⟨by rw [hop], hb⟩)
    have HCV : Hid (∀ w1, Calls Tryz.prog 17 #[.agg #[.int .i64 s, .int .i64 nano], .agg #[.slice none 0 0, .slice none 0 0, .slice none 0 0, .slice none 0 0]] w1 fun e w' => (∃ c d' e' f g i : Int, e = .returned (.agg (civ (yOf (s / 86400)) (mOf (s / 86400)) c d' e' f g i))) ∧ Below w1.heap.size w1 w') := Lib.hid (fun w1 => by
      refine (DayFits.civil_any utc 0 0 0 0 s nano w1 (utc_at w1) utc_ok (fun x => by rw [utc_off]; dsimp only; omega) (by omega) (by omega)).mono ?_
      rintro e w' ⟨rfl, hb⟩
      rw [utc_off]
      dsimp only
      rw [Int.add_zero]
      exact ⟨⟨_, _, _, _, _, _, rfl⟩, hb⟩)
    have HFD : Hid (∀ (Y M : Int), Valid Y M d → Past s (3600 * (h : Int) + 60 * (m : Int)) d (12 * Y + M) → s < 86400 * dnum Y M d + (3600 * (h : Int) + 60 * (m : Int)) → 12 * Y + M ≤ 12 * yOf (s / 86400) + mOf (s / 86400) + 2 → x = 86400 * dnum Y M d + (3600 * (h : Int) + 60 * (m : Int)) ∧ o.isSome = true) := Lib.hid (fun Y M h1 h2 h3 h4 => by
      have k := month_next (S := NextC.sched 1 (2 ^ m) (2 ^ h) (2 ^ d) 9223372036854783998 9223372036854775935) (by omega) h1 h2 h3 h4 (fun y => mon_fit hm hh hd0 hd1 y)
      rw [utc_off] at ho
      have e := ho.uniq k
      rw [e] at hop ⊢
      injection hop with hop
      injection hop with hop
      injection hop with h5 h6
      injection h5 with h5
      injection h5 with h5
      injection h5 with h5 _
      injection h5 with _ h5
      exact ⟨h5.symm, rfl⟩)
    have HDT := Lib.hid (date_of (s / 86400)).1
    have hyb : 0 ≤ yOf (s / 86400) ∧ yOf (s / 86400) ≤ 10001 := by
      have := year_in (s / 86400)
      unfold ys at this
      omega
    obtain ⟨Y0, hY0⟩ : ∃ Y0, yOf (s / 86400) = Y0 := ⟨_, rfl⟩
    obtain ⟨M0, hM0⟩ : ∃ M0, mOf (s / 86400) = M0 := ⟨_, rfl⟩
    have hmb : 1 ≤ M0 ∧ M0 ≤ 12 := by rw [← hM0]; exact ⟨HDT.out.1, HDT.out.2.1⟩
    rw [hY0, hM0] at HCV HFD
    rw [hY0] at hyb
    have HY0 := Lib.hid hY0
    have HM0 := Lib.hid hM0
    obtain ⟨q, hq⟩ : ∃ q, o.isSome = q := ⟨_, rfl⟩
    rw [hq] at HNX HFD
    clear hask ho hop hu6 hq hY0 hM0
    go_upto_region 4 with (first
      | (go_at_call 12; refine (HGD.out _).mono ?_; rintro e w1 ⟨rfl, hb1⟩; have HI1 := Lib.hid (HWI.out.after hb1); have HB1 := Lib.hid (HWB.out.trans (hb1.mono HWB.out.size)); clear hb1 hl7)
      | (go_at_call 14; (first | (with_reducible refine (HA.out _).mono ?_) | (with_reducible refine (HBi.out _).mono ?_) | (with_reducible refine (HCi.out _).mono ?_)); rintro e w' ⟨rfl, rfl⟩)
      | (go_at_call 13; refine (HPS.out _ _ HMT.out HB1.out).mono ?_; rintro e w2 ⟨rfl, hb2⟩; have HI2 := Lib.hid (HI1.out.after hb2); have HB2 := Lib.hid (HB1.out.trans (hb2.mono HB1.out.size)); have HN2 := Lib.hid (Blk.new w2 zeroS 28); clear hb2)
      | (refine wpList_store_blk rfl 28 (.tmp 9) (.tmp 57) rfl w2.heap.size zeroS (schedA false 0 1 (2 ^ m) (2 ^ h) (2 ^ d) 9223372036854783998 9223372036854775935) infoSched rfl (schedA_one _ _ _ _ _ _ _ _) (by rfl) (by rfl) HN2.out ?_))
    refine name_world fun V hV => ?_
    have HVI : Hid (Blk V w.heap.size #[.int .i64 s, .int .i64 nano]) := Lib.hid (by rw [hV]; exact blk_else (HI2.out.alloc _) _ (by have := HI2.out.lt; omega))
    have HVS : Hid (Blk V w2.heap.size (schedA false 0 1 (2 ^ m) (2 ^ h) (2 ^ d) 9223372036854783998 9223372036854775935)) := Lib.hid (by rw [hV]; exact blk_row HN2.out _)
    have HVB : Hid (Below w.heap.size w V) := Lib.hid (by rw [hV]; exact below_row (HB2.out.alloc HB2.out.size _) HB2.out.size _)
    clear hV HN2
    obtain ⟨A0, hA0⟩ : ∃ A0, schedA false 0 1 (2 ^ m) (2 ^ h) (2 ^ d) 9223372036854783998 9223372036854775935 = A0 := ⟨_, rfl⟩
    have HKS : Hid (∀ X, Below V.heap.size V X → ((loadB 28 (.pointer (some ⟨w2.heap.size, 0, none⟩))).run Tryz.prog X = .ok (.agg A0) X ∧ (loadB 34 (.pointer (some ⟨w.heap.size, 0, none⟩))).run Tryz.prog X = .ok (.agg #[.int .i64 s, .int .i64 nano]) X)) := Lib.hid (fun X hX => by
      rw [← hA0]
      exact ⟨loadD (HVS.out.after hX), loadI (HVI.out.after hX)⟩)
    rw [hA0] at HNX
    clear hA0
    have HUT := Lib.hid (fun w1 => cronUTC_any w1)
    have hal := allocI
    have hsn := storeI_new
    go_cut [11, 12] (fun p b wx => b = .bool q ∧ ∃ bl : Nat, p = .pointer (some ⟨bl, 0, none⟩) ∧ Hid (V.heap.size ≤ bl ∧ Below V.heap.size V wx ∧ Blk wx bl #[.int .i64 x, .int .i64 0]))
    case first =>
      go_region_held3 (fun X => ((loadB 28 (.pointer (some ⟨w2.heap.size, 0, none⟩))).run Tryz.prog X = .ok (.agg A0) X ∧ (loadB 34 (.pointer (some ⟨w.heap.size, 0, none⟩))).run Tryz.prog X = .ok (.agg #[.int .i64 s, .int .i64 nano]) X))
        (exact HKS.out _ (by repeat (first | exact Below.refl _ _ | assumption | refine Below.drew ?_ | refine allocd ?_ _ | refine rowd ?_ (by first | exact Nat.le_refl _ | exact Below.size (by assumption)) _)))
        ((first
          | (go_at_call 16; (with_reducible refine (HUT.out _).mono ?_); rintro e y ⟨rfl, hby0⟩; have hby := chain (V := V) (by repeat (first | exact Below.refl _ _ | assumption | refine Below.drew ?_ | refine allocd ?_ _ | refine rowd ?_ (by first | exact Nat.le_refl _ | exact Below.size (by assumption)) _)) hby0; (first | have gA := one_afterd hby0 | have gA := (one_after hby0 : Blk y V.heap.size zI) | skip); have hby1 := Lib.hid hby0; clear hby0)
          | (go_at_call 15; (with_reducible refine (HNX.out _).mono ?_); rintro e z ⟨rfl, hbz0⟩; have hbz := chain (V := V) (by repeat (first | exact Below.refl _ _ | assumption | refine Below.drew ?_ | refine allocd ?_ _ | refine rowd ?_ (by first | exact Nat.le_refl _ | exact Below.size (by assumption)) _)) hbz0; (first | have gB := one_after hbz0 | have gB := Blk.after gA hbz0 | skip); (first | have hso := storeI_old gB x 0 | skip))))
      all_goals
        go_wp2_with fail
        go_meet
        case rel =>
          refine ⟨rfl, _, rfl, Lib.hid ?_⟩
          first
            | exact ⟨hbz.size, hbz.alloc hbz.size _, Blk.new _ _ _⟩
            | exact ⟨hby.size, rowd hbz hby.size _, blk_row gB _⟩
            | exact ⟨Nat.le_refl _, rowd hbz (Nat.le_refl _) _, blk_row gB _⟩
    case rest =>
      obtain ⟨rfl, bl, rfl, hcut⟩ := hcut
      obtain ⟨hbl, hc1, hpt⟩ := hcut.out
      have HC1 := Lib.hid hc1
      have HPT := Lib.hid hpt
      have HBL := Lib.hid hbl
      clear hcut hc1 hpt hbl HNX hal hsn
      obtain ⟨V2, hV2⟩ : ∃ V2, wc = V2 := ⟨_, rfl⟩
      subst hV2
      have hal := allocC
      have hsn := storeC_new
      have HK2 : Hid (∀ X, Below wc.heap.size wc X → (loadB 34 (.pointer (some ⟨w.heap.size, 0, none⟩))).run Tryz.prog X = .ok (.agg #[.int .i64 s, .int .i64 nano]) X) := Lib.hid (fun X hX => (HKS.out X (HC1.out.trans (hX.mono HC1.out.size))).2)
      have HVI2 := Lib.hid (HVI.out.after HC1.out)
      have HCB := Lib.hid (HVB.out.trans (HC1.out.mono HVB.out.size))
      clear HKS HVI HVS HC1
      go_upto_region 5 with fail
      go_cut [13] (fun p wx => ∃ bl2 : Nat, p = .pointer (some ⟨bl2, 0, none⟩) ∧ Hid (∃ c d' e' f g i : Int, wc.heap.size ≤ bl2 ∧ Below wc.heap.size wc wx ∧ Blk wx bl2 (civ Y0 M0 c d' e' f g i)))
      case first =>
        go_region_held3 (fun X => (loadB 34 (.pointer (some ⟨w.heap.size, 0, none⟩))).run Tryz.prog X = .ok (.agg #[.int .i64 s, .int .i64 nano]) X)
          (exact HK2.out _ (by repeat (first | exact Below.refl _ _ | assumption | refine Below.drew ?_ | refine allocd ?_ _ | refine rowd ?_ (by first | exact Nat.le_refl _ | exact Below.size (by assumption)) _)))
          ((first
            | (go_at_call 16; (with_reducible refine (HUT.out _).mono ?_); rintro e y ⟨rfl, hby0⟩; have hby := chain (V := wc) (by repeat (first | exact Below.refl _ _ | assumption | refine Below.drew ?_ | refine allocd ?_ _ | refine rowd ?_ (by first | exact Nat.le_refl _ | exact Below.size (by assumption)) _)) hby0; (first | have gA := one_afterd hby0 | have gA := (one_after hby0 : Blk y wc.heap.size zC) | skip); have hby1 := Lib.hid hby0; clear hby0)
            | (go_at_call 17; (with_reducible refine (HCV.out _).mono ?_); rintro e z ⟨⟨cc, cd, ce, cf, cg, ci, rfl⟩, hbz0⟩; have hbz := chain (V := wc) (by repeat (first | exact Below.refl _ _ | assumption | refine Below.drew ?_ | refine allocd ?_ _ | refine rowd ?_ (by first | exact Nat.le_refl _ | exact Below.size (by assumption)) _)) hbz0; (first | have gB := one_after hbz0 | have gB := Blk.after gA hbz0 | skip); (first | have hso := storeC_old gB Y0 M0 cc cd ce cf cg ci | skip))))
        all_goals
          go_wp2_with fail
          go_meet
          case rel =>
            refine ⟨_, rfl, Lib.hid ⟨cc, cd, ce, cf, cg, ci, ?_⟩⟩
            first
              | exact ⟨hbz.size, hbz.alloc hbz.size _, Blk.new _ _ _⟩
              | exact ⟨hby.size, rowd hbz hby.size _, blk_row gB _⟩
              | exact ⟨Nat.le_refl _, rowd hbz (Nat.le_refl _) _, blk_row gB _⟩
      case rest =>
        obtain ⟨bl2, rfl, hcut⟩ := hcut
        obtain ⟨cc, cd, ce, cf, cg, ci, hbl2, hc2, hpt2⟩ := hcut.out
        have HC2 := Lib.hid hc2
        have HP1 := Lib.hid (HPT.out.after hc2)
        have HI3 := Lib.hid (HVI2.out.after hc2)
        have HB3 := Lib.hid (HCB.out.trans (hc2.mono HCB.out.size))
        have HK3 : Hid (∀ X, Below wc.heap.size wc X → X.cell? ⟨bl2, 0, none⟩ = some (.int .i64 Y0) ∧ X.cell? ⟨bl2, 1, none⟩ = some (.int .i64 M0)) := Lib.hid (fun X hX => ⟨(hpt2.after hX).cell (j := 0) rfl, (hpt2.after hX).cell (j := 1) rfl⟩)
        clear hcut hc2 hpt2 hbl2 HC2 HPT HVI2 HCB HK2 hal hsn
        go_upto_region 6 with fail
        go_cut [14, 15] (fun y mo wx => y = .int .i64 Y0 ∧ mo = .int .i64 M0 ∧ Hid (Below wc.heap.size wc wx))
        case first =>
          go_region_held3 (fun X => X.cell? ⟨bl2, 0, none⟩ = some (.int .i64 Y0) ∧ X.cell? ⟨bl2, 1, none⟩ = some (.int .i64 M0)) (exact HK3.out _ (by repeat (first | exact Below.refl _ _ | assumption | refine Below.drew ?_))) (fail)
          all_goals
            go_wp2_with fail
            go_meet
            case rel => exact ⟨rfl, rfl, Lib.hid (by repeat (first | exact Below.refl _ _ | assumption | refine Below.drew ?_))⟩
        case rest =>
          obtain ⟨rfl, rfl, hcut⟩ := hcut
          have HP2 := Lib.hid (HP1.out.after hcut.out)
          have HI4 := Lib.hid (HI3.out.after hcut.out)
          have HB4 := Lib.hid (HB3.out.trans (hcut.out.mono HB3.out.size))
          clear hcut HP1 HI3 HB3 HK3 HUT HCV
          have hal := allocI
          have hsn := storeI_new
          go_wp2_with fail
          go_loopw [14, 15] (fun y mo wr => ∃ Y M : Int, y = .int .i64 Y ∧ mo = .int .i64 M ∧ (1 ≤ M ∧ M ≤ 12) ∧ (12 * Y0 + M0 ≤ 12 * Y + M ∧ 12 * Y + M ≤ 12 * Y0 + M0 + 2) ∧ Hid ((12 * Y + M = 12 * Y0 + M0 + 2 → (d : Int) ≤ mlen Y M) ∧ Past s (3600 * (h : Int) + 60 * (m : Int)) d (12 * Y + M)) ∧ Hid (Below wc.heap.size wc wr)) (fun y mo _ => (12 * Y0 + M0 + 3 - (12 * intOf y + intOf mo)).toNat)
          case atStart =>
            exact ⟨Y0, M0, rfl, rfl, hmb, by omega, Lib.hid ⟨fun e => by omega, fun y m' _ h1 h2 => by rw [HY0.out, HM0.out] at h1; omega⟩, Lib.hid (Below.refl _ _)⟩
          case round =>
            obtain ⟨Y, M, rfl, rfl, hM, hI, HL, HBr⟩ := hrel
            have hYb : -1 ≤ Y ∧ Y ≤ 10002 := by omega
            have HCI := Lib.hid (fun w1 => Inst.cronInstant_any Y M (d : Int) (3600 * (h : Int) + 60 * (m : Int)) w1 (by omega) (by omega) hM.1 hM.2 (by omega) (by omega) (by omega) (by omega))
            have HMD := Lib.hid (fun w1 => monthDays_any Y M w1 (by omega) (by omega) hM.1 hM.2)
            obtain ⟨wt, hwt⟩ : ∃ wt, 86400 * dnum Y M d + (3600 * (h : Int) + 60 * (m : Int)) = wt := ⟨_, rfl⟩
            obtain ⟨ml, hml⟩ : ∃ ml, mlen Y M = ml := ⟨_, rfl⟩
            rw [hwt] at HCI
            rw [hml] at HMD
            have HWT := Lib.hid hwt
            have HML := Lib.hid hml
            clear hwt hml
            go_upto_region 8 with (go_at_call 18; refine (HCI.out _).mono ?_; rintro e w7 ⟨rfl, hb7⟩; have HB7 := Lib.hid (HBr.out.trans (hb7.mono HBr.out.size)); clear hb7)
            refine name_world fun X hX => ?_
            have hBX : Below wc.heap.size wc X := by rw [hX]; exact HB7.out.alloc HB7.out.size _
            have hT : Blk X w7.heap.size #[.int .i64 wt, .int .i64 0] := by rw [hX]; exact Blk.new _ _ _
            have hJ := HI4.out.after hBX
            have hP := HP2.out.after hBX
            have k0 := hT.cell (j := 0) rfl
            have k1 := hJ.cell (j := 0) rfl
            have l16 := loadI hT
            have l11 := loadI hP
            have HBX := Lib.hid (HB4.out.trans (hBX.mono HB4.out.size))
            have HBX2 := Lib.hid hBX
            clear hX hT hJ hP hBX
            by_cases e1 : (d : Int) ≤ ml
            · by_cases e2 : s < wt
              · as_aux_lemma =>
                obtain ⟨rfl, rfl⟩ := HFD.out Y M ⟨hM.1, hM.2, by omega, by rw [HML.out]; exact e1⟩ HL.out.2 (by rw [HWT.out]; exact e2) hI.2
                have hwt := HWT.out
                rw [hwt] at l11
                go_wp2_with (go_at_call 19; refine (HMD.out _).mono ?_; rintro e w' ⟨rfl, rfl⟩)
                go_ret
                exact ⟨by simp, HBX.out⟩
              · as_aux_lemma =>
                have hI2 : 12 * Y + M < 12 * Y0 + M0 + 2 ∧ 12 * Y + M = 12 * Y0 + M0 := by
                  have hv : Valid Y M d := ⟨hM.1, hM.2, by omega, by rw [HML.out]; exact e1⟩
                  by_cases h0 : 12 * Y + M = 12 * Y0 + M0
                  · omega
                  · have := later (s := s) (c := 3600 * (h : Int) + 60 * (m : Int)) (by omega) hv (by rw [HY0.out, HM0.out]; omega)
                    rw [HWT.out] at this
                    omega
                have hpast : ∀ i, i = 12 * Y + M + 1 → Past s (3600 * (h : Int) + 60 * (m : Int)) d i := fun i hi => past_next hM HL.out.2 hi (by rw [HWT.out]; omega)
                have HPA := Lib.hid hpast
                clear hpast
                by_cases e3 : M = 12
                · subst e3
                  go_wp2_with (go_at_call 19; refine (HMD.out _).mono ?_; rintro e w' ⟨rfl, rfl⟩)
                  exact ⟨⟨Y + 1, 1, rfl, rfl, by omega, by omega, Lib.hid ⟨fun e => by omega, HPA.out _ (by omega)⟩, HBX2⟩, by simp [intOf]; omega⟩
                · go_wp2_with (go_at_call 19; refine (HMD.out _).mono ?_; rintro e w' ⟨rfl, rfl⟩)
                  exact ⟨⟨Y, M + 1, rfl, rfl, by omega, by omega, Lib.hid ⟨fun e => by omega, HPA.out _ (by omega)⟩, HBX2⟩, by simp [intOf]; omega⟩
            · as_aux_lemma =>
              have hI2 : 12 * Y + M < 12 * Y0 + M0 + 2 := by
                by_cases h0 : 12 * Y + M = 12 * Y0 + M0 + 2
                · have := HL.out.1 h0
                  rw [HML.out] at this
                  omega
                · omega
              have hpast : ∀ i, i = 12 * Y + M + 1 → Past s (3600 * (h : Int) + 60 * (m : Int)) d i := fun i hi => past_next hM HL.out.2 hi (by rw [HML.out]; omega)
              have HPA := Lib.hid hpast
              have h31 : ∀ z k : Int, 1 ≤ k ∧ k ≤ 12 → 12 * z + k = 12 * Y + M + 1 → (d : Int) ≤ mlen z k := fun z k hk hz => has31 hM hk hz (by rw [HML.out]; omega) (by omega)
              have H31 := Lib.hid h31
              clear hpast h31
              by_cases e3 : M = 12
              · subst e3
                go_wp2_with (go_at_call 19; refine (HMD.out _).mono ?_; rintro e w' ⟨rfl, rfl⟩)
                exact ⟨⟨Y + 1, 1, rfl, rfl, by omega, by omega, Lib.hid ⟨fun _ => H31.out _ _ (by omega) (by omega), HPA.out _ (by omega)⟩, HBX2⟩, by simp [intOf]; omega⟩
              · go_wp2_with (go_at_call 19; refine (HMD.out _).mono ?_; rintro e w' ⟨rfl, rfl⟩)
                exact ⟨⟨Y, M + 1, rfl, rfl, by omega, by omega, Lib.hid ⟨fun _ => H31.out _ _ (by omega) (by omega), HPA.out _ (by omega)⟩, HBX2⟩, by simp [intOf]; omega⟩
end
end Go.Proofs.YtmnjmhlodbifjaaGreatDoor.fnCronMonthlyAt
