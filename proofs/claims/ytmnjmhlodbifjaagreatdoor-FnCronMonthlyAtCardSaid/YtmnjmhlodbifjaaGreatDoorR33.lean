/- The text of a minute, an hour and a day of the month, as the reference and the code read it. Conditions: a minute to 59, an hour to 23, a day from 1 to 31. · impl.ParseStandard at the text of a minute, an hour and a day of the month. Conditions: a minute to 59, an hour to 23, a day from 1 to 31; the package variables hold what their initialisers lay. · The reference's CronEmpty and CronNever. Conditions: none. · The reference's cronTime: the least second of a day in the sets. Conditions: a second of a day. · The reference's CronTomorrow. Conditions: days of some ten thousand years. -/
import Derived.Test.YtmnjmhlodbifjaaGreatDoorR18
import Derived.Test.YtmnjmhlodbifjaaGreatDoorR25
import Derived.Test.YtmnjmhlodbifjaaGreatDoorR32
import Derived.ChangeKeysEq
import Derived.BigFrame
import Derived.Test.YtmnjmhlodbifjaaGreatDoorR2
import Derived.Test.YtmnjmhlodbifjaaGreatDoorR30

namespace Go.Proofs.YtmnjmhlodbifjaaGreatDoor.MonText
open Go Go.RowKit Go.Proofs.YtmnjmhlodbifjaaGreatDoor.SpecBits Go.Proofs.YtmnjmhlodbifjaaGreatDoor.SplitPure Go.Proofs.YtmnjmhlodbifjaaGreatDoor.FillPure Go.Proofs.YtmnjmhlodbifjaaGreatDoor.PlainPure Go.Proofs.YtmnjmhlodbifjaaGreatDoor.NameRel Go.Proofs.YtmnjmhlodbifjaaGreatDoor.Head Go.Proofs.YtmnjmhlodbifjaaGreatDoor.ZoneHead Go.Proofs.YtmnjmhlodbifjaaGreatDoor.Mean Go.Proofs.YtmnjmhlodbifjaaGreatDoor.Itoa Go.Proofs.YtmnjmhlodbifjaaGreatDoor.Moment Go.Proofs.YtmnjmhlodbifjaaGreatDoor.DayM Go.Proofs.YtmnjmhlodbifjaaGreatDoor.Cal Go.Proofs.YtmnjmhlodbifjaaGreatDoor.Off Go.Proofs.YtmnjmhlodbifjaaGreatDoor.Search Go.Proofs.YtmnjmhlodbifjaaGreatDoor.NextC Go.Proofs.YtmnjmhlodbifjaaGreatDoor.TimeNum
set_option linter.unusedVariables false
def monT (m h d : Nat) : List UInt8 := dig m ++ (32 :: (dig h ++ (32 :: (dig d ++ [32, 42, 32, 42]))))
def Dg (a : UInt8) : Prop := 48 ≤ a.toNat ∧ a.toNat ≤ 57
theorem Dg.sp {a : UInt8} (h : Dg a) : isSp a = false := by
  obtain ⟨h1, h2⟩ := h
  unfold isSp
  have h3 : (a == 32) = false := by
    rw [beq_eq_false_iff_ne]
    rintro rfl
    exact absurd h1 (by decide)
  rw [h3, decide_eq_false (by omega : ¬ a.toNat ≤ 13)]
  simp
theorem ofNat_dg {n : Nat} (h : n < 10) : Dg (UInt8.ofNat (48 + n)) := by
  unfold Dg
  rw [UInt8.toNat_ofNat']
  omega
theorem dig_shape {n : Nat} (h : n < 100) : (∃ a, dig n = [a] ∧ Dg a) ∨ ∃ a b, dig n = [a, b] ∧ Dg a ∧ Dg b := by
  unfold dig
  split
  · exact .inl ⟨_, rfl, ofNat_dg (by omega)⟩
  · exact .inr ⟨_, _, rfl, ofNat_dg (by omega), ofNat_dg (by omega)⟩
theorem dig_dg {n : Nat} (h : n < 100) : ∀ b ∈ dig n, Dg b := by
  rcases dig_shape h with ⟨a, e, h1⟩ | ⟨a, b, e, h1, h2⟩ <;> (rw [e]; intro x hx; simp at hx)
  · subst hx; exact h1
  · rcases hx with rfl | rfl
    · exact h1
    · exact h2
theorem dig_sp {n : Nat} (h : n < 100) : (∃ a, dig n = [a] ∧ isSp a = false) ∨ ∃ a b, dig n = [a, b] ∧ isSp a = false ∧ isSp b = false := by
  rcases dig_shape h with ⟨a, e, h1⟩ | ⟨a, b, e, h1, h2⟩
  · exact .inl ⟨a, e, h1.sp⟩
  · exact .inr ⟨a, b, e, h1.sp, h2.sp⟩
set_option linter.unusedSimpArgs false in
theorem words_mon {m h d : Nat} (hm : m < 100) (hh : h < 100) (hd : d < 100) : words (monT m h d) = [dig m, dig h, dig d, [42], [42]] := by
  have s32 : isSp 32 = true := by decide
  have s42 : isSp 42 = false := by decide
  unfold monT
  rcases dig_sp hm with ⟨a, e1, h1⟩ | ⟨a, a', e1, h1, h1'⟩ <;> rcases dig_sp hh with ⟨b, e2, h2⟩ | ⟨b, b', e2, h2, h2'⟩ <;> rcases dig_sp hd with ⟨c, e3, h3⟩ | ⟨c, c', e3, h3, h3'⟩ <;>
    (rw [e1, e2, e3]; simp [words, wordsGo, *])
theorem first_mon {m h d : Nat} (hm : m < 100) : ∃ a r, monT m h d = a :: r ∧ Dg a := by
  unfold monT
  rcases dig_shape hm with ⟨a, e1, h1⟩ | ⟨a, a', e1, h1, h1'⟩ <;> rw [e1]
  · exact ⟨a, _, rfl, h1⟩
  · exact ⟨a, _, rfl, h1⟩
theorem starts_no {p a : UInt8} {q r : List UInt8} (h : a ≠ p) : starts (p :: q) (a :: r) = false := by
  unfold starts
  rw [beq_eq_false_iff_ne]
  intro e
  simp at e
  exact h e.1
theorem foreign_mon {m h d : Nat} (hm : m < 100) (hh : h < 100) (hd : d < 100) : foreign (monT m h d) = false := by
  refine foreign_ascii fun b hb => ?_
  unfold monT at hb
  simp only [List.mem_append, List.mem_cons, List.not_mem_nil, or_false] at hb
  rcases hb with hb | rfl | hb | rfl | hb | rfl | rfl | rfl | rfl
  · have := (dig_dg hm b hb).2; omega
  · decide
  · have := (dig_dg hh b hb).2; omega
  · decide
  · have := (dig_dg hd b hb).2; omega
  all_goals decide
theorem fill_mon (A B C D E : ByteArray) : fillOf 380 [A, B, C, D, E] = some [ofL [48], A, B, C, D, E] := by kernel_rfl
theorem fld1 : ∀ n : Fin 60, (sfieldOf 1 (dig n.val)).2 = 1 ∧ numOf (sfieldOf 1 (dig n.val)).1.1 (sfieldOf 1 (dig n.val)).1.2 = 2 ^ n.val := by decide +kernel
theorem fld2 : ∀ n : Fin 24, (sfieldOf 2 (dig n.val)).2 = 1 ∧ numOf (sfieldOf 2 (dig n.val)).1.1 (sfieldOf 2 (dig n.val)).1.2 = 2 ^ n.val := by decide +kernel
theorem fld3 : ∀ n : Fin 32, 1 ≤ n.val → (sfieldOf 3 (dig n.val)).2 = 1 ∧ numOf (sfieldOf 3 (dig n.val)).1.1 (sfieldOf 3 (dig n.val)).1.2 = 2 ^ n.val := by decide +kernel
theorem fld0 : (sfieldOf 0 [48]).2 = 1 ∧ numOf (sfieldOf 0 [48]).1.1 (sfieldOf 0 [48]).1.2 = 1 := by decide +kernel
theorem fld4 : (sfieldOf 4 [42]).2 = 1 ∧ numOf (sfieldOf 4 [42]).1.1 (sfieldOf 4 [42]).1.2 = 9223372036854783998 := by decide +kernel
theorem fld5 : (sfieldOf 5 [42]).2 = 1 ∧ numOf (sfieldOf 5 [42]).1.1 (sfieldOf 5 [42]).1.2 = 9223372036854775935 := by decide +kernel
theorem mon_mean {m h d : Nat} (hm : m < 60) (hh : h < 24) (hd0 : 1 ≤ d) (hd : d < 32) :
    ∃ LL, mean 380 (monT m h d) = some (some (.sets LL)) ∧ numsOf LL 6 = [1, 2 ^ m, 2 ^ h, 2 ^ d, 9223372036854783998, 9223372036854775935] := by
  obtain ⟨a, r, e, ha⟩ := first_mon (m := m) (h := h) (d := d) (by omega)
  have h1 : a ≠ 84 := by rintro rfl; exact absurd ha.2 (by decide)
  have h2 : a ≠ 67 := by rintro rfl; exact absurd ha.2 (by decide)
  have h3 : a ≠ 64 := by rintro rfl; exact absurd ha.2 (by decide)
  have hz : zoneHead (monT m h d) = 0 := by
    unfold zoneHead tzB cronB
    rw [e, starts_no h1, starts_no h2]
    rfl
  have hs : starts [64] (monT m h d) = false := by rw [e]; exact starts_no h3
  have f0 := fld0
  have f1 := fld1 ⟨m, hm⟩
  have f2 := fld2 ⟨h, hh⟩
  have f3 := fld3 ⟨d, hd⟩ hd0
  have f4 := fld4
  have f5 := fld5
  dsimp only at f1 f2 f3
  refine ⟨[[48], dig m, dig h, dig d, [42], [42]], ?_, ?_⟩
  · have h6 : sixV [[48], dig m, dig h, dig d, [42], [42]] 6 = 1 := by
      unfold sixV sixV sixV sixV sixV sixV sixV
      simp [f0.1, f1.1, f2.1, f3.1, f4.1, f5.1]
      decide
    unfold mean
    rw [if_pos hz, if_neg (by rw [e]; simp)]
    unfold mvAll
    rw [hs, if_neg (by simp)]
    unfold mvPlain
    rw [foreign_mon (by omega) (by omega) (by omega), if_neg (by simp), words_mon (by omega) (by omega) (by omega)]
    simp only [List.map_cons, List.map_nil]
    rw [fill_mon]
    simp only [List.map_cons, List.map_nil, toList_ofL]
    rw [if_neg (by simp), if_pos h6]
  · unfold numsOf
    simp [List.range, List.range.loop, f0.2, f1.2, f2.2, f3.2, f4.2, f5.2]
theorem has_pow (n : Nat) (x : Int) (h : 0 ≤ x) : has (2 ^ n) x = decide (x = n) := by
  unfold has
  have e : ((2 : Int) ^ n).toNat = 2 ^ n := by
    rw [show ((2 : Int) ^ n) = ((2 ^ n : Nat) : Int) by push_cast; rfl]
    exact Int.toNat_natCast _
  rw [e, Nat.testBit_two_pow, decide_eq_decide]
  omega
theorem has_one (x : Int) (h : 0 ≤ x) : has 1 x = decide (x = 0) := has_pow 0 x h
theorem mon_all : ∀ k : Fin 13, 1 ≤ k.val → has 9223372036854783998 (k.val : Int) = true := by decide +kernel
theorem dow_all : ∀ k : Fin 7, has 9223372036854775935 (k.val : Int) = true := by decide +kernel
theorem dow_star : has 9223372036854775935 63 = true := by decide +kernel
theorem mon_fit {m h d : Nat} (hm : m < 60) (hh : h < 24) (hd0 : 1 ≤ d) (hd : d < 32) (y : Int) :
    Fit (fun _ => 0) (sched 1 (2 ^ m) (2 ^ h) (2 ^ d) 9223372036854783998 9223372036854775935) y ↔ dOf (y / 86400) = (d : Int) ∧ y % 86400 = 3600 * (h : Int) + 60 * (m : Int) := by
  have hday : day (fun _ => 0) y = y / 86400 := by unfold day lo; rw [Int.add_zero]
  have htod : tod (fun _ => 0) y = y % 86400 := by unfold tod lo; rw [Int.add_zero]
  obtain ⟨⟨p1, p2, p3, p4⟩, -⟩ := date_of (y / 86400)
  have e1 : has 9223372036854783998 (mOf (y / 86400)) = true := by
    have := mon_all ⟨(mOf (y / 86400)).toNat, by omega⟩ (by show 1 ≤ (mOf (y / 86400)).toNat; omega)
    rw [show (((⟨(mOf (y / 86400)).toNat, by omega⟩ : Fin 13).val : Nat) : Int) = mOf (y / 86400) by show (((mOf (y / 86400)).toNat : Nat) : Int) = _; omega] at this
    exact this
  have e2 : has 9223372036854775935 (wdOf (y / 86400)) = true := by
    have hw : 0 ≤ wdOf (y / 86400) ∧ wdOf (y / 86400) ≤ 6 := by unfold wdOf; omega
    have := dow_all ⟨(wdOf (y / 86400)).toNat, by omega⟩
    rw [show (((⟨(wdOf (y / 86400)).toNat, by omega⟩ : Fin 7).val : Nat) : Int) = wdOf (y / 86400) by show (((wdOf (y / 86400)).toNat : Nat) : Int) = _; omega] at this
    exact this
  unfold Fit monF dyF hrF miF seF sched
  rw [hday, htod]
  dsimp only
  rw [e1, has_pow h _ (by omega), has_pow m _ (by omega), has_one _ (by omega)]
  unfold dayOK
  rw [dow_star, Bool.or_true, if_pos rfl, e2, has_pow d _ (by omega)]
  simp only [Bool.and_true, decide_eq_true_eq, true_and]
  omega
end Go.Proofs.YtmnjmhlodbifjaaGreatDoor.MonText
namespace Go.Proofs.YtmnjmhlodbifjaaGreatDoor.Std
open Go Go.RowKit Go.Proofs.YtmnjmhlodbifjaaGreatDoor.Mem Go.Proofs.YtmnjmhlodbifjaaGreatDoor.Aid Go.Proofs.YtmnjmhlodbifjaaGreatDoor.Big Go.Proofs.YtmnjmhlodbifjaaGreatDoor.Err Go.Proofs.YtmnjmhlodbifjaaGreatDoor.SplitPure Go.Proofs.YtmnjmhlodbifjaaGreatDoor.FillPure Go.Proofs.YtmnjmhlodbifjaaGreatDoor.PlainPure Go.Proofs.YtmnjmhlodbifjaaGreatDoor.NameRel Go.Proofs.YtmnjmhlodbifjaaGreatDoor.PlainSched Go.Proofs.YtmnjmhlodbifjaaGreatDoor.Parser Go.Proofs.YtmnjmhlodbifjaaGreatDoor.ParseCron Go.Proofs.YtmnjmhlodbifjaaGreatDoor.TrimSpec Go.Proofs.YtmnjmhlodbifjaaGreatDoor.LaidZ Go.Proofs.YtmnjmhlodbifjaaGreatDoor.Mean Go.Proofs.YtmnjmhlodbifjaaGreatDoor.ParseDesc Go.Proofs.YtmnjmhlodbifjaaGreatDoor.ParseAll Go.Proofs.YtmnjmhlodbifjaaGreatDoor.SchedOf Go.Proofs.YtmnjmhlodbifjaaGreatDoor.Zoned Go.Proofs.YtmnjmhlodbifjaaGreatDoor.CronAll Go.Proofs.YtmnjmhlodbifjaaGreatDoor.Itoa Go.Proofs.YtmnjmhlodbifjaaGreatDoor.MonText
set_option linter.unusedVariables false
theorem std_any (w : World) : Calls Tryz.prog 69 #[] w fun e w' => e = .returned (.agg #[.int .i64 380]) ∧ Below w.heap.size w w' := by
  have HN := Lib.hid (fun w => newParser_any 380 w (by decide))
  go_enter Tryz.func69, Tryz.ntmps69
  go_wp2_with (go_at_call 52; refine (HN.out _).mono ?_; rintro e w1 ⟨rfl, hb1⟩; have g1 := one_after hb1; have c1 := g1.cell (j := 0) rfl; have c2 := g1.free 0; have HB1 := Lib.hid (Below.trans ((Below.refl _ w).alloc (Nat.le_refl _) _) (hb1.mono (by simp))); clear hb1 g1)
  refine bodyPost_ret (v := .agg #[.int .i64 380]) (by simp [results, Tryz.results69, go_sem, *]) rfl ⟨rfl, ?_⟩
  exact HB1.out.setCell (p := ⟨w.heap.size, 0, none⟩) (Nat.le_refl _) _
theorem cronStd_any (s : ByteArray) (w : World) (hs : s.size ≤ 65536) (hna : noAnswer s.data.toList = false) (hv : Sents w) :
    Calls Tryz.prog 32 #[.string s] w fun e w' => (∃ pa, Out (mean 380 s.data.toList) (.pointer pa) e w') ∧ Below w.heap.size w w' := by
  have HC := Lib.hid (fun w1 (hb : Below w.heap.size w w1) => parse_all 380 s w1 (by decide) hs hna (hv.below hb).1 (hv.below hb).2.1 (hv.below hb).2.2.1 (hv.below hb).2.2.2)
  obtain ⟨mr, hmr⟩ : ∃ mr, mean 380 s.data.toList = mr := ⟨_, rfl⟩
  rw [show ((380 : Nat) : Int) = 380 from rfl, hmr] at HC
  rw [hmr]
  clear hna hv hmr
  go_enter Tryz.func32, Tryz.ntmps32
  go_wp2_with (first
    | (go_at_call 69; refine (std_any _).mono ?_; rintro e w1 ⟨rfl, hb1⟩; have HB1 := Lib.hid hb1; clear hb1)
    | (go_at_call 31; (with_reducible refine (HC.out _ HB1.out).mono ?_); rintro e w2 ⟨⟨pa, hpa, hout⟩, hb2⟩; obtain ⟨v1, v2, rfl⟩ := out_shape hout; have HOUT := Lib.hid hout; have HB2 := Lib.hid (HB1.out.trans (hb2.mono HB1.out.size)); clear hb2 hout hpa))
  go_ret2
  exact ⟨⟨pa, HOUT.out⟩, HB2.out⟩
set_option maxHeartbeats 1000000 in
set_option maxRecDepth 100000 in
theorem implStd_any (s : ByteArray) (w : World) (hs : s.size ≤ 65536) (hna : noAnswer s.data.toList = false) (hv : Sents w) :
    Calls Tryz.prog 13 #[.string s] w fun e w' => (∃ (ev : Bool) (d x0 x1 x2 x3 x4 x5 : Int) (ok : Bool), e = .returned (.tuple #[.agg (schedA ev d x0 x1 x2 x3 x4 x5), .bool ok]) ∧ Fit2 (mean 380 s.data.toList) (schedA ev d x0 x1 x2 x3 x4 x5) ok) ∧ Below w.heap.size w w' := by
  have HC := Lib.hid (fun w1 (hb : Below w.heap.size w w1) => cronStd_any s w1 hs hna (hv.below hb))
  obtain ⟨mr, hmr⟩ : ∃ mr, mean 380 s.data.toList = mr := ⟨_, rfl⟩
  rw [hmr] at HC ⊢
  clear hna hv hmr
  go_enter Tryz.func13, Tryz.ntmps13
  go_wp2_with (first
    | (go_at_call 32; (with_reducible refine (HC.out _ ((Below.refl _ w).alloc (Nat.le_refl _) _)).mono ?_); rintro e w2 ⟨⟨pa, hout⟩, hb2⟩; obtain ⟨v1, v2, rfl, ev, d, x0, x1, x2, x3, x4, x5, ok, hfit, hps⟩ := plain_out hout; have HFT := Lib.hid hfit; have HPS := Lib.hid hps; have HG2 := Lib.hid (one_after hb2); have HB2 := Lib.hid (Below.trans ((Below.refl _ w).alloc (Nat.le_refl _) _) (hb2.mono (by simp))); clear hb2 hout hfit hps)
    | (go_at_call 30; (with_reducible refine (HPS.out _ (Below.refl _ _)).mono ?_); rintro e w3 ⟨rfl, hb3⟩; have HB3 := Lib.hid (Below.trans HB2.out (hb3.mono HB2.out.size)); have HG3 := Lib.hid (HG2.out.after hb3); clear hb3)
    | (refine wpList_store_blk rfl 28 (.tmp 2) (.tmp 9) rfl w.heap.size zeroS (schedA ev d x0 x1 x2 x3 x4 x5) infoSched rfl (schedA_one _ _ _ _ _ _ _ _) (by rfl) (by rfl) HG3.out ?_))
  exact bodyPost_ret (results_blk_tmp rfl _ _ w.heap.size (schedA ev d x0 x1 x2 x3 x4 x5) Tryz.underlying28 rfl infoSched rfl (blk_row HG3.out _)) rfl ⟨⟨ev, d, x0, x1, x2, x3, x4, x5, ok, rfl, HFT.out⟩, below_row HB3.out (Nat.le_refl _) _⟩
theorem mon_size {m h d : Nat} (hm : m < 100) (hh : h < 100) (hd : d < 100) : (monT m h d).length ≤ 12 := by
  unfold monT
  rcases dig_shape hm with ⟨a, e1, -⟩ | ⟨a, a', e1, -⟩ <;> rcases dig_shape hh with ⟨b, e2, -⟩ | ⟨b, b', e2, -⟩ <;> rcases dig_shape hd with ⟨c, e3, -⟩ | ⟨c, c', e3, -⟩ <;>
    (rw [e1, e2, e3]; simp)
theorem mon_text (m h d : Nat) : ((((((ofL (dig m) ++ (⟨#[32]⟩ : ByteArray)) ++ ofL (dig h)) ++ (⟨#[32]⟩ : ByteArray)) ++ ofL (dig d)) ++ (⟨#[32, 42, 32, 42]⟩ : ByteArray)) : ByteArray).data.toList = monT m h d := by
  unfold monT ofL
  simp
theorem mon_answer (m h d : Nat) : noAnswer (monT m h d) = false := by
  have h1 : (monT m h d).contains 32 = true := by
    rw [List.contains_iff_mem]
    unfold monT
    simp
  unfold noAnswer
  rw [h1]
  rfl
theorem monParse_any (s : ByteArray) (m h d : Nat) (w : World) (hm : m < 60) (hh : h < 24) (hd0 : 1 ≤ d) (hd : d < 32) (ht : s.data.toList = monT m h d) (hv : Sents w) :
    Calls Tryz.prog 13 #[.string s] w fun e w' => e = .returned (.tuple #[.agg (schedA false 0 1 (2 ^ m) (2 ^ h) (2 ^ d) 9223372036854783998 9223372036854775935), .bool true]) ∧ Below w.heap.size w w' := by
  have hsz := mon_size (m := m) (h := h) (d := d) (by omega) (by omega) (by omega)
  have hna := mon_answer m h d
  rw [← ht] at hsz hna
  obtain ⟨LL, h1, h2⟩ := mon_mean hm hh hd0 hd
  refine (implStd_any s w (by simp at hsz; omega) hna hv).mono ?_
  rintro e w' ⟨⟨ev, dl, x0, x1, x2, x3, x4, x5, ok, rfl, hf⟩, hb⟩
  rw [ht, h1] at hf
  rcases hf with ⟨_, h3⟩ | ⟨h3, _, h4⟩
  · exact absurd rfl (h3 _)
  · rcases h4 _ rfl with ⟨L2, h5, h6⟩ | ⟨d2, h5, _⟩
    · cases h5
      rw [h6, h3, h2]
      exact ⟨rfl, hb⟩
    · cases h5
end Go.Proofs.YtmnjmhlodbifjaaGreatDoor.Std
namespace Go.Proofs.YtmnjmhlodbifjaaGreatDoor.FieldsOf
end Go.Proofs.YtmnjmhlodbifjaaGreatDoor.FieldsOf
namespace Go.Proofs.YtmnjmhlodbifjaaGreatDoor.Never
open Go Go.RowKit Go.Proofs.YtmnjmhlodbifjaaGreatDoor.Set Go.Proofs.YtmnjmhlodbifjaaGreatDoor.Fields Go.Proofs.YtmnjmhlodbifjaaGreatDoor.SetOf Go.Proofs.YtmnjmhlodbifjaaGreatDoor.Moment Go.Proofs.YtmnjmhlodbifjaaGreatDoor.DayM Go.Proofs.YtmnjmhlodbifjaaGreatDoor.DayFits Go.Proofs.YtmnjmhlodbifjaaGreatDoor.FieldsOf
set_option linter.unusedVariables false
def valArr (f : Nat → Bool) : Array Value := Array.ofFn (n := 63) fun i => Value.bool (f i.val)
theorem valArr_size (f : Nat → Bool) : (valArr f).size = 63 := by simp [valArr]
theorem valArr_get (f : Nat → Bool) (i : Nat) (h : i < 63) : (valArr f)[i]? = some (.bool (f i)) := by simp [valArr, h]
def emptyB (f : Nat → Bool) : Bool := (List.range 63).all fun i => f i == false
theorem emptyB_iff (f : Nat → Bool) : emptyB f = true ↔ ∀ i, i ≤ 62 → f i = false := by
  unfold emptyB
  rw [List.all_eq_true]
  constructor
  · intro h i hi
    have := h i (List.mem_range.2 (by omega))
    simpa using this
  · intro h i hi
    have := h i (by have := List.mem_range.1 hi; omega)
    simpa using this
theorem items_run (f g : Nat → Bool) (w : World) : ∀ is : List Nat, (∀ i ∈ is, i < 63) → (Op.eqItems 9999 4 1 (valArr f) (valArr g) is).run Tryz.prog w = .ok (is.all fun i => f i == g i) w := by
  intro is
  induction is with
  | nil => intro _; simp [Op.eqItems]
  | cons i is ih =>
    intro h
    have hi := h i (by simp)
    have p1 := run_part_plain (P := Tryz.prog) w (e := 4) (by kernel_rfl) (off := i * 1) (valArr_get f i hi ▸ (by rw [Nat.mul_one]) : (valArr f)[i * 1]? = some (.bool (f i)))
    have p2 := run_part_plain (P := Tryz.prog) w (e := 4) (by kernel_rfl) (off := i * 1) (valArr_get g i hi ▸ (by rw [Nat.mul_one]) : (valArr g)[i * 1]? = some (.bool (g i)))
    have p3 := run_equalIn_bool w 9998 4 (f i) (g i) (P := Tryz.prog) (by kernel_rfl)
    simp only [Op.eqItems, Sem.run_bind, p1, p2, Result.andThen_ok]
    rw [show (9999 : Nat) = 9998 + 1 from rfl, p3]
    simp only [Result.andThen_ok]
    cases hfg : (f i == g i)
    · simp [hfg]
    · have := ih (fun j hj => h j (by simp [hj]))
      simp [hfg] at this ⊢
      exact this
theorem cellsB : Tryz.prog.cellsOf 4 = 1 := by kernel_rfl
theorem equal_vals (f g : Nat → Bool) (w : World) : (Op.equalIn 10000 53 (.agg (valArr f)) (.agg (valArr g))).run Tryz.prog w = .ok ((List.range 63).all fun i => f i == g i) w := by
  have hi : ∃ i, Tryz.prog.info? 4 = some i := by
    have : (Tryz.prog.info? 4).isSome = true := by kernel_rfl
    exact Option.isSome_iff_exists.1 this
  obtain ⟨i, hi⟩ := hi
  rw [show (10000 : Nat) = 9999 + 1 from rfl, run_equalIn_array (P := Tryz.prog) w 9999 (valArr f) (valArr g) (n := 63) (e := 4) Tryz.underlying53 hi, cellsB]
  exact items_run f g w _ (fun i h => List.mem_range.1 h)
theorem field_zero (w : World) : (Instr.field 55 (.agg (setArr false fun _ => false)) 1).run Tryz.prog w = .ok (.agg (valArr fun _ => false)) w := by kernel_rfl
theorem sizeInfoV : (Tryz.prog.info? 53).map (·.size) = some 63 := by kernel_rfl
theorem rangeV {w : World} {b : Nat} {star : Bool} {f : Nat → Bool} (h : SetAt w b star f) : w.rangeAt b 1 (valArr f).toList := fun j v hv => by
  rw [Array.getElem?_toList] at hv
  have hj : j < 63 := by rw [← valArr_size f]; exact (Array.getElem?_eq_some_iff.1 hv).1
  rw [valArr_get _ _ hj] at hv
  rw [h.cell j (by omega)]; exact hv
theorem at_load {P : Program} {ops : Array Oper} {rest : List Oper} {o : Oper} {a : Act} {w : World} {Q : Exit → Act → World → Prop} {t : TypeId} {x : Operand} (ho : o.op = .load t x) (h : wpList P ops Q (o :: rest) a w) : wpList P ops Q (o :: rest) a w := h
theorem wpList_load_vals {ops : Array Oper} {rest : List Oper} {o : Oper} {a : Act} {w : World} {Q : Exit → Act → World → Prop} (hg : o.guard = none) (x : Operand) (ho : o.op = .load 53 x) (b : Nat) (star : Bool) (f : Nat → Bool)
    (hx : a.eval x = .pointer (some ⟨b, 1, none⟩)) (hb : SetAt w b star f)
    (h : wpList Tryz.prog ops Q rest (a.put o.dst (.agg (valArr f))) w) : wpList Tryz.prog ops Q (o :: rest) a w := by
  refine wpList_load_mid hg 53 x ho b 1 hx (valArr f).toList _ (rangeV hb) Tryz.underlying53 rfl (by simp [valArr_size, sizeInfoV]) ?_
  simpa using h
set_option maxRecDepth 100000 in
theorem empty_any (star : Bool) (f : Nat → Bool) (w : World) : Calls Tryz.prog 145 #[.agg (setArr star f)] w fun e w' => e = .returned (.bool (emptyB f)) ∧ Below w.heap.size w w' := by
  have hf := field_zero
  obtain ⟨p, hp⟩ : ∃ p, emptyB f = p := ⟨_, rfl⟩
  have he : ∀ w : World, (Op.equalIn 10000 53 (.agg (valArr f)) (.agg (valArr fun _ => false))).run Tryz.prog w = .ok p w := fun w => by rw [← hp]; exact equal_vals f (fun _ => false) w
  rw [hp]
  clear hp
  have hs := SetAt.new w star f
  have hb : Below w.heap.size w (w.alloc (.cells (setArr star f) 55)) := (Below.refl _ _).alloc (Nat.le_refl _) _
  go_enter Tryz.func145, Tryz.ntmps145
  go_wp2_with (first
    | (with_reducible refine wpList_box_set rfl (.tmp 0) rfl star f rfl ?_)
    | ((with_reducible refine at_load rfl ?_); (refine wpList_load_vals rfl (.tmp 3) rfl w.heap.size star f rfl hs ?_))
    | (with_reducible refine wpList_build_set rfl rfl ?_))
  go_ret
  exact ⟨rfl, hb⟩
theorem wpList_load_one_want {ops : Array Oper} {rest : List Oper} {o : Oper} {a : Act} {w : World} {Q : Exit → Act → World → Prop} (hw : Region.wanted o (yielded ops a.tmps) = true) (x : Operand) (ho : o.op = .load 55 x) (b k : Nat) (hk : k < 6) (st : Nat → Bool) (f : Nat → Nat → Bool)
    (hx : a.eval x = .pointer (some ⟨b, k * 64, none⟩)) (hb : FldAt w b st f)
    (h : wpList Tryz.prog ops Q rest (a.put o.dst (.agg (setArr (st k) (f k)))) w) : wpList Tryz.prog ops Q (o :: rest) a w :=
  BigFrame.wpList_want hw fun _ hK => wp_load_mid 55 x ho b (k * 64) hx (setArr (st k) (f k)).toList _ (hb.set k hk) Tryz.underlying55 rfl (by simp [setArr_size, sizeInfo]) (hK _ _ (by simpa using h))
def neverB (f : Nat → Nat → Bool) : Bool := emptyB (f 2) || emptyB (f 1) || emptyB (f 0)
set_option maxRecDepth 100000 in
theorem never_any (st : Nat → Bool) (f : Nat → Nat → Bool) (w : World) : Calls Tryz.prog 118 #[.agg (fldArr st f)] w fun e w' => e = .returned (.bool (neverB f)) ∧ Below w.heap.size w w' := by
  have hF := FldAt.new w st f
  have hb : Below w.heap.size w (w.alloc (.cells (fldArr st f) 57)) := (Below.refl _ _).alloc (Nat.le_refl _) _
  have H0 := Lib.hid (fun w1 => empty_any (st 0) (f 0) w1)
  have H1 := Lib.hid (fun w1 => empty_any (st 1) (f 1) w1)
  have H2 := Lib.hid (fun w1 => empty_any (st 2) (f 2) w1)
  have HN : Hid (neverB f = (emptyB (f 2) || emptyB (f 1) || emptyB (f 0))) := Lib.hid rfl
  generalize emptyB (f 0) = p0 at *
  generalize emptyB (f 1) = p1 at *
  generalize emptyB (f 2) = p2 at *
  have HB := Lib.hid hb
  have HF := Lib.hid hF
  clear hb hF
  cases p2 <;> cases p1 <;> cases p0
  all_goals
    go_enter Tryz.func118, Tryz.ntmps118
    go_wp2_with (first
      | (with_reducible refine wpList_box_fields rfl (.tmp 0) rfl st f rfl ?_)
      | ((go_at_call 145); (with_reducible refine (H2.out _).mono ?_); rintro e w1 ⟨rfl, hb1⟩; have hf1 := HF.out.below hb1 HF.out.lt)
      | ((go_at_call 145); (with_reducible refine (H1.out _).mono ?_); rintro e w2 ⟨rfl, hb2⟩; have hf2 := hf1.below hb2 hf1.lt)
      | ((go_at_call 145); (with_reducible refine (H0.out _).mono ?_); rintro e w3 ⟨rfl, hb3⟩)
      | ((with_reducible refine at_load rfl ?_); (refine wpList_load_one_want (by rfl) (.tmp 3) rfl w.heap.size 2 (by omega) st f rfl HF.out ?_))
      | ((with_reducible refine at_load rfl ?_); (refine wpList_load_one_want (by rfl) (.tmp 7) rfl w.heap.size 1 (by omega) st f rfl hf1 ?_))
      | ((with_reducible refine at_load rfl ?_); (refine wpList_load_one_want (by rfl) (.tmp 12) rfl w.heap.size 0 (by omega) st f rfl hf2 ?_)))
    go_ret
    first
      | exact ⟨by rw [HN.out]; rfl, HB.out.trans ((hb1.trans ((hb2.trans (hb3.mono hb2.size)).mono hb1.size)).mono HB.out.size)⟩
      | exact ⟨by rw [HN.out]; rfl, HB.out.trans ((hb1.trans (hb2.mono hb1.size)).mono HB.out.size)⟩
      | exact ⟨by rw [HN.out]; rfl, HB.out.trans (hb1.mono HB.out.size)⟩
end Go.Proofs.YtmnjmhlodbifjaaGreatDoor.Never
namespace Go.Proofs.YtmnjmhlodbifjaaGreatDoor.CronTime
open Go Go.RowKit Go.Proofs.YtmnjmhlodbifjaaGreatDoor.Set Go.Proofs.YtmnjmhlodbifjaaGreatDoor.Fields Go.Proofs.YtmnjmhlodbifjaaGreatDoor.SetOf Go.Proofs.YtmnjmhlodbifjaaGreatDoor.Moment Go.Proofs.YtmnjmhlodbifjaaGreatDoor.DayM Go.Proofs.YtmnjmhlodbifjaaGreatDoor.DayFits Go.Proofs.YtmnjmhlodbifjaaGreatDoor.FieldsOf Go.Proofs.YtmnjmhlodbifjaaGreatDoor.Never
set_option linter.unusedVariables false
def tfit (f : Nat → Nat → Bool) (e : Nat) : Bool := f 2 (e / 3600) && f 1 (e % 3600 / 60) && f 0 (e % 60)
def NoT (f : Nat → Nat → Bool) (from' n : Nat) : Prop := ∀ e, from' ≤ e → e < n → tfit f e = false
def TimeRes (f : Nat → Nat → Bool) (from' : Nat) (w : World) (x : Ending) (w' : World) : Prop :=
  (∃ T : Int, x = .returned (.int .i64 T) ∧ ((∃ e : Nat, T = (e : Int) ∧ from' ≤ e ∧ e < 86400 ∧ tfit f e = true ∧ NoT f from' e) ∨ (T = -1 ∧ NoT f from' 86400))) ∧ Below w.heap.size w w'
section
variable {f : Nat → Nat → Bool} {a n : Nat}
theorem NoT.hour {h : Nat} (h0 : NoT f a (3600 * h)) (hp : f 2 h = false) : NoT f a (3600 * (h + 1)) := fun e e1 e2 => by
  by_cases c : e < 3600 * h
  · exact h0 e e1 c
  · unfold tfit
    rw [show e / 3600 = h by omega, hp]
    rfl
theorem NoT.minute {h m : Nat} (h0 : NoT f a (3600 * h + 60 * m)) (hm : m < 60) (hp : f 1 m = false ∨ 3600 * h + 60 * m + 59 < a) : NoT f a (3600 * h + 60 * (m + 1)) := fun e e1 e2 => by
  by_cases c : e < 3600 * h + 60 * m
  · exact h0 e e1 c
  · rcases hp with hp | hp
    · unfold tfit
      rw [show e % 3600 / 60 = m by omega, hp]
      simp
    · omega
theorem NoT.second {h m s : Nat} (h0 : NoT f a (3600 * h + 60 * m + s)) (hm : m < 60) (hs : s < 60) (hp : f 0 s = false) : NoT f a (3600 * h + 60 * m + (s + 1)) := fun e e1 e2 => by
  by_cases c : e < 3600 * h + 60 * m + s
  · exact h0 e e1 c
  · unfold tfit
    rw [show e % 60 = s by omega, hp]
    simp
end
set_option maxHeartbeats 2000000 in
set_option maxRecDepth 100000 in
theorem time_any (st : Nat → Bool) (f : Nat → Nat → Bool) (a : Nat) (w : World) (ha : a < 86400) :
    Calls Tryz.prog 121 #[.agg (fldArr st f), .int .i64 (a : Int)] w (TimeRes f a w) := by
  have hF := FldAt.new w st f
  have hb : Below w.heap.size w (w.alloc (.cells (fldArr st f) 57)) := (Below.refl _ _).alloc (Nat.le_refl _) _
  have HF := Lib.hid hF
  have HB := Lib.hid hb
  have v0 : IntKind.i64.wrap ((a : Int).tdiv 3600) = ((a / 3600 : Nat) : Int) := by
    rw [Int.tdiv_eq_ediv_of_nonneg (by omega)]
    exact IntWalk.i64_in _ (by omega)
  obtain ⟨a0, ha0⟩ : ∃ a0, a / 3600 = a0 := ⟨_, rfl⟩
  have HA0 := Lib.hid ha0
  rw [ha0] at v0
  have ha1 : a0 < 24 := by omega
  clear hF hb ha0
  go_enter Tryz.func121, Tryz.ntmps121
  go_wp2_with (with_reducible refine wpList_box_fields rfl (.tmp 0) rfl st f rfl ?_)
  go_loop [5] (fun v => ∃ k : Nat, v = .int .i64 (k : Int) ∧ a0 ≤ k ∧ k ≤ 24 ∧ Hid (NoT f a (3600 * k))) (fun v => (24 - intOf v).toNat)
  case atStart => exact ⟨a0, by have := HA0.out; congr 1; omega, by omega, by omega, Lib.hid (fun e e1 e2 => by have := HA0.out; omega)⟩
  case round =>
    obtain ⟨k, rfl, k0, k1, HN⟩ := hrel
    by_cases k24 : k < 24
    · have c2 : (w.alloc (.cells (fldArr st f) 57)).cell? ⟨w.heap.size, 129 + k, none⟩ = some (.bool (f 2 k)) := HF.out.val 2 k (by omega) (by omega)
      have i1 : (k : Int) < 63 := by omega
      obtain ⟨p, hp⟩ : ∃ p, f 2 k = p := ⟨_, rfl⟩
      rw [hp] at c2
      have HP := Lib.hid hp
      clear hp
      cases p
      · go_wp2_with fail
        refine ⟨⟨k + 1, by go_num, by omega, by omega, Lib.hid (HN.out.hour HP.out)⟩, by simp [intOf]; omega⟩
      · go_wp2_with fail
        go_loop [21] (fun v => ∃ m : Nat, v = .int .i64 (m : Int) ∧ m ≤ 60 ∧ Hid (NoT f a (3600 * k + 60 * m))) (fun v => (60 - intOf v).toNat)
        case atStart => exact ⟨0, rfl, by omega, Lib.hid HN.out⟩
        case round =>
          obtain ⟨m, rfl, m1, HM⟩ := hrel
          by_cases m60 : m < 60
          · have c1 : (w.alloc (.cells (fldArr st f) 57)).cell? ⟨w.heap.size, 65 + m, none⟩ = some (.bool (f 1 m)) := HF.out.val 1 m (by omega) (by omega)
            have i2 : (m : Int) < 63 := by omega
            obtain ⟨q, hq⟩ : ∃ q, f 1 m = q := ⟨_, rfl⟩
            rw [hq] at c1
            have HQ := Lib.hid hq
            clear hq
            cases q
            · go_wp2_with fail
              refine ⟨⟨m + 1, by go_num, by omega, Lib.hid (HM.out.minute m60 (.inl HQ.out))⟩, by simp [intOf]; omega⟩
            · by_cases hlt : (3600 * (k : Int) + 60 * (m : Int) + 59 < (a : Int))
              · go_wp2_with fail
                refine ⟨⟨m + 1, by go_num, by omega, Lib.hid (HM.out.minute m60 (.inr (by omega)))⟩, by simp [intOf]; omega⟩
              · obtain ⟨s0, hs0⟩ : ∃ s0 : Nat, max 0 ((a : Int) - (3600 * (k : Int) + 60 * (m : Int))) = (s0 : Int) := ⟨(max 0 ((a : Int) - (3600 * (k : Int) + 60 * (m : Int)))).toNat, by omega⟩
                have hs1 : s0 ≤ 59 := by omega
                have HS0 : Hid (NoT f a (3600 * k + 60 * m + s0)) := Lib.hid (fun e e1 e2 => by
                  by_cases c : e < 3600 * k + 60 * m
                  · exact HM.out e e1 c
                  · omega)
                have HS1 : Hid (a ≤ 3600 * k + 60 * m + s0) := Lib.hid (by omega)
                have HS2 := Lib.hid hs0
                clear hs0
                go_wp2_with fail
                all_goals
                  go_loop [8] (fun v => ∃ s : Nat, v = .int .i64 (s : Int) ∧ s ≤ 60 ∧ Hid (a ≤ 3600 * k + 60 * m + s) ∧ Hid (NoT f a (3600 * k + 60 * m + s))) (fun v => (60 - intOf v).toNat)
                  case atStart => exact ⟨s0, by have := HS2.out; congr 1; try omega, by omega, HS1, HS0⟩
                  case round =>
                    obtain ⟨s, rfl, s1, HS, HO⟩ := hrel
                    by_cases s60 : s < 60
                    · have c0 : (w.alloc (.cells (fldArr st f) 57)).cell? ⟨w.heap.size, 1 + s, none⟩ = some (.bool (f 0 s)) := by
                        have := HF.out.val 0 s (by omega) (by omega)
                        simpa using this
                      have i3 : (s : Int) < 63 := by omega
                      obtain ⟨r, hr⟩ : ∃ r, f 0 s = r := ⟨_, rfl⟩
                      rw [hr] at c0
                      have HR := Lib.hid hr
                      clear hr
                      cases r
                      · go_wp2_with fail
                        refine ⟨⟨s + 1, by go_num, by omega, Lib.hid (by have := HS.out; omega), Lib.hid (HO.out.second m60 s60 HR.out)⟩, by simp [intOf]; omega⟩
                      · go_wp2_with fail
                        go_ret
                        refine ⟨⟨_, rfl, .inl ⟨3600 * k + 60 * m + s, by go_num, HS.out, by omega, ?_, HO.out⟩⟩, HB.out⟩
                        unfold tfit
                        rw [show (3600 * k + 60 * m + s) / 3600 = k by omega, show (3600 * k + 60 * m + s) % 3600 / 60 = m by omega, show (3600 * k + 60 * m + s) % 60 = s by omega, HP.out, HQ.out, HR.out]
                        rfl
                    · obtain rfl : s = 60 := by omega
                      go_wp2_with fail
                      refine ⟨⟨m + 1, by go_num, by omega, Lib.hid (by have := HO.out; rw [show 3600 * k + 60 * (m + 1) = 3600 * k + 60 * m + 60 by omega]; exact this)⟩, by simp [intOf]; omega⟩
          · obtain rfl : m = 60 := by omega
            go_wp2_with fail
            refine ⟨⟨k + 1, by go_num, by omega, by omega, Lib.hid (by have := HM.out; rw [show 3600 * (k + 1) = 3600 * k + 60 * 60 by omega]; exact this)⟩, by simp [intOf]; omega⟩
    · obtain rfl : k = 24 := by omega
      go_wp2_with fail
      go_ret
      exact ⟨⟨_, rfl, .inr ⟨rfl, HN.out⟩⟩, HB.out⟩
end Go.Proofs.YtmnjmhlodbifjaaGreatDoor.CronTime
namespace Go.Proofs.YtmnjmhlodbifjaaGreatDoor.Tomorrow
open Go Go.RowKit Go.Proofs.YtmnjmhlodbifjaaGreatDoor.TimeNum Go.Proofs.YtmnjmhlodbifjaaGreatDoor.Cal Go.Proofs.YtmnjmhlodbifjaaGreatDoor.SpecCal Go.Proofs.YtmnjmhlodbifjaaGreatDoor.DayFits Go.Proofs.YtmnjmhlodbifjaaGreatDoor.RegS
set_option linter.unusedVariables false
def dateA (n : Int) : Array Value := #[.int .i64 (yOf n), .int .i64 (mOf n), .int .i64 (dOf n)]
theorem next_day (n : Int) :
    (dOf n < mlen (yOf n) (mOf n) ∧ yOf (n + 1) = yOf n ∧ mOf (n + 1) = mOf n ∧ dOf (n + 1) = dOf n + 1) ∨
    (¬ dOf n < mlen (yOf n) (mOf n) ∧ mOf n < 12 ∧ yOf (n + 1) = yOf n ∧ mOf (n + 1) = mOf n + 1 ∧ dOf (n + 1) = 1) ∨
    (¬ dOf n < mlen (yOf n) (mOf n) ∧ ¬ mOf n < 12 ∧ yOf (n + 1) = yOf n + 1 ∧ mOf (n + 1) = 1 ∧ dOf (n + 1) = 1) := by
  obtain ⟨⟨m1, m2, m3, m4⟩, hn⟩ := date_of n
  by_cases c : dOf n < mlen (yOf n) (mOf n)
  · have := same_month n 1 (by omega) (by omega)
    exact .inl ⟨c, this⟩
  · have e1 : n - dOf n + 1 + mlen (yOf n) (mOf n) = n + 1 := by omega
    by_cases c2 : mOf n < 12
    · have := next_month n c2
      rw [e1] at this
      exact .inr (.inl ⟨c, c2, this⟩)
    · have := next_year n (by omega)
      rw [e1] at this
      exact .inr (.inr ⟨c, c2, this⟩)
theorem box33 {w X : World} {E F : TypeId} {a b c x y z : Value} (h : Below ((w.alloc (.cells #[a, b, c] E)).alloc (.cells #[x, y, z] F)).heap.size ((w.alloc (.cells #[a, b, c] E)).alloc (.cells #[x, y, z] F)) X) :
    (X.cell? ⟨w.heap.size, 0, none⟩ = some a ∧ X.cell? ⟨w.heap.size, 1, none⟩ = some b ∧ X.cell? ⟨w.heap.size, 2, none⟩ = some c) ∧
    (X.cell? ⟨w.heap.size + 1, 0, none⟩ = some x ∧ X.cell? ⟨w.heap.size + 1, 1, none⟩ = some y ∧ X.cell? ⟨w.heap.size + 1, 2, none⟩ = some z) ∧
    X.frozen? ⟨w.heap.size + 1, 0, none⟩ = false ∧ X.frozen? ⟨w.heap.size + 1, 1, none⟩ = false ∧ X.frozen? ⟨w.heap.size + 1, 2, none⟩ = false := by
  have e : (w.alloc (.cells #[a, b, c] E)).heap.size = w.heap.size + 1 := by simp
  have h1 : Below (w.alloc (.cells #[a, b, c] E)).heap.size (w.alloc (.cells #[a, b, c] E)) X := ((Below.refl _ _).alloc (Nat.le_refl _) _).trans (h.mono (by simp))
  have a0 := cells_after h 0 _ rfl
  have a1 := cells_after h 1 _ rfl
  have a2 := cells_after h 2 _ rfl
  have b0 := free_after h 0
  have b1 := free_after h 1
  have b2 := free_after h 2
  rw [e] at a0 a1 a2 b0 b1 b2
  exact ⟨⟨cells_after h1 0 _ rfl, cells_after h1 1 _ rfl, cells_after h1 2 _ rfl⟩, ⟨a0, a1, a2⟩, b0, b1, b2⟩
set_option maxRecDepth 100000 in
theorem tomorrow_any (n : Int) (w : World) (hn : -900000 ≤ n ∧ n ≤ 8000000) : Calls Tryz.prog 119 #[.agg (dateA n)] w fun e w' => e = .returned (.agg (dateA (n + 1))) ∧ Below w.heap.size w w' := by
  have hd := next_day n
  have hv := (date_of n).1
  have hy := year_in n
  have hyb : -100000 ≤ yOf n ∧ yOf n ≤ 100000 := by unfold ys at hy; omega
  obtain ⟨m1, m2, m3, m4⟩ := hv
  have HML := Lib.hid (fun w1 => monthDays_any (yOf n) (mOf n) w1 (by omega) (by omega) (by omega) (by omega))
  have hml := mlen_bd (yOf n) (mOf n)
  unfold dateA
  generalize yOf n = y at *
  generalize mOf n = m at *
  generalize dOf n = d at *
  generalize mlen y m = l at *
  generalize yOf (n + 1) = y2 at *
  generalize mOf (n + 1) = mm2 at *
  generalize dOf (n + 1) = d2 at *
  obtain ⟨W, hW⟩ : ∃ W, (w.alloc (.cells #[.int .i64 y, .int .i64 m, .int .i64 d] 50)).alloc (.cells #[.int .i64 0, .int .i64 0, .int .i64 0] 50) = W := ⟨_, rfl⟩
  have hbW : Below w.heap.size w W := by rw [← hW]; exact ((Below.refl _ _).alloc (Nat.le_refl _) _).alloc (by simp) _
  have HK := Lib.hid (fun X (h : Below W.heap.size W X) => box33 (w := w) (X := X) (E := 50) (F := 50) (a := .int .i64 y) (b := .int .i64 m) (c := .int .i64 d) (x := .int .i64 0) (y := .int .i64 0) (z := .int .i64 0) (by rw [hW]; exact h))
  have HB := Lib.hid hbW
  obtain ⟨⟨k0, k1, k2⟩, ⟨d0, d1, dd2⟩, g0, g1, g2⟩ := HK.out _ (Below.refl _ _)
  clear hbW hy hn
  go_enter Tryz.func119, Tryz.ntmps119
  go_wp2_with fail
  clear hW
  go_region_held3 (fun X => X.cell? ⟨w.heap.size, 0, none⟩ = some (.int .i64 y) ∧ X.cell? ⟨w.heap.size, 1, none⟩ = some (.int .i64 m) ∧ X.cell? ⟨w.heap.size, 2, none⟩ = some (.int .i64 d)) (go_keep)
    ((go_at_call 19; (with_reducible refine (HML.out _).mono ?_); rintro e w1 ⟨rfl, rfl⟩))
  all_goals
    rcases hd with ⟨h1, rfl, rfl, rfl⟩ | ⟨h1, h2, rfl, rfl, rfl⟩ | ⟨h1, h2, rfl, rfl, rfl⟩
  all_goals
    go_wp2_with fail
    first
      | exact bodyPost_ret (v := .agg #[.int .i64 y2, .int .i64 mm2, .int .i64 (d + 1)]) (by simp [results, Tryz.results119, go_sem, *]) rfl ⟨rfl, Below.drew (Time2.below_set3 HB.out (Nat.le_succ _))⟩
      | exact bodyPost_ret (v := .agg #[.int .i64 y2, .int .i64 (m + 1), .int .i64 1]) (by simp [results, Tryz.results119, go_sem, *]) rfl ⟨rfl, Below.drew (Time2.below_set3 HB.out (Nat.le_succ _))⟩
      | exact bodyPost_ret (v := .agg #[.int .i64 (y + 1), .int .i64 1, .int .i64 1]) (by simp [results, Tryz.results119, go_sem, *]) rfl ⟨rfl, Below.drew (Time2.below_set3 HB.out (Nat.le_succ _))⟩
end Go.Proofs.YtmnjmhlodbifjaaGreatDoor.Tomorrow
