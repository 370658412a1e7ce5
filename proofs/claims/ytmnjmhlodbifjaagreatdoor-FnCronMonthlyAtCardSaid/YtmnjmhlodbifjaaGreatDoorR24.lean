/- (cron.Parser).Parse at every text that it answers. Conditions: options below 512, texts of at most 65536 bytes that do not begin with a time zone without a space, strconv's and package time's sentinels hold something, utf8's tables are laid. -/
import Derived.Test.YtmnjmhlodbifjaaGreatDoorR21
import Derived.Test.YtmnjmhlodbifjaaGreatDoorR23
import Derived.Deep.RegionHeld3
import Derived.Deep.DrawnRows
import Derived.Deep.QuietTactic
import Derived.BigQuiet
import Derived.Outline

namespace Go.Proofs.YtmnjmhlodbifjaaGreatDoor.ParseAll
open Go Go.RowKit Go.Proofs.YtmnjmhlodbifjaaGreatDoor.Mem Go.Proofs.YtmnjmhlodbifjaaGreatDoor.Aid Go.Proofs.YtmnjmhlodbifjaaGreatDoor.Err Go.Proofs.YtmnjmhlodbifjaaGreatDoor.NumPure Go.Proofs.YtmnjmhlodbifjaaGreatDoor.Split Go.Proofs.YtmnjmhlodbifjaaGreatDoor.SplitPure Go.Proofs.YtmnjmhlodbifjaaGreatDoor.Range Go.Proofs.YtmnjmhlodbifjaaGreatDoor.FieldPure Go.Proofs.YtmnjmhlodbifjaaGreatDoor.Field Go.Proofs.YtmnjmhlodbifjaaGreatDoor.Kind Go.Proofs.YtmnjmhlodbifjaaGreatDoor.FillPure Go.Proofs.YtmnjmhlodbifjaaGreatDoor.FillA Go.Proofs.YtmnjmhlodbifjaaGreatDoor.FieldCall Go.Proofs.YtmnjmhlodbifjaaGreatDoor.PlainPure Go.Proofs.YtmnjmhlodbifjaaGreatDoor.PlainSched Go.Proofs.YtmnjmhlodbifjaaGreatDoor.Head Go.Proofs.YtmnjmhlodbifjaaGreatDoor.Norm Go.Proofs.YtmnjmhlodbifjaaGreatDoor.ParseA Go.Proofs.YtmnjmhlodbifjaaGreatDoor.ParseP Go.Proofs.YtmnjmhlodbifjaaGreatDoor.ParseCron Go.Proofs.YtmnjmhlodbifjaaGreatDoor.NameRel Go.Proofs.YtmnjmhlodbifjaaGreatDoor.ZoneHead Go.Proofs.YtmnjmhlodbifjaaGreatDoor.ZoneName Go.Proofs.YtmnjmhlodbifjaaGreatDoor.Trim Go.Proofs.YtmnjmhlodbifjaaGreatDoor.TrimSpec Go.Proofs.YtmnjmhlodbifjaaGreatDoor.Lead Go.Proofs.YtmnjmhlodbifjaaGreatDoor.Mean Go.Proofs.YtmnjmhlodbifjaaGreatDoor.ParseDesc
set_option linter.unusedVariables false
attribute [local go_sem ↓] Go.wp_at_zero Go.wp_at_succ
def cw (s : ByteArray) : List (List UInt8) := if foreign s.data.toList then WordsU.wordsU s else words s.data.toList
theorem cw_any (s : ByteArray) (w : World) (hs : s.size ≤ 65536) : Calls Tryz.prog 59 #[.string s] w fun e w' => WordsAre (cw s) (w.heap.size + 1) e w' ∧ Below w.heap.size w w' := by
  unfold cw
  cases hf : foreign s.data.toList with
  | true =>
    rw [if_pos rfl]
    exact (WordsU.fieldsU_any s w hs).mono fun e w' h => h
  | false =>
    rw [if_neg (by decide)]
    exact (Words2.fields_any s w hs (foreign_not hf)).mono fun e w' h => h
theorem cw_len (s : ByteArray) (hs : s.size ≤ 65536) : (cw s).length ≤ 65536 := by
  unfold cw
  split
  · have := WordsU.wordsU_count s; omega
  · have hc := words_count s.data.toList
    simp at hc
    omega
theorem cw_size (s : ByteArray) (hs : s.size ≤ 65536) : ∀ p ∈ cw s, p.length ≤ 65536 := by
  intro p hp
  unfold cw at hp
  split at hp
  · have := WordsU.wordsU_size hp; omega
  · have := words_size hp; simp at this; omega
theorem plain_no {o : Int} {s : ByteArray} (h : ofWords o (cw s) = none) : ∀ m, mvPlain o s.data.toList ≠ some (some m) := by
  intro m hm
  obtain ⟨hf, LL, -, -, h2⟩ := six_fine hm
  unfold cw at h
  rw [hf] at h
  rw [if_neg (by decide), h2] at h
  cases h
theorem plain_ok {o : Int} {s : ByteArray} {l : List Int} (h : ofWords o (cw s) = some l) : mvPlain o s.data.toList ≠ none ∧ ∀ m, mvPlain o s.data.toList = some (some m) → ∃ LL, m = .sets LL ∧ l = numsOf LL 6 := by
  constructor
  · intro hm
    obtain ⟨hf, h2⟩ := six_bad hm
    unfold cw at h
    rw [hf] at h
    rw [if_neg (by decide), h2] at h
    cases h
  · intro m hm
    obtain ⟨hf, LL, h1, -, h2⟩ := six_fine hm
    unfold cw at h
    rw [hf] at h
    rw [if_neg (by decide), h2] at h
    cases h
    exact ⟨LL, h1, rfl⟩
theorem out_open {r : Option (Option MV)} {loc : Value} {e : Ending} {w' : World} (h : Out r loc e w') : Out (some none) loc e w' := by
  rcases h with ⟨T, p, h1, h2⟩ | ⟨g, l, h1, h2, -, -⟩ | ⟨d, h1, -, -⟩
  · exact .inl ⟨T, p, h1, fun m => by simp⟩
  · exact .inr (.inl ⟨g, l, h1, h2, by simp, fun m hm => by simp at hm⟩)
  · exact .inr (.inr ⟨d, h1, by simp, fun m hm => by simp at hm⟩)
theorem first_space {s : ByteArray} {hd : Nat} (hh : hd = 3 ∨ hd = 8) (hz : zoneHead s.data.toList = hd) (hn : noAnswer s.data.toList = false) :
    ∃ k : Nat, idxOf 32 s.data.toList = (k : Int) ∧ hd ≤ k ∧ k < s.size ∧ nameOf s.data.toList = (s.extract hd k).data.toList ∧ restOf s.data.toList = (s.extract k s.size).data.toList := by
  obtain ⟨j, hj1, hj2, hj3⟩ := SpecParse.space_at hh hz hn
  have hl : s.data.toList.length = s.size := (Lib.size_eq s).symm
  have hmem : (32 : UInt8) ∈ s.data.toList := by
    rw [List.getD_eq_getElem?_getD, List.getElem?_eq_getElem (by omega)] at hj3
    exact List.mem_iff_getElem.2 ⟨j, by omega, hj3⟩
  have hlt := fstAt_mem.2 hmem
  obtain ⟨h1, h2⟩ := fstAt_split hlt
  obtain ⟨k, hk⟩ : ∃ k, fstAt 32 s.data.toList = k := ⟨_, rfl⟩
  rw [hk] at h1 h2 hlt
  have hat : s.data.toList[k]? = some 32 := by
    conv => lhs; rw [h1]
    rw [List.getElem?_append_right (by simp; omega)]
    simp [List.length_take, show min k s.size = k by omega]
  have hbef : ∀ i, i < k → s.data.toList.getD i 0 ≠ 32 := by
    intro i hi he
    apply h2
    rw [List.getD_eq_getElem?_getD, List.getElem?_eq_getElem (by omega)] at he
    exact List.mem_iff_getElem.2 ⟨i, by rw [List.length_take]; omega, by rw [List.getElem_take]; exact he⟩
  have hka : hd ≤ k := by
    rcases Nat.lt_or_ge k hd with hlt2 | hge
    · exfalso
      exact SpecParse.head_no hz k hlt2 (by rw [List.getD_eq_getElem?_getD, hat]; rfl)
    · exact hge
  have hat2 : s.data.toList.getD k 0 = 32 := by rw [List.getD_eq_getElem?_getD, hat]; rfl
  obtain ⟨n1, n2⟩ := SpecParse.name_rest hz hka (by omega) (fun i _ hi => hbef i hi) hat2
  exact ⟨k, by rw [idxOf_some (by rw [hk]; exact hlt), hk], hka, by omega, n1, n2⟩
theorem out_shape {r : Option (Option MV)} {loc : Value} {e : Ending} {w' : World} (h : Out r loc e w') : ∃ v1 v2, e = .returned (.tuple #[v1, v2]) := by
  rcases h with ⟨T, p, h1, h2⟩ | ⟨g, l, h1, h2, -, -⟩ | ⟨d, h1, -, -⟩
  · exact ⟨_, _, h1⟩
  · exact ⟨_, _, h1⟩
  · exact ⟨_, _, h1⟩
theorem built_spec (a b c d e f : Int) (p : Option Addr) : Tryz.prog.built 100 [(0, .int .u64 a), (1, .int .u64 b), (2, .int .u64 c), (3, .int .u64 d), (4, .int .u64 e), (5, .int .u64 f), (6, .pointer p)] = some #[.int .u64 a, .int .u64 b, .int .u64 c, .int .u64 d, .int .u64 e, .int .u64 f, .pointer p] := by kernel_rfl
section
variable {ops : Array Oper} {rest : List Oper} {o : Oper} {a : Act} {w : World} {Q : Exit → Act → World → Prop}
theorem wpList_build_spec (hg : o.guard = none) (y0 y1 y2 y3 y4 y5 y6 : Operand) (ho : o.op = .build 100 #[(0, y0), (1, y1), (2, y2), (3, y3), (4, y4), (5, y5), (6, y6)]) (x0 x1 x2 x3 x4 x5 : Int) (p : Option Addr)
    (h0 : a.eval y0 = .int .u64 x0) (h1 : a.eval y1 = .int .u64 x1) (h2 : a.eval y2 = .int .u64 x2) (h3 : a.eval y3 = .int .u64 x3) (h4 : a.eval y4 = .int .u64 x4) (h5 : a.eval y5 = .int .u64 x5) (h6 : a.eval y6 = .pointer p)
    (h : wpList Tryz.prog ops Q rest (a.put o.dst (.agg #[.int .u64 x0, .int .u64 x1, .int .u64 x2, .int .u64 x3, .int .u64 x4, .int .u64 x5, .pointer p])) w) : wpList Tryz.prog ops Q (o :: rest) a w := by
  have hb := built_spec x0 x1 x2 x3 x4 x5 p
  refine wpList_build hg 100 _ ho (by simp [h0, h1, h2, h3, h4, h5, h6, hb]) ?_
  simpa [h0, h1, h2, h3, h4, h5, h6, hb] using h
end
theorem eq_sign {s : ByteArray} {hd : Nat} (hh : hd = 3 ∨ hd = 8) (hz : zoneHead s.data.toList = hd) : idxOf 61 s.data.toList = ((hd - 1 : Nat) : Int) := by
  have key : ∀ (p l : List UInt8) (k : Nat), starts p l = true → k < p.length → p[k]? = some 61 → 61 ∉ p.take k → idxOf 61 l = (k : Int) := by
    intro p l k hs hk h1 h2
    unfold starts at hs
    have hs : l.take p.length = p := by simpa using hs
    have hlk : l[k]? = some 61 := by
      rw [← hs, List.getElem?_take, if_pos hk] at h1
      exact h1
    have htk : l.take k = p.take k := by rw [← hs, List.take_take, Nat.min_eq_left (by omega)]
    have hfa := fstAt_at (c := 61) (l := l) (k := k) (by rw [htk]; exact h2) hlk
    have hkl : k < l.length := by
      rcases Nat.lt_or_ge k l.length with h | h
      · exact h
      · rw [List.getElem?_eq_none h] at hlk; cases hlk
    rw [idxOf_some (by rw [hfa]; exact hkl), hfa]
  unfold zoneHead at hz
  split at hz
  · rename_i h1
    subst hz
    exact key tzB _ 2 h1 (by decide) (by decide) (by decide)
  · split at hz
    · rename_i h1
      subst hz
      exact key cronB _ 7 h1 (by decide) (by decide) (by decide)
    · omega
theorem zone_bits (l : List UInt8) : zoneHead l = 0 ↔ (starts tzB l || starts cronB l) = false := by
  unfold zoneHead
  cases starts tzB l <;> cases starts cronB l <;> simp
set_option maxHeartbeats 20000000 in
set_option maxRecDepth 100000 in
theorem parse_all (o : Nat) (s : ByteArray) (w : World) (ho : o < 512) (hs : s.size ≤ 65536) (hna : noAnswer s.data.toList = false) (hv : ErrVars w) (hl : LeadErr w) (hlo : LocErr w) (hT : Lib.Utf8Tabs 2 3 w) :
    Calls Tryz.prog 31 #[.agg #[.int .i64 (o : Int)], .string s] w fun e w' => (∃ pa, pa.isSome = utcOf s.data.toList ∧ Out (mean (o : Int) s.data.toList) (.pointer pa) e w') ∧ Below w.heap.size w w' := by
  by_cases hs0 : s.size = 0
  · have hl0 := ParseCron.nil_size hs0
    refine (parse_empty (o : Int) s w hs0).mono ?_
    rintro e w' ⟨⟨T, p, h1⟩, h2⟩
    have hz : zoneHead s.data.toList = 0 := by rw [hl0]; rfl
    refine ⟨⟨none, ?_, .inl ⟨T, p, h1, fun m => ?_⟩⟩, h2⟩
    · unfold utcOf; rw [if_pos hz]; rfl
    · unfold mean; rw [if_pos hz, if_pos hl0]; simp
  have hsm : s.size ≤ maxLen := by unfold maxLen; omega
  have hsl : s.data.toList ≠ [] := DurKept.ne_nil (by omega)
  obtain ⟨b1, hb1⟩ : ∃ b, starts tzB s.data.toList = b := ⟨_, rfl⟩
  obtain ⟨b2, hb2⟩ : ∃ b, starts cronB s.data.toList = b := ⟨_, rfl⟩
  have hzb := zone_bits s.data.toList
  rw [hb1, hb2] at hzb
  have HZB := Lib.hid hzb
  have H1 : Hid (∀ w, Calls Tryz.prog 54 #[.string s, .string ⟨#[84, 90, 61]⟩] w fun e w' => e = .returned (.bool b1) ∧ w = w') := Lib.hid (fun w => by
    have := hasPrefix_any s ⟨#[84, 90, 61]⟩ w hsm (by decide); rwa [show (⟨#[84, 90, 61]⟩ : ByteArray).data.toList = tzB from rfl, hb1] at this)
  have H2 : Hid (∀ w, Calls Tryz.prog 54 #[.string s, .string ⟨#[67, 82, 79, 78, 95, 84, 90, 61]⟩] w fun e w' => e = .returned (.bool b2) ∧ w = w') := Lib.hid (fun w => by
    have := hasPrefix_any s ⟨#[67, 82, 79, 78, 95, 84, 90, 61]⟩ w hsm (by decide); rwa [show (⟨#[67, 82, 79, 78, 95, 84, 90, 61]⟩ : ByteArray).data.toList = cronB from rfl, hb2] at this)
  have HNA := Lib.hid hna
  have HV := Lib.hid hv
  have HL := Lib.hid hl
  have HLO := Lib.hid hlo
  have HT := Lib.hid hT
  have HSL := Lib.hid hsl
  have HE := Lib.hid (fun t w => errNew_any t w)
  have hz : ((s.size : Int) == 0) = false := beq_eq_false_iff_ne.2 (by omega)
  have hmf : ∀ (fn : Fn) (first cap : Array Value) (w : World), (Instr.makeFunc fn first cap).run Tryz.prog w = .ok (.func fn first cap) w := fun _ _ _ _ => rfl
  obtain ⟨mr, hmr⟩ : ∃ mr, mean (o : Int) s.data.toList = mr := ⟨_, rfl⟩
  obtain ⟨ut, hut⟩ : ∃ ut, utcOf s.data.toList = ut := ⟨_, rfl⟩
  rw [hmr, hut]
  have HMR := Lib.hid hmr
  have HUT := Lib.hid hut
  have HG := Lib.hid (Blk.new w #[.int .i64 (o : Int)] 73)
  have HBA := Lib.hid ((Below.refl w.heap.size w).alloc (Nat.le_refl _) (.cells #[.int .i64 (o : Int)] 73))
  clear hb1 hb2 hzb hna hv hl hlo hT hsl hsm hmr hut hs0
  go_enter Tryz.func31, Tryz.ntmps31
  go_upto_region 4 with fail
  refine name_world fun W0 hW0 => ?_
  have G00 : Hid (Blk W0 w.heap.size #[.int .i64 (o : Int)]) := Lib.hid (by rw [hW0]; exact HG.out)
  have HB00 : Hid (Below w.heap.size w W0) := Lib.hid (by rw [hW0]; exact HBA.out)
  clear hW0 HG HBA
  go_cut [28] (fun b wx => b = .bool (b1 || b2) ∧ wx = W0)
  case first =>
   as_aux_lemma =>
    cases b1 with
    | true =>
      go_wp2_with (go_at_call 54; (with_reducible refine (H1.out _).mono ?_); rintro e w' ⟨rfl, rfl⟩)
      go_meet
      case rel => exact ⟨rfl, rfl⟩
    | false =>
      go_wp2_with (go_at_call 54; (first | (with_reducible refine (H1.out _).mono ?_) | (with_reducible refine (H2.out _).mono ?_)); rintro e w' ⟨rfl, rfl⟩)
      go_meet
      case rel => exact ⟨rfl, rfl⟩
  case rest =>
   as_aux_lemma =>
    obtain ⟨rfl, rfl⟩ := hcut
    obtain ⟨W0, rfl⟩ : ∃ W0, W0 = wc := ⟨_, rfl⟩
    go_upto_if 28 with fail
    obtain ⟨bz, hbz⟩ : ∃ bz, (b1 || b2) = bz := ⟨_, rfl⟩
    have HBZ := HZB
    rw [hbz] at HBZ ⊢
    clear hbz HZB H1 H2
    go_cut [1, 6] (fun v1 v6 wx => ∃ (t : ByteArray) (pa : Option Addr), v1 = .string t ∧ v6 = .pointer pa ∧ t.size ≤ 65536 ∧ Hid (pa.isSome = ut) ∧ Hid (mr = some none ∨ mr = mvAll (o : Int) t.data.toList) ∧ Hid (Below w.heap.size w wx) ∧ Hid (Blk wx w.heap.size #[.int .i64 (o : Int)]))
    case first =>
     as_aux_lemma =>
      cases bz with
      | false =>
        have hz0 := HBZ.out.2 rfl
        have HM : Hid (mr = mvAll (o : Int) s.data.toList) := Lib.hid (by rw [← HMR.out]; unfold mean; rw [if_pos hz0, if_neg HSL.out])
        have HU : Hid ((none : Option Addr).isSome = ut) := Lib.hid (by rw [← HUT.out]; unfold utcOf; rw [if_pos hz0]; rfl)
        clear hz0
        go_wp2
        go_meet
        case rel => exact ⟨s, none, rfl, rfl, hs, HU, Lib.hid (.inr HM.out), HB00, G00⟩
      | true =>
        have hz0 : ¬ zoneHead s.data.toList = 0 := fun h => by have := HBZ.out.1 h; cases this
        obtain ⟨hd, hhd⟩ : ∃ h, zoneHead s.data.toList = h := ⟨_, rfl⟩
        have hh : hd = 3 ∨ hd = 8 := by
          rcases SpecParse.zone_cases s.data.toList with h | h
          · exact absurd h hz0
          · omega
        obtain ⟨k, hk1, hk2, hk3, hk4, hk5⟩ := first_space hh hhd HNA.out
        have hes := eq_sign hh hhd
        have HI1 : Hid (∀ w, Calls Tryz.prog 55 #[.string s, .string ⟨#[32]⟩] w fun e w' => e = .returned (.int .i64 (k : Int)) ∧ w = w') := Lib.hid (fun w => by rw [← hk1]; exact index_any s 32 w hs)
        have HI2 : Hid (∀ w, Calls Tryz.prog 55 #[.string s, .string ⟨#[61]⟩] w fun e w' => e = .returned (.int .i64 ((hd - 1 : Nat) : Int)) ∧ w = w') := Lib.hid (fun w => by rw [← hes]; exact index_any s 61 w hs)
        obtain ⟨h1, hh1⟩ : ∃ h1, hd - 1 = h1 := ⟨_, rfl⟩
        rw [hh1] at HI2
        obtain rfl : hd = h1 + 1 := by omega
        have hki : ((h1 : Int) + 1) ≤ (k : Int) := by omega
        have hks : (k : Int) ≤ (s.size : Int) := by omega
        have HLD : Hid (∀ w, LocErr w → Calls Tryz.prog 56 #[.string (s.extract (h1 + 1) k)] w fun e w' => LocRes (zname (nameOf s.data.toList)) e ∧ Below w.heap.size w w') := Lib.hid (fun w hv => by
          rw [hk4]; exact load_any (s.extract (h1 + 1) k) w (by simp; omega) hv)
        have HTR := Lib.hid (fun w hT => trim_any (s.extract k s.size) w (by simp; omega) hT)
        have HLE := Lib.hid (HLO.out.below HB00.out)
        have HRES : Hid (mr = zoned (zname (nameOf s.data.toList)) (restM (o : Int) s.data.toList)) := Lib.hid (by rw [← HMR.out]; unfold mean; rw [if_neg hz0, if_neg (by rw [HNA.out]; decide)])
        have HUR : Hid ((zname (nameOf s.data.toList) == some true) = ut) := Lib.hid (by rw [← HUT.out]; unfold utcOf; rw [if_neg hz0])
        have HK5 := Lib.hid hk5
        clear hk1 hk4 hk5 hes hh1 hhd hz0 hh
        obtain ⟨zn, hzn⟩ : ∃ zn, zname (nameOf s.data.toList) = zn := ⟨_, rfl⟩
        rw [hzn] at HLD HRES HUR
        clear hzn
        cases zn with
        | none =>
          have HM : Hid (mr = none) := HRES
          have HU : Hid ((none : Option Addr).isSome = ut) := HUR
          go_wp2_with (first
            | (go_at_call 55; (first | (with_reducible refine (HI1.out _).mono ?_) | (with_reducible refine (HI2.out _).mono ?_)); rintro e w' ⟨rfl, rfl⟩)
            | (go_at_call 56; refine (HLD.out _ HLE.out).mono ?_; rintro e w1 ⟨hr, hb1⟩; obtain ⟨T, p, rfl⟩ := hr; have HB1 := Lib.hid (HB00.out.trans (hb1.mono HB00.out.size)); clear hb1)
            | (go_at_call 53; refine (HE.out _ _).mono ?_; rintro e w2 ⟨⟨T2, p2, rfl⟩, hb2⟩; have HB2 := Lib.hid (HB1.out.trans (hb2.mono HB1.out.size)); clear hb2))
          go_ret2
          exact ⟨⟨none, HU.out, .inl ⟨_, _, rfl, fun m => by rw [HM.out]; simp⟩⟩, HB2.out⟩
        | some u =>
          have HM : Hid (mr = restM (o : Int) s.data.toList) := HRES
          have HREL : Hid (∀ t : ByteArray, (Asc (s.extract k s.size) → t.data.toList = trimL (s.extract k s.size).data.toList) → (mr = some none ∨ mr = mvAll (o : Int) t.data.toList)) := Lib.hid (fun t ht => by
            rw [HM.out]
            unfold restM
            cases hf : foreign (trimL (restOf s.data.toList)) with
            | true => left; rfl
            | false =>
              right
              have := ht (fun b hb => trim_foreign hf b (by rw [HK5.out]; exact hb))
              rw [this, HK5.out]
              rfl)
          have HPA : Hid (∀ e, LocRes (some u) e → ∃ pa : Option Addr, e = .returned (.tuple #[.pointer pa, .nilIface]) ∧ pa.isSome = ut) := Lib.hid (fun e h => by
            have h2 := HUR.out
            cases u with
            | true => obtain ⟨a, h⟩ := h; exact ⟨some a, h, h2⟩
            | false => exact ⟨none, h, h2⟩)
          clear HRES HUR
          go_wp2_with (first
            | (go_at_call 55; (first | (with_reducible refine (HI1.out _).mono ?_) | (with_reducible refine (HI2.out _).mono ?_)); rintro e w' ⟨rfl, rfl⟩)
            | (go_at_call 56; refine (HLD.out _ HLE.out).mono ?_; rintro e w1 ⟨hr, hb1⟩; obtain ⟨pa, rfl, hpa⟩ := HPA.out _ hr; have HB1 := Lib.hid (HB00.out.trans (hb1.mono HB00.out.size)); have G1 := Lib.hid (G00.out.after hb1); have HPS := Lib.hid hpa; clear hb1 hr hpa)
            | (go_at_call 57; refine (HTR.out _ (Go.Proofs.Utf8Tabs_below HT.out HB1.out)).mono ?_; rintro e w2 ⟨⟨t, rfl, hts, htr⟩, hb2⟩; have HB2 := Lib.hid (HB1.out.trans (hb2.mono HB1.out.size)); have G2 := Lib.hid (G1.out.after hb2); have HTS := Lib.hid (HREL.out t htr); have htsz : t.size ≤ 65536 := Nat.le_trans hts (Nat.le_trans (show (s.extract k s.size).size ≤ s.size by simp) hs); clear hb2 htr hts))
          go_meet
          case rel => exact ⟨t, pa, rfl, rfl, htsz, HPS, HTS, HB2, G2⟩
    case rest =>
     as_aux_lemma =>
      obtain ⟨t, pa, rfl, rfl, hts, HPA, HMT, HB0, G0⟩ := hcut
      obtain ⟨wx, rfl⟩ : ∃ wx, wx = wc := ⟨_, rfl⟩
      have htm : t.size ≤ maxLen := by unfold maxLen; omega
      have c0x := G0.out.cell (j := 0) (v := .int .i64 (o : Int)) rfl
      have H3 : Hid (∀ w, Calls Tryz.prog 54 #[.string t, .string ⟨#[64]⟩] w fun e w' => e = .returned (.bool (starts [64] t.data.toList)) ∧ w = w') := Lib.hid (fun w => hasPrefix_any t ⟨#[64]⟩ w htm (by decide))
      clear htm HBZ HMR HUT
      cases hat : starts [64] t.data.toList with
      | true =>
       as_aux_lemma =>
        rw [hat] at H3
        cases htk : (Go.bits .and .i64 (o : Int) 256 == 0) with
        | true =>
          have HNO : Hid (∀ m, mr ≠ some (some m)) := Lib.hid (fun m => by
            rcases HMT.out with h | h
            · rw [h]; simp
            · rw [h]; unfold mvAll takesAt; rw [if_pos hat, htk]; simp)
          clear hat
          go_wp2_with (first
            | (go_at_call 54; (with_reducible refine (H3.out _).mono ?_); rintro e w' ⟨rfl, rfl⟩)
            | (go_at_call 53; refine (HE.out _ _).mono ?_; rintro e w2 ⟨⟨T2, p2, rfl⟩, hb2⟩; have HB2 := Lib.hid (HB0.out.trans (hb2.mono HB0.out.size)); clear hb2))
          go_ret2
          exact ⟨⟨pa, HPA.out, .inl ⟨_, _, rfl, HNO.out⟩⟩, HB2.out⟩
        | false =>
          have HD := Lib.hid (fun w hv => desc_any t pa w hts hv)
          have HRES : Hid (∀ e w', Out (mvDesc t.data.toList) (.pointer pa) e w' → Out mr (.pointer pa) e w') := Lib.hid (fun e w' h => by
            rcases HMT.out with h2 | h2
            · rw [h2]; exact out_open h
            · rw [h2]; unfold mvAll takesAt; rw [if_pos hat, htk]; exact h)
          have HLX := Lib.hid (HL.out.below HB0.out)
          clear hat
          go_wp2_with (first
            | (go_at_call 54; (with_reducible refine (H3.out _).mono ?_); rintro e w' ⟨rfl, rfl⟩)
            | (go_at_call 58; refine (HD.out _ HLX.out).mono ?_; rintro e w2 ⟨hr, hb2⟩; have HR := Lib.hid (HRES.out _ _ hr); have HSH := Lib.hid (out_shape hr); obtain ⟨v1, v2, rfl⟩ := HSH.out; have HB2 := Lib.hid (HB0.out.trans (hb2.mono HB0.out.size)); clear hb2 hr))
          go_ret2
          exact ⟨⟨pa, HPA.out, HR.out⟩, HB2.out⟩
      | false =>
       as_aux_lemma =>
        rw [hat] at H3
        obtain ⟨ws, hws⟩ : ∃ ws, cw t = ws := ⟨_, rfl⟩
        have HW := Lib.hid (fun w => cw_any t w hts)
        have hl := cw_len t hts
        have HP := Lib.hid (cw_size t hts)
        have hno : ofWords (o : Int) ws = none → ∀ m, mr ≠ some (some m) := fun h m => by
          rcases HMT.out with h2 | h2
          · rw [h2]; simp
          · rw [h2]; unfold mvAll; rw [hat, if_neg (by decide)]; exact plain_no (by rw [hws]; exact h) m
        have hok : ∀ l, ofWords (o : Int) ws = some l → mr ≠ none ∧ ∀ m, mr = some (some m) → ∃ LL, m = .sets LL ∧ l = numsOf LL 6 := fun l h => by
          rcases HMT.out with h2 | h2
          · rw [h2]; exact ⟨by simp, fun m hm => by simp at hm⟩
          · rw [h2]; unfold mvAll; rw [hat, if_neg (by decide)]; exact plain_ok (by rw [hws]; exact h)
        rw [hws] at HW hl HP
        clear hat hws
        cases hf : fillOf (o : Int) (ws.map ofL) with
        | none =>
          have HNO : Hid (∀ m, mr ≠ some (some m)) := Lib.hid (hno (by unfold ofWords; rw [hf]))
          have HF := Lib.hid hf
          clear hf hno hok
          go_wp2_with (first
            | (go_at_call 54; (with_reducible refine (H3.out _).mono ?_); rintro e w' ⟨rfl, rfl⟩)
            | (go_at_call 59; refine (HW.out _).mono ?_; rintro e w1 ⟨⟨v, rfl, hown, hvn⟩, hb1⟩; have g0 := G0.out.after hb1; have c0 := g0.cell (j := 0) (v := .int .i64 (o : Int)) rfl; have hz1 : w.heap.size < w1.heap.size := g0.lt; have hx1 : wx.heap.size ≤ w1.heap.size := hb1.size; have HOWN := Lib.hid hown; have HVN := Lib.hid hvn; have HB1 : Hid (Below w.heap.size w w1) := Lib.hid (HB0.out.trans (hb1.mono HB0.out.size)); clear hown hvn hb1 g0)
            | (go_at_call 60; refine (norm_words o ho ws (wx.heap.size + 1) v _ hl (HOWN.out.alloc _) HVN.out (show wx.heap.size + 1 ≤ (w1.alloc _).heap.size by simp; omega) w1.heap.size .nilIface (Blk.new w1 _ _) (apart HOWN.out HVN.out)).mono ?_; rintro e w2 ⟨hn, hb2, hE2⟩; rw [HF.out] at hn; obtain ⟨T, p, rfl⟩ := hn; have c2 := hE2.cell (j := 0) (v := .nilIface) rfl; have c3 := hE2.free 0; have HBW : Hid (Below w.heap.size w w2) := Lib.hid ((HB1.out.alloc (by omega) _).trans (hb2.mono (by have := HB0.out.size; omega))); have HE2 := Lib.hid hE2; clear hb2 hE2))
          go_quiet (fail)
          go_wp2
          go_ret2
          exact ⟨⟨pa, HPA.out, .inl ⟨_, _, rfl, HNO.out⟩⟩, drewNd ((HBW.out).setCell (by simp; omega) _) _⟩
        | some L =>
          have HSZ : Hid (∀ k, (L.getD k ⟨#[]⟩).size ≤ 65536) := Lib.hid (fill_size (fun p hp => by obtain ⟨q, hq, rfl⟩ := List.mem_map.1 hp; rw [size_ofL]; exact HP.out q hq) hf)
          have HLA := Lib.hid (lists_at L)
          have HF := Lib.hid hf
          obtain ⟨fL, hfL⟩ : ∃ fL : Nat → ByteArray, (fun k => L.getD k ⟨#[]⟩) = fL := ⟨_, rfl⟩
          have HSZ : Hid (∀ k, (fL k).size ≤ 65536) := Lib.hid (fun k => by rw [← hfL]; exact HSZ.out k)
          obtain ⟨LL, hLL⟩ : ∃ LL : List (List UInt8), L.map (fun s => s.data.toList) = LL := ⟨_, rfl⟩
          have HLA : Hid (∀ k, LL.getD k [] = (fL k).data.toList) := Lib.hid (fun k => by rw [← hfL, ← hLL]; exact HLA.out k)
          obtain ⟨rr, hrr⟩ : ∃ rr, six LL 6 = rr := ⟨_, rfl⟩
          have hofw : ofWords (o : Int) ws = rr := by unfold ofWords; rw [hf]; simp only; rw [hLL, hrr]
          rw [hofw] at hno hok
          have HNO := Lib.hid hno
          have HOK := Lib.hid hok
          have HRR := Lib.hid hrr
          have HFL := Lib.hid hfL
          clear hf hfL hLL hrr hofw hno hok
          go_wp2_with (first
            | (go_at_call 54; (with_reducible refine (H3.out _).mono ?_); rintro e w' ⟨rfl, rfl⟩)
            | (go_at_call 59; refine (HW.out _).mono ?_; rintro e w1 ⟨⟨v, rfl, hown, hvn⟩, hb1⟩; have g0 := G0.out.after hb1; have c0 := g0.cell (j := 0) (v := .int .i64 (o : Int)) rfl; have hz1 : w.heap.size < w1.heap.size := g0.lt; have hx1 : wx.heap.size ≤ w1.heap.size := hb1.size; have HOWN := Lib.hid hown; have HVN := Lib.hid hvn; have HB1 : Hid (Below w.heap.size w w1) := Lib.hid (HB0.out.trans (hb1.mono HB0.out.size)); clear hown hvn hb1 g0)
            | (go_at_call 60; refine (norm_words o ho ws (wx.heap.size + 1) v _ hl (HOWN.out.alloc _) HVN.out (show wx.heap.size + 1 ≤ (w1.alloc _).heap.size by simp; omega) w1.heap.size .nilIface (Blk.new w1 _ _) (apart HOWN.out HVN.out)).mono ?_; rintro e w2 ⟨hn, hb2, hE2⟩; rw [HF.out] at hn; obtain ⟨g6, rfl, hg6, hrow⟩ := hn; have c2 := hE2.cell (j := 0) (v := .nilIface) rfl; have c3 := hE2.free 0; have HROW : Hid (RowAt w2 g6 fL) := Lib.hid (by rw [← HFL.out]; exact hrow); have HBW : Hid (Below w.heap.size w w2) := Lib.hid ((HB1.out.alloc (by omega) _).trans (hb2.mono (by have := HB0.out.size; omega))); have HE2 := Lib.hid hE2; clear hb2 hE2 hg6 hrow))
          refine name_world fun X0 hX0 => ?_
          have HS0 : Hid (Sofar w w1.heap.size g6 fL LL 0 [] .nilIface X0) := Lib.hid (by
            rw [hX0]
            have hr : RowAt (w2.setCell ⟨w1.heap.size, 0, none⟩ .nilIface) g6 fL := HROW.out.other _ _ (row_apart HROW.out HE2.out)
            exact six_start (HBW.out.setCell (by simp; omega) _) (by omega) (HE2.out.set 0 _) hr)
          clear hX0 c2 c3 HBW HE2 HROW
          go_region_held3 (fun Y => Y.cell? ⟨g6, 0, none⟩ = some (.string (fL 0))) (first | exact HS1.out.text 0 (by decide) (Below.refl _ _) | exact HS0.out.text 0 (by decide) (by repeat (first | exact Below.refl _ _ | assumption | refine Below.drew ?_ | refine allocd ?_ _)))
            ((first
              | (go_at_call 63; (with_reducible refine (seconds_b _ (HS0.out.vars HV.out (by repeat (first | exact Below.refl _ _ | assumption | refine Below.drew ?_ | refine allocd ?_ _)))).mono ?_); rintro e y ⟨he, hby⟩; obtain ⟨m, rfl, hn⟩ := he; have hby := chain (V := X0) (by repeat (first | exact Below.refl _ _ | assumption | refine Below.drew ?_ | refine allocd ?_ _)) hby; have HN0 := Lib.hid hn; clear hn)
              | (go_at_call 61; (with_reducible refine (next_field HS0.out (by repeat (first | exact Below.refl _ _ | assumption | refine Below.drew ?_ | refine allocd ?_ _)) HV.out (by decide) HLA.out (HSZ.out 0) _ HN0.out).mono ?_); rintro e X1 he; obtain ⟨x0, ev0, rfl, hsk⟩ := he; have HS1 := Lib.hid hsk; clear hsk)))
          go_wp2_with fail
          go_region_held3 (fun Y => Y.cell? ⟨g6, 1, none⟩ = some (.string (fL 1))) (first | exact HS2.out.text 1 (by decide) (Below.refl _ _) | exact HS1.out.text 1 (by decide) (by repeat (first | exact Below.refl _ _ | assumption | refine Below.drew ?_ | refine allocd ?_ _)))
            ((first
              | (go_at_call 64; (with_reducible refine (minutes_b _ (HS1.out.vars HV.out (by repeat (first | exact Below.refl _ _ | assumption | refine Below.drew ?_ | refine allocd ?_ _)))).mono ?_); rintro e y ⟨he, hby⟩; obtain ⟨m, rfl, hn⟩ := he; have hby := chain (V := X1) (by repeat (first | exact Below.refl _ _ | assumption | refine Below.drew ?_ | refine allocd ?_ _)) hby; have HN1 := Lib.hid hn; clear hn)
              | (go_at_call 61; (with_reducible refine (next_field HS1.out (by repeat (first | exact Below.refl _ _ | assumption | refine Below.drew ?_ | refine allocd ?_ _)) HV.out (by decide) HLA.out (HSZ.out 1) _ HN1.out).mono ?_); rintro e X2 he; obtain ⟨x1, ev1, rfl, hsk⟩ := he; have HS2 := Lib.hid hsk; clear hsk)))
          go_wp2_with fail
          go_region_held3 (fun Y => Y.cell? ⟨g6, 2, none⟩ = some (.string (fL 2))) (first | exact HS3.out.text 2 (by decide) (Below.refl _ _) | exact HS2.out.text 2 (by decide) (by repeat (first | exact Below.refl _ _ | assumption | refine Below.drew ?_ | refine allocd ?_ _)))
            ((first
              | (go_at_call 65; (with_reducible refine (hours_b _ (HS2.out.vars HV.out (by repeat (first | exact Below.refl _ _ | assumption | refine Below.drew ?_ | refine allocd ?_ _)))).mono ?_); rintro e y ⟨he, hby⟩; obtain ⟨m, rfl, hn⟩ := he; have hby := chain (V := X2) (by repeat (first | exact Below.refl _ _ | assumption | refine Below.drew ?_ | refine allocd ?_ _)) hby; have HN2 := Lib.hid hn; clear hn)
              | (go_at_call 61; (with_reducible refine (next_field HS2.out (by repeat (first | exact Below.refl _ _ | assumption | refine Below.drew ?_ | refine allocd ?_ _)) HV.out (by decide) HLA.out (HSZ.out 2) _ HN2.out).mono ?_); rintro e X3 he; obtain ⟨x2, ev2, rfl, hsk⟩ := he; have HS3 := Lib.hid hsk; clear hsk)))
          go_wp2_with fail
          go_region_held3 (fun Y => Y.cell? ⟨g6, 3, none⟩ = some (.string (fL 3))) (first | exact HS4.out.text 3 (by decide) (Below.refl _ _) | exact HS3.out.text 3 (by decide) (by repeat (first | exact Below.refl _ _ | assumption | refine Below.drew ?_ | refine allocd ?_ _)))
            ((first
              | (go_at_call 66; (with_reducible refine (dom_b _ (HS3.out.vars HV.out (by repeat (first | exact Below.refl _ _ | assumption | refine Below.drew ?_ | refine allocd ?_ _)))).mono ?_); rintro e y ⟨he, hby⟩; obtain ⟨m, rfl, hn⟩ := he; have hby := chain (V := X3) (by repeat (first | exact Below.refl _ _ | assumption | refine Below.drew ?_ | refine allocd ?_ _)) hby; have HN3 := Lib.hid hn; clear hn)
              | (go_at_call 61; (with_reducible refine (next_field HS3.out (by repeat (first | exact Below.refl _ _ | assumption | refine Below.drew ?_ | refine allocd ?_ _)) HV.out (by decide) HLA.out (HSZ.out 3) _ HN3.out).mono ?_); rintro e X4 he; obtain ⟨x3, ev3, rfl, hsk⟩ := he; have HS4 := Lib.hid hsk; clear hsk)))
          go_wp2_with fail
          go_region_held3 (fun Y => Y.cell? ⟨g6, 4, none⟩ = some (.string (fL 4))) (first | exact HS5.out.text 4 (by decide) (Below.refl _ _) | exact HS4.out.text 4 (by decide) (by repeat (first | exact Below.refl _ _ | assumption | refine Below.drew ?_ | refine allocd ?_ _)))
            ((first
              | (go_at_call 67; (with_reducible refine (months_b _ (HS4.out.vars HV.out (by repeat (first | exact Below.refl _ _ | assumption | refine Below.drew ?_ | refine allocd ?_ _)))).mono ?_); rintro e y ⟨he, hby⟩; obtain ⟨m, rfl, hn⟩ := he; have hby := chain (V := X4) (by repeat (first | exact Below.refl _ _ | assumption | refine Below.drew ?_ | refine allocd ?_ _)) hby; have HN4 := Lib.hid hn; clear hn)
              | (go_at_call 61; (with_reducible refine (next_field HS4.out (by repeat (first | exact Below.refl _ _ | assumption | refine Below.drew ?_ | refine allocd ?_ _)) HV.out (by decide) HLA.out (HSZ.out 4) _ HN4.out).mono ?_); rintro e X5 he; obtain ⟨x4, ev4, rfl, hsk⟩ := he; have HS5 := Lib.hid hsk; clear hsk)))
          go_wp2_with fail
          go_region_held3 (fun Y => Y.cell? ⟨g6, 5, none⟩ = some (.string (fL 5))) (first | exact HS6.out.text 5 (by decide) (Below.refl _ _) | exact HS5.out.text 5 (by decide) (by repeat (first | exact Below.refl _ _ | assumption | refine Below.drew ?_ | refine allocd ?_ _)))
            ((first
              | (go_at_call 68; (with_reducible refine (dow_b _ (HS5.out.vars HV.out (by repeat (first | exact Below.refl _ _ | assumption | refine Below.drew ?_ | refine allocd ?_ _)))).mono ?_); rintro e y ⟨he, hby⟩; obtain ⟨m, rfl, hn⟩ := he; have hby := chain (V := X5) (by repeat (first | exact Below.refl _ _ | assumption | refine Below.drew ?_ | refine allocd ?_ _)) hby; have HN5 := Lib.hid hn; clear hn)
              | (go_at_call 61; (with_reducible refine (next_field HS5.out (by repeat (first | exact Below.refl _ _ | assumption | refine Below.drew ?_ | refine allocd ?_ _)) HV.out (by decide) HLA.out (HSZ.out 5) _ HN5.out).mono ?_); rintro e X6 he; obtain ⟨x5, ev5, rfl, hsk⟩ := he; have HS6 := Lib.hid hsk; clear hsk)))
          have cE := HS6.out.err (Below.refl _ _)
          have HB6 := Lib.hid HS6.out.1
          have hst := HS6.out.2.2.2.2.2
          simp only [Nat.zero_add, Nat.reduceAdd, List.nil_append, List.cons_append] at hst
          rw [HRR.out] at hst
          cases rr with
          | none =>
            obtain ⟨T, p, rfl⟩ := hst
            go_wp2
            go_quiet (fail)
            go_wp2
            go_ret2
            exact ⟨⟨pa, HPA.out, .inl ⟨_, _, rfl, HNO.out (by trivial)⟩⟩, drewNd HB6.out _⟩
          | some r =>
            obtain ⟨rfl, rfl⟩ := hst
            go_wp2_with (with_reducible refine wpList_build_spec rfl (.tmp 113) (.tmp 114) (.tmp 115) (.tmp 116) (.tmp 117) (.tmp 118) (.tmp 119) rfl x0 x1 x2 x3 x4 x5 pa rfl rfl rfl rfl rfl rfl rfl ?_)
            go_ret2
            exact ⟨⟨pa, HPA.out, .inr (.inl ⟨X6.heap.size, [x0, x1, x2, x3, x4, x5], rfl, Blk.new X6 _ _, HOK.out _ rfl⟩)⟩, (HB6.out.alloc HB6.out.size _)⟩
end Go.Proofs.YtmnjmhlodbifjaaGreatDoor.ParseAll
