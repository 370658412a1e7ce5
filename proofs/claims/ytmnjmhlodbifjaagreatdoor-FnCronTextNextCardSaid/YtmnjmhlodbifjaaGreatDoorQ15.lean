/- The reference's names of months and days: cronUpper, cronSame, CronName, CronValue. Conditions: texts of at most 65536 bytes. · The reference's CronFields as 384 cells: laws for its making, storing and loading. Conditions: none. -/
import Derived.Test.YtmnjmhlodbifjaaGreatDoorQ14
import Derived.Test.YtmnjmhlodbifjaaGreatDoorQ12
import Derived.Deep.QuietTactic
import Derived.BigQuiet
import Derived.Test.YtmnjmhlodbifjaaGreatDoorQ2
import Derived.Test.YtmnjmhlodbifjaaGreatDoorQ11
import Derived.Deep.MidRow
import Derived.Below

namespace Go.Proofs.YtmnjmhlodbifjaaGreatDoor.SpecName
open Go Go.RowKit Go.Proofs.YtmnjmhlodbifjaaGreatDoor.Aid Go.Proofs.YtmnjmhlodbifjaaGreatDoor.NumPure Go.Proofs.YtmnjmhlodbifjaaGreatDoor.SplitPure Go.Proofs.YtmnjmhlodbifjaaGreatDoor.Split Go.Proofs.YtmnjmhlodbifjaaGreatDoor.Names Go.Proofs.YtmnjmhlodbifjaaGreatDoor.NameMap Go.Proofs.YtmnjmhlodbifjaaGreatDoor.Kind Go.Proofs.YtmnjmhlodbifjaaGreatDoor.PlainPure Go.Proofs.YtmnjmhlodbifjaaGreatDoor.NameRel Go.Proofs.YtmnjmhlodbifjaaGreatDoor.SpecEnds Go.Proofs.YtmnjmhlodbifjaaGreatDoor.SpecNum
set_option linter.unusedVariables false
def upB (b : UInt8) : UInt8 := if decide (97 ≤ b.toNat) && decide (b.toNat ≤ 122) then b - 32 else b
theorem upB_in : ∀ b : UInt8, 97 ≤ b.toNat → b.toNat ≤ 122 → (upB b).toNat + 32 = b.toNat := fun b => all8 (P := fun b => 97 ≤ b.toNat → b.toNat ≤ 122 → (upB b).toNat + 32 = b.toNat) (by decide +kernel) b
theorem upB_out {b : UInt8} (h : ¬ (97 ≤ b.toNat ∧ b.toNat ≤ 122)) : upB b = b := by
  unfold upB
  rw [if_neg]
  simpa using h
theorem low_up (b : UInt8) : low (upB b) = low b := all8 (P := fun b => low (upB b) = low b) (by decide +kernel) b
theorem up_low (b : UInt8) : upB (low b) = upB b := all8 (P := fun b => upB (low b) = upB b) (by decide +kernel) b
theorem upper_any (b : UInt8) (w : World) : Calls Tryz.prog 169 #[.int .u8 (b.toNat : Int)] w fun e w' => e = .returned (.int .u8 ((upB b).toNat : Int)) ∧ w' = w := by
  have h255 := b.toNat_lt
  by_cases h1 : 97 ≤ b.toNat
  · by_cases h2 : b.toNat ≤ 122
    · have H := Lib.hid (upB_in b h1 h2)
      have h1i : (97 : Int) ≤ (b.toNat : Int) := by omega
      have h2i : (b.toNat : Int) ≤ 122 := by omega
      have h3 : IntKind.u8.wrap ((b.toNat : Int) - 97) = (b.toNat : Int) - 97 := by simp [IntKind.wrap, IntKind.bits, IntKind.signed]; omega
      have h4 : IntKind.u8.wrap ((b.toNat : Int) - 97 + 65) = (b.toNat : Int) - 32 := by simp [IntKind.wrap, IntKind.bits, IntKind.signed]; omega
      go_enter Tryz.func169, Tryz.ntmps169
      go_wp2
      go_ret
      refine ⟨?_, rfl⟩
      have := H.out
      first
        | exact congrArg (fun x => Ending.returned (.int .u8 x)) (show (b.toNat : Int) - 32 = _ by omega)
        | exact congrArg (fun x => Ending.returned (.int .u8 x)) (show (b.toNat : Int) - 97 + 65 = _ by omega)
    · have H := Lib.hid (upB_out (b := b) (fun h => h2 h.2))
      go_enter Tryz.func169, Tryz.ntmps169
      go_wp2
      go_ret
      exact ⟨by rw [H.out]; rfl, rfl⟩
  · have H := Lib.hid (upB_out (b := b) (fun h => h1 h.1))
    go_enter Tryz.func169, Tryz.ntmps169
    go_wp2
    go_ret
    exact ⟨by rw [H.out]; rfl, rfl⟩
def same (a b : List UInt8) : Bool := a.map upB == b.map upB
theorem same_low (a b : List UInt8) : same a b = (a.map low == b.map low) := by
  unfold same
  rw [Bool.eq_iff_iff, beq_iff_eq, beq_iff_eq]
  constructor
  · intro h
    have := congrArg (List.map low) h
    simpa [List.map_map, Function.comp_def, low_up] using this
  · intro h
    have := congrArg (List.map upB) h
    simpa [List.map_map, Function.comp_def, up_low] using this
theorem map_take_snoc (s : ByteArray) (k : Nat) (h : k < s.size) : (s.data.toList.take (k + 1)).map upB = (s.data.toList.take k).map upB ++ [upB s[k]] := by
  rw [Split.take_snoc s k h]; simp
theorem same_len {a b : ByteArray} (h : a.size ≠ b.size) : same a.data.toList b.data.toList = false := by
  unfold same
  rw [beq_eq_false_iff_ne]
  intro e
  have := congrArg List.length e
  simp at this
  exact h this
theorem same_at {a b : ByteArray} (k : Nat) (ha : k < a.size) (hb : k < b.size) (h : upB a[k] ≠ upB b[k]) : same a.data.toList b.data.toList = false := by
  unfold same
  rw [beq_eq_false_iff_ne]
  intro e
  have h1 := congrArg (fun l => l[k]?) e
  simp only [List.getElem?_map] at h1
  rw [List.getElem?_eq_getElem (by simpa using ha), List.getElem?_eq_getElem (by simpa using hb)] at h1
  have h2 : upB (a.data[k]'ha) = upB (b.data[k]'hb) := by simpa using h1
  exact h h2
set_option maxHeartbeats 1000000 in
theorem same_any (a b : ByteArray) (w : World) (ha : a.size ≤ 65536) (hb : b.size ≤ 65536) :
    Calls Tryz.prog 164 #[.string a, .string b] w fun e w' => e = .returned (.bool (same a.data.toList b.data.toList)) ∧ ∃ n, w' = w.drewN n := by
  by_cases hl : a.size = b.size
  · have hq : ((a.size : Int) != (b.size : Int)) = false := by rw [bne_eq_false_iff_eq, hl]
    obtain ⟨r, hr⟩ : ∃ r, same a.data.toList b.data.toList = r := ⟨_, rfl⟩
    rw [hr]
    have HR := Lib.hid hr
    have HL := Lib.hid hl
    clear hr hl
    go_enter Tryz.func164, Tryz.ntmps164
    go_wp2
    clear hq
    go_loopw [13, 5] (fun i _ wr => ∃ k : Nat, i = .int .i64 (k : Int) ∧ k ≤ a.size ∧ Hid ((a.data.toList.take k).map upB = (b.data.toList.take k).map upB) ∧ Hid (∃ n, wr = w.drewN n)) (fun i _ _ => a.size - (intOf i).toNat)
    case atStart => exact ⟨0, rfl, Nat.zero_le _, Lib.hid (by simp), Lib.hid ⟨0, rfl⟩⟩
    case round =>
      obtain ⟨k, rfl, hk, HK, HW⟩ := hrel
      by_cases hlt : k < a.size
      · have hltb : k < b.size := by have := HL.out; omega
        have hli : (k : Int) < (a.size : Int) := by omega
        have hlbi : (k : Int) < (b.size : Int) := by omega
        by_cases hc : upB a[k] = upB b[k]
        · have hne : (((upB a[k]).toNat : Int) != ((upB b[k]).toNat : Int)) = false := by rw [bne_eq_false_iff_eq, hc]
          have HC := Lib.hid hc
          clear hc
          go_wp2
          go_quiet ((go_at_call 169; exact Calls.quiet_of_same (upper_any _ _)))
          go_wp2
          go_roundw
          case rel => exact ⟨k + 1, by go_num, by omega, Lib.hid (by rw [map_take_snoc a k hlt, map_take_snoc b k hltb, HK.out, HC.out]), Lib.hid (by obtain ⟨n, rfl⟩ := HW.out; exact ⟨_, by rw [World.drewN_drewN]⟩)⟩
          case measure => simp [intOf]; omega
        · have hne : (((upB a[k]).toNat : Int) != ((upB b[k]).toNat : Int)) = true := by rw [bne_iff_ne]; intro e; exact hc (UInt8.toNat_inj.1 (by omega))
          have HC := Lib.hid (same_at k hlt hltb hc)
          clear hc
          go_wp2
          go_quiet ((go_at_call 169; exact Calls.quiet_of_same (upper_any _ _)))
          go_wp2
          go_ret
          exact ⟨by rw [← HR.out, HC.out]; rfl, by obtain ⟨n, rfl⟩ := HW.out; exact ⟨_, by rw [World.drewN_drewN]⟩⟩
      · go_wp2
        go_ret
        refine ⟨?_, HW.out⟩
        have h1 := HK.out
        rw [List.take_of_length_le (by simp; omega), List.take_of_length_le (by have := HL.out; simp; omega)] at h1
        rw [← HR.out]
        unfold same
        rw [h1, beq_self_eq_true]
        rfl
  · have hq : ((a.size : Int) != (b.size : Int)) = true := by rw [bne_iff_ne]; omega
    have H := Lib.hid (same_len hl)
    go_enter Tryz.func164, Tryz.ntmps164
    go_wp2
    go_ret
    exact ⟨by rw [H.out]; rfl, 0, rfl⟩
def monthText : ByteArray := ⟨#[46, 46, 46, 74, 65, 78, 70, 69, 66, 77, 65, 82, 65, 80, 82, 77, 65, 89, 74, 85, 78, 74, 85, 76, 65, 85, 71, 83, 69, 80, 79, 67, 84, 78, 79, 86, 68, 69, 67]⟩
def dayText : ByteArray := ⟨#[83, 85, 78, 77, 79, 78, 84, 85, 69, 87, 69, 68, 84, 72, 85, 70, 82, 73, 83, 65, 84]⟩
set_option maxRecDepth 100000 in
theorem month_name (v : Nat) (w : World) (h1 : 1 ≤ v) (h2 : v ≤ 12) : Calls Tryz.prog 165 #[.int .i64 4, .int .i64 (v : Int)] w fun e w' => e = .returned (.string (monthText.extract (3 * v) (3 * v + 3))) ∧ w = w' := by
  have HL : Hid (∀ w, Calls Tryz.prog 143 #[.int .i64 4] w fun e w' => e = .returned (.int .i64 1) ∧ w = w') := Lib.hid (fun w => specLow_any 4 w (by omega))
  have HH : Hid (∀ w, Calls Tryz.prog 144 #[.int .i64 4] w fun e w' => e = .returned (.int .i64 12) ∧ w = w') := Lib.hid (fun w => specHigh_any 4 w (by omega))
  go_enter Tryz.func165, Tryz.ntmps165
  go_wp2_with (first
    | (go_at_call 143; refine (HL.out _).mono ?_; rintro e w' ⟨rfl, rfl⟩)
    | (go_at_call 144; refine (HH.out _).mono ?_; rintro e w' ⟨rfl, rfl⟩))
  go_ret
  exact ⟨rfl, rfl⟩
set_option maxRecDepth 100000 in
theorem day_name (v : Nat) (w : World) (h1 : 0 ≤ v) (h2 : v ≤ 6) : Calls Tryz.prog 165 #[.int .i64 5, .int .i64 (v : Int)] w fun e w' => e = .returned (.string (dayText.extract (3 * v) (3 * v + 3))) ∧ w = w' := by
  have HL : Hid (∀ w, Calls Tryz.prog 143 #[.int .i64 5] w fun e w' => e = .returned (.int .i64 0) ∧ w = w') := Lib.hid (fun w => specLow_any 5 w (by omega))
  have HH : Hid (∀ w, Calls Tryz.prog 144 #[.int .i64 5] w fun e w' => e = .returned (.int .i64 6) ∧ w = w') := Lib.hid (fun w => specHigh_any 5 w (by omega))
  go_enter Tryz.func165, Tryz.ntmps165
  go_wp2_with (first
    | (go_at_call 143; refine (HL.out _).mono ?_; rintro e w' ⟨rfl, rfl⟩)
    | (go_at_call 144; refine (HH.out _).mono ?_; rintro e w' ⟨rfl, rfl⟩))
  go_ret
  exact ⟨rfl, rfl⟩
set_option maxRecDepth 100000 in
theorem month_text : ∀ v : Fin 12, (monthText.extract (3 * (v.val + 1)) (3 * (v.val + 1) + 3)).data.toList.map low = ((monthNames.drop v.val).headD (⟨#[]⟩, 0)).1.data.toList ∧ ((monthNames.drop v.val).headD (⟨#[]⟩, 0)).2 = v.val + 1 := by decide
set_option maxRecDepth 100000 in
theorem day_text : ∀ v : Fin 7, (dayText.extract (3 * v.val) (3 * v.val + 3)).data.toList.map low = ((dayNames.drop v.val).headD (⟨#[]⟩, 0)).1.data.toList ∧ ((dayNames.drop v.val).headD (⟨#[]⟩, 0)).2 = v.val := by decide
theorem look_next {l : List (ByteArray × Nat)} {k : Nat} (hk : k < l.length) (t : ByteArray) :
    nlook (l.drop k) t = if (t == ((l.drop k).headD (⟨#[]⟩, 0)).1) = true then some ((l.drop k).headD (⟨#[]⟩, 0)).2 else nlook (l.drop (k + 1)) t := by
  rw [List.drop_eq_getElem_cons hk]
  rfl
theorem look_end {l : List (ByteArray × Nat)} {k : Nat} (hk : l.length ≤ k) (t : ByteArray) : nlook (l.drop k) t = none := by
  rw [List.drop_of_length_le hk]; rfl
theorem beq_bytes (a b : ByteArray) : (a == b) = (a.data.toList == b.data.toList) := by
  obtain ⟨⟨x⟩⟩ := a
  obtain ⟨⟨y⟩⟩ := b
  show ((⟨x⟩ : Array UInt8) == ⟨y⟩) = (x == y)
  rw [Bool.eq_iff_iff]
  simp
theorem same_beq {a : ByteArray} {n : ByteArray} (s : ByteArray) (h : a.data.toList.map low = n.data.toList) : same a.data.toList s.data.toList = (ofL (s.data.toList.map low) == n) := by
  rw [same_low, h, beq_bytes, toList_ofL, Bool.eq_iff_iff, beq_iff_eq, beq_iff_eq]
  exact eq_comm
theorem foreign_take (s : ByteArray) (k : Nat) (h : k < s.size) : foreign (s.data.toList.take (k + 1)) = (foreign (s.data.toList.take k) || decide (128 ≤ (s[k]).toNat)) := by
  rw [Split.take_snoc s k h]; unfold foreign; simp
theorem foreign_at (s : ByteArray) (k : Nat) (h : k < s.size) (hb : 128 ≤ (s[k]).toNat) : foreign s.data.toList = true := by
  unfold foreign
  rw [List.any_eq_true]
  exact ⟨s[k], List.getElem_mem (l := s.data.toList) (by simpa using h), by simpa using hb⟩
set_option maxRecDepth 100000 in
theorem foreign_any (s : ByteArray) (w : World) (hs : s.size ≤ 65536) : Calls Tryz.prog 45 #[.string s] w fun e w' => e = .returned (.bool (foreign s.data.toList)) ∧ w = w' := by
  obtain ⟨r, hr⟩ : ∃ r, foreign s.data.toList = r := ⟨_, rfl⟩
  rw [hr]
  have HR := Lib.hid hr
  clear hr
  go_enter Tryz.func45, Tryz.ntmps45
  go_wp2
  go_loop [6, 3] (fun i _ => ∃ k : Nat, i = .int .i64 (k : Int) ∧ k ≤ s.size ∧ Hid (foreign (s.data.toList.take k) = false)) (fun i _ => s.size - (intOf i).toNat)
  case atStart => exact ⟨0, rfl, Nat.zero_le _, Lib.hid rfl⟩
  case round =>
    obtain ⟨k, rfl, hk, HK⟩ := hrel
    by_cases hlt : k < s.size
    · by_cases hb : 128 ≤ (s[k]).toNat
      · have HE := Lib.hid (foreign_at s k hlt hb)
        go_wp2
        go_ret
        exact ⟨by rw [← HR.out, HE.out]; rfl, rfl⟩
      · have HK2 := Lib.hid (show foreign (s.data.toList.take (k + 1)) = false by rw [foreign_take s k hlt, HK.out]; simpa using hb)
        go_wp2
        go_round
        case rel => exact ⟨k + 1, by go_num, by omega, HK2⟩
        case measure => simp [intOf]; omega
    · go_wp2
      go_ret
      have h1 := HK.out
      rw [List.take_of_length_le (by simp; omega), HR.out] at h1
      exact ⟨by rw [h1]; rfl, rfl⟩
set_option maxHeartbeats 1000000 in
theorem value_month (s : ByteArray) (w : World) (hs : s.size ≤ 65536) :
    Calls Tryz.prog 157 #[.int .i64 4, .string s] w fun e w' => NumPair (svalN monthNames s.data.toList) e ∧ ∃ n, w' = w.drewN n := by
  have HL : Hid (∀ w, Calls Tryz.prog 143 #[.int .i64 4] w fun e w' => e = .returned (.int .i64 1) ∧ w = w') := Lib.hid (fun w => specLow_any 4 w (by omega))
  have HH : Hid (∀ w, Calls Tryz.prog 144 #[.int .i64 4] w fun e w' => e = .returned (.int .i64 12) ∧ w = w') := Lib.hid (fun w => specHigh_any 4 w (by omega))
  have HF := Lib.hid (fun w => foreign_any s w hs)
  have HN := Lib.hid (fun w => cronNumber_any s w hs)
  obtain ⟨R, hR⟩ : ∃ R, svalN monthNames s.data.toList = R := ⟨_, rfl⟩
  rw [hR]
  unfold svalN at hR
  have HR := Lib.hid hR
  clear hR
  go_enter Tryz.func157, Tryz.ntmps157
  go_wp2_with (first
    | (go_at_call 143; refine (HL.out _).mono ?_; rintro e w' ⟨rfl, rfl⟩)
    | (go_at_call 144; refine (HH.out _).mono ?_; rintro e w' ⟨rfl, rfl⟩))
  go_loopw [7] (fun i wr => ∃ v : Nat, i = .int .i64 (v : Int) ∧ 1 ≤ v ∧ v ≤ 13 ∧ Hid (nlook monthNames (ofL (s.data.toList.map low)) = nlook (monthNames.drop (v - 1)) (ofL (s.data.toList.map low))) ∧ Hid (∃ n, wr = w.drewN n)) (fun i _ => 13 - (intOf i).toNat)
  case atStart => exact ⟨1, rfl, by omega, by omega, Lib.hid rfl, Lib.hid ⟨0, rfl⟩⟩
  case round =>
    obtain ⟨v, rfl, h1, h2, HK, HW⟩ := hrel
    by_cases hlt : v ≤ 12
    · have hnx := look_next (l := monthNames) (k := v - 1) (by simp [monthNames]; omega) (ofL (s.data.toList.map low))
      have htx := month_text ⟨v - 1, by omega⟩
      obtain ⟨ht1, ht2⟩ := htx
      simp only at ht1 ht2
      have ht2 : _ = v := ht2.trans (by omega)
      rw [show v - 1 + 1 = v by omega] at ht1
      have hsm := same_beq s ht1
      rw [← hsm] at hnx
      have HT := Lib.hid ht2
      have HC := Lib.hid (fun w => same_any (monthText.extract (3 * v) (3 * v + 3)) s w (by simp [monthText]; omega) hs)
      have HNM := Lib.hid (fun w => month_name v w h1 hlt)
      clear ht1 ht2 hsm
      obtain ⟨x, hx⟩ : ∃ x, monthText.extract (3 * v) (3 * v + 3) = x := ⟨_, rfl⟩
      rw [hx] at HC HNM hnx
      cases hb : same x.data.toList s.data.toList with
      | true =>
        rw [hb] at HC hnx
        rw [if_pos rfl, HT.out] at hnx
        have HE : Hid (R = (v, 1)) := Lib.hid (by rw [← HR.out, HK.out, hnx])
        clear hb hnx hx
        go_wp2_with (first
          | (go_at_call 144; refine (HH.out _).mono ?_; rintro e w' ⟨rfl, rfl⟩)
          | (go_at_call 165; refine (HNM.out _).mono ?_; rintro e w' ⟨rfl, rfl⟩)
          | (go_at_call 164; refine (HC.out _).mono ?_; rintro e w' ⟨rfl, n2, rfl⟩))
        go_ret2
        exact ⟨by rw [HE.out]; rfl, by obtain ⟨n, rfl⟩ := HW.out; exact ⟨_, by rw [World.drewN_drewN]⟩⟩
      | false =>
        rw [hb] at HC hnx
        rw [if_neg (by simp)] at hnx
        have HK2 : Hid (nlook monthNames (ofL (s.data.toList.map low)) = nlook (monthNames.drop (v + 1 - 1)) (ofL (s.data.toList.map low))) := Lib.hid (by rw [HK.out, hnx, show v + 1 - 1 = v - 1 + 1 by omega])
        clear hb hnx hx
        go_wp2_with (first
          | (go_at_call 144; refine (HH.out _).mono ?_; rintro e w' ⟨rfl, rfl⟩)
          | (go_at_call 165; refine (HNM.out _).mono ?_; rintro e w' ⟨rfl, rfl⟩)
          | (go_at_call 164; refine (HC.out _).mono ?_; rintro e w' ⟨rfl, n2, rfl⟩))
        go_roundw
        case rel => exact ⟨v + 1, by go_num, by omega, by omega, HK2, Lib.hid (by obtain ⟨n, rfl⟩ := HW.out; exact ⟨_, by rw [World.drewN_drewN]⟩)⟩
        case measure => simp [intOf]; omega
    · have hv : v = 13 := by omega
      subst hv
      have hno := HK.out
      rw [look_end (l := monthNames) (by simp [monthNames])] at hno
      have hR := HR.out
      rw [hno] at hR
      simp only at hR
      have HR2 := Lib.hid hR
      clear hno hR
      cases hf : foreign s.data.toList with
      | true =>
        rw [hf] at HF HR2
        clear hf
        go_wp2_with (first
          | (go_at_call 144; refine (HH.out _).mono ?_; rintro e w' ⟨rfl, rfl⟩)
          | (go_at_call 45; refine (HF.out _).mono ?_; rintro e w' ⟨rfl, rfl⟩))
        go_ret2
        exact ⟨by rw [← HR2.out]; rfl, HW.out⟩
      | false =>
        rw [hf] at HF HR2
        have HR3 : Hid (specNumber s.data.toList = R) := Lib.hid (by have := HR2.out; simpa using this)
        rw [HR3.out] at HN
        clear hf
        go_wp2_with (first
          | (go_at_call 144; refine (HH.out _).mono ?_; rintro e w' ⟨rfl, rfl⟩)
          | (go_at_call 45; refine (HF.out _).mono ?_; rintro e w' ⟨rfl, rfl⟩)
          | (go_at_call 158; refine (HN.out _).mono ?_; rintro e w' ⟨he, rfl⟩; obtain rfl := he))
        go_ret2
        exact ⟨rfl, HW.out⟩
set_option maxHeartbeats 1000000 in
theorem value_day (s : ByteArray) (w : World) (hs : s.size ≤ 65536) :
    Calls Tryz.prog 157 #[.int .i64 5, .string s] w fun e w' => NumPair (svalN dayNames s.data.toList) e ∧ ∃ n, w' = w.drewN n := by
  have HL : Hid (∀ w, Calls Tryz.prog 143 #[.int .i64 5] w fun e w' => e = .returned (.int .i64 0) ∧ w = w') := Lib.hid (fun w => specLow_any 5 w (by omega))
  have HH : Hid (∀ w, Calls Tryz.prog 144 #[.int .i64 5] w fun e w' => e = .returned (.int .i64 6) ∧ w = w') := Lib.hid (fun w => specHigh_any 5 w (by omega))
  have HF := Lib.hid (fun w => foreign_any s w hs)
  have HN := Lib.hid (fun w => cronNumber_any s w hs)
  obtain ⟨R, hR⟩ : ∃ R, svalN dayNames s.data.toList = R := ⟨_, rfl⟩
  rw [hR]
  unfold svalN at hR
  have HR := Lib.hid hR
  clear hR
  go_enter Tryz.func157, Tryz.ntmps157
  go_wp2_with (first
    | (go_at_call 143; refine (HL.out _).mono ?_; rintro e w' ⟨rfl, rfl⟩)
    | (go_at_call 144; refine (HH.out _).mono ?_; rintro e w' ⟨rfl, rfl⟩))
  go_loopw [7] (fun i wr => ∃ v : Nat, i = .int .i64 (v : Int) ∧ 0 ≤ v ∧ v ≤ 7 ∧ Hid (nlook dayNames (ofL (s.data.toList.map low)) = nlook (dayNames.drop (v - 0)) (ofL (s.data.toList.map low))) ∧ Hid (∃ n, wr = w.drewN n)) (fun i _ => 7 - (intOf i).toNat)
  case atStart => exact ⟨0, rfl, by omega, by omega, Lib.hid rfl, Lib.hid ⟨0, rfl⟩⟩
  case round =>
    obtain ⟨v, rfl, h1, h2, HK, HW⟩ := hrel
    by_cases hlt : v ≤ 6
    · have hnx := look_next (l := dayNames) (k := v - 0) (by simp [dayNames]; omega) (ofL (s.data.toList.map low))
      have htx := day_text ⟨v - 0, by omega⟩
      obtain ⟨ht1, ht2⟩ := htx
      simp only at ht1 ht2
      have ht2 : _ = v := ht2.trans (by omega)
      rw [show 3 * (v - 0) = 3 * v by omega] at ht1
      have hsm := same_beq s ht1
      rw [← hsm] at hnx
      have HT := Lib.hid ht2
      have HC := Lib.hid (fun w => same_any (dayText.extract (3 * v) (3 * v + 3)) s w (by simp [dayText]; omega) hs)
      have HNM := Lib.hid (fun w => day_name v w h1 hlt)
      clear ht1 ht2 hsm
      obtain ⟨x, hx⟩ : ∃ x, dayText.extract (3 * v) (3 * v + 3) = x := ⟨_, rfl⟩
      rw [hx] at HC HNM hnx
      cases hb : same x.data.toList s.data.toList with
      | true =>
        rw [hb] at HC hnx
        rw [if_pos rfl, HT.out] at hnx
        have HE : Hid (R = (v, 1)) := Lib.hid (by rw [← HR.out, HK.out, hnx])
        clear hb hnx hx
        go_wp2_with (first
          | (go_at_call 144; refine (HH.out _).mono ?_; rintro e w' ⟨rfl, rfl⟩)
          | (go_at_call 165; refine (HNM.out _).mono ?_; rintro e w' ⟨rfl, rfl⟩)
          | (go_at_call 164; refine (HC.out _).mono ?_; rintro e w' ⟨rfl, n2, rfl⟩))
        go_ret2
        exact ⟨by rw [HE.out]; rfl, by obtain ⟨n, rfl⟩ := HW.out; exact ⟨_, by rw [World.drewN_drewN]⟩⟩
      | false =>
        rw [hb] at HC hnx
        rw [if_neg (by simp)] at hnx
        have HK2 : Hid (nlook dayNames (ofL (s.data.toList.map low)) = nlook (dayNames.drop (v + 1 - 0)) (ofL (s.data.toList.map low))) := Lib.hid (by rw [HK.out, hnx, show v + 1 - 0 = v - 0 + 1 by omega])
        clear hb hnx hx
        go_wp2_with (first
          | (go_at_call 144; refine (HH.out _).mono ?_; rintro e w' ⟨rfl, rfl⟩)
          | (go_at_call 165; refine (HNM.out _).mono ?_; rintro e w' ⟨rfl, rfl⟩)
          | (go_at_call 164; refine (HC.out _).mono ?_; rintro e w' ⟨rfl, n2, rfl⟩))
        go_roundw
        case rel => exact ⟨v + 1, by go_num, by omega, by omega, HK2, Lib.hid (by obtain ⟨n, rfl⟩ := HW.out; exact ⟨_, by rw [World.drewN_drewN]⟩)⟩
        case measure => simp [intOf]; omega
    · have hv : v = 7 := by omega
      subst hv
      have hno := HK.out
      rw [look_end (l := dayNames) (by simp [dayNames])] at hno
      have hR := HR.out
      rw [hno] at hR
      simp only at hR
      have HR2 := Lib.hid hR
      clear hno hR
      cases hf : foreign s.data.toList with
      | true =>
        rw [hf] at HF HR2
        clear hf
        go_wp2_with (first
          | (go_at_call 144; refine (HH.out _).mono ?_; rintro e w' ⟨rfl, rfl⟩)
          | (go_at_call 45; refine (HF.out _).mono ?_; rintro e w' ⟨rfl, rfl⟩))
        go_ret2
        exact ⟨by rw [← HR2.out]; rfl, HW.out⟩
      | false =>
        rw [hf] at HF HR2
        have HR3 : Hid (specNumber s.data.toList = R) := Lib.hid (by have := HR2.out; simpa using this)
        rw [HR3.out] at HN
        clear hf
        go_wp2_with (first
          | (go_at_call 144; refine (HH.out _).mono ?_; rintro e w' ⟨rfl, rfl⟩)
          | (go_at_call 45; refine (HF.out _).mono ?_; rintro e w' ⟨rfl, rfl⟩)
          | (go_at_call 158; refine (HN.out _).mono ?_; rintro e w' ⟨he, rfl⟩; obtain rfl := he))
        go_ret2
        exact ⟨rfl, HW.out⟩
end Go.Proofs.YtmnjmhlodbifjaaGreatDoor.SpecName
namespace Go.Proofs.YtmnjmhlodbifjaaGreatDoor.Fields
open Go Go.RowKit Go.Proofs.YtmnjmhlodbifjaaGreatDoor.Set
set_option linter.unusedVariables false
def fld (st : Nat → Bool) (f : Nat → Nat → Bool) (i : Nat) : Value := if i % 64 = 0 then .bool (st (i / 64)) else .bool (f (i / 64) (i % 64 - 1))
def fldArr (st : Nat → Bool) (f : Nat → Nat → Bool) : Array Value := Array.ofFn (n := 384) fun i => fld st f i.val
theorem fldArr_size (st : Nat → Bool) (f : Nat → Nat → Bool) : (fldArr st f).size = 384 := by simp [fldArr]
theorem fldArr_get (st : Nat → Bool) (f : Nat → Nat → Bool) (i : Nat) (h : i < 384) : (fldArr st f)[i]? = some (fld st f i) := by
  rw [Array.getElem?_eq_getElem (by rw [fldArr_size]; omega)]
  simp [fldArr]
theorem fldArr_one (st : Nat → Bool) (f : Nat → Nat → Bool) : (fldArr st f).all (·.oneCell') = true := by
  rw [Array.all_eq_true_iff_forall_mem]
  intro x hx
  obtain ⟨i, rfl⟩ := Array.mem_ofFn.1 hx
  unfold fld; split <;> rfl
theorem below_setCells {B b o : Nat} {w w' : World} (vs : List Value) (h : Below B w w') (hb : B ≤ b) : Below B w (w'.setCells b o vs) := by
  induction vs generalizing o w' with
  | nil => exact h
  | cons v r ih => rw [World.setCells]; exact ih (h.setCell (p := ⟨b, o, none⟩) hb v)
structure FldAt (w : World) (b : Nat) (st : Nat → Bool) (f : Nat → Nat → Bool) : Prop where
  lt : b < w.heap.size
  cells : ∀ i, i < 384 → w.cell? ⟨b, i, none⟩ = some (fld st f i)
  free : ∀ i, i < 384 → w.frozen? ⟨b, i, none⟩ = false
section
variable {w : World} {b : Nat} {st : Nat → Bool} {f : Nat → Nat → Bool}
theorem FldAt.below {w' : World} {B : Nat} (h : FldAt w b st f) (hb : Below B w w') (hB : b < B) : FldAt w' b st f :=
  ⟨Nat.lt_of_lt_of_le h.lt hb.size, fun i hi => (hb.cell (p := ⟨b, i, none⟩) hB).trans (h.cells i hi), fun i hi => (hb.frozen (p := ⟨b, i, none⟩) hB).trans (h.free i hi)⟩
theorem FldAt.star (h : FldAt w b st f) (k : Nat) (hk : k < 6) : w.cell? ⟨b, k * 64, none⟩ = some (.bool (st k)) := by
  rw [h.cells _ (by omega)]; unfold fld; rw [if_pos (by omega), show k * 64 / 64 = k by omega]
theorem FldAt.val (h : FldAt w b st f) (k v : Nat) (hk : k < 6) (hv : v ≤ 62) : w.cell? ⟨b, k * 64 + 1 + v, none⟩ = some (.bool (f k v)) := by
  rw [h.cells _ (by omega)]; unfold fld; rw [if_neg (by omega), show (k * 64 + 1 + v) / 64 = k by omega, show (k * 64 + 1 + v) % 64 - 1 = v by omega]
theorem FldAt.range (h : FldAt w b st f) : w.rangeAt b 0 (fldArr st f).toList := fun j v hv => by
  rw [Array.getElem?_toList] at hv
  have hj : j < 384 := by rw [← fldArr_size st f]; exact (Array.getElem?_eq_some_iff.1 hv).1
  rw [fldArr_get _ _ _ hj] at hv
  rw [Nat.zero_add, h.cells j hj]; exact hv
theorem FldAt.there (h : FldAt w b st f) (o n : Nat) (hn : o + n ≤ 384) : w.there b o n := fun j hj => ⟨by rw [h.cells _ (by omega)]; rfl, h.free _ (by omega)⟩
theorem FldAt.set (h : FldAt w b st f) (k : Nat) (hk : k < 6) : w.rangeAt b (k * 64) (setArr (st k) (f k)).toList := fun j v hv => by
  rw [Array.getElem?_toList] at hv
  have hj : j < 64 := by rw [← setArr_size (st k) (f k)]; exact (Array.getElem?_eq_some_iff.1 hv).1
  cases j with
  | zero => rw [setArr_zero] at hv; rw [Nat.add_zero, h.star k hk]; exact hv
  | succ j =>
    rw [Nat.add_comm j 1, setArr_get _ _ _ (by omega)] at hv
    rw [show k * 64 + (j + 1) = k * 64 + 1 + j by omega, h.val k j hk (by omega)]; exact hv
def updK {α : Type} (g : Nat → α) (k : Nat) (x : α) : Nat → α := fun i => if i = k then x else g i
theorem FldAt.put (h : FldAt w b st f) (k : Nat) (hk : k < 6) (s : Bool) (g : Nat → Bool) : FldAt (w.setCells b (k * 64) (setArr s g).toList) b (updK st k s) (updK f k g) := by
  have hl : (setArr s g).toList.length = 64 := by simp [setArr_size]
  have hth := h.there (k * 64) 64 (by omega)
  refine ⟨?_, fun i hi => ?_, fun i hi => by rw [World.frozen?_setCells]; exact h.free i hi⟩
  · exact Nat.lt_of_lt_of_le h.lt (below_setCells (b := b) (o := k * 64) (setArr s g).toList (Below.refl 0 w) (Nat.zero_le _)).size
  · by_cases c : k * 64 ≤ i ∧ i < k * 64 + 64
    · obtain ⟨j, rfl⟩ : ∃ j, i = k * 64 + j := ⟨i - k * 64, by omega⟩
      have hr := World.rangeAt_setCells_same w b (k * 64) (setArr s g).toList (by rw [hl]; exact hth)
      have hj : j < 64 := by omega
      unfold fld
      cases j with
      | zero =>
        have := hr 0 (.bool s) (by rw [Array.getElem?_toList]; exact setArr_zero s g)
        rw [this, if_pos (by omega), show (k * 64 + 0) / 64 = k by omega]
        simp [updK]
      | succ j =>
        have := hr (j + 1) (.bool (g j)) (by rw [Array.getElem?_toList, Nat.add_comm j 1]; exact setArr_get s g j (by omega))
        rw [this, if_neg (by omega), show (k * 64 + (j + 1)) / 64 = k by omega, show (k * 64 + (j + 1)) % 64 - 1 = j by omega]
        simp [updK]
    · rw [World.cell?_setCells_out b (setArr s g).toList (k * 64) w ⟨b, i, none⟩ (fun _ _ => by rw [hl]; simp only; omega), h.cells i hi]
      unfold fld updK
      rw [if_neg (show ¬ i / 64 = k by omega), if_neg (show ¬ i / 64 = k by omega)]
theorem FldAt.new (w : World) (st : Nat → Bool) (f : Nat → Nat → Bool) : FldAt (w.alloc (.cells (fldArr st f) 57)) w.heap.size st f := by
  have hh : (w.alloc (.cells (fldArr st f) 57)).heap[w.heap.size]? = some (.cells (fldArr st f) 57 (0, 0)) := heap_alloc_new w _
  exact ⟨by simp, fun i hi => by rw [cell_of_row _ _ _ _ _ _ hh, fldArr_get _ _ _ hi], fun i hi => frozen_of_row _ _ i _ _ hh⟩
theorem FldAt.other (h : FldAt w b st f) (p : Addr) (u : Value) (hne : b ≠ p.block) : FldAt (w.setCell p u) b st f := by
  have hb : (w.setCell p u).heap[b]? = w.heap[b]? := Below.heap_setCell w p u b hne
  exact ⟨by simp [World.setCell]; exact h.lt, fun i hi => (World.cell?_of_block (w := w) (a := ⟨b, i, none⟩) hb).trans (h.cells i hi), fun i hi => (World.frozen?_of_block (w := w) (a := ⟨b, i, none⟩) hb).trans (h.free i hi)⟩
end
theorem zeroRun (w : World) : (zeroValue 57).run Tryz.prog w = .ok (.agg (fldArr (fun _ => false) fun _ _ => false)) w := by kernel_rfl
theorem sizeInfoF : (Tryz.prog.info? 57).map (·.size) = some 384 := by kernel_rfl
section
variable {ops : Array Oper} {rest : List Oper} {o : Oper} {a : Act} {w : World} {Q : Exit → Act → World → Prop}
theorem wpList_alloc_fields (hg : o.guard = none) (ho : o.op = .alloc 57)
    (h : wpList Tryz.prog ops Q rest (a.put o.dst (.pointer (some ⟨w.heap.size, 0, none⟩))) (w.alloc (.cells (fldArr (fun _ => false) fun _ _ => false) 57))) : wpList Tryz.prog ops Q (o :: rest) a w := by
  refine wpList_plain hg fun K hK => ?_
  unfold Oper.wp execOp
  simp only [ho, Instr.alloc, Sem.run_bind, zeroRun, Result.andThen_ok, newVar, newRow, Value.cells, run_newObj_alloc, Sem.run_pure]
  exact hK _ _ h
theorem wpList_box_fields (hg : o.guard = none) (x : Operand) (ho : o.op = .box 57 x) (st : Nat → Bool) (f : Nat → Nat → Bool)
    (hx : a.eval x = .agg (fldArr st f))
    (h : wpList Tryz.prog ops Q rest (a.put o.dst (.pointer (some ⟨w.heap.size, 0, none⟩))) (w.alloc (.cells (fldArr st f) 57))) : wpList Tryz.prog ops Q (o :: rest) a w := by
  refine wpList_plain hg fun K hK => ?_
  unfold Oper.wp execOp
  simp only [ho, hx, Instr.box, Sem.run_bind, newVar, newRow, Value.cells, run_newObj_alloc, Sem.run_pure, Result.andThen_ok]
  exact hK _ _ h
theorem wpList_load_fields (hg : o.guard = none) (x : Operand) (ho : o.op = .load 57 x) (b : Nat) (st : Nat → Bool) (f : Nat → Nat → Bool)
    (hx : a.eval x = .pointer (some ⟨b, 0, none⟩)) (hb : FldAt w b st f)
    (h : wpList Tryz.prog ops Q rest (a.put o.dst (.agg (fldArr st f))) w) : wpList Tryz.prog ops Q (o :: rest) a w := by
  refine wpList_load_mid hg 57 x ho b 0 hx (fldArr st f).toList _ hb.range Tryz.underlying57 rfl (by simp [fldArr_size, sizeInfoF]) ?_
  simpa using h
end
section
variable {w : World} {b : Nat} {st : Nat → Bool} {f : Nat → Nat → Bool} {ops : Array Oper} {rest : List Oper} {o : Oper} {a : Act} {Q : Exit → Act → World → Prop}
theorem putAll (h : FldAt w b st f) (st' : Nat → Bool) (f' : Nat → Nat → Bool) : FldAt (w.setCells b 0 (fldArr st' f').toList) b st' f' := by
  have hl : (fldArr st' f').toList.length = 384 := by simp [fldArr_size]
  have hth := h.there 0 384 (by omega)
  refine ⟨?_, fun i hi => ?_, fun i hi => by rw [World.frozen?_setCells]; exact h.free i hi⟩
  · exact Nat.lt_of_lt_of_le h.lt (below_setCells (b := b) (o := 0) (fldArr st' f').toList (Below.refl 0 w) (Nat.zero_le _)).size
  · have hr := World.rangeAt_setCells_same w b 0 (fldArr st' f').toList (by rw [hl]; exact hth)
    have := hr i (fld st' f' i) (by rw [Array.getElem?_toList]; exact fldArr_get _ _ _ hi)
    rw [Nat.zero_add] at this
    exact this
theorem wpList_store_all (hg : o.guard = none) (x y : Operand) (ho : o.op = .store 57 x y) (b : Nat) (st : Nat → Bool) (f : Nat → Nat → Bool) (st' : Nat → Bool) (f' : Nat → Nat → Bool)
    (hx : a.eval x = .pointer (some ⟨b, 0, none⟩)) (hy : a.eval y = .agg (fldArr st' f')) (hb : FldAt w b st f)
    (h : wpList Tryz.prog ops Q rest (a.put o.dst undef) (w.setCells b 0 (fldArr st' f').toList)) : wpList Tryz.prog ops Q (o :: rest) a w :=
  wpList_store_mid hg 57 x y ho b 0 (fldArr st' f') hx hy (by rw [fldArr_size]; exact hb.there _ _ (by omega)) (by rw [fldArr_size]; exact sizeInfoF) (fldArr_one _ _) h
end
end Go.Proofs.YtmnjmhlodbifjaaGreatDoor.Fields
