/- The reference's names of months and days: cronUpper, cronSame, CronName, CronValue. Conditions: texts of at most 65536 bytes. -/
import Derived.Test.YtmnjmhlodbifjaaGreatDoorNameRel
import Derived.Test.YtmnjmhlodbifjaaGreatDoorSpecEnds
import Derived.Deep.QuietTactic
import Derived.BigQuiet
import Derived.Test.YtmnjmhlodbifjaaGreatDoorBig
namespace Go.Proofs.YtmnjmhlodbifjaaGreatDoor.SpecName
open Go Go.RowKit Go.Proofs.YtmnjmhlodbifjaaGreatDoor.Aid Go.Proofs.YtmnjmhlodbifjaaGreatDoor.NumPure Go.Proofs.YtmnjmhlodbifjaaGreatDoor.SplitPure Go.Proofs.YtmnjmhlodbifjaaGreatDoor.Split Go.Proofs.YtmnjmhlodbifjaaGreatDoor.Names Go.Proofs.YtmnjmhlodbifjaaGreatDoor.NameMap Go.Proofs.YtmnjmhlodbifjaaGreatDoor.Kind Go.Proofs.YtmnjmhlodbifjaaGreatDoor.PlainPure Go.Proofs.YtmnjmhlodbifjaaGreatDoor.NameRel Go.Proofs.YtmnjmhlodbifjaaGreatDoor.SpecEnds Go.Proofs.YtmnjmhlodbifjaaGreatDoor.SpecNum
set_option linter.unusedVariables false

def upB (b : UInt8) : UInt8 := if decide (97 ≤ b.toNat) && decide (b.toNat ≤ 122) then b - 32 else b
theorem upB_in : ∀ b : UInt8, 97 ≤ b.toNat → b.toNat ≤ 122 → (upB b).toNat + 32 = b.toNat := fun b => all8 (P := fun b => 97 ≤ b.toNat → b.toNat ≤ 122 → (upB b).toNat + 32 = b.toNat) (by decide +kernel) b
theorem upB_out {b : UInt8} (h : ¬ (97 ≤ b.toNat ∧ b.toNat ≤ 122)) : upB b = b := by
  unfold upB
  rw [if_neg]
  simpa using h
theorem low_up (b : UInt8) : low (upB b) = low b := all8 (P := fun b => low (upB b) = low b) (by decide +kernel) b
theorem up_low (b : UInt8) : upB (low b) = upB b := all8 (P := fun b => upB (low b) = upB b) (by decide +kernel) b
theorem up_iff (a b : UInt8) : upB a = upB b ↔ low a = low b :=
  ⟨fun h => by rw [← low_up a, h, low_up], fun h => by rw [← up_low a, h, up_low]⟩

theorem upper_any (b : UInt8) (w : World) : Calls Tryz.prog 169 #[.int .u8 (b.toNat : Int)] w fun e w' => e = .returned (.int .u8 ((upB b).toNat : Int)) ∧ w' = w := by
  have h255 := b.toNat_lt
  by_cases h1 : 97 ≤ b.toNat
  · by_cases h2 : b.toNat ≤ 122
    · have H := Lib.hid (upB_in b h1 h2)
      have h1i : (97 : Int) ≤ (b.toNat : Int) := by omega
      have h2i : (b.toNat : Int) ≤ 122 := by omega
      have h3 : IntKind.u8.wrap ((b.toNat : Int) - 97) = (b.toNat : Int) - 97 := by simp [IntKind.wrap, IntKind.bits, IntKind.signed]; omega
      have h4 : IntKind.u8.wrap ((b.toNat : Int) - 97 + 65) = (b.toNat : Int) - 32 := by simp [IntKind.wrap, IntKind.bits, IntKind.signed]; omega
      go_enter Tryz.func169, Tryz.ntmps169
      go_wp2
      go_ret
      refine ⟨?_, rfl⟩
      have := H.out
      first
        | exact congrArg (fun x => Ending.returned (.int .u8 x)) (show (b.toNat : Int) - 32 = _ by omega)
        | exact congrArg (fun x => Ending.returned (.int .u8 x)) (show (b.toNat : Int) - 97 + 65 = _ by omega)
    · have H := Lib.hid (upB_out (b := b) (fun h => h2 h.2))
      go_enter Tryz.func169, Tryz.ntmps169
      go_wp2
      go_ret
      exact ⟨by rw [H.out]; rfl, rfl⟩
  · have H := Lib.hid (upB_out (b := b) (fun h => h1 h.1))
    go_enter Tryz.func169, Tryz.ntmps169
    go_wp2
    go_ret
    exact ⟨by rw [H.out]; rfl, rfl⟩

/-- The same but for small and capital letters. -/
def same (a b : List UInt8) : Bool := a.map upB == b.map upB
theorem same_low (a b : List UInt8) : same a b = (a.map low == b.map low) := by
  unfold same
  rw [Bool.eq_iff_iff, beq_iff_eq, beq_iff_eq]
  constructor
  · intro h
    have := congrArg (List.map low) h
    simpa [List.map_map, Function.comp_def, low_up] using this
  · intro h
    have := congrArg (List.map upB) h
    simpa [List.map_map, Function.comp_def, up_low] using this
theorem map_take_snoc (s : ByteArray) (k : Nat) (h : k < s.size) : (s.data.toList.take (k + 1)).map upB = (s.data.toList.take k).map upB ++ [upB s[k]] := by
  rw [Split.take_snoc s k h]; simp
theorem same_len {a b : ByteArray} (h : a.size ≠ b.size) : same a.data.toList b.data.toList = false := by
  unfold same
  rw [beq_eq_false_iff_ne]
  intro e
  have := congrArg List.length e
  simp at this
  exact h this
theorem same_at {a b : ByteArray} (k : Nat) (ha : k < a.size) (hb : k < b.size) (h : upB a[k] ≠ upB b[k]) : same a.data.toList b.data.toList = false := by
  unfold same
  rw [beq_eq_false_iff_ne]
  intro e
  have h1 := congrArg (fun l => l[k]?) e
  simp only [List.getElem?_map] at h1
  rw [List.getElem?_eq_getElem (by simpa using ha), List.getElem?_eq_getElem (by simpa using hb)] at h1
  have h2 : upB (a.data[k]'ha) = upB (b.data[k]'hb) := by simpa using h1
  exact h h2

set_option maxHeartbeats 1000000 in
theorem same_any (a b : ByteArray) (w : World) (ha : a.size ≤ 65536) (hb : b.size ≤ 65536) :
    Calls Tryz.prog 164 #[.string a, .string b] w fun e w' => e = .returned (.bool (same a.data.toList b.data.toList)) ∧ ∃ n, w' = w.drewN n := by
  by_cases hl : a.size = b.size
  · have hq : ((a.size : Int) != (b.size : Int)) = false := by rw [bne_eq_false_iff_eq, hl]
    obtain ⟨r, hr⟩ : ∃ r, same a.data.toList b.data.toList = r := ⟨_, rfl⟩
    rw [hr]
    have HR := Lib.hid hr
    have HL := Lib.hid hl
    clear hr hl
    go_enter Tryz.func164, Tryz.ntmps164
    go_wp2
    clear hq
    go_loopw [13, 5] (fun i _ wr => ∃ k : Nat, i = .int .i64 (k : Int) ∧ k ≤ a.size ∧ Hid ((a.data.toList.take k).map upB = (b.data.toList.take k).map upB) ∧ Hid (∃ n, wr = w.drewN n)) (fun i _ _ => a.size - (intOf i).toNat)
    case atStart => exact ⟨0, rfl, Nat.zero_le _, Lib.hid (by simp), Lib.hid ⟨0, rfl⟩⟩
    case round =>
      obtain ⟨k, rfl, hk, HK, HW⟩ := hrel
      by_cases hlt : k < a.size
      · have hltb : k < b.size := by have := HL.out; omega
        have hli : (k : Int) < (a.size : Int) := by omega
        have hlbi : (k : Int) < (b.size : Int) := by omega
        by_cases hc : upB a[k] = upB b[k]
        · have hne : (((upB a[k]).toNat : Int) != ((upB b[k]).toNat : Int)) = false := by rw [bne_eq_false_iff_eq, hc]
          have HC := Lib.hid hc
          clear hc
          go_wp2
          go_quiet ((go_at_call 169; exact Calls.quiet_of_same (upper_any _ _)))
          go_wp2
          go_roundw
          case rel => exact ⟨k + 1, by go_num, by omega, Lib.hid (by rw [map_take_snoc a k hlt, map_take_snoc b k hltb, HK.out, HC.out]), Lib.hid (by obtain ⟨n, rfl⟩ := HW.out; exact ⟨_, by rw [World.drewN_drewN]⟩)⟩
          case measure => simp [intOf]; omega
        · have hne : (((upB a[k]).toNat : Int) != ((upB b[k]).toNat : Int)) = true := by rw [bne_iff_ne]; intro e; exact hc (UInt8.toNat_inj.1 (by omega))
          have HC := Lib.hid (same_at k hlt hltb hc)
          clear hc
          go_wp2
          go_quiet ((go_at_call 169; exact Calls.quiet_of_same (upper_any _ _)))
          go_wp2
          go_ret
          exact ⟨by rw [← HR.out, HC.out]; rfl, by obtain ⟨n, rfl⟩ := HW.out; exact ⟨_, by rw [World.drewN_drewN]⟩⟩
      · go_wp2
        go_ret
        refine ⟨?_, HW.out⟩
        have h1 := HK.out
        rw [List.take_of_length_le (by simp; omega), List.take_of_length_le (by have := HL.out; simp; omega)] at h1
        rw [← HR.out]
        unfold same
        rw [h1, beq_self_eq_true]
        rfl
  · have hq : ((a.size : Int) != (b.size : Int)) = true := by rw [bne_iff_ne]; omega
    have H := Lib.hid (same_len hl)
    go_enter Tryz.func164, Tryz.ntmps164
    go_wp2
    go_ret
    exact ⟨by rw [H.out]; rfl, 0, rfl⟩

/-- The names in capital letters, as the reference has them. -/
def monthText : ByteArray := ⟨#[46, 46, 46, 74, 65, 78, 70, 69, 66, 77, 65, 82, 65, 80, 82, 77, 65, 89, 74, 85, 78, 74, 85, 76, 65, 85, 71, 83, 69, 80, 79, 67, 84, 78, 79, 86, 68, 69, 67]⟩
def dayText : ByteArray := ⟨#[83, 85, 78, 77, 79, 78, 84, 85, 69, 87, 69, 68, 84, 72, 85, 70, 82, 73, 83, 65, 84]⟩
set_option maxRecDepth 100000 in
theorem month_name (v : Nat) (w : World) (h1 : 1 ≤ v) (h2 : v ≤ 12) : Calls Tryz.prog 165 #[.int .i64 4, .int .i64 (v : Int)] w fun e w' => e = .returned (.string (monthText.extract (3 * v) (3 * v + 3))) ∧ w = w' := by
  have HL : Hid (∀ w, Calls Tryz.prog 143 #[.int .i64 4] w fun e w' => e = .returned (.int .i64 1) ∧ w = w') := Lib.hid (fun w => specLow_any 4 w (by omega))
  have HH : Hid (∀ w, Calls Tryz.prog 144 #[.int .i64 4] w fun e w' => e = .returned (.int .i64 12) ∧ w = w') := Lib.hid (fun w => specHigh_any 4 w (by omega))
  go_enter Tryz.func165, Tryz.ntmps165
  go_wp2_with (first
    | (go_at_call 143; refine (HL.out _).mono ?_; rintro e w' ⟨rfl, rfl⟩)
    | (go_at_call 144; refine (HH.out _).mono ?_; rintro e w' ⟨rfl, rfl⟩))
  go_ret
  exact ⟨rfl, rfl⟩
set_option maxRecDepth 100000 in
theorem day_name (v : Nat) (w : World) (h1 : 0 ≤ v) (h2 : v ≤ 6) : Calls Tryz.prog 165 #[.int .i64 5, .int .i64 (v : Int)] w fun e w' => e = .returned (.string (dayText.extract (3 * v) (3 * v + 3))) ∧ w = w' := by
  have HL : Hid (∀ w, Calls Tryz.prog 143 #[.int .i64 5] w fun e w' => e = .returned (.int .i64 0) ∧ w = w') := Lib.hid (fun w => specLow_any 5 w (by omega))
  have HH : Hid (∀ w, Calls Tryz.prog 144 #[.int .i64 5] w fun e w' => e = .returned (.int .i64 6) ∧ w = w') := Lib.hid (fun w => specHigh_any 5 w (by omega))
  go_enter Tryz.func165, Tryz.ntmps165
  go_wp2_with (first
    | (go_at_call 143; refine (HL.out _).mono ?_; rintro e w' ⟨rfl, rfl⟩)
    | (go_at_call 144; refine (HH.out _).mono ?_; rintro e w' ⟨rfl, rfl⟩))
  go_ret
  exact ⟨rfl, rfl⟩

set_option maxRecDepth 100000 in
/-- Which value's name a text is, from value v on. -/
theorem month_text : ∀ v : Fin 12, (monthText.extract (3 * (v.val + 1)) (3 * (v.val + 1) + 3)).data.toList.map low = ((monthNames.drop v.val).headD (⟨#[]⟩, 0)).1.data.toList ∧ ((monthNames.drop v.val).headD (⟨#[]⟩, 0)).2 = v.val + 1 := by decide
set_option maxRecDepth 100000 in
theorem day_text : ∀ v : Fin 7, (dayText.extract (3 * v.val) (3 * v.val + 3)).data.toList.map low = ((dayNames.drop v.val).headD (⟨#[]⟩, 0)).1.data.toList ∧ ((dayNames.drop v.val).headD (⟨#[]⟩, 0)).2 = v.val := by decide
theorem look_next {l : List (ByteArray × Nat)} {k : Nat} (hk : k < l.length) (t : ByteArray) :
    nlook (l.drop k) t = if (t == ((l.drop k).headD (⟨#[]⟩, 0)).1) = true then some ((l.drop k).headD (⟨#[]⟩, 0)).2 else nlook (l.drop (k + 1)) t := by
  rw [List.drop_eq_getElem_cons hk]
  rfl
theorem look_end {l : List (ByteArray × Nat)} {k : Nat} (hk : l.length ≤ k) (t : ByteArray) : nlook (l.drop k) t = none := by
  rw [List.drop_of_length_le hk]; rfl
theorem beq_bytes (a b : ByteArray) : (a == b) = (a.data.toList == b.data.toList) := by
  obtain ⟨⟨x⟩⟩ := a
  obtain ⟨⟨y⟩⟩ := b
  show ((⟨x⟩ : Array UInt8) == ⟨y⟩) = (x == y)
  rw [Bool.eq_iff_iff]
  simp
theorem same_beq {a : ByteArray} {n : ByteArray} (s : ByteArray) (h : a.data.toList.map low = n.data.toList) : same a.data.toList s.data.toList = (ofL (s.data.toList.map low) == n) := by
  rw [same_low, h, beq_bytes, toList_ofL, Bool.eq_iff_iff, beq_iff_eq, beq_iff_eq]
  exact eq_comm

theorem foreign_take (s : ByteArray) (k : Nat) (h : k < s.size) : foreign (s.data.toList.take (k + 1)) = (foreign (s.data.toList.take k) || decide (128 ≤ (s[k]).toNat)) := by
  rw [Split.take_snoc s k h]; unfold foreign; simp
theorem foreign_at (s : ByteArray) (k : Nat) (h : k < s.size) (hb : 128 ≤ (s[k]).toNat) : foreign s.data.toList = true := by
  unfold foreign
  rw [List.any_eq_true]
  exact ⟨s[k], List.getElem_mem (l := s.data.toList) (by simpa using h), by simpa using hb⟩
set_option maxRecDepth 100000 in
theorem foreign_any (s : ByteArray) (w : World) (hs : s.size ≤ 65536) : Calls Tryz.prog 45 #[.string s] w fun e w' => e = .returned (.bool (foreign s.data.toList)) ∧ w = w' := by
  obtain ⟨r, hr⟩ : ∃ r, foreign s.data.toList = r := ⟨_, rfl⟩
  rw [hr]
  have HR := Lib.hid hr
  clear hr
  go_enter Tryz.func45, Tryz.ntmps45
  go_wp2
  go_loop [6, 3] (fun i _ => ∃ k : Nat, i = .int .i64 (k : Int) ∧ k ≤ s.size ∧ Hid (foreign (s.data.toList.take k) = false)) (fun i _ => s.size - (intOf i).toNat)
  case atStart => exact ⟨0, rfl, Nat.zero_le _, Lib.hid rfl⟩
  case round =>
    obtain ⟨k, rfl, hk, HK⟩ := hrel
    by_cases hlt : k < s.size
    · by_cases hb : 128 ≤ (s[k]).toNat
      · have HE := Lib.hid (foreign_at s k hlt hb)
        go_wp2
        go_ret
        exact ⟨by rw [← HR.out, HE.out]; rfl, rfl⟩
      · have HK2 := Lib.hid (show foreign (s.data.toList.take (k + 1)) = false by rw [foreign_take s k hlt, HK.out]; simpa using hb)
        go_wp2
        go_round
        case rel => exact ⟨k + 1, by go_num, by omega, HK2⟩
        case measure => simp [intOf]; omega
    · go_wp2
      go_ret
      have h1 := HK.out
      rw [List.take_of_length_le (by simp; omega), HR.out] at h1
      exact ⟨by rw [h1]; rfl, rfl⟩

set_option maxHeartbeats 1000000 in
theorem value_month (s : ByteArray) (w : World) (hs : s.size ≤ 65536) :
    Calls Tryz.prog 157 #[.int .i64 4, .string s] w fun e w' => NumPair (svalN monthNames s.data.toList) e ∧ ∃ n, w' = w.drewN n := by
  have HL : Hid (∀ w, Calls Tryz.prog 143 #[.int .i64 4] w fun e w' => e = .returned (.int .i64 1) ∧ w = w') := Lib.hid (fun w => specLow_any 4 w (by omega))
  have HH : Hid (∀ w, Calls Tryz.prog 144 #[.int .i64 4] w fun e w' => e = .returned (.int .i64 12) ∧ w = w') := Lib.hid (fun w => specHigh_any 4 w (by omega))
  have HF := Lib.hid (fun w => foreign_any s w hs)
  have HN := Lib.hid (fun w => cronNumber_any s w hs)
  obtain ⟨R, hR⟩ : ∃ R, svalN monthNames s.data.toList = R := ⟨_, rfl⟩
  rw [hR]
  unfold svalN at hR
  have HR := Lib.hid hR
  clear hR
  go_enter Tryz.func157, Tryz.ntmps157
  go_wp2_with (first
    | (go_at_call 143; refine (HL.out _).mono ?_; rintro e w' ⟨rfl, rfl⟩)
    | (go_at_call 144; refine (HH.out _).mono ?_; rintro e w' ⟨rfl, rfl⟩))
  go_loopw [7] (fun i wr => ∃ v : Nat, i = .int .i64 (v : Int) ∧ 1 ≤ v ∧ v ≤ 13 ∧ Hid (nlook monthNames (ofL (s.data.toList.map low)) = nlook (monthNames.drop (v - 1)) (ofL (s.data.toList.map low))) ∧ Hid (∃ n, wr = w.drewN n)) (fun i _ => 13 - (intOf i).toNat)
  case atStart => exact ⟨1, rfl, by omega, by omega, Lib.hid rfl, Lib.hid ⟨0, rfl⟩⟩
  case round =>
    obtain ⟨v, rfl, h1, h2, HK, HW⟩ := hrel
    by_cases hlt : v ≤ 12
    · have hnx := look_next (l := monthNames) (k := v - 1) (by simp [monthNames]; omega) (ofL (s.data.toList.map low))
      have htx := month_text ⟨v - 1, by omega⟩
      obtain ⟨ht1, ht2⟩ := htx
      simp only at ht1 ht2
      have ht2 : _ = v := ht2.trans (by omega)
      rw [show v - 1 + 1 = v by omega] at ht1
      have hsm := same_beq s ht1
      rw [← hsm] at hnx
      have HT := Lib.hid ht2
      have HC := Lib.hid (fun w => same_any (monthText.extract (3 * v) (3 * v + 3)) s w (by simp [monthText]; omega) hs)
      have HNM := Lib.hid (fun w => month_name v w h1 hlt)
      clear ht1 ht2 hsm
      obtain ⟨x, hx⟩ : ∃ x, monthText.extract (3 * v) (3 * v + 3) = x := ⟨_, rfl⟩
      rw [hx] at HC HNM hnx
      cases hb : same x.data.toList s.data.toList with
      | true =>
        rw [hb] at HC hnx
        rw [if_pos rfl, HT.out] at hnx
        have HE : Hid (R = (v, 1)) := Lib.hid (by rw [← HR.out, HK.out, hnx])
        clear hb hnx hx
        go_wp2_with (first
          | (go_at_call 144; refine (HH.out _).mono ?_; rintro e w' ⟨rfl, rfl⟩)
          | (go_at_call 165; refine (HNM.out _).mono ?_; rintro e w' ⟨rfl, rfl⟩)
          | (go_at_call 164; refine (HC.out _).mono ?_; rintro e w' ⟨rfl, n2, rfl⟩))
        go_ret2
        exact ⟨by rw [HE.out]; rfl, by obtain ⟨n, rfl⟩ := HW.out; exact ⟨_, by rw [World.drewN_drewN]⟩⟩
      | false =>
        rw [hb] at HC hnx
        rw [if_neg (by simp)] at hnx
        have HK2 : Hid (nlook monthNames (ofL (s.data.toList.map low)) = nlook (monthNames.drop (v + 1 - 1)) (ofL (s.data.toList.map low))) := Lib.hid (by rw [HK.out, hnx, show v + 1 - 1 = v - 1 + 1 by omega])
        clear hb hnx hx
        go_wp2_with (first
          | (go_at_call 144; refine (HH.out _).mono ?_; rintro e w' ⟨rfl, rfl⟩)
          | (go_at_call 165; refine (HNM.out _).mono ?_; rintro e w' ⟨rfl, rfl⟩)
          | (go_at_call 164; refine (HC.out _).mono ?_; rintro e w' ⟨rfl, n2, rfl⟩))
        go_roundw
        case rel => exact ⟨v + 1, by go_num, by omega, by omega, HK2, Lib.hid (by obtain ⟨n, rfl⟩ := HW.out; exact ⟨_, by rw [World.drewN_drewN]⟩)⟩
        case measure => simp [intOf]; omega
    · have hv : v = 13 := by omega
      subst hv
      have hno := HK.out
      rw [look_end (l := monthNames) (by simp [monthNames])] at hno
      have hR := HR.out
      rw [hno] at hR
      simp only at hR
      have HR2 := Lib.hid hR
      clear hno hR
      cases hf : foreign s.data.toList with
      | true =>
        rw [hf] at HF HR2
        clear hf
        go_wp2_with (first
          | (go_at_call 144; refine (HH.out _).mono ?_; rintro e w' ⟨rfl, rfl⟩)
          | (go_at_call 45; refine (HF.out _).mono ?_; rintro e w' ⟨rfl, rfl⟩))
        go_ret2
        exact ⟨by rw [← HR2.out]; rfl, HW.out⟩
      | false =>
        rw [hf] at HF HR2
        have HR3 : Hid (specNumber s.data.toList = R) := Lib.hid (by have := HR2.out; simpa using this)
        rw [HR3.out] at HN
        clear hf
        go_wp2_with (first
          | (go_at_call 144; refine (HH.out _).mono ?_; rintro e w' ⟨rfl, rfl⟩)
          | (go_at_call 45; refine (HF.out _).mono ?_; rintro e w' ⟨rfl, rfl⟩)
          | (go_at_call 158; refine (HN.out _).mono ?_; rintro e w' ⟨he, rfl⟩; obtain rfl := he))
        go_ret2
        exact ⟨rfl, HW.out⟩

set_option maxHeartbeats 1000000 in
theorem value_day (s : ByteArray) (w : World) (hs : s.size ≤ 65536) :
    Calls Tryz.prog 157 #[.int .i64 5, .string s] w fun e w' => NumPair (svalN dayNames s.data.toList) e ∧ ∃ n, w' = w.drewN n := by
  have HL : Hid (∀ w, Calls Tryz.prog 143 #[.int .i64 5] w fun e w' => e = .returned (.int .i64 0) ∧ w = w') := Lib.hid (fun w => specLow_any 5 w (by omega))
  have HH : Hid (∀ w, Calls Tryz.prog 144 #[.int .i64 5] w fun e w' => e = .returned (.int .i64 6) ∧ w = w') := Lib.hid (fun w => specHigh_any 5 w (by omega))
  have HF := Lib.hid (fun w => foreign_any s w hs)
  have HN := Lib.hid (fun w => cronNumber_any s w hs)
  obtain ⟨R, hR⟩ : ∃ R, svalN dayNames s.data.toList = R := ⟨_, rfl⟩
  rw [hR]
  unfold svalN at hR
  have HR := Lib.hid hR
  clear hR
  go_enter Tryz.func157, Tryz.ntmps157
  go_wp2_with (first
    | (go_at_call 143; refine (HL.out _).mono ?_; rintro e w' ⟨rfl, rfl⟩)
    | (go_at_call 144; refine (HH.out _).mono ?_; rintro e w' ⟨rfl, rfl⟩))
  go_loopw [7] (fun i wr => ∃ v : Nat, i = .int .i64 (v : Int) ∧ 0 ≤ v ∧ v ≤ 7 ∧ Hid (nlook dayNames (ofL (s.data.toList.map low)) = nlook (dayNames.drop (v - 0)) (ofL (s.data.toList.map low))) ∧ Hid (∃ n, wr = w.drewN n)) (fun i _ => 7 - (intOf i).toNat)
  case atStart => exact ⟨0, rfl, by omega, by omega, Lib.hid rfl, Lib.hid ⟨0, rfl⟩⟩
  case round =>
    obtain ⟨v, rfl, h1, h2, HK, HW⟩ := hrel
    by_cases hlt : v ≤ 6
    · have hnx := look_next (l := dayNames) (k := v - 0) (by simp [dayNames]; omega) (ofL (s.data.toList.map low))
      have htx := day_text ⟨v - 0, by omega⟩
      obtain ⟨ht1, ht2⟩ := htx
      simp only at ht1 ht2
      have ht2 : _ = v := ht2.trans (by omega)
      rw [show 3 * (v - 0) = 3 * v by omega] at ht1
      have hsm := same_beq s ht1
      rw [← hsm] at hnx
      have HT := Lib.hid ht2
      have HC := Lib.hid (fun w => same_any (dayText.extract (3 * v) (3 * v + 3)) s w (by simp [dayText]; omega) hs)
      have HNM := Lib.hid (fun w => day_name v w h1 hlt)
      clear ht1 ht2 hsm
      obtain ⟨x, hx⟩ : ∃ x, dayText.extract (3 * v) (3 * v + 3) = x := ⟨_, rfl⟩
      rw [hx] at HC HNM hnx
      cases hb : same x.data.toList s.data.toList with
      | true =>
        rw [hb] at HC hnx
        rw [if_pos rfl, HT.out] at hnx
        have HE : Hid (R = (v, 1)) := Lib.hid (by rw [← HR.out, HK.out, hnx])
        clear hb hnx hx
        go_wp2_with (first
          | (go_at_call 144; refine (HH.out _).mono ?_; rintro e w' ⟨rfl, rfl⟩)
          | (go_at_call 165; refine (HNM.out _).mono ?_; rintro e w' ⟨rfl, rfl⟩)
          | (go_at_call 164; refine (HC.out _).mono ?_; rintro e w' ⟨rfl, n2, rfl⟩))
        go_ret2
        exact ⟨by rw [HE.out]; rfl, by obtain ⟨n, rfl⟩ := HW.out; exact ⟨_, by rw [World.drewN_drewN]⟩⟩
      | false =>
        rw [hb] at HC hnx
        rw [if_neg (by simp)] at hnx
        have HK2 : Hid (nlook dayNames (ofL (s.data.toList.map low)) = nlook (dayNames.drop (v + 1 - 0)) (ofL (s.data.toList.map low))) := Lib.hid (by rw [HK.out, hnx, show v + 1 - 0 = v - 0 + 1 by omega])
        clear hb hnx hx
        go_wp2_with (first
          | (go_at_call 144; refine (HH.out _).mono ?_; rintro e w' ⟨rfl, rfl⟩)
          | (go_at_call 165; refine (HNM.out _).mono ?_; rintro e w' ⟨rfl, rfl⟩)
          | (go_at_call 164; refine (HC.out _).mono ?_; rintro e w' ⟨rfl, n2, rfl⟩))
        go_roundw
        case rel => exact ⟨v + 1, by go_num, by omega, by omega, HK2, Lib.hid (by obtain ⟨n, rfl⟩ := HW.out; exact ⟨_, by rw [World.drewN_drewN]⟩)⟩
        case measure => simp [intOf]; omega
    · have hv : v = 7 := by omega
      subst hv
      have hno := HK.out
      rw [look_end (l := dayNames) (by simp [dayNames])] at hno
      have hR := HR.out
      rw [hno] at hR
      simp only at hR
      have HR2 := Lib.hid hR
      clear hno hR
      cases hf : foreign s.data.toList with
      | true =>
        rw [hf] at HF HR2
        clear hf
        go_wp2_with (first
          | (go_at_call 144; refine (HH.out _).mono ?_; rintro e w' ⟨rfl, rfl⟩)
          | (go_at_call 45; refine (HF.out _).mono ?_; rintro e w' ⟨rfl, rfl⟩))
        go_ret2
        exact ⟨by rw [← HR2.out]; rfl, HW.out⟩
      | false =>
        rw [hf] at HF HR2
        have HR3 : Hid (specNumber s.data.toList = R) := Lib.hid (by have := HR2.out; simpa using this)
        rw [HR3.out] at HN
        clear hf
        go_wp2_with (first
          | (go_at_call 144; refine (HH.out _).mono ?_; rintro e w' ⟨rfl, rfl⟩)
          | (go_at_call 45; refine (HF.out _).mono ?_; rintro e w' ⟨rfl, rfl⟩)
          | (go_at_call 158; refine (HN.out _).mono ?_; rintro e w' ⟨he, rfl⟩; obtain rfl := he))
        go_ret2
        exact ⟨rfl, HW.out⟩
end Go.Proofs.YtmnjmhlodbifjaaGreatDoor.SpecName
