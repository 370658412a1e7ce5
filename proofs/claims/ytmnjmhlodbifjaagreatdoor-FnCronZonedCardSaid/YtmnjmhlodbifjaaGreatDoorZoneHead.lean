/- Heads of a cron text: the reference's CronZoneHead, the law's cronPlainText, the reference's CronOptions. Conditions: texts of at most 2^31 - 1 bytes. -/
import Derived.Test.YtmnjmhlodbifjaaGreatDoorHead
import Derived.Test.YtmnjmhlodbifjaaGreatDoorSpecName
import Derived.Test.YtmnjmhlodbifjaaGreatDoorNorm
namespace Go.Proofs.YtmnjmhlodbifjaaGreatDoor.ZoneHead
open Go Go.RowKit Go.Proofs.YtmnjmhlodbifjaaGreatDoor.Mem Go.Proofs.YtmnjmhlodbifjaaGreatDoor.Aid Go.Proofs.YtmnjmhlodbifjaaGreatDoor.FillPure Go.Proofs.YtmnjmhlodbifjaaGreatDoor.FillA Go.Proofs.YtmnjmhlodbifjaaGreatDoor.PlainPure Go.Proofs.YtmnjmhlodbifjaaGreatDoor.NameRel Go.Proofs.YtmnjmhlodbifjaaGreatDoor.SpecName Go.Proofs.YtmnjmhlodbifjaaGreatDoor.Head
set_option linter.unusedVariables false

def tzB : List UInt8 := [84, 90, 61]
def cronB : List UInt8 := [67, 82, 79, 78, 95, 84, 90, 61]
/-- How long the words ahead of a zone's name are. -/
def zoneHead (l : List UInt8) : Nat := if starts tzB l then 3 else if starts cronB l then 8 else 0
theorem idx0 (w : World) : (Instr.index 104 (.agg #[.string ⟨#[84, 90, 61]⟩, .string ⟨#[67, 82, 79, 78, 95, 84, 90, 61]⟩]) (.int .i64 0)).run Tryz.prog w = .ok (.string ⟨#[84, 90, 61]⟩) w := by kernel_rfl
theorem idx1 (w : World) : (Instr.index 104 (.agg #[.string ⟨#[84, 90, 61]⟩, .string ⟨#[67, 82, 79, 78, 95, 84, 90, 61]⟩]) (.int .i64 1)).run Tryz.prog w = .ok (.string ⟨#[67, 82, 79, 78, 95, 84, 90, 61]⟩) w := by kernel_rfl
theorem begins_tz (s : ByteArray) (w : World) (hs : s.size ≤ 2147483647) : Calls Tryz.prog 50 #[.string s, .string ⟨#[84, 90, 61]⟩] w fun e w' => e = .returned (.bool (starts tzB s.data.toList)) ∧ w = w' :=
  begins_any s ⟨#[84, 90, 61]⟩ w (by unfold maxLen; omega) (by decide)
theorem begins_cron (s : ByteArray) (w : World) (hs : s.size ≤ 2147483647) : Calls Tryz.prog 50 #[.string s, .string ⟨#[67, 82, 79, 78, 95, 84, 90, 61]⟩] w fun e w' => e = .returned (.bool (starts cronB s.data.toList)) ∧ w = w' :=
  begins_any s ⟨#[67, 82, 79, 78, 95, 84, 90, 61]⟩ w (by unfold maxLen; omega) (by decide)

set_option maxRecDepth 100000 in
theorem zoneHead_any (s : ByteArray) (w : World) (hs : s.size ≤ 2147483647) :
    Calls Tryz.prog 28 #[.string s] w fun e w' => e = .returned (.int .i64 (zoneHead s.data.toList : Int)) ∧ w = w' := by
  have i0 := idx0
  have i1 := idx1
  have H1 := Lib.hid (fun w => begins_tz s w hs)
  have H2 := Lib.hid (fun w => begins_cron s w hs)
  unfold zoneHead
  cases h1 : starts tzB s.data.toList with
  | true =>
    rw [h1] at H1
    clear h1
    go_enter Tryz.func28, Tryz.ntmps28
    go_wp2
    go_loop [6, 4] (fun i _ => i = .int .i64 0) (fun i _ => (2 - intOf i).toNat)
    case atStart => rfl
    case round =>
      obtain rfl := hrel
      go_wp2_with (go_at_call 50; (first | (with_reducible refine (H1.out _).mono ?_) | (with_reducible refine (H2.out _).mono ?_)); rintro e w' ⟨rfl, rfl⟩)
      go_ret
      exact ⟨rfl, rfl⟩
  | false =>
    rw [h1] at H1
    clear h1
    cases h2 : starts cronB s.data.toList with
    | true =>
      rw [h2] at H2
      clear h2
      go_enter Tryz.func28, Tryz.ntmps28
      go_wp2
      go_loop [6, 4] (fun i _ => i = .int .i64 0 ∨ i = .int .i64 1) (fun i _ => (2 - intOf i).toNat)
      case atStart => exact .inl rfl
      case round =>
        rcases hrel with rfl | rfl
        · go_wp2_with (go_at_call 50; (first | (with_reducible refine (H1.out _).mono ?_) | (with_reducible refine (H2.out _).mono ?_)); rintro e w' ⟨rfl, rfl⟩)
          go_round
          case rel => exact .inr rfl
          case measure => simp [intOf]
        · go_wp2_with (go_at_call 50; (first | (with_reducible refine (H1.out _).mono ?_) | (with_reducible refine (H2.out _).mono ?_)); rintro e w' ⟨rfl, rfl⟩)
          go_ret
          exact ⟨rfl, rfl⟩
    | false =>
      rw [h2] at H2
      clear h2
      go_enter Tryz.func28, Tryz.ntmps28
      go_wp2
      go_loop [6, 4] (fun i _ => i = .int .i64 0 ∨ i = .int .i64 1 ∨ i = .int .i64 2) (fun i _ => (2 - intOf i).toNat)
      case atStart => exact .inl rfl
      case round =>
        rcases hrel with rfl | rfl | rfl
        · go_wp2_with (go_at_call 50; (first | (with_reducible refine (H1.out _).mono ?_) | (with_reducible refine (H2.out _).mono ?_)); rintro e w' ⟨rfl, rfl⟩)
          go_round
          case rel => exact .inr (.inl rfl)
          case measure => simp [intOf]
        · go_wp2_with (go_at_call 50; (first | (with_reducible refine (H1.out _).mono ?_) | (with_reducible refine (H2.out _).mono ?_)); rintro e w' ⟨rfl, rfl⟩)
          go_round
          case rel => exact .inr (.inr rfl)
          case measure => simp [intOf]
        · go_wp2
          go_ret
          exact ⟨rfl, rfl⟩

/-- What the law takes for a plain text. -/
def plainT (l : List UInt8) : Bool := !foreign l && (decide (l.length ≤ 65536) && (!starts [64] l && zoneHead l == 0))

set_option maxHeartbeats 1000000 in
set_option maxRecDepth 100000 in
theorem plainText_any (s : ByteArray) (w : World) (hs : s.size ≤ 2147483647) :
    Calls Tryz.prog 9 #[.string s] w fun e w' => e = .returned (.bool (plainT s.data.toList)) ∧ w = w' := by
  have H1 : Hid (∀ w, Calls Tryz.prog 27 #[.string s, .string ⟨#[64]⟩] w fun e w' => e = .returned (.bool (starts [64] s.data.toList)) ∧ w = w') := Lib.hid (fun w => lawHead_any s ⟨#[64]⟩ w (by unfold maxLen; omega) (by decide))
  have H2 := Lib.hid (fun w => zoneHead_any s w hs)
  obtain ⟨r, hr⟩ : ∃ r, plainT s.data.toList = r := ⟨_, rfl⟩
  rw [hr]
  unfold plainT at hr
  have HR := Lib.hid hr
  clear hr
  go_enter Tryz.func9, Tryz.ntmps9
  go_wp2
  go_loop [6, 3] (fun i _ => ∃ k : Nat, i = .int .i64 (k : Int) ∧ k ≤ s.size ∧ Hid (foreign (s.data.toList.take k) = false)) (fun i _ => s.size - (intOf i).toNat)
  case atStart => exact ⟨0, rfl, Nat.zero_le _, Lib.hid rfl⟩
  case round =>
    obtain ⟨k, rfl, hk, HK⟩ := hrel
    by_cases hlt : k < s.size
    · by_cases hb : 128 ≤ (s[k]).toNat
      · have HE := Lib.hid (foreign_at s k hlt hb)
        go_wp2
        go_ret
        exact ⟨by rw [← HR.out, HE.out]; rfl, rfl⟩
      · have HK2 := Lib.hid (show foreign (s.data.toList.take (k + 1)) = false by rw [foreign_take s k hlt, HK.out]; simpa using hb)
        go_wp2
        go_round
        case rel => exact ⟨k + 1, by go_num, by omega, HK2⟩
        case measure => simp [intOf]; omega
    · have h1 := HK.out
      rw [List.take_of_length_le (by simp; omega)] at h1
      have hR := HR.out
      rw [h1] at hR
      have HR2 := Lib.hid hR
      clear hR h1
      by_cases h65 : s.size ≤ 65536
      · have h65d : decide (s.data.toList.length ≤ 65536) = true := decide_eq_true (by simpa using h65)
        have h65i : (s.size : Int) ≤ 65536 := by omega
        have hR := HR2.out
        rw [h65d] at hR
        have HR2 := Lib.hid hR
        clear hR h65d
        cases hs1 : starts [64] s.data.toList with
        | true =>
          rw [hs1] at H1
          have hR := HR2.out
          rw [hs1] at hR
          have HR3 := Lib.hid hR
          clear hR hs1
          go_wp2_with (first
            | (go_at_call 27; refine (H1.out _).mono ?_; rintro e w' ⟨rfl, rfl⟩))
          go_ret
          exact ⟨by rw [← HR3.out]; rfl, rfl⟩
        | false =>
          rw [hs1] at H1
          have hR := HR2.out
          rw [hs1] at hR
          by_cases hz : zoneHead s.data.toList = 0
          · rw [hz] at H2 hR
            have HR3 := Lib.hid hR
            clear hR hs1 hz
            go_wp2_with (first
              | (go_at_call 27; refine (H1.out _).mono ?_; rintro e w' ⟨rfl, rfl⟩)
              | (go_at_call 28; refine (H2.out _).mono ?_; rintro e w' ⟨rfl, rfl⟩))
            go_ret
            exact ⟨by rw [← HR3.out]; rfl, rfl⟩
          · have hz2 : (zoneHead s.data.toList == 0) = false := beq_eq_false_iff_ne.2 hz
            rw [hz2] at hR
            have HR3 := Lib.hid hR
            obtain ⟨z, hz3⟩ : ∃ z, zoneHead s.data.toList = z := ⟨_, rfl⟩
            rw [hz3] at H2 hz
            have hq : ((z : Int) == 0) = false := beq_eq_false_iff_ne.2 (by omega)
            clear hR hs1 hz hz2 hz3
            go_wp2_with (first
              | (go_at_call 27; refine (H1.out _).mono ?_; rintro e w' ⟨rfl, rfl⟩)
              | (go_at_call 28; refine (H2.out _).mono ?_; rintro e w' ⟨rfl, rfl⟩))
            go_ret
            exact ⟨by rw [← HR3.out]; rfl, rfl⟩
      · have h65d : decide (s.data.toList.length ≤ 65536) = false := decide_eq_false (by simpa using h65)
        have hR := HR2.out
        rw [h65d] at hR
        have HR3 := Lib.hid hR
        have h65i : decide ((s.size : Int) ≤ 65536) = false := decide_eq_false (by omega)
        clear hR h65d
        go_wp2
        go_ret
        exact ⟨by rw [← HR3.out]; rfl, rfl⟩

/-- What CronOptions lets in. -/
def OptRes (o : Int) (w : World) (e : Ending) (w' : World) : Prop := ∃ b : Bool, e = .returned (.bool b) ∧ (b = true → ∃ n : Nat, o = (n : Int) ∧ n < 512 ∧ (sec o && dow o) = false) ∧ w = w'
theorem options_any (o : Int) (w : World) : Calls Tryz.prog 8 #[.int .i64 o] w (OptRes o w) := by
  by_cases h0 : 0 ≤ o
  · by_cases h1 : o < 512
    · obtain ⟨n, rfl⟩ : ∃ n : Nat, o = (n : Int) := ⟨o.toNat, by omega⟩
      obtain ⟨f1, f2, f3, f4, f5, f6, f7, f8⟩ := opts_facts ⟨n, by omega⟩
      simp only at f2 f3
      have HT := Lib.hid (fun w => two_any (n : Int) w f2 f3)
      clear f1 f2 f3 f4 f5 f6 f7 f8
      obtain ⟨b, hb⟩ : ∃ b, (sec (n : Int) && dow (n : Int)) = b := ⟨_, rfl⟩
      rw [hb] at HT
      have HR : Hid (∀ w, OptRes (n : Int) w (.returned (.bool (!b))) w) := Lib.hid (fun w => ⟨!b, rfl, fun h => ⟨n, rfl, by omega, by rw [hb]; simpa using h⟩, rfl⟩)
      clear hb
      go_enter Tryz.func8, Tryz.ntmps8
      go_wp2_with (go_at_call 26; refine (HT.out _).mono ?_; rintro e w' ⟨rfl, rfl⟩)
      go_ret
      exact HR.out _
    · have HR : Hid (∀ w, OptRes o w (.returned (.bool false)) w) := Lib.hid (fun w => ⟨false, rfl, fun h => (by cases h), rfl⟩)
      go_enter Tryz.func8, Tryz.ntmps8
      go_wp2
      go_ret
      exact HR.out _
  · have HR : Hid (∀ w, OptRes o w (.returned (.bool false)) w) := Lib.hid (fun w => ⟨false, rfl, fun h => (by cases h), rfl⟩)
    go_enter Tryz.func8, Tryz.ntmps8
    go_wp2
    go_ret
    exact HR.out _

/-- What CronOptions lets in, as a test. -/
def optB (o : Int) : Bool := decide (0 ≤ o) && decide (o < 512) && !(sec o && dow o)
theorem optB_facts {o : Int} (h : optB o = true) : ∃ n : Nat, o = (n : Int) ∧ n < 512 ∧ (sec o && dow o) = false := by
  unfold optB at h
  simp only [Bool.and_eq_true, decide_eq_true_eq, Bool.not_eq_true'] at h
  exact ⟨o.toNat, by omega, by omega, h.2⟩
theorem options_b (o : Int) (w : World) : Calls Tryz.prog 8 #[.int .i64 o] w fun e w' => e = .returned (.bool (optB o)) ∧ w = w' := by
  by_cases h0 : 0 ≤ o
  · by_cases h1 : o < 512
    · obtain ⟨n, rfl⟩ : ∃ n : Nat, o = (n : Int) := ⟨o.toNat, by omega⟩
      obtain ⟨f1, f2, f3, f4, f5, f6, f7, f8⟩ := opts_facts ⟨n, by omega⟩
      simp only at f2 f3
      have HT := Lib.hid (fun w => two_any (n : Int) w f2 f3)
      clear f1 f2 f3 f4 f5 f6 f7 f8
      have HR : Hid (optB (n : Int) = !(sec (n : Int) && dow (n : Int))) := Lib.hid (by unfold optB; rw [decide_eq_true h0, decide_eq_true h1]; rfl)
      obtain ⟨b, hb⟩ : ∃ b, (sec (n : Int) && dow (n : Int)) = b := ⟨_, rfl⟩
      rw [hb] at HT HR
      obtain ⟨r, hr⟩ : ∃ r, optB (n : Int) = r := ⟨_, rfl⟩
      rw [hr] at HR ⊢
      clear hb hr
      go_enter Tryz.func8, Tryz.ntmps8
      go_wp2_with (go_at_call 26; refine (HT.out _).mono ?_; rintro e w' ⟨rfl, rfl⟩)
      go_ret
      exact ⟨by rw [HR.out]; rfl, rfl⟩
    · have HR : Hid (optB o = false) := Lib.hid (by unfold optB; rw [decide_eq_false h1]; simp)
      obtain ⟨r, hr⟩ : ∃ r, optB o = r := ⟨_, rfl⟩
      rw [hr] at HR ⊢
      clear hr
      go_enter Tryz.func8, Tryz.ntmps8
      go_wp2
      go_ret
      exact ⟨by rw [HR.out]; rfl, rfl⟩
  · have HR : Hid (optB o = false) := Lib.hid (by unfold optB; rw [decide_eq_false h0]; simp)
    obtain ⟨r, hr⟩ : ∃ r, optB o = r := ⟨_, rfl⟩
    rw [hr] at HR ⊢
    clear hr
    go_enter Tryz.func8, Tryz.ntmps8
    go_wp2
    go_ret
    exact ⟨by rw [HR.out]; rfl, rfl⟩

end Go.Proofs.YtmnjmhlodbifjaaGreatDoor.ZoneHead
