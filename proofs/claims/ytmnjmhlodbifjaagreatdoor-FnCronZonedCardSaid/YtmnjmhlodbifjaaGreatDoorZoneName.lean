/- Names of time zones: time.LoadLocation and the reference's CronZoneName. Conditions: names of at most 65536 bytes; the package's own error holds something. -/
import Derived.Test.YtmnjmhlodbifjaaGreatDoorBig
import Derived.Test.YtmnjmhlodbifjaaGreatDoorAtoi
import Derived.Deep.QuietTactic
import Derived.BigQuiet
namespace Go.Proofs.YtmnjmhlodbifjaaGreatDoor.ZoneName
open Go Go.RowKit Go.Proofs.YtmnjmhlodbifjaaGreatDoor.Mem Go.Proofs.YtmnjmhlodbifjaaGreatDoor.Aid Go.Proofs.YtmnjmhlodbifjaaGreatDoor.Err
set_option linter.unusedVariables false

def utcB : List UInt8 := [85, 84, 67]
def localB : List UInt8 := [76, 111, 99, 97, 108]
/-- What a name names: UTC, no zone of the schedule's own, or no zone that is known here. -/
def zname (l : List UInt8) : Option Bool := if l = [] ∨ l = utcB then some true else if l = localB then some false else none
/-- The error of a location's name. -/
def LocErr (w : World) : Prop := ∃ T p, w.cell? ⟨0, 0, none⟩ = some (.iface T p)
theorem LocErr.below {w w' : World} (h : LocErr w) (hb : Below w.heap.size w w') : LocErr w' := by
  obtain ⟨T, p, h⟩ := h
  exact ⟨T, p, (hb.cell (p := ⟨0, 0, none⟩) (World.block_lt_of_cell? w _ h)).trans h⟩

theorem utc_any (w : World) : Calls Tryz.prog 75 #[] w fun e w' => (∃ a, e = .returned (.pointer (some a))) ∧ Below w.heap.size w w' := by
  go_enter Tryz.func75, Tryz.ntmps75
  go_wp2
  go_ret
  exact ⟨⟨_, rfl⟩, (Below.refl _ _).alloc (Nat.le_refl _) _⟩

def dots (l : List UInt8) : Bool := (List.range (l.length - 1)).any fun i => l.getD i 0 == 46 && l.getD (i + 1) 0 == 46
theorem dots_yes {l : List UInt8} {k : Nat} (hk : k + 1 < l.length) (h1 : l.getD k 0 = 46) (h2 : l.getD (k + 1) 0 = 46) : dots l = true := by
  unfold dots
  rw [List.any_eq_true]
  exact ⟨k, List.mem_range.2 (by omega), by rw [h1, h2]; rfl⟩
theorem dots_no {l : List UInt8} (h : ∀ k, k + 1 < l.length → ¬ (l.getD k 0 = 46 ∧ l.getD (k + 1) 0 = 46)) : dots l = false := by
  unfold dots
  rw [List.any_eq_false]
  intro k hk
  have hk := List.mem_range.1 hk
  have := h k (by omega)
  simpa using this
theorem getD_at (s : ByteArray) (k : Nat) (h : k < s.size) : s.data.toList.getD k 0 = s[k] := by
  rw [List.getD_eq_getElem?_getD, List.getElem?_eq_getElem (by simpa using h)]; rfl
theorem byte_eq {b : UInt8} {n : Nat} (hn : n < 256) (h : ((b.toNat : Int) == (n : Int)) = true) : b = UInt8.ofNat n := by
  have h1 : (b.toNat : Int) = (n : Int) := by simpa using h
  have : b.toNat = n := by omega
  rw [← UInt8.toNat_inj, this]
  simp [Nat.mod_eq_of_lt hn]
theorem dots_any (s : ByteArray) (w : World) (hs : s.size ≤ 65536) : Calls Tryz.prog 90 #[.string s] w fun e w' => e = .returned (.bool (dots s.data.toList)) ∧ w = w' := by
  by_cases h2 : s.size < 2
  · have HD := Lib.hid (dots_no (l := s.data.toList) (fun k hk => by simp at hk; omega))
    go_enter Tryz.func90, Tryz.ntmps90
    go_wp2
    go_ret
    exact ⟨by rw [HD.out]; rfl, rfl⟩
  · obtain ⟨r, hr⟩ : ∃ r, dots s.data.toList = r := ⟨_, rfl⟩
    rw [hr]
    have HR := Lib.hid hr
    clear hr
    go_enter Tryz.func90, Tryz.ntmps90
    go_wp2
    go_loop [3] (fun i => ∃ k : Nat, i = .int .i64 (k : Int) ∧ k + 1 ≤ s.size ∧ Hid (∀ j, j < k → ¬ (s.data.toList.getD j 0 = 46 ∧ s.data.toList.getD (j + 1) 0 = 46))) (fun i => s.size - (intOf i).toNat)
    case atStart => exact ⟨0, rfl, by omega, Lib.hid (fun j hj => by omega)⟩
    case round =>
      obtain ⟨k, rfl, hk, HK⟩ := hrel
      by_cases hlt : k + 1 < s.size
      · have hki : (k : Int) + 1 < (s.size : Int) := by omega
        have hk0 : k < s.size := by omega
        obtain ⟨x, hx⟩ : ∃ x : Bool, (((s[k]).toNat : Int) == 46) = x := ⟨_, rfl⟩
        obtain ⟨y, hy⟩ : ∃ y : Bool, (((s[k + 1]).toNat : Int) == 46) = y := ⟨_, rfl⟩
        have HN : (x && y) = false → Hid (∀ j, j < k + 1 → ¬ (s.data.toList.getD j 0 = 46 ∧ s.data.toList.getD (j + 1) 0 = 46)) := fun hxy => Lib.hid (fun j hj => by
          by_cases hjk : j = k
          · subst hjk
            rw [getD_at s j hk0, getD_at s (j + 1) hlt]
            rintro ⟨e1, e2⟩
            rw [e1] at hx
            rw [e2] at hy
            rw [← hx, ← hy] at hxy
            revert hxy; decide
          · exact HK.out j (by omega))
        have HY : (x && y) = true → Hid (dots s.data.toList = true) := fun hxy => Lib.hid (by
          simp only [Bool.and_eq_true] at hxy
          refine dots_yes (k := k) (by simpa using hlt) ?_ ?_
          · rw [getD_at s k hk0]; exact byte_eq (n := 46) (by omega) (by rw [← hxy.1]; exact hx)
          · rw [getD_at s (k + 1) hlt]; exact byte_eq (n := 46) (by omega) (by rw [← hxy.2]; exact hy))
        cases x with
        | false =>
          have HN := HN rfl
          clear HY
          go_wp2
          go_round
          case rel => exact ⟨k + 1, by go_num, by omega, HN⟩
          case measure => simp [intOf]; omega
        | true =>
          cases y with
          | false =>
            have HN := HN rfl
            clear HY
            go_wp2
            go_round
            case rel => exact ⟨k + 1, by go_num, by omega, HN⟩
            case measure => simp [intOf]; omega
          | true =>
            have HY := HY rfl
            clear HN
            go_wp2
            go_ret
            exact ⟨by rw [← HR.out, HY.out]; rfl, rfl⟩
      · have HD := Lib.hid (dots_no (l := s.data.toList) (fun j hj => HK.out j (by simp at hj; omega)))
        go_wp2
        go_ret
        exact ⟨by rw [← HR.out, HD.out]; rfl, rfl⟩

/-- What LoadLocation hands back. -/
def LocRes (r : Option Bool) (e : Ending) : Prop :=
  match r with
  | some true => ∃ a, e = .returned (.tuple #[.pointer (some a), .nilIface])
  | some false => e = .returned (.tuple #[.pointer none, .nilIface])
  | none => ∃ T p, e = .returned (.tuple #[.pointer none, .iface T p])
theorem errNew_any (s : ByteArray) (w : World) :
    Calls Tryz.prog 53 #[.string s] w fun e w' => (∃ T p, e = .returned (.iface T p)) ∧ Below w.heap.size w w' := by
  go_enter Tryz.func53, Tryz.ntmps53
  go_wp2
  go_ret
  exact ⟨⟨_, _, rfl⟩, (Below.refl _ _).alloc (Nat.le_refl _) _⟩
theorem beq_list {s : ByteArray} {l : List UInt8} (h : s.data.toList = l) : (s.toList == l) = true := by rw [ByteArray.toList_eq, h]; simp
theorem beq_not {s : ByteArray} {l : List UInt8} (h : ¬ s.data.toList = l) : (s.toList == l) = false := by rw [ByteArray.toList_eq]; simpa using h
set_option maxHeartbeats 1000000 in
theorem load_any (s : ByteArray) (w : World) (hs : s.size ≤ 65536) (hv : LocErr w) : Calls Tryz.prog 56 #[.string s] w fun e w' => LocRes (zname s.data.toList) e ∧ Below w.heap.size w w' := by
  unfold zname
  by_cases h0 : s.data.toList = []
  · rw [if_pos (.inl h0)]
    have q0 := beq_list h0
    have q1 : s.toList.isEmpty = true := by rw [ByteArray.toList_eq, h0]; rfl
    clear h0
    go_enter Tryz.func56, Tryz.ntmps56
    go_wp2_with (go_at_call 75; refine (utc_any _).mono ?_; rintro e w1 ⟨he, hb1⟩; obtain ⟨a, rfl⟩ := he)
    go_ret2
    exact ⟨⟨_, rfl⟩, hb1⟩
  · have q0 := beq_not h0
    have q1 : s.toList.isEmpty = false := by rw [ByteArray.toList_eq]; simpa using h0
    by_cases h1 : s.data.toList = utcB
    · rw [if_pos (.inr h1)]
      have q2 : (s.toList == [85, 84, 67]) = true := beq_list h1
      clear h0 h1
      go_enter Tryz.func56, Tryz.ntmps56
      go_wp2_with (go_at_call 75; refine (utc_any _).mono ?_; rintro e w1 ⟨he, hb1⟩; obtain ⟨a, rfl⟩ := he)
      go_ret2
      exact ⟨⟨_, rfl⟩, hb1⟩
    · rw [if_neg (by rintro (h | h); exact h0 h; exact h1 h)]
      have q2 : (s.toList == [85, 84, 67]) = false := beq_not h1
      by_cases h3 : s.data.toList = localB
      · rw [if_pos h3]
        have q3 : (s.toList == [76, 111, 99, 97, 108]) = true := beq_list h3
        clear h0 h1 h3
        go_enter Tryz.func56, Tryz.ntmps56
        go_wp2
        go_ret2
        exact ⟨rfl, Below.refl _ _⟩
      · rw [if_neg h3]
        have q3 : (s.toList == [76, 111, 99, 97, 108]) = false := beq_not h3
        have hpos : 0 < s.size := by
          rcases Nat.eq_zero_or_pos s.size with h | h
          · exact absurd (List.eq_nil_of_length_eq_zero (by simpa using h)) h0
          · exact h
        have HD := Lib.hid (fun w => dots_any s w hs)
        obtain ⟨T, p, hc⟩ := hv
        clear h0 h1 h3
        cases hd : dots s.data.toList with
        | true =>
          rw [hd] at HD
          clear hd
          go_enter Tryz.func56, Tryz.ntmps56
          go_wp2_with (go_at_call 90; refine (HD.out _).mono ?_; rintro e w1 ⟨rfl, rfl⟩)
          go_quiet (fail)
          go_wp2
          go_ret2
          exact ⟨⟨_, _, rfl⟩, drewNd (Below.refl _ _) _⟩
        | false =>
          rw [hd] at HD
          clear hd
          obtain ⟨x, hx⟩ : ∃ x : Bool, (((s[0]).toNat : Int) == 47) = x := ⟨_, rfl⟩
          obtain ⟨y, hy⟩ : ∃ y : Bool, (((s[0]).toNat : Int) == 92) = y := ⟨_, rfl⟩
          cases x with
          | true =>
            go_enter Tryz.func56, Tryz.ntmps56
            go_wp2_with (go_at_call 90; refine (HD.out _).mono ?_; rintro e w1 ⟨rfl, rfl⟩)
            go_quiet (fail)
            go_wp2
            go_ret2
            exact ⟨⟨_, _, rfl⟩, drewNd (Below.refl _ _) _⟩
          | false =>
            cases y with
            | true =>
              go_enter Tryz.func56, Tryz.ntmps56
              go_wp2_with (go_at_call 90; refine (HD.out _).mono ?_; rintro e w1 ⟨rfl, rfl⟩)
              go_quiet (fail)
              go_wp2
              go_ret2
              exact ⟨⟨_, _, rfl⟩, drewNd (Below.refl _ _) _⟩
            | false =>
              go_enter Tryz.func56, Tryz.ntmps56
              go_wp2_with (first
                | (go_at_call 90; refine (HD.out _).mono ?_; rintro e w1 ⟨rfl, rfl⟩)
                | (go_at_call 53; refine (errNew_any _ _).mono ?_; rintro e w2 ⟨he, hb2⟩; obtain ⟨T2, p2, rfl⟩ := he))
              go_ret2
              exact ⟨⟨_, _, rfl⟩, hb2⟩

/-- What CronZoneName hands back. -/
def NameRes (r : Option Bool) (w : World) (e : Ending) (w' : World) : Prop :=
  match r with
  | some u => e = .returned (.tuple #[.bool u, .int .i64 1]) ∧ w = w'
  | none => ∃ v : Nat, e = .returned (.tuple #[.bool false, .int .i64 (v : Int)]) ∧ (v = 0 ∨ v = 2) ∧ w = w'
set_option maxHeartbeats 1000000 in
theorem name_any (s : ByteArray) (w : World) (hs : s.size ≤ 65536) : Calls Tryz.prog 43 #[.string s] w (NameRes (zname s.data.toList) w) := by
  unfold zname
  have HR0 : Hid (∀ w, NameRes none w (.returned (.tuple #[.bool false, .int .i64 0])) w) := Lib.hid (fun w => ⟨0, rfl, .inl rfl, rfl⟩)
  have HR2 : Hid (∀ w, NameRes none w (.returned (.tuple #[.bool false, .int .i64 2])) w) := Lib.hid (fun w => ⟨2, rfl, .inr rfl, rfl⟩)
  by_cases h0 : s.data.toList = []
  · rw [if_pos (.inl h0)]
    have q0 := beq_list h0
    have q1 : s.toList.isEmpty = true := by rw [ByteArray.toList_eq, h0]; rfl
    clear h0
    go_enter Tryz.func43, Tryz.ntmps43
    go_wp2
    go_ret2
    exact ⟨rfl, rfl⟩
  · have q0 := beq_not h0
    have q1 : s.toList.isEmpty = false := by rw [ByteArray.toList_eq]; simpa using h0
    by_cases h1 : s.data.toList = utcB
    · rw [if_pos (.inr h1)]
      have q2 : (s.toList == [85, 84, 67]) = true := beq_list h1
      clear h0 h1
      go_enter Tryz.func43, Tryz.ntmps43
      go_wp2
      go_ret2
      exact ⟨rfl, rfl⟩
    · rw [if_neg (by rintro (h | h); exact h0 h; exact h1 h)]
      have q2 : (s.toList == [85, 84, 67]) = false := beq_not h1
      by_cases h3 : s.data.toList = localB
      · rw [if_pos h3]
        have q3 : (s.toList == [76, 111, 99, 97, 108]) = true := beq_list h3
        clear h0 h1 h3
        go_enter Tryz.func43, Tryz.ntmps43
        go_wp2
        go_ret2
        exact ⟨rfl, rfl⟩
      · rw [if_neg h3]
        have q3 : (s.toList == [76, 111, 99, 97, 108]) = false := beq_not h3
        have hpos : 0 < s.size := by
          rcases Nat.eq_zero_or_pos s.size with h | h
          · exact absurd (List.eq_nil_of_length_eq_zero (by simpa using h)) h0
          · exact h
        clear h0 h1 h3
        obtain ⟨x, hx⟩ : ∃ x : Bool, (((s[0]).toNat : Int) == 47) = x := ⟨_, rfl⟩
        obtain ⟨y, hy⟩ : ∃ y : Bool, (((s[0]).toNat : Int) == 92) = y := ⟨_, rfl⟩
        cases x with
        | true =>
          go_enter Tryz.func43, Tryz.ntmps43
          go_wp2
          go_ret2
          exact HR0.out _
        | false =>
          cases y with
          | true =>
            go_enter Tryz.func43, Tryz.ntmps43
            go_wp2
            go_ret2
            exact HR0.out _
          | false =>
            go_enter Tryz.func43, Tryz.ntmps43
            go_wp2
            go_loop [4] (fun i => ∃ k : Nat, i = .int .i64 (k : Int) ∧ 1 ≤ k ∧ k ≤ s.size) (fun i => s.size - (intOf i).toNat)
            case atStart => exact ⟨1, rfl, by omega, by omega⟩
            case round =>
              obtain ⟨k, rfl, h1, hk⟩ := hrel
              clear hx hy
              by_cases hlt : k < s.size
              · have hki : (k : Int) < (s.size : Int) := by omega
                have hk1 : k - 1 < s.size := by omega
                have hkm : (k : Int) - 1 = ((k - 1 : Nat) : Int) := by omega
                obtain ⟨a, ha⟩ : ∃ a : Bool, (((s[k - 1]).toNat : Int) == 46) = a := ⟨_, rfl⟩
                obtain ⟨b, hb⟩ : ∃ b : Bool, (((s[k]).toNat : Int) == 46) = b := ⟨_, rfl⟩
                cases a with
                | false =>
                  go_wp2
                  go_round
                  case rel => exact ⟨k + 1, by go_num, by omega, by omega⟩
                  case measure => simp [intOf]; omega
                | true =>
                  cases b with
                  | false =>
                    go_wp2
                    go_round
                    case rel => exact ⟨k + 1, by go_num, by omega, by omega⟩
                    case measure => simp [intOf]; omega
                  | true =>
                    go_wp2
                    go_ret2
                    exact HR0.out _
              · go_wp2
                go_ret2
                exact HR2.out _

end Go.Proofs.YtmnjmhlodbifjaaGreatDoor.ZoneName
