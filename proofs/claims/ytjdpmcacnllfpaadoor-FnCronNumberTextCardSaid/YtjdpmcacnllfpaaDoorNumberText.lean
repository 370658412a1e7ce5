/- The walk of the law FnCronNumberText: a text that isn't digits alone is no number, and one of up to twelve digits is its number. Conditions: none (the row lists strconv's sentinels). -/
import Derived.Test.YtjdpmcacnllfpaaDoorSpecNum
import Derived.Test.YtjdpmcacnllfpaaDoorCronNumber
namespace Go.Proofs.YtjdpmcacnllfpaaDoor.fnCronNumberText
open Go.RowKit Go.Proofs.YtjdpmcacnllfpaaDoor.Err Go.Proofs.YtjdpmcacnllfpaaDoor.NumPure Go.Proofs.YtjdpmcacnllfpaaDoor.Atoi Go.Proofs.YtjdpmcacnllfpaaDoor.SpecNum Go.Proofs.YtjdpmcacnllfpaaDoor.CronNumber

set_option maxHeartbeats 400000 in
theorem walk (s : ByteArray) (w : World) (hsm : s.size ≤ maxLen) (hv : ErrVars w) :
    Calls Tryd.prog 3 #[.string s] w fun e w' => e = .returned (.bool true) ∧ Below w.heap.size w w' := by
  unfold maxLen at hsm
  by_cases h1 : 2147483647 < s.size
  · go_enter Tryd.func3, Tryd.ntmps3
    go_wp2_with fail
    go_ret
    exact ⟨rfl, Below.refl _ _⟩
  by_cases h2 : 65536 < s.size
  · go_enter Tryd.func3, Tryd.ntmps3
    go_wp2_with fail
    go_ret
    exact ⟨rfl, Below.refl _ _⟩
  have hb := bad_none s.data.toList
  have hf := fine_some s.data.toList
  have hlen : s.data.toList.length = s.size := by simp
  rw [hlen] at hf
  have hle : (specNumber s.data.toList).1 ≤ 1099511627776 := by
    rw [specNumber_part, readPart]
    generalize (if signed s.data.toList then s.data.toList.tail else s.data.toList) = t
    by_cases ht : t = []
    · rw [if_pos ht]; simp
    · rw [if_neg ht]
      cases hn : readN 0 t with
      | none => simp
      | some n => exact readN_le hn (by unfold huge; omega)
  obtain ⟨nv, hnv⟩ : ∃ nv, specNumber s.data.toList = nv := ⟨_, rfl⟩
  obtain ⟨r, hr⟩ : ∃ r, numberOf s.data.toList = r := ⟨_, rfl⟩
  have hspec := fun w => cronNumber_any s w (by omega)
  have hok := fun (n : Nat) (h : numberOf s.data.toList = some n) (w : World) => impl_ok s n w (by omega) h
  have hbad := fun (h : numberOf s.data.toList = none) (w : World) (hv : ErrVars w) => impl_bad s w hv (by omega) h
  rw [hnv] at hspec hb hf hle
  simp only [hr] at hok hbad hb hf
  obtain ⟨n, v⟩ := nv
  simp only at hb hf hle
  have HB := Lib.hid hb
  have HF := Lib.hid hf
  have HS := Lib.hid hspec
  have HO := Lib.hid hok
  have HN := Lib.hid hbad
  clear hb hf hspec hok hbad hnv hr hlen
  by_cases hv0 : v = 0
  · subst hv0
    obtain rfl := HB.out rfl
    go_enter Tryd.func3, Tryd.ntmps3
    go_wp2_with (first
      | (go_at_call 7; refine (HS.out _).mono ?_; rintro e w' ⟨rfl, rfl⟩)
      | (go_at_call 8; refine (HN.out (by trivial) _ hv).mono ?_; rintro e w' ⟨rfl, hb⟩))
    go_ret
    exact ⟨rfl, hb⟩
  · have hv0' : ((v : Int) == 0) = false := beq_eq_false_iff_ne.2 (by omega)
    by_cases hv1 : v = 1 ∧ s.size ≤ 12
    · obtain ⟨rfl, hl⟩ := hv1
      obtain rfl := HF.out rfl hl
      go_enter Tryd.func3, Tryd.ntmps3
      go_wp2_with (first
        | (go_at_call 7; refine (HS.out _).mono ?_; rintro e w' ⟨rfl, rfl⟩)
        | (go_at_call 8; refine (HO.out n (by trivial) _).mono ?_; rintro e w' ⟨rfl, hb⟩))
      go_ret
      exact ⟨by simp, hb⟩
    · by_cases hv2 : v = 1
      · have hl : ¬ s.size ≤ 12 := fun h => hv1 ⟨hv2, h⟩
        subst hv2
        clear hv1
        cases r with
        | none =>
          go_enter Tryd.func3, Tryd.ntmps3
          go_wp2_with (first
            | (go_at_call 7; refine (HS.out _).mono ?_; rintro e w' ⟨rfl, rfl⟩)
            | (go_at_call 8; refine (HN.out (by trivial) _ hv).mono ?_; rintro e w' ⟨rfl, hb⟩))
          go_ret
          exact ⟨rfl, hb⟩
        | some m =>
          go_enter Tryd.func3, Tryd.ntmps3
          go_wp2_with (first
            | (go_at_call 7; refine (HS.out _).mono ?_; rintro e w' ⟨rfl, rfl⟩)
            | (go_at_call 8; refine (HO.out m (by trivial) _).mono ?_; rintro e w' ⟨rfl, hb⟩))
          go_ret
          exact ⟨rfl, hb⟩
      · have hv2' : ((v : Int) == 1) = false := beq_eq_false_iff_ne.2 (by omega)
        clear hv1
        cases r with
        | none =>
          go_enter Tryd.func3, Tryd.ntmps3
          go_wp2_with (first
            | (go_at_call 7; refine (HS.out _).mono ?_; rintro e w' ⟨rfl, rfl⟩)
            | (go_at_call 8; refine (HN.out (by trivial) _ hv).mono ?_; rintro e w' ⟨rfl, hb⟩))
          go_ret
          exact ⟨rfl, hb⟩
        | some m =>
          go_enter Tryd.func3, Tryd.ntmps3
          go_wp2_with (first
            | (go_at_call 7; refine (HS.out _).mono ?_; rintro e w' ⟨rfl, rfl⟩)
            | (go_at_call 8; refine (HO.out m (by trivial) _).mono ?_; rintro e w' ⟨rfl, hb⟩))
          go_ret
          exact ⟨rfl, hb⟩

end Go.Proofs.YtjdpmcacnllfpaaDoor.fnCronNumberText
