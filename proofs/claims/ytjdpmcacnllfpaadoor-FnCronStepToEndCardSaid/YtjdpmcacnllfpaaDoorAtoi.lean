/- cron's mustParseInt: the number of a text of at most 2^48 bytes. Conditions: strconv's two sentinels hold something. -/
import Derived.Test.YtjdpmcacnllfpaaDoorErr
import Derived.Test.YtjdpmcacnllfpaaDoorShelf
import Derived.Lib.AtoiErrMem
import Derived.Test.YtjdpmcacnllfpaaDoorNumPure
namespace Go.Proofs.YtjdpmcacnllfpaaDoor.Atoi
open Go.RowKit Go.Proofs.YtjdpmcacnllfpaaDoor.Err Go.Proofs.YtjdpmcacnllfpaaDoor.NumPure


theorem numberOf_le {l : List UInt8} {n : Nat} (h : numberOf l = some n) : n ≤ 9223372036854775807 := by
  unfold numberOf at h
  split at h
  · rename_i v hv
    have hb := Lib.atoiAll_bounds hv
    split at h
    · cases h; omega
    · cases h
  · cases h

/-- A pair of a number and an error, as a call hands it back. -/
def NumErr (r : Option Nat) (e : Ending) : Prop :=
  match r with
  | some n => e = .returned (.tuple #[.int .u64 (n : Int), .nilIface])
  | none => ∃ T p, e = .returned (.tuple #[.int .u64 0, .iface T p])

set_option maxHeartbeats 400000 in
theorem must_ok (s : ByteArray) (n : Nat) (w : World) (hs : s.size ≤ 281474976710656) (h : numberOf s.data.toList = some n) :
    Calls Tryd.prog 36 #[.string s] w fun e w' => e = .returned (.tuple #[.int .u64 (n : Int), .nilIface]) ∧ Below w.heap.size w w' := by
  have hn := numberOf_le h
  have hok : Lib.atoiAll s.data.toList = .ok (n : Int) := by
    unfold numberOf at h
    split at h
    · rename_i v hv
      split at h
      · cases h; rw [hv]; congr 1; omega
      · cases h
    · cases h
  go_enter Tryd.func36, Tryd.ntmps36
  go_wp2_with (go_at_call 42; refine (Tryd.strconv_Atoi_ok s (by omega) _ hok _).mono ?_; rintro e w' ⟨rfl, hw⟩)
  go_ret2
  refine ⟨rfl, ?_⟩
  rcases hw with rfl | ⟨t, rfl⟩
  · exact Below.refl _ _
  · exact Lib.bytesWorld_below _ _ _

set_option maxHeartbeats 400000 in
theorem must_bad (s : ByteArray) (w : World) (hv : ErrVars w) (hs : s.size ≤ 281474976710656) (h : numberOf s.data.toList = none) :
    Calls Tryd.prog 36 #[.string s] w fun e w' => (∃ T p, e = .returned (.tuple #[.int .u64 0, .iface T p])) ∧ Below w.heap.size w w' := by
  obtain ⟨⟨t1, p1, h1⟩, t2, p2, h2⟩ := hv
  rcases ha : Lib.atoiAll s.data.toList with v | _ | _
  · skip
    have hb := Lib.atoiAll_bounds ha
    have hneg : v < 0 := by
      unfold numberOf at h
      rw [ha] at h
      simp only at h
      split at h
      · cases h
      · omega
    go_enter Tryd.func36, Tryd.ntmps36
    go_wp2_with (first
      | (go_at_call 42; refine (Tryd.strconv_Atoi_ok s (by omega) _ ha _).mono ?_; rintro e w1 ⟨rfl, hw⟩)
      | (go_at_call 43; refine (errorsNew_any _ _).mono ?_; rintro e w2 ⟨⟨N, rfl⟩, hb2⟩))
    go_ret2
    refine ⟨⟨_, _, rfl⟩, ?_⟩
    have hb1 : Below w.heap.size w w1 := by
      rcases hw with rfl | ⟨t, rfl⟩
      · exact Below.refl _ _
      · exact Lib.bytesWorld_below _ _ _
    exact hb1.trans (hb2.mono hb1.size)
  · skip
    go_enter Tryd.func36, Tryd.ntmps36
    go_wp2_with (first
      | (go_at_call 42; refine (Tryd.strconv_Atoi_syntax_var s hs ha t1 p1 _ h1).mono ?_; rintro e w1 ⟨N, rfl, -, -, hb1⟩)
      | (go_at_call 43; refine (errorsNew_any _ _).mono ?_; rintro e w2 ⟨⟨N2, rfl⟩, hb2⟩))
    go_ret2
    exact ⟨⟨_, _, rfl⟩, hb1.trans (hb2.mono hb1.size)⟩
  · skip
    go_enter Tryd.func36, Tryd.ntmps36
    go_wp2_with (first
      | (go_at_call 42; refine (Tryd.strconv_Atoi_range_var s hs ha t2 p2 _ h2).mono ?_; rintro e w1 ⟨N, rfl, -, -, hb1⟩)
      | (go_at_call 43; refine (errorsNew_any _ _).mono ?_; rintro e w2 ⟨⟨N2, rfl⟩, hb2⟩))
    go_ret2
    exact ⟨⟨_, _, rfl⟩, hb1.trans (hb2.mono hb1.size)⟩

theorem must_any (s : ByteArray) (w : World) (hv : ErrVars w) (hs : s.size ≤ 281474976710656) :
    Calls Tryd.prog 36 #[.string s] w fun e w' => NumErr (numberOf s.data.toList) e ∧ Below w.heap.size w w' := by
  cases h : numberOf s.data.toList with
  | some n => exact must_ok s n w hs h
  | none => exact must_bad s w hv hs h

end Go.Proofs.YtjdpmcacnllfpaaDoor.Atoi
