/- impl's CronNumber: what mustParseInt makes of a text, as plain data. Conditions: strconv's two sentinels hold something; texts of at most 2^48 bytes. -/
import Derived.Test.YtjdpmcacnllfpaaDoorAtoi
namespace Go.Proofs.YtjdpmcacnllfpaaDoor.CronNumber
open Go.RowKit Go.Proofs.YtjdpmcacnllfpaaDoor.Err Go.Proofs.YtjdpmcacnllfpaaDoor.NumPure Go.Proofs.YtjdpmcacnllfpaaDoor.Atoi

/-- A number and whether it is one, as plain data. -/
def numOk (r : Option Nat) : Value :=
  match r with
  | some n => .tuple #[.int .u64 (n : Int), .bool true]
  | none => .tuple #[.int .u64 0, .bool false]

theorem zz_ok (s : ByteArray) (n : Nat) (w : World) (hs : s.size ≤ 281474976710656) (h : numberOf s.data.toList = some n) :
    Calls Tryd.prog 24 #[.string s] w fun e w' => e = .returned (.tuple #[.int .u64 (n : Int), .nilIface]) ∧ Below w.heap.size w w' := by
  go_enter Tryd.func24, Tryd.ntmps24
  go_wp2_with (go_at_call 36; refine (must_ok s n _ hs h).mono ?_; rintro e w' ⟨rfl, hb⟩)
  go_ret2
  exact ⟨rfl, hb⟩

theorem zz_bad (s : ByteArray) (w : World) (hv : ErrVars w) (hs : s.size ≤ 281474976710656) (h : numberOf s.data.toList = none) :
    Calls Tryd.prog 24 #[.string s] w fun e w' => (∃ T p, e = .returned (.tuple #[.int .u64 0, .iface T p])) ∧ Below w.heap.size w w' := by
  go_enter Tryd.func24, Tryd.ntmps24
  go_wp2_with (go_at_call 36; refine (must_bad s _ hv hs h).mono ?_; rintro e w' ⟨⟨T, p, rfl⟩, hb⟩)
  go_ret2
  exact ⟨⟨_, _, rfl⟩, hb⟩

theorem impl_ok (s : ByteArray) (n : Nat) (w : World) (hs : s.size ≤ 281474976710656) (h : numberOf s.data.toList = some n) :
    Calls Tryd.prog 8 #[.string s] w fun e w' => e = .returned (.tuple #[.int .u64 (n : Int), .bool true]) ∧ Below w.heap.size w w' := by
  go_enter Tryd.func8, Tryd.ntmps8
  go_wp2_with (first
    | (go_at_call 24; refine (zz_ok s n _ hs h).mono ?_; rintro e w' ⟨rfl, hb⟩)
    | (go_at_call 23; go_in))
  go_ret2
  exact ⟨rfl, hb⟩

theorem impl_bad (s : ByteArray) (w : World) (hv : ErrVars w) (hs : s.size ≤ 281474976710656) (h : numberOf s.data.toList = none) :
    Calls Tryd.prog 8 #[.string s] w fun e w' => e = .returned (.tuple #[.int .u64 0, .bool false]) ∧ Below w.heap.size w w' := by
  go_enter Tryd.func8, Tryd.ntmps8
  go_wp2_with (first
    | (go_at_call 24; refine (zz_bad s _ hv hs h).mono ?_; rintro e w' ⟨⟨T, p, rfl⟩, hb⟩)
    | (go_at_call 23; go_in))
  go_ret2
  exact ⟨rfl, hb⟩

theorem impl_any (s : ByteArray) (w : World) (hv : ErrVars w) (hs : s.size ≤ 281474976710656) :
    Calls Tryd.prog 8 #[.string s] w fun e w' => e = .returned (numOk (numberOf s.data.toList)) ∧ Below w.heap.size w w' := by
  cases h : numberOf s.data.toList with
  | some n => exact impl_ok s n w hs h
  | none => exact impl_bad s w hv hs h

end Go.Proofs.YtjdpmcacnllfpaaDoor.CronNumber
