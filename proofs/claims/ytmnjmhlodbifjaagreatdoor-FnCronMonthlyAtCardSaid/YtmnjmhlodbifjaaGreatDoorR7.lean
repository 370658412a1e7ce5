/- errors.New and the package variables that strconv's errors read. Conditions: none. · cron's mustParseInt: the number of a text of at most 2^48 bytes. Conditions: strconv's two sentinels hold something. -/
import Derived.Test.YtmnjmhlodbifjaaGreatDoorChecked
import Derived.Test.YtmnjmhlodbifjaaGreatDoorR2
import Derived.ProofKit
import Derived.OpenShut
import Derived.Lib.Hide
import Derived.WalkSmall
import Derived.Test.YtmnjmhlodbifjaaGreatDoorR6
import Derived.Lib.AtoiErrMem
import Derived.Test.YtmnjmhlodbifjaaGreatDoorR3

namespace Go.Proofs.YtmnjmhlodbifjaaGreatDoor.Err
open Go.RowKit
theorem errorsNew_any (s : ByteArray) (w : World) :
    Calls Tryz.prog 53 #[.string s] w fun e w' => (∃ N, e = .returned (.iface 147 (.pointer (some ⟨N, 0, none⟩)))) ∧ Below w.heap.size w w' := by
  go_enter Tryz.func53, Tryz.ntmps53
  go_wp2
  go_ret
  exact ⟨⟨_, rfl⟩, (Below.refl _ _).alloc (Nat.le_refl _) _⟩
def ErrVars (w : World) : Prop :=
  (∃ tp p, w.var? Tryz.prog "strconv.ErrSyntax" = some #[.iface tp p]) ∧ (∃ tp p, w.var? Tryz.prog "strconv.ErrRange" = some #[.iface tp p])
theorem var_lt {P : Program} {w : World} {n : String} {g : Nat} {cs : Array Value} (hg : P.globalNamed n = some g) (hv : w.var? P n = some cs) : g < w.heap.size := by
  unfold World.var? at hv
  simp only [hg, Option.bind_some] at hv
  rcases Nat.lt_or_ge g w.heap.size with h | h
  · exact h
  · simp [Array.getElem?_eq_none h] at hv
theorem ErrVars.below {w w' : World} (h : ErrVars w) (hb : Below w.heap.size w w') : ErrVars w' := by
  obtain ⟨⟨t1, p1, h1⟩, t2, p2, h2⟩ := h
  have g1 : Tryz.prog.globalNamed "strconv.ErrSyntax" = some 7 := by kernel_rfl
  have g2 : Tryz.prog.globalNamed "strconv.ErrRange" = some 8 := by kernel_rfl
  exact ⟨⟨t1, p1, var?_below hb g1 (var_lt g1 h1) h1⟩, t2, p2, var?_below hb g2 (var_lt g2 h2) h2⟩
end Go.Proofs.YtmnjmhlodbifjaaGreatDoor.Err
namespace Go.Proofs.YtmnjmhlodbifjaaGreatDoor.Atoi
open Go.RowKit Go.Proofs.YtmnjmhlodbifjaaGreatDoor.Err Go.Proofs.YtmnjmhlodbifjaaGreatDoor.NumPure
theorem numberOf_le {l : List UInt8} {n : Nat} (h : numberOf l = some n) : n ≤ 9223372036854775807 := by
  unfold numberOf at h
  split at h
  · rename_i v hv
    have hb := Lib.atoiAll_bounds hv
    split at h
    · cases h; omega
    · cases h
  · cases h
def NumErr (r : Option Nat) (e : Ending) : Prop :=
  match r with
  | some n => e = .returned (.tuple #[.int .u64 (n : Int), .nilIface])
  | none => ∃ T p, e = .returned (.tuple #[.int .u64 0, .iface T p])
set_option maxHeartbeats 400000 in
theorem must_ok (s : ByteArray) (n : Nat) (w : World) (hs : s.size ≤ 281474976710656) (h : numberOf s.data.toList = some n) :
    Calls Tryz.prog 130 #[.string s] w fun e w' => e = .returned (.tuple #[.int .u64 (n : Int), .nilIface]) ∧ Below w.heap.size w w' := by
  have hn := numberOf_le h
  have hok : Lib.atoiAll s.data.toList = .ok (n : Int) := by
    unfold numberOf at h
    split at h
    · rename_i v hv
      split at h
      · cases h; rw [hv]; congr 1; omega
      · cases h
    · cases h
  go_enter Tryz.func130, Tryz.ntmps130
  go_wp2_with (go_at_call 147; refine (Tryz.strconv_Atoi_ok s (by omega) _ hok _).mono ?_; rintro e w' ⟨rfl, hw⟩)
  go_ret2
  refine ⟨rfl, ?_⟩
  rcases hw with rfl | ⟨t, rfl⟩
  · exact Below.refl _ _
  · exact Lib.bytesWorld_below _ _ _
set_option maxHeartbeats 400000 in
theorem must_bad (s : ByteArray) (w : World) (hv : ErrVars w) (hs : s.size ≤ 281474976710656) (h : numberOf s.data.toList = none) :
    Calls Tryz.prog 130 #[.string s] w fun e w' => (∃ T p, e = .returned (.tuple #[.int .u64 0, .iface T p])) ∧ Below w.heap.size w w' := by
  obtain ⟨⟨t1, p1, h1⟩, t2, p2, h2⟩ := hv
  rcases ha : Lib.atoiAll s.data.toList with v | _ | _
  · skip
    have hb := Lib.atoiAll_bounds ha
    have hneg : v < 0 := by
      unfold numberOf at h
      rw [ha] at h
      simp only at h
      split at h
      · cases h
      · omega
    go_enter Tryz.func130, Tryz.ntmps130
    go_wp2_with (first
      | (go_at_call 147; refine (Tryz.strconv_Atoi_ok s (by omega) _ ha _).mono ?_; rintro e w1 ⟨rfl, hw⟩)
      | (go_at_call 53; refine (errorsNew_any _ _).mono ?_; rintro e w2 ⟨⟨N, rfl⟩, hb2⟩))
    go_ret2
    refine ⟨⟨_, _, rfl⟩, ?_⟩
    have hb1 : Below w.heap.size w w1 := by
      rcases hw with rfl | ⟨t, rfl⟩
      · exact Below.refl _ _
      · exact Lib.bytesWorld_below _ _ _
    exact hb1.trans (hb2.mono hb1.size)
  · skip
    go_enter Tryz.func130, Tryz.ntmps130
    go_wp2_with (first
      | (go_at_call 147; refine (Tryz.strconv_Atoi_syntax_var s hs ha t1 p1 _ h1).mono ?_; rintro e w1 ⟨N, rfl, -, -, hb1⟩)
      | (go_at_call 53; refine (errorsNew_any _ _).mono ?_; rintro e w2 ⟨⟨N2, rfl⟩, hb2⟩))
    go_ret2
    exact ⟨⟨_, _, rfl⟩, hb1.trans (hb2.mono hb1.size)⟩
  · skip
    go_enter Tryz.func130, Tryz.ntmps130
    go_wp2_with (first
      | (go_at_call 147; refine (Tryz.strconv_Atoi_range_var s hs ha t2 p2 _ h2).mono ?_; rintro e w1 ⟨N, rfl, -, -, hb1⟩)
      | (go_at_call 53; refine (errorsNew_any _ _).mono ?_; rintro e w2 ⟨⟨N2, rfl⟩, hb2⟩))
    go_ret2
    exact ⟨⟨_, _, rfl⟩, hb1.trans (hb2.mono hb1.size)⟩
end Go.Proofs.YtmnjmhlodbifjaaGreatDoor.Atoi
