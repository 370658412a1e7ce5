/- The walk of the law FnCronFieldIn: CronFieldIn gives the set that the list of items means within bounds. Conditions: none (the row lists strconv's sentinels). -/
import Derived.Test.YtjdpmcacnllfpaaDoorFieldRel
import Derived.Test.YtjdpmcacnllfpaaDoorItemKind
namespace Go.Proofs.YtjdpmcacnllfpaaDoor.fnCronFieldIn
open Go.RowKit Go.Proofs.YtjdpmcacnllfpaaDoor.Err Go.Proofs.YtjdpmcacnllfpaaDoor.NumPure Go.Proofs.YtjdpmcacnllfpaaDoor.Bits Go.Proofs.YtjdpmcacnllfpaaDoor.Range Go.Proofs.YtjdpmcacnllfpaaDoor.SpecEnds Go.Proofs.YtjdpmcacnllfpaaDoor.SpecItem Go.Proofs.YtjdpmcacnllfpaaDoor.ItemPure Go.Proofs.YtjdpmcacnllfpaaDoor.FieldPure Go.Proofs.YtjdpmcacnllfpaaDoor.Field Go.Proofs.YtjdpmcacnllfpaaDoor.Set Go.Proofs.YtjdpmcacnllfpaaDoor.SpecField Go.Proofs.YtjdpmcacnllfpaaDoor.SpecBits Go.Proofs.YtjdpmcacnllfpaaDoor.FieldRel
set_option linter.unusedVariables false

theorem zzField_any (s : ByteArray) (lo hi : Nat) (w : World) (hlo : lo ≤ hi) (hhi : hi ≤ 62) (hs : s.size ≤ 65536) (hv : ErrVars w) :
    Calls Tryd.prog 29 #[.int .u64 (lo : Int), .int .u64 (hi : Int), .string s] w fun e w' => FieldErr (orOf lo hi numberOf (full s.data.toList) 0) e ∧ Below w.heap.size w w' := by
  have HR := Lib.hid (Field.field_any s lo hi (.map none) numberOf w hlo hhi hs hv (names_none w hv))
  cases h : orOf lo hi numberOf (full s.data.toList) 0 with
  | some b =>
    rw [h] at HR
    go_enter Tryd.func29, Tryd.ntmps29
    go_wp2_with (go_at_call 37; refine (HR.out).mono ?_; rintro e w' ⟨rfl, hb⟩)
    go_ret2
    exact ⟨rfl, hb⟩
  | none =>
    rw [h] at HR
    go_enter Tryd.func29, Tryd.ntmps29
    go_wp2_with (go_at_call 37; refine (HR.out).mono ?_; rintro e w' ⟨⟨x, T, p, rfl⟩, hb⟩)
    go_ret2
    exact ⟨⟨_, _, _, rfl⟩, hb⟩

/-- What impl hands on: a set and whether it is one. -/
def okOf (r : Option Int) : Int × Bool :=
  match r with
  | some b => (b, true)
  | none => (0, false)

theorem fieldIn_any (s : ByteArray) (lo hi : Nat) (w : World) (hlo : lo ≤ hi) (hhi : hi ≤ 62) (hs : s.size ≤ 65536) (hv : ErrVars w) :
    Calls Tryd.prog 11 #[.int .u64 (lo : Int), .int .u64 (hi : Int), .string s] w fun e w' =>
      e = .returned (.tuple #[.int .u64 (okOf (orOf lo hi numberOf (full s.data.toList) 0)).1, .bool (okOf (orOf lo hi numberOf (full s.data.toList) 0)).2]) ∧ Below w.heap.size w w' := by
  have HR := Lib.hid (zzField_any s lo hi w hlo hhi hs hv)
  cases h : orOf lo hi numberOf (full s.data.toList) 0 with
  | some b =>
    rw [h] at HR
    go_enter Tryd.func11, Tryd.ntmps11
    go_wp2_with (first
      | (go_at_call 29; refine (HR.out).mono ?_; rintro e w' ⟨rfl, hb⟩)
      | (go_at_call 28; go_in))
    go_ret2
    exact ⟨rfl, hb⟩
  | none =>
    rw [h] at HR
    go_enter Tryd.func11, Tryd.ntmps11
    go_wp2_with (first
      | (go_at_call 29; refine (HR.out).mono ?_; rintro e w' ⟨⟨x, T, p, rfl⟩, hb⟩)
      | (go_at_call 28; go_in))
    go_ret2
    exact ⟨rfl, hb⟩

/-- The set that the law lays in a variable. -/
theorem stored {w w3 : World} (star : Bool) (f : Nat → Bool) (hb : Below w.heap.size w w3) :
    SetAt ((w3.alloc (.cells (setArr false fun _ => false) 31)).setRow w3.heap.size (setArr star f)) w3.heap.size star f ∧
    Below w.heap.size w ((w3.alloc (.cells (setArr false fun _ => false) 31)).setRow w3.heap.size (setArr star f)) :=
  ⟨setRow_at (SetAt.new w3 _ _), below_setRow (hb.alloc hb.size _) hb.size _⟩

set_option maxHeartbeats 1000000 in
theorem walk (a0 a1 : Int) (s : ByteArray) (w : World) (w0 : (Lit.int .u64 a0).wf = true) (w1 : (Lit.int .u64 a1).wf = true) (hsm : s.size ≤ maxLen) (hv : ErrVars w) :
    Calls Tryd.prog 4 #[.int .u64 a0, .int .u64 a1, .string s] w fun e w' => e = .returned (.bool true) ∧ Below w.heap.size w w' := by
  unfold maxLen at hsm
  have b0 := bounds_u64 w0
  have b1 := bounds_u64 w1
  by_cases h1 : 2147483647 < s.size
  · go_enter Tryd.func4, Tryd.ntmps4
    go_wp2_with fail
    go_ret
    exact ⟨rfl, Below.refl _ _⟩
  by_cases h2 : a1 < a0
  · go_enter Tryd.func4, Tryd.ntmps4
    go_wp2_with (go_at_call 9; go_in)
    go_ret
    exact ⟨rfl, Below.refl _ _⟩
  by_cases h3 : 62 < a1
  · go_enter Tryd.func4, Tryd.ntmps4
    go_wp2_with (go_at_call 9; go_in)
    go_ret
    exact ⟨rfl, Below.refl _ _⟩
  by_cases h4 : 65536 < s.size
  · go_enter Tryd.func4, Tryd.ntmps4
    go_wp2_with (go_at_call 9; go_in)
    go_ret
    exact ⟨rfl, Below.refl _ _⟩
  obtain ⟨lo, rfl⟩ := Int.eq_ofNat_of_zero_le (show 0 ≤ a0 by omega)
  obtain ⟨hi, rfl⟩ := Int.eq_ofNat_of_zero_le (show 0 ≤ a1 by omega)
  have hlo : lo ≤ hi := by omega
  have hhi : hi ≤ 62 := by omega
  have hs : s.size ≤ 65536 := by omega
  have hval := value_plain (-1) rfl rfl
  have HF := Lib.hid (fun w => SpecField.field_any s lo hi (-1) false specNumber w (by omega) hhi hs rfl hval)
  have HG := Lib.hid (fun (w : World) (hv : ErrVars w) => fieldIn_any s lo hi w hlo hhi hs hv)
  have hrel := field_rel hhi false number_rel verdict_le s.data.toList (lo := lo)
  have hle := field_le (days := false) (l := s.data.toList) (show lo ≤ 62 by omega) hhi hval.1
  obtain ⟨q, hq⟩ : ∃ q, specField lo hi false specNumber s.data.toList = q := ⟨_, rfl⟩
  rw [hq] at HF hrel hle
  obtain ⟨⟨star, f⟩, v⟩ := q
  simp only at hle hrel
  have HC : Hid (∀ w, Calls Tryd.prog 12 #[.int .u64 (okOf (orOf lo hi numberOf (full s.data.toList) 0)).1, .bool (okOf (orOf lo hi numberOf (full s.data.toList) 0)).2, .agg (setArr star f), .int .i64 (v : Int)] w fun e w' => e = .returned (.bool true) ∧ Below w.heap.size w w') := Lib.hid (by
    intro w
    have hv3 : v = 0 ∨ v = 1 ∨ v = 2 := by omega
    rcases hv3 with rfl | rfl | rfl
    · rw [hrel.1 rfl]; exact cronBits_bad star f w
    · rw [hrel.2 rfl]; exact cronBits_fine star f w
    · exact cronBits_open _ _ star f 2 w (by omega))
  have HV := Lib.hid hv
  clear hval hq hv hrel hle
  generalize okOf (orOf lo hi numberOf (full s.data.toList) 0) = r at HG HC
  obtain ⟨x, ok⟩ := r
  simp only at HG HC
  have hw0 : IntKind.i64.wrap (lo : Int) = (lo : Int) := by simp [IntKind.wrap, IntKind.bits]; omega
  have hw1 : IntKind.i64.wrap (hi : Int) = (hi : Int) := by simp [IntKind.wrap, IntKind.bits]; omega
  go_enter Tryd.func4, Tryd.ntmps4
  go_wp2_with (first
    | (go_at_call 9; go_in)
    | (go_at_call 10; refine (HF.out _).mono ?_; rintro e w3 ⟨rfl, hb3⟩; (have HA := Lib.hid (stored star f hb3)))
    | (with_reducible refine wpList_alloc_set rfl rfl ?_)
    | (with_reducible refine wpList_store_set rfl (.tmp 7) (.tmp 31) rfl w3.heap.size false star (fun _ => false) f rfl rfl (SetAt.new w3 _ _) ?_)
    | (go_at_call 11; refine (HG.out _ (HV.out.below HA.out.2)).mono ?_; rintro e w4 ⟨rfl, hb4⟩)
    | (with_reducible refine wpList_load_set rfl (.tmp 7) rfl w3.heap.size star f rfl (by exact HA.out.1.below hb4 HA.out.1.lt) ?_)
    | (go_at_call 12; refine (HC.out _).mono ?_; rintro e w5 ⟨rfl, hb5⟩))
  go_ret
  exact ⟨rfl, HA.out.2.trans ((hb4.mono HA.out.2.size).trans (hb5.mono (Nat.le_trans HA.out.2.size hb4.size)))⟩

end Go.Proofs.YtjdpmcacnllfpaaDoor.fnCronFieldIn
