/- The walk of the law FnCronItemOfKind: the fields without names read an item as a field of their bounds does. Conditions: none (the row lists strconv's sentinels). -/
import Derived.Test.YtjdpmcacnllfpaaDoorItemKind
import Derived.Test.YtjdpmcacnllfpaaDoorItemPure
namespace Go.Proofs.YtjdpmcacnllfpaaDoor.fnCronItemOfKind
open Go.RowKit Go.Proofs.YtjdpmcacnllfpaaDoor.Err Go.Proofs.YtjdpmcacnllfpaaDoor.NumPure Go.Proofs.YtjdpmcacnllfpaaDoor.Bits Go.Proofs.YtjdpmcacnllfpaaDoor.Range Go.Proofs.YtjdpmcacnllfpaaDoor.SpecEnds Go.Proofs.YtjdpmcacnllfpaaDoor.SpecItem Go.Proofs.YtjdpmcacnllfpaaDoor.ItemPure Go.Proofs.YtjdpmcacnllfpaaDoor.ItemKind Go.Proofs.YtjdpmcacnllfpaaDoor.Set

/-- What the two rows of the reference's days are. -/
def daysOf (kind : Int) : Bool := kind == 3 || kind == 5

theorem verdict_two {lo hi : Nat} {days : Bool} {sval : List UInt8 → Nat × Nat} {l : List UInt8} (hlo : lo ≤ 62) (hhi : hi ≤ 62) (hs : ∀ l, (sval l).2 ≤ 2 ∧ (sval l).1 ≤ huge) : (specItem lo hi days sval l).2 ≤ 2 := by
  have hi0 : ∀ e t, t.2.1 ≤ 2 → (itemOf lo hi e t).2 ≤ 2 := by
    intro e t h
    unfold itemOf
    split
    · exact h
    · split <;> simp
  unfold specItem
  split
  · simp
  · split
    · simp
    · rename_i a r _ _
      have h := specEnds_le (days := days) (ps := SplitPure.pieces 45 a) hlo hhi hs
      exact hi0 _ _ (withStep_le (e := specEnds lo hi days sval (SplitPure.pieces 45 a)) (r := r) hhi h.2.1 h.2.2).2.1

set_option maxHeartbeats 1000000 in
theorem walk (a0 : Int) (s : ByteArray) (w : World) (w0 : (Lit.int .i64 a0).wf = true) (hsm : s.size ≤ maxLen) (hv : ErrVars w) :
    Calls Tryd.prog 6 #[.int .i64 a0, .string s] w fun e w' => e = .returned (.bool true) ∧ Below w.heap.size w w' := by
  unfold maxLen at hsm
  have b0 := bounds_i64 w0
  by_cases h1 : 2147483647 < s.size
  · go_enter Tryd.func6, Tryd.ntmps6
    go_wp2_with fail
    go_ret
    exact ⟨rfl, Below.refl _ _⟩
  by_cases h2 : a0 < 0
  · go_enter Tryd.func6, Tryd.ntmps6
    go_wp2_with fail
    go_ret
    exact ⟨rfl, Below.refl _ _⟩
  by_cases h3 : 3 < a0
  · go_enter Tryd.func6, Tryd.ntmps6
    go_wp2_with fail
    go_ret
    exact ⟨rfl, Below.refl _ _⟩
  by_cases h4 : 65536 < s.size
  · go_enter Tryd.func6, Tryd.ntmps6
    go_wp2_with fail
    go_ret
    exact ⟨rfl, Below.refl _ _⟩
  obtain ⟨kind, rfl⟩ := Int.eq_ofNat_of_zero_le (show 0 ≤ a0 by omega)
  have hk : kind ≤ 3 := by omega
  have hs : s.size ≤ 65536 := by omega
  obtain ⟨hlo, hhi⟩ := low_high kind hk
  have hk4 : ((kind : Int) == 4) = false := beq_eq_false_iff_ne.2 (by omega)
  have hk5 : ((kind : Int) == 5) = false := beq_eq_false_iff_ne.2 (by omega)
  have hval := value_plain (kind : Int) hk4 hk5
  have HI := Lib.hid (fun w => item_any s (lowOf kind) (highOf kind) (kind : Int) (daysOf kind) specNumber w (by omega) hhi hs rfl hval)
  have hrel := item_rel hhi (daysOf kind) number_rel verdict_le s.data.toList (lo := lowOf kind)
  have hle := verdict_two (days := daysOf kind) (l := s.data.toList) (show lowOf kind ≤ 62 by omega) hhi hval.1
  obtain ⟨q, hq⟩ : ∃ q, specItem (lowOf kind) (highOf kind) (daysOf kind) specNumber s.data.toList = q := ⟨_, rfl⟩
  rw [hq] at HI hrel hle
  obtain ⟨⟨star, f⟩, v⟩ := q
  simp only at hle
  have HV := Lib.hid hv
  clear hval hk4 hk5 hq hv
  have hkw : IntKind.u64.wrap (lowOf kind : Int) = (lowOf kind : Int) := wrap_u64_in _ (by omega) (by omega)
  have hhw : IntKind.u64.wrap (highOf kind : Int) = (highOf kind : Int) := wrap_u64_in _ (by omega) (by omega)
  cases hr : rangeOf (lowOf kind) (highOf kind) numberOf s.data.toList with
  | some b =>
    have H1 := Lib.hid (fun (w : World) (hv : ErrVars w) => item_some s kind w b hr hk hs hv)
    have H2 := Lib.hid (fun (w : World) (hv : ErrVars w) => itemIn_some s (lowOf kind) (highOf kind) w b hr hlo hhi hs hv)
    clear hrel hr
    go_enter Tryd.func6, Tryd.ntmps6
    go_wp2_with (first
      | (go_at_call 17; refine (H1.out _ HV.out).mono ?_; rintro e w1 ⟨rfl, hb1⟩; (have HV1 := Lib.hid (HV.out.below hb1)))
      | (go_at_call 14; refine (specLow_any kind _ hk).mono ?_; rintro e w' ⟨rfl, rfl⟩)
      | (go_at_call 15; refine (specHigh_any kind _ hk).mono ?_; rintro e w' ⟨rfl, rfl⟩)
      | (go_at_call 18; refine (H2.out _ HV1.out).mono ?_; rintro e w2 ⟨rfl, hb2⟩)
      | (go_at_call 20; refine (boundsOf_any kind _ hk).mono ?_; rintro e w3 ⟨rfl, hb3⟩)
      | (go_at_call 19; refine (HI.out _).mono ?_; rintro e w4 ⟨rfl, hb4⟩)
      | (with_reducible refine wpList_alloc_set rfl rfl ?_)
      | (with_reducible refine wpList_store_set rfl (.tmp 9) (.tmp 47) rfl w4.heap.size false star (fun _ => false) f rfl rfl (SetAt.new w4 _ _) ?_))
    go_ret
    exact ⟨by simp, hb1.trans ((hb2.mono hb1.size).trans ((hb3.mono (Nat.le_trans hb1.size hb2.size)).trans ((hb4.mono (Nat.le_trans (Nat.le_trans hb1.size hb2.size) hb3.size)).trans (below_setRow ((Below.refl w.heap.size w4).alloc (Nat.le_trans (Nat.le_trans (Nat.le_trans hb1.size hb2.size) hb3.size) hb4.size) _) (Nat.le_trans (Nat.le_trans (Nat.le_trans hb1.size hb2.size) hb3.size) hb4.size) _))))⟩
  | none =>
    have hv1 : ((v : Int) != 1) = true := by
      rw [bne_iff_ne]; intro e
      have := hrel.2 (by show v = 1; omega)
      rw [hr] at this; cases this
    have H1 := Lib.hid (fun (w : World) (hv : ErrVars w) => item_none s kind w hr hk hs hv)
    have H2 := Lib.hid (fun (w : World) (hv : ErrVars w) => itemIn_none s (lowOf kind) (highOf kind) w hr hlo hhi hs hv)
    clear hrel hr
    go_enter Tryd.func6, Tryd.ntmps6
    go_wp2_with (first
      | (go_at_call 17; refine (H1.out _ HV.out).mono ?_; rintro e w1 ⟨rfl, hb1⟩; (have HV1 := Lib.hid (HV.out.below hb1)))
      | (go_at_call 14; refine (specLow_any kind _ hk).mono ?_; rintro e w' ⟨rfl, rfl⟩)
      | (go_at_call 15; refine (specHigh_any kind _ hk).mono ?_; rintro e w' ⟨rfl, rfl⟩)
      | (go_at_call 18; refine (H2.out _ HV1.out).mono ?_; rintro e w2 ⟨rfl, hb2⟩)
      | (go_at_call 20; refine (boundsOf_any kind _ hk).mono ?_; rintro e w3 ⟨rfl, hb3⟩)
      | (go_at_call 19; refine (HI.out _).mono ?_; rintro e w4 ⟨rfl, hb4⟩)
      | (with_reducible refine wpList_alloc_set rfl rfl ?_)
      | (with_reducible refine wpList_store_set rfl (.tmp 9) (.tmp 47) rfl w4.heap.size false star (fun _ => false) f rfl rfl (SetAt.new w4 _ _) ?_))
    go_ret
    exact ⟨by simp, hb1.trans ((hb2.mono hb1.size).trans ((hb3.mono (Nat.le_trans hb1.size hb2.size)).trans ((hb4.mono (Nat.le_trans (Nat.le_trans hb1.size hb2.size) hb3.size)).trans (below_setRow ((Below.refl w.heap.size w4).alloc (Nat.le_trans (Nat.le_trans (Nat.le_trans hb1.size hb2.size) hb3.size) hb4.size) _) (Nat.le_trans (Nat.le_trans (Nat.le_trans hb1.size hb2.size) hb3.size) hb4.size) _))))⟩

end Go.Proofs.YtjdpmcacnllfpaaDoor.fnCronItemOfKind
