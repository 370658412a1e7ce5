/- parseIntOrName over a map of names. Conditions: none. -/
import Derived.Test.YtjdpmcacnllfpaaDoorNames
import Derived.WalkSpells
namespace Go.Proofs.YtjdpmcacnllfpaaDoor.NamesAt
open Go Go.RowKit Go.Proofs.YtjdpmcacnllfpaaDoor.Err Go.Proofs.YtjdpmcacnllfpaaDoor.NumPure Go.Proofs.YtjdpmcacnllfpaaDoor.Atoi Go.Proofs.YtjdpmcacnllfpaaDoor.SplitPure Go.Proofs.YtjdpmcacnllfpaaDoor.NameMap Go.Proofs.YtjdpmcacnllfpaaDoor.Names Go.Proofs.YtjdpmcacnllfpaaDoor.Range Go.Proofs.YtjdpmcacnllfpaaDoor.Lower

/-- The value of a name or a number. -/
def nameOr (l : List (ByteArray × Nat)) (t : List UInt8) : Option Nat :=
  match nlook l (ofL (lower (ofL t))) with
  | some v => some v
  | none => numberOf t

set_option maxHeartbeats 1000000 in
theorem names_map (w : World) (b : Nat) (l : List (ByteArray × Nat)) (hm : NMapAt w b l) (hl : ∀ s v, nlook l s = some v → v ≤ 9223372036854775807) (hv : ErrVars w) : NamesAt w (.map (some b)) (nameOr l) := by
  refine ⟨fun t n h => ?_, fun w' hb s hs => ?_⟩
  · unfold nameOr at h
    split at h
    · rename_i v hv'; cases h; exact hl _ _ hv'
    · exact numberOf_le h
  · have hv' := Lib.hid (hv.below hb)
    have hm' := Lib.hid (hm.below hb hm.lt)
    have HL := Lib.hid (fun w => lower_any s w hs)
    clear hb hv hm hl
    have qT : ∀ (w : World), (binOp .neq 66 (.map (some b)) (.map none)).run Tryd.prog w = .ok (.bool true) w := fun w => run_neq_map_nil w _ _ _ (some b) Tryd.underlying66
    cases hf : nlook l (ofL (lower s)) with
    | some v =>
      have HR : Hid (nameOr l s.data.toList = some v) := Lib.hid (by unfold nameOr; rw [ofL_toList, hf])
      go_enter Tryd.func51, Tryd.ntmps51
      go_wp2_with (first
        | (go_at_call 70; refine (HL.out _).mono ?_; rintro e w1 ⟨rfl, hb1⟩)
        | (with_reducible refine wpList_lookup rfl (.tmp 11) (.tmp 13) rfl b l (ofL (lower s)) rfl rfl (by exact hm'.out.below hb1 hm'.out.lt) ?_; rw [hf]; unfold found))
      go_ret2
      exact ⟨by rw [HR.out]; rfl, hb1⟩
    | none =>
      have HR : Hid (nameOr l s.data.toList = numberOf s.data.toList) := Lib.hid (by unfold nameOr; rw [ofL_toList, hf])
      cases h : numberOf s.data.toList with
      | some n =>
        go_enter Tryd.func51, Tryd.ntmps51
        go_wp2_with (first
          | (go_at_call 70; refine (HL.out _).mono ?_; rintro e w1 ⟨rfl, hb1⟩)
          | (with_reducible refine wpList_lookup rfl (.tmp 11) (.tmp 13) rfl b l (ofL (lower s)) rfl rfl (by exact hm'.out.below hb1 hm'.out.lt) ?_; rw [hf]; unfold found)
          | (go_at_call 36; refine (must_ok s n _ (by omega) h).mono ?_; rintro e w2 ⟨rfl, hb2⟩))
        go_ret2
        exact ⟨by rw [HR.out, h]; rfl, hb1.trans (hb2.mono hb1.size)⟩
      | none =>
        go_enter Tryd.func51, Tryd.ntmps51
        go_wp2_with (first
          | (go_at_call 70; refine (HL.out _).mono ?_; rintro e w1 ⟨rfl, hb1⟩)
          | (with_reducible refine wpList_lookup rfl (.tmp 11) (.tmp 13) rfl b l (ofL (lower s)) rfl rfl (by exact hm'.out.below hb1 hm'.out.lt) ?_; rw [hf]; unfold found)
          | (go_at_call 36; refine (must_bad s _ (hv'.out.below hb1) (by omega) h).mono ?_; rintro e w2 ⟨⟨T, p, rfl⟩, hb2⟩))
        go_ret2
        exact ⟨by rw [HR.out, h]; exact ⟨_, _, rfl⟩, hb1.trans (hb2.mono hb1.size)⟩

end Go.Proofs.YtjdpmcacnllfpaaDoor.NamesAt
