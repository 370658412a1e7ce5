/- impl's CronItem of every field. Conditions: texts of at most 65536 bytes; strconv's sentinels hold something. -/
import Derived.Test.YtjdpmcacnllfpaaDoorNamesAt
import Derived.Test.YtjdpmcacnllfpaaDoorItemKind
namespace Go.Proofs.YtjdpmcacnllfpaaDoor.ItemAll
open Go.RowKit Go.Proofs.YtjdpmcacnllfpaaDoor.Err Go.Proofs.YtjdpmcacnllfpaaDoor.NumPure Go.Proofs.YtjdpmcacnllfpaaDoor.NameMap Go.Proofs.YtjdpmcacnllfpaaDoor.Names Go.Proofs.YtjdpmcacnllfpaaDoor.NamesAt Go.Proofs.YtjdpmcacnllfpaaDoor.Range Go.Proofs.YtjdpmcacnllfpaaDoor.ItemKind

/-- How a field reads a value. -/
def valOf (kind : Nat) : List UInt8 → Option Nat := if kind = 4 then nameOr monthNames else if kind = 5 then nameOr dayNames else numberOf

theorem nlook_le (l : List (ByteArray × Nat)) (hl : ∀ p ∈ l, p.2 ≤ 12) : ∀ s v, nlook l s = some v → v ≤ 9223372036854775807 := by
  intro s v
  induction l with
  | nil => intro h; cases h
  | cons p r ih =>
    obtain ⟨t, n⟩ := p
    intro h
    unfold nlook at h
    split at h
    · have h2 := hl (t, n) (by simp)
      cases h
      simp only at h2; omega
    · exact ih (fun q hq => hl q (by simp [hq])) h

theorem keepMap {w : World} {b m : Nat} {l : List (ByteArray × Nat)} {j1 j2 j3 : Nat} {x y z : Value} (h : NMapAt w m l) (hne : m ≠ b) : NMapAt (((w.setCell ⟨b, j1, none⟩ x).setCell ⟨b, j2, none⟩ y).setCell ⟨b, j3, none⟩ z) m l := by
  unfold NMapAt at *
  rw [heap_setCell_other _ _ _ _ (by show m ≠ b; exact hne), heap_setCell_other _ _ _ _ (by show m ≠ b; exact hne), heap_setCell_other _ _ _ _ (by show m ≠ b; exact hne)]
  exact h

set_option maxHeartbeats 1000000 in
theorem months_bounds (w : World) :
    Calls Tryd.prog 40 #[.int .i64 4] w fun e w' => (∃ m, e = .returned (.agg #[.int .u64 1, .int .u64 12, .map (some m)]) ∧ NMapAt w' m monthNames) ∧ Below w.heap.size w w' := by
  go_enter Tryd.func40, Tryd.ntmps40
  go_wp2_with (go_at_call 57; refine (months_any _).mono ?_; rintro e w1 ⟨m, rfl, hmap, hge, hb⟩; (have hbx := (box_new w 68 (.int .u64 0) (.int .u64 0) (.map none)).below hb); (have hc0 := hbx.2.1); (have hc1 := hbx.2.2.1); (have hc2 := hbx.2.2.2); (have hf0 := box_free w 68 (.int .u64 0) (.int .u64 0) (.map none) hb 0); (have hf1 := box_free w 68 (.int .u64 0) (.int .u64 0) (.map none) hb 1); (have hf2 := box_free w 68 (.int .u64 0) (.int .u64 0) (.map none) hb 2))
  have hbw : Below w.heap.size w w1 := ((Below.refl _ _).alloc (Nat.le_refl _) _).trans (hb.mono (by simp))
  have hne : m ≠ w.heap.size := by simp at hge; omega
  refine bodyPost_ret (v := .agg #[.int .u64 1, .int .u64 12, .map (some m)]) ?hres rfl ?_
  case hres => simp [results, Tryd.results40, go_sem, *]
  exact ⟨⟨m, rfl, keepMap hmap hne⟩, ((hbw.setCell (Nat.le_refl _) _).setCell (Nat.le_refl _) _).setCell (Nat.le_refl _) _⟩

set_option maxHeartbeats 1000000 in
theorem days_bounds (w : World) :
    Calls Tryd.prog 40 #[.int .i64 5] w fun e w' => (∃ m, e = .returned (.agg #[.int .u64 0, .int .u64 6, .map (some m)]) ∧ NMapAt w' m dayNames) ∧ Below w.heap.size w w' := by
  go_enter Tryd.func40, Tryd.ntmps40
  go_wp2_with (go_at_call 58; refine (dow_any _).mono ?_; rintro e w1 ⟨m, rfl, hmap, hge, hb⟩; (have hbx := (box_new w 68 (.int .u64 0) (.int .u64 0) (.map none)).below hb); (have hc0 := hbx.2.1); (have hc1 := hbx.2.2.1); (have hc2 := hbx.2.2.2); (have hf0 := box_free w 68 (.int .u64 0) (.int .u64 0) (.map none) hb 0); (have hf1 := box_free w 68 (.int .u64 0) (.int .u64 0) (.map none) hb 1); (have hf2 := box_free w 68 (.int .u64 0) (.int .u64 0) (.map none) hb 2))
  have hbw : Below w.heap.size w w1 := ((Below.refl _ _).alloc (Nat.le_refl _) _).trans (hb.mono (by simp))
  have hne : m ≠ w.heap.size := by simp at hge; omega
  refine bodyPost_ret (v := .agg #[.int .u64 0, .int .u64 6, .map (some m)]) ?hres rfl ?_
  case hres => simp [results, Tryd.results40, go_sem, *]
  exact ⟨⟨m, rfl, keepMap hmap hne⟩, ((hbw.setCell (Nat.le_refl _) _).setCell (Nat.le_refl _) _).setCell (Nat.le_refl _) _⟩

/-- The bounds of every field, and how it reads its values. -/
def BoundsRes (kind : Nat) (e : Ending) (w' : World) : Prop := ∃ m, e = .returned (.agg #[.int .u64 (lowOf kind : Int), .int .u64 (highOf kind : Int), m]) ∧ NamesAt w' m (valOf kind)
theorem bounds_all (kind : Nat) (w : World) (hk : kind ≤ 5) (hv : ErrVars w) :
    Calls Tryd.prog 40 #[.int .i64 (kind : Int)] w fun e w' => BoundsRes kind e w' ∧ Below w.heap.size w w' := by
  by_cases h4 : kind = 4
  · subst h4
    refine (months_bounds w).mono ?_
    rintro e w' ⟨⟨m, rfl, hm⟩, hb⟩
    exact ⟨⟨_, rfl, names_map w' m monthNames hm (nlook_le _ (by decide)) (hv.below hb)⟩, hb⟩
  · by_cases h5 : kind = 5
    · subst h5
      refine (days_bounds w).mono ?_
      rintro e w' ⟨⟨m, rfl, hm⟩, hb⟩
      exact ⟨⟨_, rfl, names_map w' m dayNames hm (nlook_le _ (by decide)) (hv.below hb)⟩, hb⟩
    · refine (bounds_any kind w (by omega)).mono ?_
      rintro e w' ⟨rfl, hb⟩
      refine ⟨⟨_, rfl, ?_⟩, hb⟩
      unfold valOf
      rw [if_neg h4, if_neg h5]
      exact names_none w' (hv.below hb)

theorem low_high5 (kind : Nat) (hk : kind ≤ 5) : lowOf kind ≤ highOf kind ∧ highOf kind ≤ 62 := by
  have h : kind = 0 ∨ kind = 1 ∨ kind = 2 ∨ kind = 3 ∨ kind = 4 ∨ kind = 5 := by omega
  rcases h with rfl | rfl | rfl | rfl | rfl | rfl <;> decide

theorem zz_all (s : ByteArray) (kind : Nat) (w : World) (hk : kind ≤ 5) (hs : s.size ≤ 65536) (hv : ErrVars w) :
    Calls Tryd.prog 32 #[.int .i64 (kind : Int), .string s] w fun e w' => BitsErr (rangeOf (lowOf kind) (highOf kind) (valOf kind) s.data.toList) e ∧ Below w.heap.size w w' := by
  obtain ⟨hlo, hhi⟩ := low_high5 kind hk
  have HB := Lib.hid (bounds_all kind w hk hv)
  have HR := Lib.hid (fun (w1 : World) (m : Value) (hv1 : ErrVars w1) (hn : NamesAt w1 m (valOf kind)) => range_any s (lowOf kind) (highOf kind) m (valOf kind) w1 hlo hhi hs hv1 hn)
  have HV := Lib.hid hv
  clear hv
  cases h : rangeOf (lowOf kind) (highOf kind) (valOf kind) s.data.toList with
  | some b =>
    rw [h] at HR
    go_enter Tryd.func32, Tryd.ntmps32
    go_wp2_with (first
      | (go_at_call 40; refine HB.out.mono ?_; rintro e w1 ⟨⟨m, rfl, hn⟩, hb1⟩; (have HN := Lib.hid hn); clear hn)
      | (go_at_call 39; refine (HR.out _ _ (HV.out.below hb1) HN.out).mono ?_; rintro e w' ⟨rfl, hb⟩))
    go_ret2
    exact ⟨rfl, hb1.trans (hb.mono hb1.size)⟩
  | none =>
    rw [h] at HR
    go_enter Tryd.func32, Tryd.ntmps32
    go_wp2_with (first
      | (go_at_call 40; refine HB.out.mono ?_; rintro e w1 ⟨⟨m, rfl, hn⟩, hb1⟩; (have HN := Lib.hid hn); clear hn)
      | (go_at_call 39; refine (HR.out _ _ (HV.out.below hb1) HN.out).mono ?_; rintro e w' ⟨⟨T, p, rfl⟩, hb⟩))
    go_ret2
    exact ⟨⟨_, _, rfl⟩, hb1.trans (hb.mono hb1.size)⟩

/-- impl.CronItem of every field: a set that was read. -/
theorem itemAll_some (s : ByteArray) (kind : Nat) (w : World) (b : Int) (h : rangeOf (lowOf kind) (highOf kind) (valOf kind) s.data.toList = some b) (hk : kind ≤ 5) (hs : s.size ≤ 65536) (hv : ErrVars w) :
    Calls Tryd.prog 17 #[.int .i64 (kind : Int), .string s] w fun e w' => e = .returned (.tuple #[.int .u64 b, .bool true]) ∧ Below w.heap.size w w' := by
  have HR := Lib.hid (zz_all s kind w hk hs hv)
  rw [h] at HR
  go_enter Tryd.func17, Tryd.ntmps17
  go_wp2_with (first
    | (go_at_call 32; refine (HR.out).mono ?_; rintro e w' ⟨rfl, hb⟩)
    | (go_at_call 28; go_in))
  go_ret2
  exact ⟨rfl, hb⟩

end Go.Proofs.YtjdpmcacnllfpaaDoor.ItemAll
