/- impl's CronItem (of the fields without names) and CronItemIn. Conditions: texts of at most 65536 bytes; strconv's sentinels hold something. -/
import Derived.Test.YtjdpmcacnllfpaaDoorRange
namespace Go.Proofs.YtjdpmcacnllfpaaDoor.ItemKind
open Go.RowKit Go.Proofs.YtjdpmcacnllfpaaDoor.Err Go.Proofs.YtjdpmcacnllfpaaDoor.NumPure Go.Proofs.YtjdpmcacnllfpaaDoor.Range

/-- The bounds of a field without names. -/
def lowOf (kind : Nat) : Nat := if kind = 3 ∨ kind = 4 then 1 else 0
def highOf (kind : Nat) : Nat := match kind with
  | 2 => 23
  | 3 => 31
  | 4 => 12
  | 5 => 6
  | _ => 59

theorem box_free (w : World) {w1 : World} (E : TypeId) (x y z : Value) (hb : Below (w.alloc (.cells #[x, y, z] E)).heap.size (w.alloc (.cells #[x, y, z] E)) w1) (j : Nat) : w1.frozen? ⟨w.heap.size, j, none⟩ = false := by
  rw [hb.frozen (p := ⟨w.heap.size, j, none⟩) (by simp)]
  exact frozen_of_row _ _ _ _ _ (heap_alloc_new w _)

theorem seconds_any (w : World) :
    Calls Tryd.prog 53 #[] w fun e w' => e = .returned (.agg #[.int .u64 0, .int .u64 59, .map none]) ∧ Below w.heap.size w w' := by
  go_enter Tryd.func53, Tryd.ntmps53
  go_wp2
  exact bodyPost_ret (v := .agg #[.int .u64 0, .int .u64 59, .map none]) (by simp [results, Tryd.results53, go_sem]) rfl ⟨rfl, (Below.refl _ _).alloc (Nat.le_refl _) _⟩

theorem minutes_any (w : World) :
    Calls Tryd.prog 54 #[] w fun e w' => e = .returned (.agg #[.int .u64 0, .int .u64 59, .map none]) ∧ Below w.heap.size w w' := by
  go_enter Tryd.func54, Tryd.ntmps54
  go_wp2
  exact bodyPost_ret (v := .agg #[.int .u64 0, .int .u64 59, .map none]) (by simp [results, Tryd.results54, go_sem]) rfl ⟨rfl, (Below.refl _ _).alloc (Nat.le_refl _) _⟩

theorem hours_any (w : World) :
    Calls Tryd.prog 55 #[] w fun e w' => e = .returned (.agg #[.int .u64 0, .int .u64 23, .map none]) ∧ Below w.heap.size w w' := by
  go_enter Tryd.func55, Tryd.ntmps55
  go_wp2
  exact bodyPost_ret (v := .agg #[.int .u64 0, .int .u64 23, .map none]) (by simp [results, Tryd.results55, go_sem]) rfl ⟨rfl, (Below.refl _ _).alloc (Nat.le_refl _) _⟩

theorem dom_any (w : World) :
    Calls Tryd.prog 56 #[] w fun e w' => e = .returned (.agg #[.int .u64 1, .int .u64 31, .map none]) ∧ Below w.heap.size w w' := by
  go_enter Tryd.func56, Tryd.ntmps56
  go_wp2
  exact bodyPost_ret (v := .agg #[.int .u64 1, .int .u64 31, .map none]) (by simp [results, Tryd.results56, go_sem]) rfl ⟨rfl, (Below.refl _ _).alloc (Nat.le_refl _) _⟩

/-- The bounds as a value. -/
def boundsVal (lo hi : Nat) (m : Value) : Value := .agg #[.int .u64 (lo : Int), .int .u64 (hi : Int), m]

theorem bounds_any (kind : Nat) (w : World) (hk : kind ≤ 3) :
    Calls Tryd.prog 40 #[.int .i64 (kind : Int)] w fun e w' => e = .returned (.agg #[.int .u64 (lowOf kind : Int), .int .u64 (highOf kind : Int), .map none]) ∧ Below w.heap.size w w' := by
  have h : kind = 0 ∨ kind = 1 ∨ kind = 2 ∨ kind = 3 := by omega
  rcases h with rfl | rfl | rfl | rfl
  · go_enter Tryd.func40, Tryd.ntmps40
    go_wp2_with (go_at_call 53; refine (seconds_any _).mono ?_; rintro e w1 ⟨rfl, hb⟩; (have hbx := (box_new w 68 (.int .u64 0) (.int .u64 0) (.map none)).below hb); (have hc0 := hbx.2.1); (have hc1 := hbx.2.2.1); (have hc2 := hbx.2.2.2); (have hf0 := box_free w 68 (.int .u64 0) (.int .u64 0) (.map none) hb 0); (have hf1 := box_free w 68 (.int .u64 0) (.int .u64 0) (.map none) hb 1); (have hf2 := box_free w 68 (.int .u64 0) (.int .u64 0) (.map none) hb 2))
    have hbw : Below w.heap.size w w1 := ((Below.refl _ _).alloc (Nat.le_refl _) _).trans (hb.mono (by simp))
    exact bodyPost_ret (v := .agg #[.int .u64 0, .int .u64 59, .map none]) (by simp [results, Tryd.results40, go_sem, *]) rfl ⟨rfl, ((hbw.setCell (Nat.le_refl _) _).setCell (Nat.le_refl _) _).setCell (Nat.le_refl _) _⟩
  · go_enter Tryd.func40, Tryd.ntmps40
    go_wp2_with (go_at_call 54; refine (minutes_any _).mono ?_; rintro e w1 ⟨rfl, hb⟩; (have hbx := (box_new w 68 (.int .u64 0) (.int .u64 0) (.map none)).below hb); (have hc0 := hbx.2.1); (have hc1 := hbx.2.2.1); (have hc2 := hbx.2.2.2); (have hf0 := box_free w 68 (.int .u64 0) (.int .u64 0) (.map none) hb 0); (have hf1 := box_free w 68 (.int .u64 0) (.int .u64 0) (.map none) hb 1); (have hf2 := box_free w 68 (.int .u64 0) (.int .u64 0) (.map none) hb 2))
    have hbw : Below w.heap.size w w1 := ((Below.refl _ _).alloc (Nat.le_refl _) _).trans (hb.mono (by simp))
    exact bodyPost_ret (v := .agg #[.int .u64 0, .int .u64 59, .map none]) (by simp [results, Tryd.results40, go_sem, *]) rfl ⟨rfl, ((hbw.setCell (Nat.le_refl _) _).setCell (Nat.le_refl _) _).setCell (Nat.le_refl _) _⟩
  · go_enter Tryd.func40, Tryd.ntmps40
    go_wp2_with (go_at_call 55; refine (hours_any _).mono ?_; rintro e w1 ⟨rfl, hb⟩; (have hbx := (box_new w 68 (.int .u64 0) (.int .u64 0) (.map none)).below hb); (have hc0 := hbx.2.1); (have hc1 := hbx.2.2.1); (have hc2 := hbx.2.2.2); (have hf0 := box_free w 68 (.int .u64 0) (.int .u64 0) (.map none) hb 0); (have hf1 := box_free w 68 (.int .u64 0) (.int .u64 0) (.map none) hb 1); (have hf2 := box_free w 68 (.int .u64 0) (.int .u64 0) (.map none) hb 2))
    have hbw : Below w.heap.size w w1 := ((Below.refl _ _).alloc (Nat.le_refl _) _).trans (hb.mono (by simp))
    exact bodyPost_ret (v := .agg #[.int .u64 0, .int .u64 23, .map none]) (by simp [results, Tryd.results40, go_sem, *]) rfl ⟨rfl, ((hbw.setCell (Nat.le_refl _) _).setCell (Nat.le_refl _) _).setCell (Nat.le_refl _) _⟩
  · go_enter Tryd.func40, Tryd.ntmps40
    go_wp2_with (go_at_call 56; refine (dom_any _).mono ?_; rintro e w1 ⟨rfl, hb⟩; (have hbx := (box_new w 68 (.int .u64 0) (.int .u64 0) (.map none)).below hb); (have hc0 := hbx.2.1); (have hc1 := hbx.2.2.1); (have hc2 := hbx.2.2.2); (have hf0 := box_free w 68 (.int .u64 0) (.int .u64 0) (.map none) hb 0); (have hf1 := box_free w 68 (.int .u64 0) (.int .u64 0) (.map none) hb 1); (have hf2 := box_free w 68 (.int .u64 0) (.int .u64 0) (.map none) hb 2))
    have hbw : Below w.heap.size w w1 := ((Below.refl _ _).alloc (Nat.le_refl _) _).trans (hb.mono (by simp))
    exact bodyPost_ret (v := .agg #[.int .u64 1, .int .u64 31, .map none]) (by simp [results, Tryd.results40, go_sem, *]) rfl ⟨rfl, ((hbw.setCell (Nat.le_refl _) _).setCell (Nat.le_refl _) _).setCell (Nat.le_refl _) _⟩


/-- A set and whether it is one, as plain data. -/
def bitsOk (r : Option Int) : Value :=
  match r with
  | some b => .tuple #[.int .u64 b, .bool true]
  | none => .tuple #[.int .u64 0, .bool false]

theorem zzIn_any (s : ByteArray) (lo hi : Nat) (w : World) (hlo : lo ≤ hi) (hhi : hi ≤ 62) (hs : s.size ≤ 65536) (hv : ErrVars w) :
    Calls Tryd.prog 33 #[.int .u64 (lo : Int), .int .u64 (hi : Int), .string s] w fun e w' => BitsErr (rangeOf lo hi numberOf s.data.toList) e ∧ Below w.heap.size w w' := by
  have HR := Lib.hid (range_any s lo hi (.map none) numberOf w hlo hhi hs hv (names_none w hv))
  cases h : rangeOf lo hi numberOf s.data.toList with
  | some b =>
    rw [h] at HR
    go_enter Tryd.func33, Tryd.ntmps33
    go_wp2_with (go_at_call 39; refine (HR.out).mono ?_; rintro e w' ⟨rfl, hb⟩)
    go_ret2
    exact ⟨rfl, hb⟩
  | none =>
    rw [h] at HR
    go_enter Tryd.func33, Tryd.ntmps33
    go_wp2_with (go_at_call 39; refine (HR.out).mono ?_; rintro e w' ⟨⟨T, p, rfl⟩, hb⟩)
    go_ret2
    exact ⟨⟨_, _, rfl⟩, hb⟩

theorem itemIn_some (s : ByteArray) (lo hi : Nat) (w : World) (b : Int) (h : rangeOf lo hi numberOf s.data.toList = some b) (hlo : lo ≤ hi) (hhi : hi ≤ 62) (hs : s.size ≤ 65536) (hv : ErrVars w) :
    Calls Tryd.prog 18 #[.int .u64 (lo : Int), .int .u64 (hi : Int), .string s] w fun e w' => e = .returned (.tuple #[.int .u64 b, .bool true]) ∧ Below w.heap.size w w' := by
  have HR := Lib.hid (zzIn_any s lo hi w hlo hhi hs hv)
  rw [h] at HR
  go_enter Tryd.func18, Tryd.ntmps18
  go_wp2_with (first
    | (go_at_call 33; refine (HR.out).mono ?_; rintro e w' ⟨rfl, hb⟩)
    | (go_at_call 28; go_in))
  go_ret2
  exact ⟨rfl, hb⟩

theorem itemIn_none (s : ByteArray) (lo hi : Nat) (w : World) (h : rangeOf lo hi numberOf s.data.toList = none) (hlo : lo ≤ hi) (hhi : hi ≤ 62) (hs : s.size ≤ 65536) (hv : ErrVars w) :
    Calls Tryd.prog 18 #[.int .u64 (lo : Int), .int .u64 (hi : Int), .string s] w fun e w' => e = .returned (.tuple #[.int .u64 0, .bool false]) ∧ Below w.heap.size w w' := by
  have HR := Lib.hid (zzIn_any s lo hi w hlo hhi hs hv)
  rw [h] at HR
  go_enter Tryd.func18, Tryd.ntmps18
  go_wp2_with (first
    | (go_at_call 33; refine (HR.out).mono ?_; rintro e w' ⟨⟨T, p, rfl⟩, hb⟩)
    | (go_at_call 28; go_in))
  go_ret2
  exact ⟨rfl, hb⟩

theorem low_high (kind : Nat) (hk : kind ≤ 3) : lowOf kind ≤ highOf kind ∧ highOf kind ≤ 62 := by
  have h : kind = 0 ∨ kind = 1 ∨ kind = 2 ∨ kind = 3 := by omega
  rcases h with rfl | rfl | rfl | rfl <;> decide

theorem zz_any (s : ByteArray) (kind : Nat) (w : World) (hk : kind ≤ 3) (hs : s.size ≤ 65536) (hv : ErrVars w) :
    Calls Tryd.prog 32 #[.int .i64 (kind : Int), .string s] w fun e w' => BitsErr (rangeOf (lowOf kind) (highOf kind) numberOf s.data.toList) e ∧ Below w.heap.size w w' := by
  obtain ⟨hlo, hhi⟩ := low_high kind hk
  have HB := Lib.hid (fun w => bounds_any kind w hk)
  have HR := Lib.hid (fun (w1 : World) (hv1 : ErrVars w1) => range_any s (lowOf kind) (highOf kind) (.map none) numberOf w1 hlo hhi hs hv1 (names_none w1 hv1))
  have HV := Lib.hid hv
  clear hv
  cases h : rangeOf (lowOf kind) (highOf kind) numberOf s.data.toList with
  | some b =>
    rw [h] at HR
    go_enter Tryd.func32, Tryd.ntmps32
    go_wp2_with (first
      | (go_at_call 40; refine (HB.out _).mono ?_; rintro e w1 ⟨rfl, hb1⟩)
      | (go_at_call 39; refine (HR.out _ (HV.out.below hb1)).mono ?_; rintro e w' ⟨rfl, hb⟩))
    go_ret2
    exact ⟨rfl, hb1.trans (hb.mono hb1.size)⟩
  | none =>
    rw [h] at HR
    go_enter Tryd.func32, Tryd.ntmps32
    go_wp2_with (first
      | (go_at_call 40; refine (HB.out _).mono ?_; rintro e w1 ⟨rfl, hb1⟩)
      | (go_at_call 39; refine (HR.out _ (HV.out.below hb1)).mono ?_; rintro e w' ⟨⟨T, p, rfl⟩, hb⟩))
    go_ret2
    exact ⟨⟨_, _, rfl⟩, hb1.trans (hb.mono hb1.size)⟩

theorem item_some (s : ByteArray) (kind : Nat) (w : World) (b : Int) (h : rangeOf (lowOf kind) (highOf kind) numberOf s.data.toList = some b) (hk : kind ≤ 3) (hs : s.size ≤ 65536) (hv : ErrVars w) :
    Calls Tryd.prog 17 #[.int .i64 (kind : Int), .string s] w fun e w' => e = .returned (.tuple #[.int .u64 b, .bool true]) ∧ Below w.heap.size w w' := by
  have HR := Lib.hid (zz_any s kind w hk hs hv)
  rw [h] at HR
  go_enter Tryd.func17, Tryd.ntmps17
  go_wp2_with (first
    | (go_at_call 32; refine (HR.out).mono ?_; rintro e w' ⟨rfl, hb⟩)
    | (go_at_call 28; go_in))
  go_ret2
  exact ⟨rfl, hb⟩

theorem item_none (s : ByteArray) (kind : Nat) (w : World) (h : rangeOf (lowOf kind) (highOf kind) numberOf s.data.toList = none) (hk : kind ≤ 3) (hs : s.size ≤ 65536) (hv : ErrVars w) :
    Calls Tryd.prog 17 #[.int .i64 (kind : Int), .string s] w fun e w' => e = .returned (.tuple #[.int .u64 0, .bool false]) ∧ Below w.heap.size w w' := by
  have HR := Lib.hid (zz_any s kind w hk hs hv)
  rw [h] at HR
  go_enter Tryd.func17, Tryd.ntmps17
  go_wp2_with (first
    | (go_at_call 32; refine (HR.out).mono ?_; rintro e w' ⟨⟨T, p, rfl⟩, hb⟩)
    | (go_at_call 28; go_in))
  go_ret2
  exact ⟨rfl, hb⟩

theorem specLow_any (kind : Nat) (w : World) (hk : kind ≤ 3) : Calls Tryd.prog 14 #[.int .i64 (kind : Int)] w fun e w' => e = .returned (.int .i64 (lowOf kind : Int)) ∧ w = w' := by
  have h : kind = 0 ∨ kind = 1 ∨ kind = 2 ∨ kind = 3 := by omega
  rcases h with rfl | rfl | rfl | rfl
  all_goals
    go_enter Tryd.func14, Tryd.ntmps14
    go_wp2
    go_ret
    exact ⟨rfl, rfl⟩

theorem specHigh_any (kind : Nat) (w : World) (hk : kind ≤ 3) : Calls Tryd.prog 15 #[.int .i64 (kind : Int)] w fun e w' => e = .returned (.int .i64 (highOf kind : Int)) ∧ w = w' := by
  have h : kind = 0 ∨ kind = 1 ∨ kind = 2 ∨ kind = 3 := by omega
  rcases h with rfl | rfl | rfl | rfl
  all_goals
    go_enter Tryd.func15, Tryd.ntmps15
    go_wp2
    go_ret
    exact ⟨rfl, rfl⟩

theorem boundsOf_any (kind : Nat) (w : World) (hk : kind ≤ 3) :
    Calls Tryd.prog 20 #[.int .i64 (kind : Int)] w fun e w' => e = .returned (.agg #[.int .i64 (lowOf kind : Int), .int .i64 (highOf kind : Int), .int .i64 (kind : Int)]) ∧ Below w.heap.size w w' := by
  go_enter Tryd.func20, Tryd.ntmps20
  go_wp2_with (first
    | (go_at_call 14; refine (specLow_any kind _ hk).mono ?_; rintro e w' ⟨rfl, rfl⟩)
    | (go_at_call 15; refine (specHigh_any kind _ hk).mono ?_; rintro e w' ⟨rfl, rfl⟩))
  exact bodyPost_ret (v := .agg #[.int .i64 (lowOf kind : Int), .int .i64 (highOf kind : Int), .int .i64 (kind : Int)]) (by simp [results, Tryd.results20, go_sem]) rfl ⟨rfl, (Below.refl _ _).alloc (Nat.le_refl _) _⟩

end Go.Proofs.YtjdpmcacnllfpaaDoor.ItemKind
