/- The reference's worse, CronStep, CronValue (of fields without names) and cronEnds. Conditions: texts of at most 65536 bytes. -/
import Derived.Test.YtjdpmcacnllfpaaDoorSpecPieces
import Derived.Test.YtjdpmcacnllfpaaDoorSpecNum
import Derived.Deep.RegionHeld3
namespace Go.Proofs.YtjdpmcacnllfpaaDoor.SpecEnds
open Go.RowKit Go.Proofs.YtjdpmcacnllfpaaDoor.Mem Go.Proofs.YtjdpmcacnllfpaaDoor.NumPure Go.Proofs.YtjdpmcacnllfpaaDoor.SpecNum Go.Proofs.YtjdpmcacnllfpaaDoor.Split Go.Proofs.YtjdpmcacnllfpaaDoor.SplitPure Go.Proofs.YtjdpmcacnllfpaaDoor.SpecPieces

set_option linter.unusedVariables false

def worseN (a b : Nat) : Nat := if a = 0 ∨ b = 0 then 0 else max a b
def specStep (l : List UInt8) : Nat × Nat :=
  if (specNumber l).2 = 0 ∨ (specNumber l).1 = 0 then (0, 0) else if (specNumber l).1 = huge then (0, 2) else specNumber l

/-- What stands ahead of the step: low, high, star, single, verdict. -/
def specEnds (lo hi : Nat) (days : Bool) (sval : List UInt8 → Nat × Nat) (ps : List (List UInt8)) : Nat × Nat × Bool × Bool × Nat :=
  match ps with
  | [] => (0, 0, false, false, 0)
  | a :: r =>
    if a = [42] ∨ a = [63] then (lo, hi, true, r.isEmpty, if r ≠ [] ∨ (a = [63] ∧ days = false) then 2 else 1)
    else match r with
      | [] => ((sval a).1, (sval a).1, false, true, (sval a).2)
      | [b] => ((sval a).1, (sval b).1, false, false, worseN (sval a).2 (sval b).2)
      | _ => (0, 0, false, false, 0)

theorem verdict_le (l : List UInt8) : (specNumber l).2 ≤ 2 := by
  unfold specNumber
  simp only
  generalize (if signed l then l.tail else l) = t
  by_cases ht : t = []
  · rw [if_pos ht]; simp
  · rw [if_neg ht]
    cases readN 0 t with
    | none => simp
    | some n => simp only; split <;> omega
theorem number_le (l : List UInt8) : (specNumber l).1 ≤ huge := by
  unfold specNumber
  simp only
  generalize (if signed l then l.tail else l) = t
  by_cases ht : t = []
  · rw [if_pos ht]; simp
  · rw [if_neg ht]
    cases h : readN 0 t with
    | none => simp
    | some n => exact readN_le h (by unfold huge; omega)

theorem worse_any (a b : Nat) (w : World) (ha : a ≤ 2) (hb : b ≤ 2) :
    Calls Tryd.prog 26 #[.int .i64 (a : Int), .int .i64 (b : Int)] w fun e w' => e = .returned (.int .i64 (worseN a b : Int)) ∧ w = w' := by
  have h : (a = 0 ∨ a = 1 ∨ a = 2) ∧ (b = 0 ∨ b = 1 ∨ b = 2) := by omega
  obtain ⟨rfl | rfl | rfl, rfl | rfl | rfl⟩ := h
  all_goals
    go_enter Tryd.func26, Tryd.ntmps26
    go_wp2
    go_ret
    exact ⟨rfl, rfl⟩

set_option maxHeartbeats 400000 in
theorem step_any (s : ByteArray) (w : World) (hs : s.size ≤ 65536) :
    Calls Tryd.prog 35 #[.string s] w fun e w' => e = .returned (.tuple #[.int .i64 ((specStep s.data.toList).1 : Int), .int .i64 ((specStep s.data.toList).2 : Int)]) ∧ w = w' := by
  have hv := verdict_le s.data.toList
  have hn := number_le s.data.toList
  unfold huge at hn
  have hc := fun w => cronNumber_any s w hs
  obtain ⟨nv, hnv⟩ : ∃ nv, specNumber s.data.toList = nv := ⟨_, rfl⟩
  have HR : Hid (specStep s.data.toList = if nv.2 = 0 ∨ nv.1 = 0 then (0, 0) else if nv.1 = huge then (0, 2) else nv) := Lib.hid (by unfold specStep; rw [hnv])
  rw [hnv] at hv hn hc
  have HC := Lib.hid hc
  clear hnv hc
  obtain ⟨n, v⟩ := nv
  simp only at hv hn
  by_cases h1 : v = 0
  · have h1' : ((v : Int) == 0) = true := by rw [h1]; rfl
    have HS : Hid (specStep s.data.toList = (0, 0)) := Lib.hid (by rw [HR.out, if_pos (.inl h1)])
    clear h1
    go_enter Tryd.func35, Tryd.ntmps35
    go_wp2_with (go_at_call 7; refine (HC.out _).mono ?_; rintro e w' ⟨rfl, rfl⟩)
    go_ret2
    exact ⟨by rw [HS.out]; rfl, rfl⟩
  · have h1' : ((v : Int) == 0) = false := beq_eq_false_iff_ne.2 (by omega)
    by_cases h2 : n = 0
    · have h2' : ((n : Int) == 0) = true := by rw [h2]; rfl
      have HS : Hid (specStep s.data.toList = (0, 0)) := Lib.hid (by rw [HR.out, if_pos (.inr h2)])
      clear h1 h2
      go_enter Tryd.func35, Tryd.ntmps35
      go_wp2_with (go_at_call 7; refine (HC.out _).mono ?_; rintro e w' ⟨rfl, rfl⟩)
      go_ret2
      exact ⟨by rw [HS.out]; rfl, rfl⟩
    · have h2' : ((n : Int) == 0) = false := beq_eq_false_iff_ne.2 (by omega)
      have hor : ¬ (v = 0 ∨ n = 0) := by omega
      by_cases h3 : n = 1099511627776
      · have h3' : ((n : Int) == 1099511627776) = true := by rw [h3]; rfl
        have HS : Hid (specStep s.data.toList = (0, 2)) := Lib.hid (by rw [HR.out, if_neg hor, if_pos (show (n, v).1 = huge from h3)])
        clear h1 h2 h3
        go_enter Tryd.func35, Tryd.ntmps35
        go_wp2_with (go_at_call 7; refine (HC.out _).mono ?_; rintro e w' ⟨rfl, rfl⟩)
        go_ret2
        exact ⟨by rw [HS.out]; rfl, rfl⟩
      · have h3' : ((n : Int) == 1099511627776) = false := beq_eq_false_iff_ne.2 (by omega)
        have HS : Hid (specStep s.data.toList = (n, v)) := Lib.hid (by rw [HR.out, if_neg hor, if_neg (show ¬ (n, v).1 = huge from h3)])
        clear h1 h2 h3
        go_enter Tryd.func35, Tryd.ntmps35
        go_wp2_with (go_at_call 7; refine (HC.out _).mono ?_; rintro e w' ⟨rfl, rfl⟩)
        go_ret2
        exact ⟨by rw [HS.out]; rfl, rfl⟩

/-- What CronValue gives over a kind. -/
def ValueAt (kind : Int) (sval : List UInt8 → Nat × Nat) : Prop :=
  (∀ l, (sval l).2 ≤ 2 ∧ (sval l).1 ≤ huge) ∧
  ∀ (s : ByteArray) (w : World), s.size ≤ 65536 →
    Calls Tryd.prog 41 #[.int .i64 kind, .string s] w fun e w' => e = .returned (.tuple #[.int .i64 ((sval s.data.toList).1 : Int), .int .i64 ((sval s.data.toList).2 : Int)]) ∧ Below w.heap.size w w'

theorem value_plain (kind : Int) (h4 : (kind == 4) = false) (h5 : (kind == 5) = false) : ValueAt kind specNumber := by
  refine ⟨fun l => ⟨verdict_le l, number_le l⟩, fun s w hs => ?_⟩
  go_enter Tryd.func41, Tryd.ntmps41
  go_wp2_with (go_at_call 7; refine (cronNumber_any s _ hs).mono ?_; rintro e w' ⟨rfl, rfl⟩)
  go_ret2
  exact ⟨rfl, Below.refl _ _⟩

/-- The five results of cronEnds. -/
def EndsRes (r : Nat × Nat × Bool × Bool × Nat) (e : Ending) : Prop :=
  e = .returned (.tuple #[.int .i64 (r.1 : Int), .int .i64 (r.2.1 : Int), .bool r.2.2.1, .bool r.2.2.2.1, .int .i64 (r.2.2.2.2 : Int)])

/-- A boxed CronBounds. -/
def Box3 (w : World) (b : Nat) (x y z : Value) : Prop := b < w.heap.size ∧ w.cell? ⟨b, 0, none⟩ = some x ∧ w.cell? ⟨b, 1, none⟩ = some y ∧ w.cell? ⟨b, 2, none⟩ = some z
theorem Box3.below {w w' : World} {b : Nat} {x y z : Value} (h : Box3 w b x y z) (hb : Below w.heap.size w w') : Box3 w' b x y z :=
  ⟨Nat.lt_of_lt_of_le h.1 hb.size, (hb.cell (p := ⟨b, 0, none⟩) h.1).trans h.2.1, (hb.cell (p := ⟨b, 1, none⟩) h.1).trans h.2.2.1, (hb.cell (p := ⟨b, 2, none⟩) h.1).trans h.2.2.2⟩
theorem box3_new (w : World) (E : TypeId) (x y z : Value) : Box3 (w.alloc (.cells #[x, y, z] E)) w.heap.size x y z := by
  have hh : (w.alloc (.cells #[x, y, z] E)).heap[w.heap.size]? = some (.cells #[x, y, z] E) := heap_alloc_new w _
  refine ⟨by simp, ?_, ?_, ?_⟩ <;> (unfold World.cell?; simp only [hh]; rfl)

section
variable {lo hi : Nat} {days : Bool} {sval : List UInt8 → Nat × Nat} {a : List UInt8}
theorem sends_star {r : List (List UInt8)} (h : a = [42] ∨ a = [63]) : specEnds lo hi days sval (a :: r) = (lo, hi, true, r.isEmpty, if r ≠ [] ∨ (a = [63] ∧ days = false) then 2 else 1) := by unfold specEnds; simp [h]
theorem sends_one (h : ¬ (a = [42] ∨ a = [63])) : specEnds lo hi days sval [a] = ((sval a).1, (sval a).1, false, true, (sval a).2) := by unfold specEnds; simp [h]
theorem sends_two {b : List UInt8} (h : ¬ (a = [42] ∨ a = [63])) : specEnds lo hi days sval [a, b] = ((sval a).1, (sval b).1, false, false, worseN (sval a).2 (sval b).2) := by unfold specEnds; simp [h]
theorem sends_many {b c : List UInt8} {r : List (List UInt8)} (h : ¬ (a = [42] ∨ a = [63])) : specEnds lo hi days sval (a :: b :: c :: r) = (0, 0, false, false, 0) := by unfold specEnds; simp [h]
end

set_option maxHeartbeats 2000000 in
set_option maxRecDepth 100000 in
theorem ends_any (s : ByteArray) (lo hi : Nat) (kind : Int) (days : Bool) (sval : List UInt8 → Nat × Nat) (w : World) (hlo : lo ≤ 62) (hhi : hi ≤ 62) (hs : s.size ≤ 65536)
    (hd : days = (kind == 3 || kind == 5)) (hval : ValueAt kind sval) :
    Calls Tryd.prog 34 #[.agg #[.int .i64 (lo : Int), .int .i64 (hi : Int), .int .i64 kind], .string s] w fun e w' => EndsRes (specEnds lo hi days sval (pieces 45 s.data.toList)) e ∧ Below w.heap.size w w' := by
  obtain ⟨a, r, Hps⟩ : ∃ a r, Hid (pieces 45 s.data.toList = a :: r) := by
    cases h : pieces 45 s.data.toList with
    | nil => exact absurd h (pieces_ne _ _)
    | cons a r => exact ⟨a, r, Lib.hid rfl⟩
  have hrc : r.length ≤ 65536 := by have := pieces_count 45 s.data.toList; rw [length_toList, Hps.out] at this; simp at this; omega
  have hal : (ofL a).size ≤ 65536 := by rw [size_ofL]; have := pieces_sum 45 s.data.toList a (by rw [Hps.out]; simp); rw [length_toList] at this; omega
  have HV := Lib.hid hval
  clear hval
  rw [Hps.out]
  by_cases h42 : a = [42] ∨ a = [63]
  · have HR := Lib.hid (sends_star (lo := lo) (hi := hi) (days := days) (sval := sval) (r := r) h42)
    obtain ⟨k3, hk3⟩ : ∃ k3, (kind == 3) = k3 := ⟨_, rfl⟩
    obtain ⟨k5, hk5⟩ : ∃ k5, (kind == 5) = k5 := ⟨_, rfl⟩
    have hk3n : (kind != 3) = !k3 := by rw [bne, hk3]
    have hk5n : (kind != 5) = !k5 := by rw [bne, hk5]
    rw [hk3, hk5] at hd
    have HDays := Lib.hid hd
    have HRlen := Lib.hid hrc
    by_cases ha42 : a = [42]
    · have e1 : ((ofL a).toList == [42]) = true := by rw [ByteArray.toList_eq, toList_ofL, ha42]; rfl
      have e2 : ((ofL a).toList == [63]) = false := by rw [ByteArray.toList_eq, toList_ofL, ha42]; rfl
      match r, Hps, hrc, HR with
      | [], Hps, hrc, HR =>
        have HR2 : Hid (specEnds lo hi days sval [a] = (lo, hi, true, true, 1)) := Lib.hid (by rw [HR.out, ha42]; rfl)
        clear ha42 h42 hd
        go_enter Tryd.func34, Tryd.ntmps34
        go_wp2_with (go_at_call 25; refine (pieces_any s 45 _ hs).mono ?_; rw [Hps.out]; rintro e w1 ⟨g, cap, rfl, hcap, hg, hS, hb⟩; (have hc0 := hS.2 0 _ rfl); (have hbx := (box3_new w 35 (.int .i64 (lo : Int)) (.int .i64 (hi : Int)) (.int .i64 kind)).below hb); (have hk := hbx.2.2.2); (have hkl := hbx.2.1); (have hkh := hbx.2.2.1))
        go_region_held3 (fun w' => w'.cell? ⟨w.heap.size, 0, none⟩ = some (.int .i64 (lo : Int)) ∧ w'.cell? ⟨w.heap.size, 1, none⟩ = some (.int .i64 (hi : Int))) (go_keep) (fail)
        all_goals
          go_wp2_with fail
          refine bodyPost_ret (results_tmp5 rfl _ _ _) rfl ?_
          exact ⟨by rw [HR2.out]; rfl, (((Below.refl w.heap.size w).alloc (Nat.le_refl _) _).trans (hb.mono (by simp))).drew⟩
      | b :: r, Hps, hrc, HR =>
        have HR2 : Hid (specEnds lo hi days sval (a :: b :: r) = (lo, hi, true, false, 2)) := Lib.hid (by rw [HR.out]; simp)
        have hl1 : decide ((1 : Int) < (r.length : Int) + 1 + 1) = true := decide_eq_true (by omega)
        have hl2 : (((r.length : Int) + 1 + 1) == 1) = false := beq_eq_false_iff_ne.2 (by omega)
        have hl3 : (0 : Int) < (r.length : Int) + 1 + 1 := by omega
        clear ha42 h42 hd
        go_enter Tryd.func34, Tryd.ntmps34
        go_wp2_with (go_at_call 25; refine (pieces_any s 45 _ hs).mono ?_; rw [Hps.out]; rintro e w1 ⟨g, cap, rfl, hcap, hg, hS, hb⟩; (have hc0 := hS.2 0 _ rfl); (have hbx := (box3_new w 35 (.int .i64 (lo : Int)) (.int .i64 (hi : Int)) (.int .i64 kind)).below hb); (have hk := hbx.2.2.2); (have hkl := hbx.2.1); (have hkh := hbx.2.2.1))
        go_region_held3 (fun w' => w'.cell? ⟨w.heap.size, 0, none⟩ = some (.int .i64 (lo : Int)) ∧ w'.cell? ⟨w.heap.size, 1, none⟩ = some (.int .i64 (hi : Int))) (go_keep) (fail)
        all_goals
          go_wp2_with fail
          refine bodyPost_ret (results_tmp5 rfl _ _ _) rfl ?_
          exact ⟨by rw [HR2.out]; rfl, (((Below.refl w.heap.size w).alloc (Nat.le_refl _) _).trans (hb.mono (by simp))).drew⟩
    · have ha63 : a = [63] := h42.resolve_left ha42
      have e1 : ((ofL a).toList == [42]) = false := by rw [ByteArray.toList_eq, toList_ofL, ha63]; rfl
      have e2 : ((ofL a).toList == [63]) = true := by rw [ByteArray.toList_eq, toList_ofL, ha63]; rfl
      match r, Hps, hrc, HR with
      | [], Hps, hrc, HR =>
        have HR1 : Hid (specEnds lo hi days sval [a] = (lo, hi, true, true, if days = false then 2 else 1)) := Lib.hid (by rw [HR.out, ha63]; simp)
        clear ha42 ha63 h42 hd
        cases k3 with
        | true =>
          have HR2 : Hid (specEnds lo hi days sval [a] = (lo, hi, true, true, 1)) := Lib.hid (by rw [HR1.out, HDays.out]; rfl)
          go_enter Tryd.func34, Tryd.ntmps34
          go_wp2_with (go_at_call 25; refine (pieces_any s 45 _ hs).mono ?_; rw [Hps.out]; rintro e w1 ⟨g, cap, rfl, hcap, hg, hS, hb⟩; (have hc0 := hS.2 0 _ rfl); (have hbx := (box3_new w 35 (.int .i64 (lo : Int)) (.int .i64 (hi : Int)) (.int .i64 kind)).below hb); (have hk := hbx.2.2.2); (have hkl := hbx.2.1); (have hkh := hbx.2.2.1))
          go_region_held3 (fun w' => w'.cell? ⟨w.heap.size, 0, none⟩ = some (.int .i64 (lo : Int)) ∧ w'.cell? ⟨w.heap.size, 1, none⟩ = some (.int .i64 (hi : Int))) (go_keep) (fail)
          all_goals
            go_wp2_with fail
            refine bodyPost_ret (results_tmp5 rfl _ _ _) rfl ?_
            exact ⟨by rw [HR2.out]; rfl, (((Below.refl w.heap.size w).alloc (Nat.le_refl _) _).trans (hb.mono (by simp))).drew⟩
        | false =>
          cases k5 with
          | true =>
            have HR2 : Hid (specEnds lo hi days sval [a] = (lo, hi, true, true, 1)) := Lib.hid (by rw [HR1.out, HDays.out]; rfl)
            go_enter Tryd.func34, Tryd.ntmps34
            go_wp2_with (go_at_call 25; refine (pieces_any s 45 _ hs).mono ?_; rw [Hps.out]; rintro e w1 ⟨g, cap, rfl, hcap, hg, hS, hb⟩; (have hc0 := hS.2 0 _ rfl); (have hbx := (box3_new w 35 (.int .i64 (lo : Int)) (.int .i64 (hi : Int)) (.int .i64 kind)).below hb); (have hk := hbx.2.2.2); (have hkl := hbx.2.1); (have hkh := hbx.2.2.1))
            go_region_held3 (fun w' => w'.cell? ⟨w.heap.size, 0, none⟩ = some (.int .i64 (lo : Int)) ∧ w'.cell? ⟨w.heap.size, 1, none⟩ = some (.int .i64 (hi : Int))) (go_keep) (fail)
            all_goals
              go_wp2_with fail
              refine bodyPost_ret (results_tmp5 rfl _ _ _) rfl ?_
              exact ⟨by rw [HR2.out]; rfl, (((Below.refl w.heap.size w).alloc (Nat.le_refl _) _).trans (hb.mono (by simp))).drew⟩
          | false =>
            have HR2 : Hid (specEnds lo hi days sval [a] = (lo, hi, true, true, 2)) := Lib.hid (by rw [HR1.out, HDays.out]; rfl)
            go_enter Tryd.func34, Tryd.ntmps34
            go_wp2_with (go_at_call 25; refine (pieces_any s 45 _ hs).mono ?_; rw [Hps.out]; rintro e w1 ⟨g, cap, rfl, hcap, hg, hS, hb⟩; (have hc0 := hS.2 0 _ rfl); (have hbx := (box3_new w 35 (.int .i64 (lo : Int)) (.int .i64 (hi : Int)) (.int .i64 kind)).below hb); (have hk := hbx.2.2.2); (have hkl := hbx.2.1); (have hkh := hbx.2.2.1))
            go_region_held3 (fun w' => w'.cell? ⟨w.heap.size, 0, none⟩ = some (.int .i64 (lo : Int)) ∧ w'.cell? ⟨w.heap.size, 1, none⟩ = some (.int .i64 (hi : Int))) (go_keep) (fail)
            all_goals
              go_wp2_with fail
              refine bodyPost_ret (results_tmp5 rfl _ _ _) rfl ?_
              exact ⟨by rw [HR2.out]; rfl, (((Below.refl w.heap.size w).alloc (Nat.le_refl _) _).trans (hb.mono (by simp))).drew⟩
      | b :: r, Hps, hrc, HR =>
        have HR2 : Hid (specEnds lo hi days sval (a :: b :: r) = (lo, hi, true, false, 2)) := Lib.hid (by rw [HR.out]; simp)
        have hl1 : decide ((1 : Int) < (r.length : Int) + 1 + 1) = true := decide_eq_true (by omega)
        have hl2 : (((r.length : Int) + 1 + 1) == 1) = false := beq_eq_false_iff_ne.2 (by omega)
        have hl3 : (0 : Int) < (r.length : Int) + 1 + 1 := by omega
        clear ha42 ha63 h42 hd
        go_enter Tryd.func34, Tryd.ntmps34
        go_wp2_with (go_at_call 25; refine (pieces_any s 45 _ hs).mono ?_; rw [Hps.out]; rintro e w1 ⟨g, cap, rfl, hcap, hg, hS, hb⟩; (have hc0 := hS.2 0 _ rfl); (have hbx := (box3_new w 35 (.int .i64 (lo : Int)) (.int .i64 (hi : Int)) (.int .i64 kind)).below hb); (have hk := hbx.2.2.2); (have hkl := hbx.2.1); (have hkh := hbx.2.2.1))
        go_region_held3 (fun w' => w'.cell? ⟨w.heap.size, 0, none⟩ = some (.int .i64 (lo : Int)) ∧ w'.cell? ⟨w.heap.size, 1, none⟩ = some (.int .i64 (hi : Int))) (go_keep) (fail)
        all_goals
          go_wp2_with fail
          refine bodyPost_ret (results_tmp5 rfl _ _ _) rfl ?_
          exact ⟨by rw [HR2.out]; rfl, (((Below.refl w.heap.size w).alloc (Nat.le_refl _) _).trans (hb.mono (by simp))).drew⟩
  · have HN := Lib.hid h42
    have e1 : ((ofL a).toList == [42]) = false := by rw [ByteArray.toList_eq, toList_ofL]; simpa using fun h => h42 (.inl h)
    have e2 : ((ofL a).toList == [63]) = false := by rw [ByteArray.toList_eq, toList_ofL]; simpa using fun h => h42 (.inr h)
    have hva := HV.out.1 a
    unfold huge at hva
    have hva1 := hva.1
    have hva2 := hva.2
    clear h42 hva
    match r, Hps, hrc with
    | [], Hps, hrc =>
      have HR := Lib.hid (sends_one (lo := lo) (hi := hi) (days := days) (sval := sval) HN.out)
      go_enter Tryd.func34, Tryd.ntmps34
      go_wp2_with (go_at_call 25; refine (pieces_any s 45 _ hs).mono ?_; rw [Hps.out]; rintro e w1 ⟨g, cap, rfl, hcap, hg, hS, hb⟩; (have hc0 := hS.2 0 _ rfl); (have hbx := (box3_new w 35 (.int .i64 (lo : Int)) (.int .i64 (hi : Int)) (.int .i64 kind)).below hb); (have hk := hbx.2.2.2); (have hkl := hbx.2.1); (have hkh := hbx.2.2.1))
      go_region_held3 (fun w' => w'.cell? ⟨g, 0, none⟩ = some (.string (ofL a)) ∧ w'.cell? ⟨w.heap.size, 2, none⟩ = some (.int .i64 kind)) (go_keep) ((go_at_call 41; refine (HV.out.2 _ _ hal).mono ?_; rw [toList_ofL]; rintro e w3 ⟨rfl, hb3⟩; (have k1 := (hb3.cell (p := ⟨g, 0, none⟩) hS.1).trans hc0); (have k2 := (hb3.cell (p := ⟨w.heap.size, 2, none⟩) hbx.1).trans hk)))
      all_goals
        go_wp2_with fail
        refine bodyPost_ret (results_tmp5 rfl _ _ _) rfl ?_
        exact ⟨by rw [HR.out]; rfl, (((Below.refl w.heap.size w).alloc (Nat.le_refl _) _).trans (hb.mono (by simp))).drew.trans (hb3.mono (by have := hb.size; simp at this ⊢; omega))⟩
    | [b], Hps, hrc =>
      have hbl : (ofL b).size ≤ 65536 := by rw [size_ofL]; have := pieces_sum 45 s.data.toList b (by rw [Hps.out]; simp); rw [length_toList] at this; omega
      have HR := Lib.hid (sends_two (lo := lo) (hi := hi) (days := days) (sval := sval) (b := b) HN.out)
      have hvb := HV.out.1 b
      unfold huge at hvb
      have hvb1 := hvb.1
      have hvb2 := hvb.2
      clear hvb
      go_enter Tryd.func34, Tryd.ntmps34
      go_wp2_with (go_at_call 25; refine (pieces_any s 45 _ hs).mono ?_; rw [Hps.out]; rintro e w1 ⟨g, cap, rfl, hcap, hg, hS, hb⟩; (have hc0 := hS.2 0 _ rfl); (have hbx := (box3_new w 35 (.int .i64 (lo : Int)) (.int .i64 (hi : Int)) (.int .i64 kind)).below hb); (have hk := hbx.2.2.2); (have hkl := hbx.2.1); (have hkh := hbx.2.2.1))
      have hc1 := hS.2 1 _ rfl
      go_region_held3 (fun w' => w'.cell? ⟨g, 0, none⟩ = some (.string (ofL a)) ∧ w'.cell? ⟨w.heap.size, 2, none⟩ = some (.int .i64 kind)) (go_keep) ((go_at_call 41; refine (HV.out.2 _ _ hal).mono ?_; rw [toList_ofL]; rintro e w3 ⟨rfl, hb3⟩; (have k1 := (hb3.cell (p := ⟨g, 0, none⟩) hS.1).trans hc0); (have k2 := (hb3.cell (p := ⟨w.heap.size, 2, none⟩) hbx.1).trans hk)))
      all_goals
        have k3 := (hb3.cell (p := ⟨g, 1, none⟩) hS.1).trans hc1
        have hlt3 : g < w3.heap.size := Nat.lt_of_lt_of_le hS.1 hb3.size
        have hb03 : w.heap.size < w3.heap.size := Nat.lt_of_lt_of_le hbx.1 hb3.size
        have HB3 := Lib.hid ((((Below.refl w.heap.size w).alloc (Nat.le_refl _) _).trans (hb.mono (by simp))).drew.trans (hb3.mono (by have := hb.size; simp at this ⊢; omega)))
        clear hb3 k1 hc1 hc0 hk hkl hkh
        go_wp2_with fail
        go_region_held3 (fun w' => w'.cell? ⟨g, 1, none⟩ = some (.string (ofL b)) ∧ w'.cell? ⟨w.heap.size, 2, none⟩ = some (.int .i64 kind)) (go_keep) ((go_at_call 41; refine (HV.out.2 _ _ hbl).mono ?_; rw [toList_ofL]; rintro e w4 ⟨rfl, hb4⟩; (have k4 := (hb4.cell (p := ⟨g, 1, none⟩) hlt3).trans k3); (have k5 := (hb4.cell (p := ⟨w.heap.size, 2, none⟩) hb03).trans k2)))
        all_goals
          go_wp2_with (go_at_call 26; refine (worse_any _ _ _ (by omega) (by omega)).mono ?_; rintro e w5 ⟨rfl, rfl⟩)
          refine bodyPost_ret (results_tmp5 rfl _ _ _) rfl ?_
          exact ⟨by rw [HR.out]; rfl, HB3.out.drew.trans (hb4.mono HB3.out.size)⟩
    | b :: c :: r, Hps, hrc =>
      have HR := Lib.hid (sends_many (lo := lo) (hi := hi) (days := days) (sval := sval) (b := b) (c := c) (r := r) HN.out)
      have hl1 : (((r.length : Int) + 1 + 1 + 1) == 1) = false := beq_eq_false_iff_ne.2 (by omega)
      have hl2 : (((r.length : Int) + 1 + 1 + 1) == 2) = false := beq_eq_false_iff_ne.2 (by omega)
      have hl3 : (0 : Int) < (r.length : Int) + 1 + 1 + 1 := by omega
      go_enter Tryd.func34, Tryd.ntmps34
      go_wp2_with (go_at_call 25; refine (pieces_any s 45 _ hs).mono ?_; rw [Hps.out]; rintro e w1 ⟨g, cap, rfl, hcap, hg, hS, hb⟩; (have hc0 := hS.2 0 _ rfl); (have hbx := (box3_new w 35 (.int .i64 (lo : Int)) (.int .i64 (hi : Int)) (.int .i64 kind)).below hb); (have hk := hbx.2.2.2); (have hkl := hbx.2.1); (have hkh := hbx.2.2.1))
      go_region_held3 (fun w' => w'.cell? ⟨g, 0, none⟩ = some (.string (ofL a)) ∧ w'.cell? ⟨w.heap.size, 2, none⟩ = some (.int .i64 kind)) (go_keep) ((go_at_call 41; refine (HV.out.2 _ _ hal).mono ?_; rw [toList_ofL]; rintro e w3 ⟨rfl, hb3⟩; (have k1 := (hb3.cell (p := ⟨g, 0, none⟩) hS.1).trans hc0); (have k2 := (hb3.cell (p := ⟨w.heap.size, 2, none⟩) hbx.1).trans hk)))
      all_goals
        go_wp2_with fail
        refine bodyPost_ret (results_tmp5 rfl _ _ _) rfl ?_
        exact ⟨by rw [HR.out]; rfl, (((Below.refl w.heap.size w).alloc (Nat.le_refl _) _).trans (hb.mono (by simp))).drew.trans (hb3.mono (by have := hb.size; simp at this ⊢; omega))⟩

end Go.Proofs.YtjdpmcacnllfpaaDoor.SpecEnds
