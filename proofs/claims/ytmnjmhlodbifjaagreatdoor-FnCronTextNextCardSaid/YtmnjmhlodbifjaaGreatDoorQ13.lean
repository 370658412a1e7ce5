/- The reference's CronItem. Conditions: bounds within 0 to 62, texts of at most 65536 bytes. · The reference's CronUnion and CronBits: over the 63 cells of a set. Conditions: none. · The reference's CronBits. Conditions: none. -/
import Derived.Test.YtmnjmhlodbifjaaGreatDoorQ12
import Derived.Test.YtmnjmhlodbifjaaGreatDoorQ11
import Derived.Laws.CopyOwn
import Derived.Deep.DeepCutAuto
import Derived.Test.YtmnjmhlodbifjaaGreatDoorQ5
import Derived.Test.YtmnjmhlodbifjaaGreatDoorQ8
import Derived.Deep.MidRow
import Derived.BigFrame

namespace Go.Proofs.YtmnjmhlodbifjaaGreatDoor.SpecItem
open Go.RowKit Go.Proofs.YtmnjmhlodbifjaaGreatDoor.Mem Go.Proofs.YtmnjmhlodbifjaaGreatDoor.NumPure Go.Proofs.YtmnjmhlodbifjaaGreatDoor.SpecNum Go.Proofs.YtmnjmhlodbifjaaGreatDoor.Split Go.Proofs.YtmnjmhlodbifjaaGreatDoor.SplitPure Go.Proofs.YtmnjmhlodbifjaaGreatDoor.SpecPieces Go.Proofs.YtmnjmhlodbifjaaGreatDoor.SpecEnds Go.Proofs.YtmnjmhlodbifjaaGreatDoor.Set
set_option linter.unusedVariables false
abbrev CSet := Bool × (Nat → Bool)
def empty : CSet := (false, fun _ => false)
def withStep (hi : Nat) (e : Nat × Nat × Bool × Bool × Nat) (r : List (List UInt8)) : Nat × Nat × Nat :=
  match r with
  | [st] => ((specStep st).1, worseN e.2.2.2.2 (specStep st).2, if e.2.2.2.1 && !e.2.2.1 then hi else e.2.1)
  | _ => (1, e.2.2.2.2, e.2.1)
theorem withStep_one (hi : Nat) (e : Nat × Nat × Bool × Bool × Nat) (st : List UInt8) : withStep hi e [st] = ((specStep st).1, worseN e.2.2.2.2 (specStep st).2, if e.2.2.2.1 && !e.2.2.1 then hi else e.2.1) := rfl
def members (low high step : Nat) (v : Nat) : Bool := decide (low ≤ v) && decide (v ≤ high) && decide ((v - low) % step = 0)
def itemOf (lo hi : Nat) (e : Nat × Nat × Bool × Bool × Nat) (t : Nat × Nat × Nat) : CSet × Nat :=
  if t.2.1 ≠ 1 then (empty, t.2.1)
  else if e.1 < lo ∨ hi < t.2.2 ∨ t.2.2 < e.1 then (empty, 0)
  else ((e.2.2.1 && decide (t.1 = 1), members e.1 t.2.2 t.1), 1)
def specItem (lo hi : Nat) (days : Bool) (sval : List UInt8 → Nat × Nat) (l : List UInt8) : CSet × Nat :=
  match pieces 47 l with
  | [] => (empty, 0)
  | a :: r => if 2 ≤ r.length then (empty, 0) else itemOf lo hi (specEnds lo hi days sval (pieces 45 a)) (withStep hi (specEnds lo hi days sval (pieces 45 a)) r)
theorem specItem_of {lo hi : Nat} {days : Bool} {sval : List UInt8 → Nat × Nat} {l a : List UInt8} {r : List (List UInt8)} (h : pieces 47 l = a :: r) :
    specItem lo hi days sval l = if 2 ≤ r.length then (empty, 0) else itemOf lo hi (specEnds lo hi days sval (pieces 45 a)) (withStep hi (specEnds lo hi days sval (pieces 45 a)) r) := by
  unfold specItem; rw [h]
def ItemRes (r : CSet × Nat) (e : Ending) : Prop := e = .returned (.tuple #[.agg (setArr r.1.1 r.1.2), .int .i64 (r.2 : Int)])
theorem specEnds_le {lo hi : Nat} {days : Bool} {sval : List UInt8 → Nat × Nat} {ps : List (List UInt8)} (hlo : lo ≤ 62) (hhi : hi ≤ 62) (hs : ∀ l, (sval l).2 ≤ 2 ∧ (sval l).1 ≤ huge) :
    (specEnds lo hi days sval ps).1 ≤ huge ∧ (specEnds lo hi days sval ps).2.1 ≤ huge ∧ (specEnds lo hi days sval ps).2.2.2.2 ≤ 2 := by
  have hw : ∀ a b, a ≤ 2 → b ≤ 2 → worseN a b ≤ 2 := by intro a b h1 h2; unfold worseN; split <;> omega
  unfold huge at hs ⊢
  match ps with
  | [] => simp [specEnds]
  | a :: r =>
    by_cases h : a = [42] ∨ a = [63]
    · rw [sends_star h]
      refine ⟨by simp; omega, by simp; omega, ?_⟩
      simp only
      split <;> omega
    · match r with
      | [] => rw [sends_one h]; exact ⟨(hs a).2, (hs a).2, (hs a).1⟩
      | [b] => rw [sends_two h]; exact ⟨(hs a).2, (hs b).2, hw _ _ (hs a).1 (hs b).1⟩
      | b :: c :: r => rw [sends_many h]; simp
theorem specStep_le (l : List UInt8) : (specStep l).1 ≤ huge ∧ (specStep l).2 ≤ 2 ∧ ((specStep l).2 = 1 → 1 ≤ (specStep l).1 ∧ (specStep l).1 < huge) := by
  have h1 := verdict_le l
  have h2 := number_le l
  unfold specStep
  by_cases h : (specNumber l).2 = 0 ∨ (specNumber l).1 = 0
  · rw [if_pos h]; simp
  · rw [if_neg h]
    by_cases h3 : (specNumber l).1 = huge
    · rw [if_pos h3]; simp
    · rw [if_neg h3]; exact ⟨h2, h1, fun _ => by omega⟩
theorem withStep_le {hi : Nat} {e : Nat × Nat × Bool × Bool × Nat} {r : List (List UInt8)} (hhi : hi ≤ 62) (h1 : e.2.1 ≤ huge) (h2 : e.2.2.2.2 ≤ 2) :
    (withStep hi e r).1 ≤ huge ∧ (withStep hi e r).2.1 ≤ 2 ∧ (withStep hi e r).2.2 ≤ huge ∧ ((withStep hi e r).2.1 = 1 → 1 ≤ (withStep hi e r).1) := by
  have hw : ∀ a b, a ≤ 2 → b ≤ 2 → worseN a b ≤ 2 := by intro a b h1 h2; unfold worseN; split <;> omega
  unfold huge at *
  match r with
  | [] => exact ⟨by simp [withStep], h2, h1, fun _ => Nat.le_refl _⟩
  | [st] =>
    have h := specStep_le st
    unfold huge at h
    refine ⟨h.1, hw _ _ h2 h.2.1, ?_, fun hv => ?_⟩
    · show (if _ then hi else e.2.1) ≤ _
      split
      · omega
      · exact h1
    · have hv' : worseN e.2.2.2.2 (specStep st).2 = 1 := hv
      refine (h.2.2 ?_).1
      unfold worseN at hv'
      split at hv' <;> omega
  | a :: b :: r => exact ⟨by simp [withStep], h2, h1, fun _ => Nat.le_refl _⟩
def upTo (low step v : Nat) (i : Nat) : Bool := decide (low ≤ i) && decide (i < v) && decide ((i - low) % step = 0)
theorem upTo_next (low step v : Nat) (hv : low ≤ v) : upd (upTo low step v) v (decide ((v - low) % step = 0)) = upTo low step (v + 1) := by
  funext i
  unfold upd upTo
  by_cases h : i = v
  · subst h; simp [hv]
  · rw [if_neg h]
    have : decide (i < v) = decide (i < v + 1) := by rw [decide_eq_decide]; omega
    rw [this]
theorem upTo_start (low step : Nat) : (fun _ => false) = upTo low step low := by
  funext i; unfold upTo; simp; omega
theorem upTo_end (low high step : Nat) : upTo low step (high + 1) = members low high step := by
  funext i; unfold upTo members
  have : decide (i < high + 1) = decide (i ≤ high) := by rw [decide_eq_decide]; omega
  rw [this]
theorem start_facts (lo hi : Nat) (kind : Int) (w w1 : World)
    (hb : Below ((w.alloc (.cells #[.int .i64 (lo : Int), .int .i64 (hi : Int), .int .i64 kind] 186)).alloc (.cells (setArr false fun _ => false) 55)).heap.size
      ((w.alloc (.cells #[.int .i64 (lo : Int), .int .i64 (hi : Int), .int .i64 kind] 186)).alloc (.cells (setArr false fun _ => false) 55)) w1) :
    Box3 w1 w.heap.size (.int .i64 (lo : Int)) (.int .i64 (hi : Int)) (.int .i64 kind) ∧ SetAt w1 (w.heap.size + 1) false (fun _ => false) ∧ Below w.heap.size w w1 := by
  have h1 := box3_new w 186 (.int .i64 (lo : Int)) (.int .i64 (hi : Int)) (.int .i64 kind)
  have hsz : (w.alloc (.cells #[.int .i64 (lo : Int), .int .i64 (hi : Int), .int .i64 kind] 186)).heap.size = w.heap.size + 1 := by simp
  have hbw : Below w.heap.size w (w.alloc (.cells #[.int .i64 (lo : Int), .int .i64 (hi : Int), .int .i64 kind] 186)) := (Below.refl _ _).alloc (Nat.le_refl _) _
  generalize w.alloc (.cells #[.int .i64 (lo : Int), .int .i64 (hi : Int), .int .i64 kind] 186) = wa at h1 hb hsz hbw
  have h2 := SetAt.new wa false fun _ => false
  have hb2 : Below wa.heap.size wa (wa.alloc (.cells (setArr false fun _ => false) 55)) := (Below.refl _ _).alloc (Nat.le_refl _) _
  have hsz2 : (wa.alloc (.cells (setArr false fun _ => false) 55)).heap.size = wa.heap.size + 1 := by simp
  generalize wa.alloc (.cells (setArr false fun _ => false) 55) = wb at h2 hb hb2 hsz2
  refine ⟨(h1.below hb2).below hb, ?_, hbw.trans ((hb2.mono (by omega)).trans (hb.mono (by omega)))⟩
  rw [← hsz]
  exact h2.below hb (by omega)
set_option maxHeartbeats 4000000 in
set_option maxRecDepth 100000 in
theorem item_any (s : ByteArray) (lo hi : Nat) (kind : Int) (days : Bool) (sval : List UInt8 → Nat × Nat) (w : World) (hlo : lo ≤ 62) (hhi : hi ≤ 62) (hs : s.size ≤ 65536)
    (hd : days = (kind == 3 || kind == 5)) (hval : ValueAt kind sval) :
    Calls Tryz.prog 141 #[.agg #[.int .i64 (lo : Int), .int .i64 (hi : Int), .int .i64 kind], .string s] w fun e w' => ItemRes (specItem lo hi days sval s.data.toList) e ∧ Below w.heap.size w w' := by
  obtain ⟨a, r, Hps⟩ : ∃ a r, Hid (pieces 47 s.data.toList = a :: r) := by
    cases h : pieces 47 s.data.toList with
    | nil => exact absurd h (pieces_ne _ _)
    | cons a r => exact ⟨a, r, Lib.hid rfl⟩
  have HD := Lib.hid (specItem_of (lo := lo) (hi := hi) (days := days) (sval := sval) Hps.out)
  have hrc : r.length ≤ 65536 := by have := pieces_count 47 s.data.toList; rw [length_toList, Hps.out] at this; simp at this; omega
  have hal : (ofL a).size ≤ 65536 := by rw [size_ofL]; have := pieces_sum 47 s.data.toList a (by rw [Hps.out]; simp); rw [length_toList] at this; omega
  have HEnds := Lib.hid (fun w => ends_any (ofL a) lo hi kind days sval w hlo hhi hal hd hval)
  have hle := specEnds_le (days := days) (ps := pieces 45 a) hlo hhi hval.1
  unfold huge at hle
  obtain ⟨t, Ht⟩ : ∃ t, Hid (specEnds lo hi days sval (pieces 45 a) = t) := ⟨_, Lib.hid rfl⟩
  rw [Ht.out] at hle
  obtain ⟨low, high, star, single, ver⟩ := t
  simp only at hle
  obtain ⟨hle1, hle2, hle3⟩ := hle
  clear hval hd
  by_cases hmany : 2 ≤ r.length
  · have HR : Hid (specItem lo hi days sval s.data.toList = (empty, 0)) := Lib.hid (by rw [HD.out, if_pos hmany])
    have hd1 : decide ((2 : Int) < (r.length : Int) + 1) = true := decide_eq_true (by omega)
    go_enter Tryz.func141, Tryz.ntmps141
    go_wp2_with (first
      | (with_reducible refine wpList_alloc_set rfl rfl ?_)
      | (go_at_call 140; refine (pieces_any s 47 _ hs).mono ?_; rw [Hps.out]; rintro e w1 ⟨g, cap, rfl, hcap, hg, hS, hb⟩; (have hc0 := hS.2 0 _ rfl); (have HF := Lib.hid (start_facts lo hi kind w w1 hb)))
      | (with_reducible refine wpList_build_set rfl rfl ?_)
      | (with_reducible refine wpList_store_set rfl (.tmp 4) (.tmp 22) rfl (w.heap.size + 1) false false (fun _ => false) (fun _ => false) rfl rfl (by exact HF.out.2.1) ?_))
    refine bodyPost_ret (results_set_tmp rfl _ _ (w.heap.size + 1) false (fun _ => false) rfl (setRow_at HF.out.2.1)) rfl ?_
    exact ⟨by rw [HR.out]; rfl, below_setRow HF.out.2.2 (by omega) _⟩
  · have HDI : Hid (specItem lo hi days sval s.data.toList = itemOf lo hi (low, high, star, single, ver) (withStep hi (low, high, star, single, ver) r)) := Lib.hid (by rw [HD.out, if_neg hmany, Ht.out])
    have hd1 : decide ((2 : Int) < (r.length : Int) + 1) = false := decide_eq_false (by omega)
    have hl0 : (0 : Int) < (r.length : Int) + 1 := by omega
    clear HD
    go_enter Tryz.func141, Tryz.ntmps141
    go_wp2_with (first
      | (with_reducible refine wpList_alloc_set rfl rfl ?_)
      | (go_at_call 140; refine (pieces_any s 47 _ hs).mono ?_; rw [Hps.out]; rintro e w1 ⟨g, cap, rfl, hcap, hg, hS, hb⟩; (have hc0 := hS.2 0 _ rfl); (have HF := Lib.hid (start_facts lo hi kind w w1 hb))))
    have hbx := HF.out.1
    obtain ⟨hcl, hch, hck⟩ := hbx.2
    have hbl := hbx.1
    have hgl := hS.1
    have HS := Lib.hid hS
    clear hbx hS hb
    go_region_held3 (fun w' => w'.cell? ⟨g, 0, none⟩ = some (.string (ofL a)) ∧ w'.cell? ⟨w.heap.size, 0, none⟩ = some (.int .i64 (lo : Int)) ∧ w'.cell? ⟨w.heap.size, 1, none⟩ = some (.int .i64 (hi : Int)) ∧ w'.cell? ⟨w.heap.size, 2, none⟩ = some (.int .i64 kind)) (go_keep) ((go_at_call 153; refine (HEnds.out _).mono ?_; rw [toList_ofL, Ht.out]; rintro e w3 ⟨rfl, hb3⟩; (have k0 := (hb3.cell (p := ⟨g, 0, none⟩) hgl).trans hc0); (have k1 := (hb3.cell (p := ⟨w.heap.size, 0, none⟩) hbl).trans hcl); (have k2 := (hb3.cell (p := ⟨w.heap.size, 1, none⟩) hbl).trans hch); (have k3 := (hb3.cell (p := ⟨w.heap.size, 2, none⟩) hbl).trans hck)))
    all_goals
      have HF3 : Hid (SetAt w3 (w.heap.size + 1) false (fun _ => false) ∧ Below w.heap.size w w3 ∧ Strs w3 g (a :: r)) := Lib.hid (by
        have hb3' : Below w1.heap.size w1 w3 := (Below.refl w1.heap.size w1).drew.trans hb3
        exact ⟨HF.out.2.1.below hb3' HF.out.2.1.lt, HF.out.2.2.trans (hb3'.mono HF.out.2.2.size), HS.out.below hb3'⟩)
      clear hb3 hc0 hcl hch hck k0 k3 HF HS
      go_upto_if 36 with fail
      go_cut [8, 11, 12] (fun s8 s11 s12 wx => Hid (∃ t : Nat × Nat × Nat, withStep hi (low, high, star, single, ver) r = t ∧ s8 = .int .i64 (t.2.2 : Int) ∧ s11 = .int .i64 (t.2.1 : Int) ∧ s12 = .int .i64 (t.1 : Int) ∧ wx = w3))
      case first =>
        match r, Hps, hrc, hmany, HDI, HF3 with
        | [], Hps, hrc, hmany, HDI, HF3 =>
          go_wp2_with fail
          go_meet
          case rel => exact Lib.hid ⟨_, rfl, rfl, rfl, rfl, rfl⟩
        | [st], Hps, hrc, hmany, HDI, HF3 =>
          have hst : (ofL st).size ≤ 65536 := by rw [size_ofL]; have := pieces_sum 47 s.data.toList st (by rw [Hps.out]; simp); rw [length_toList] at this; omega
          have hc1 := HF3.out.2.2.2 1 _ rfl
          have HST := Lib.hid (fun w => step_any (ofL st) w hst)
          have hsl := specStep_le st
          have hv2 := hsl.2.1
          obtain ⟨q, Hq⟩ : ∃ q, Hid (specStep st = q) := ⟨_, Lib.hid rfl⟩
          rw [Hq.out] at hv2
          obtain ⟨qn, qv⟩ := q
          simp only at hv2
          clear hsl
          cases single with
          | true =>
            cases star with
            | true =>
              have HW : Hid (withStep hi (low, high, true, true, ver) [st] = (qn, worseN ver qv, high)) := Lib.hid (by rw [withStep_one, Hq.out]; rfl)
              go_wp2_with (first
                | (go_at_call 154; refine (HST.out _).mono ?_; rw [toList_ofL, Hq.out]; rintro e w5 ⟨rfl, rfl⟩)
                | (go_at_call 46; refine (worse_any _ _ _ hle3 hv2).mono ?_; rintro e w5 ⟨rfl, rfl⟩))
              go_meet
              case rel => exact Lib.hid ⟨_, HW.out, rfl, rfl, rfl, rfl⟩
            | false =>
              have HW : Hid (withStep hi (low, high, false, true, ver) [st] = (qn, worseN ver qv, hi)) := Lib.hid (by rw [withStep_one, Hq.out]; rfl)
              go_wp2_with (first
                | (go_at_call 154; refine (HST.out _).mono ?_; rw [toList_ofL, Hq.out]; rintro e w5 ⟨rfl, rfl⟩)
                | (go_at_call 46; refine (worse_any _ _ _ hle3 hv2).mono ?_; rintro e w5 ⟨rfl, rfl⟩))
              go_meet
              case rel => exact Lib.hid ⟨_, HW.out, rfl, rfl, rfl, rfl⟩
          | false =>
            have HW : Hid (withStep hi (low, high, star, false, ver) [st] = (qn, worseN ver qv, high)) := Lib.hid (by rw [withStep_one, Hq.out]; rfl)
            go_wp2_with (first
              | (go_at_call 154; refine (HST.out _).mono ?_; rw [toList_ofL, Hq.out]; rintro e w5 ⟨rfl, rfl⟩)
              | (go_at_call 46; refine (worse_any _ _ _ hle3 hv2).mono ?_; rintro e w5 ⟨rfl, rfl⟩))
            go_meet
            case rel => exact Lib.hid ⟨_, HW.out, rfl, rfl, rfl, rfl⟩
        | st :: st2 :: r, Hps, hrc, hmany, HDI, HF3 => exact absurd (by simp) hmany
      case rest =>
        obtain ⟨⟨step, ver2, high2⟩, HW, rfl, rfl, rfl, rfl⟩ := hcut
        obtain ⟨w3, rfl⟩ : ∃ w3, w3 = wc := ⟨_, rfl⟩
        have hw := withStep_le (e := (low, high, star, single, ver)) (r := r) hhi (by unfold huge; exact hle2) hle3
        rw [HW] at hw
        unfold huge at hw
        simp only at hw
        obtain ⟨hw1, hw2, hw3, hw4⟩ := hw
        have HD4 : Hid (specItem lo hi days sval s.data.toList = itemOf lo hi (low, high, star, single, ver) (step, ver2, high2)) := Lib.hid (by rw [HDI.out, HW])
        have HSET := Lib.hid HF3.out.1
        have HBW := Lib.hid HF3.out.2.1
        clear HDI HW HF3
        by_cases hver : ver2 = 1
        · subst hver
          have hstep := hw4 rfl
          by_cases hbad : low < lo ∨ hi < high2 ∨ high2 < low
          · have HR : Hid (specItem lo hi days sval s.data.toList = (empty, 0)) := Lib.hid (by rw [HD4.out]; unfold itemOf; rw [if_neg (by simp), if_pos hbad])
            clear hw4
            by_cases c1 : low < lo
            · go_wp2_with (first
                | (with_reducible refine wpList_build_set rfl rfl ?_)
                | (with_reducible refine wpList_store_set rfl (.tmp 4) (.tmp 74) rfl (w.heap.size + 1) false false (fun _ => false) (fun _ => false) rfl rfl (by exact HSET.out) ?_))
              refine bodyPost_ret (results_set_tmp rfl _ _ (w.heap.size + 1) false (fun _ => false) rfl (setRow_at HSET.out)) rfl ?_
              exact ⟨by rw [HR.out]; rfl, below_setRow HBW.out (by omega) _⟩
            by_cases c2 : hi < high2
            · go_wp2_with (first
                | (with_reducible refine wpList_build_set rfl rfl ?_)
                | (with_reducible refine wpList_store_set rfl (.tmp 4) (.tmp 74) rfl (w.heap.size + 1) false false (fun _ => false) (fun _ => false) rfl rfl (by exact HSET.out) ?_))
              refine bodyPost_ret (results_set_tmp rfl _ _ (w.heap.size + 1) false (fun _ => false) rfl (setRow_at HSET.out)) rfl ?_
              exact ⟨by rw [HR.out]; rfl, below_setRow HBW.out (by omega) _⟩
            · have c3 : high2 < low := by omega
              clear hbad
              go_wp2_with (first
                | (with_reducible refine wpList_build_set rfl rfl ?_)
                | (with_reducible refine wpList_store_set rfl (.tmp 4) (.tmp 74) rfl (w.heap.size + 1) false false (fun _ => false) (fun _ => false) rfl rfl (by exact HSET.out) ?_))
              refine bodyPost_ret (results_set_tmp rfl _ _ (w.heap.size + 1) false (fun _ => false) rfl (setRow_at HSET.out)) rfl ?_
              exact ⟨by rw [HR.out]; rfl, below_setRow HBW.out (by omega) _⟩
          · have HR : Hid (specItem lo hi days sval s.data.toList = ((star && decide (step = 1), members low high2 step), 1)) := Lib.hid (by rw [HD4.out]; unfold itemOf; rw [if_neg (by simp), if_neg hbad])
            have b1 : ¬ low < lo := fun h => hbad (.inl h)
            have b2 : ¬ hi < high2 := fun h => hbad (.inr (.inl h))
            have b3 : ¬ high2 < low := fun h => hbad (.inr (.inr h))
            clear hbad hw4
            go_wp2_with (with_reducible refine wpList_alloc_set rfl rfl ?_)
            obtain ⟨B3, hB3⟩ : ∃ B3 : Nat, w3.heap.size = B3 := ⟨_, rfl⟩
            have hs1 : Hid (SetAt (w3.alloc (.cells (setArr false fun _ => false) 55)) B3 false (upTo low step low)) := Lib.hid (by rw [← hB3, ← upTo_start]; exact SetAt.new w3 _ _)
            have hs2 : Hid (SetAt (w3.alloc (.cells (setArr false fun _ => false) 55)) (w.heap.size + 1) false (fun _ => false)) := Lib.hid ((Below.heap_alloc w3 _ _ HSET.out.lt).trans HSET.out)
            have hs3 : Hid (Below w.heap.size w (w3.alloc (.cells (setArr false fun _ => false) 55))) := Lib.hid (HBW.out.alloc HBW.out.size _)
            have hltB : w.heap.size + 1 < B3 := by rw [← hB3]; exact HSET.out.lt
            have HB3 := Lib.hid hB3
            rw [hB3]
            clear hB3
            go_loopw [16] (fun v wr => ∃ k : Nat, v = .int .i64 (k : Int) ∧ low ≤ k ∧ k ≤ high2 + 1 ∧ Hid (SetAt wr B3 false (upTo low step k)) ∧ Hid (SetAt wr (w.heap.size + 1) false (fun _ => false)) ∧ Hid (Below w.heap.size w wr)) (fun v _ => high2 + 1 - (intOf v).toNat)
            case atStart => exact ⟨low, rfl, Nat.le_refl _, by omega, hs1, hs2, hs3⟩
            case round =>
              clear hs1 hs2 hs3
              obtain ⟨k, rfl, hk1, hk2, hs1, hs2, hs3⟩ := hrel
              by_cases hlt : k ≤ high2
              · have hkc := hs1.out.cell k (by omega)
                have hkf := hs1.out.free (1 + k)
                have hdec : ((k : Int) - (low : Int)) % (step : Int) = (((k - low) % step : Nat) : Int) := by
                  rw [Int.natCast_emod, Int.natCast_sub hk1]
                have hdec2 : ((((k : Int) - (low : Int)) % (step : Int)) == 0) = decide ((k - low) % step = 0) := by
                  rw [hdec, Bool.eq_iff_iff, beq_iff_eq, decide_eq_true_eq]; omega
                have HN1 : Hid (∀ x, x = decide ((k - low) % step = 0) → SetAt (wr.setCell ⟨B3, 1 + k, none⟩ (.bool x)) B3 false (upTo low step (k + 1))) := Lib.hid (by
                  rintro x rfl
                  rw [← upTo_next low step k hk1]
                  exact hs1.out.put k (by omega) _)
                have HN2 : Hid (∀ x, SetAt (wr.setCell ⟨B3, 1 + k, none⟩ (.bool x)) (w.heap.size + 1) false (fun _ => false)) := Lib.hid (fun x => hs2.out.other _ _ (by show w.heap.size + 1 ≠ B3; omega))
                have HN3 : Hid (∀ x, Below w.heap.size w (wr.setCell ⟨B3, 1 + k, none⟩ (.bool x))) := Lib.hid (fun x => hs3.out.setCell (by show w.heap.size ≤ B3; omega) _)
                clear hdec
                go_wp2
                go_roundw
                case rel => exact ⟨k + 1, by go_num, by omega, by omega, Lib.hid (HN1.out _ rfl), Lib.hid (HN2.out _), Lib.hid (HN3.out _)⟩
                case measure => simp [intOf]; omega
              · have hke : k = high2 + 1 := by omega
                have HEND : Hid (SetAt wr B3 false (members low high2 step)) := Lib.hid (by rw [← upTo_end, ← hke]; exact hs1.out)
                have hcs := HEND.out.star
                have hcf := HEND.out.free 0
                have HFIN : Hid (∀ x, SetAt (wr.setCell ⟨B3, 0, none⟩ (.bool x)) B3 x (members low high2 step) ∧ SetAt (wr.setCell ⟨B3, 0, none⟩ (.bool x)) (w.heap.size + 1) false (fun _ => false) ∧ Below w.heap.size w (wr.setCell ⟨B3, 0, none⟩ (.bool x))) :=
                  Lib.hid (fun x => ⟨HEND.out.putStar x, hs2.out.other _ _ (by show w.heap.size + 1 ≠ B3; omega), hs3.out.setCell (by show w.heap.size ≤ B3; omega) _⟩)
                clear hke hs1 hs2 hs3
                cases star with
                | false =>
                  have HR2 : Hid (specItem lo hi days sval s.data.toList = ((false, members low high2 step), 1)) := Lib.hid (by rw [HR.out]; rfl)
                  go_wp2_with (first
                    | (with_reducible refine wpList_load_set rfl (.tmp 15) rfl B3 false (members low high2 step) rfl (by exact (HFIN.out false).1) ?_)
                    | (with_reducible refine wpList_store_set rfl (.tmp 4) (.tmp 96) rfl (w.heap.size + 1) false false (fun _ => false) (members low high2 step) rfl rfl (by exact (HFIN.out false).2.1) ?_))
                  refine bodyPost_ret (results_set_tmp rfl _ _ (w.heap.size + 1) false (members low high2 step) rfl (setRow_at (HFIN.out false).2.1)) rfl ?_
                  exact ⟨by rw [HR2.out]; rfl, below_setRow (HFIN.out false).2.2 (by omega) _⟩
                | true =>
                  by_cases h1 : step = 1
                  · have h1' : ((step : Int) == 1) = true := by rw [h1]; rfl
                    have HR2 : Hid (specItem lo hi days sval s.data.toList = ((true, members low high2 step), 1)) := Lib.hid (by rw [HR.out, decide_eq_true h1]; rfl)
                    clear h1
                    go_wp2_with (first
                      | (with_reducible refine wpList_load_set rfl (.tmp 15) rfl B3 true (members low high2 step) rfl (by exact (HFIN.out true).1) ?_)
                      | (with_reducible refine wpList_store_set rfl (.tmp 4) (.tmp 96) rfl (w.heap.size + 1) false true (fun _ => false) (members low high2 step) rfl rfl (by exact (HFIN.out true).2.1) ?_))
                    refine bodyPost_ret (results_set_tmp rfl _ _ (w.heap.size + 1) true (members low high2 step) rfl (setRow_at (HFIN.out true).2.1)) rfl ?_
                    exact ⟨by rw [HR2.out]; rfl, below_setRow (HFIN.out true).2.2 (by omega) _⟩
                  · have h1' : ((step : Int) == 1) = false := beq_eq_false_iff_ne.2 (by omega)
                    have HR2 : Hid (specItem lo hi days sval s.data.toList = ((false, members low high2 step), 1)) := Lib.hid (by rw [HR.out, decide_eq_false h1]; rfl)
                    clear h1
                    go_wp2_with (first
                      | (with_reducible refine wpList_load_set rfl (.tmp 15) rfl B3 false (members low high2 step) rfl (by exact (HFIN.out false).1) ?_)
                      | (with_reducible refine wpList_store_set rfl (.tmp 4) (.tmp 96) rfl (w.heap.size + 1) false false (fun _ => false) (members low high2 step) rfl rfl (by exact (HFIN.out false).2.1) ?_))
                    refine bodyPost_ret (results_set_tmp rfl _ _ (w.heap.size + 1) false (members low high2 step) rfl (setRow_at (HFIN.out false).2.1)) rfl ?_
                    exact ⟨by rw [HR2.out]; rfl, below_setRow (HFIN.out false).2.2 (by omega) _⟩
        · have HR : Hid (specItem lo hi days sval s.data.toList = (empty, ver2)) := Lib.hid (by rw [HD4.out]; unfold itemOf; rw [if_pos hver])
          have hvn : ((ver2 : Int) != 1) = true := by rw [bne_iff_ne]; omega
          clear hw4 hver
          go_wp2_with (first
            | (with_reducible refine wpList_build_set rfl rfl ?_)
            | (with_reducible refine wpList_store_set rfl (.tmp 4) (.tmp 57) rfl (w.heap.size + 1) false false (fun _ => false) (fun _ => false) rfl rfl (by exact HSET.out) ?_))
          refine bodyPost_ret (results_set_tmp rfl _ _ (w.heap.size + 1) false (fun _ => false) rfl (setRow_at HSET.out)) rfl ?_
          exact ⟨by rw [HR.out]; rfl, below_setRow HBW.out (by omega) _⟩
end Go.Proofs.YtmnjmhlodbifjaaGreatDoor.SpecItem
namespace Go.Proofs.YtmnjmhlodbifjaaGreatDoor.Union
open Go Go.RowKit Go.Proofs.YtmnjmhlodbifjaaGreatDoor.Set Go.Proofs.YtmnjmhlodbifjaaGreatDoor.Bits Go.Proofs.YtmnjmhlodbifjaaGreatDoor.Range Go.Proofs.YtmnjmhlodbifjaaGreatDoor.SpecItem
def inArr (f : Nat → Bool) : List Value := (List.range 63).map fun i => Value.bool (f i)
theorem inArr_length (f : Nat → Bool) : (inArr f).length = 63 := by unfold inArr; rw [List.length_map, List.length_range]
theorem inArr_get (f : Nat → Bool) (k : Nat) (h : k < 63) : (inArr f)[k]? = some (.bool (f k)) := by
  unfold inArr; rw [List.getElem?_map, List.getElem?_range h]; rfl
theorem SetAt.range {w : World} {b : Nat} {star : Bool} {f : Nat → Bool} (h : SetAt w b star f) : w.rangeAt b 1 (inArr f) := by
  intro j v hj
  have hlt : j < 63 := by have := (List.getElem?_eq_some_iff.1 hj).1; rwa [inArr_length] at this
  rw [inArr_get f j hlt] at hj
  cases hj
  exact h.cell j (by omega)
theorem sizeIn : (Tryz.prog.info? 53).map (·.size) = some 63 := by kernel_rfl
theorem sizeBool : (Tryz.prog.info? 4).map (·.size) = some 1 := by kernel_rfl
theorem run_index_in (w : World) (f : Nat → Bool) (k : Nat) (h : k < 63) : (Instr.index 53 (.agg (inArr f).toArray) (.int .i64 (k : Int))).run Tryz.prog w = .ok (.bool (f k)) w := by
  obtain ⟨i, hi, hs⟩ : ∃ i, Tryz.prog.info? 4 = some i ∧ i.size = 1 := by
    have h1 := sizeBool
    cases hq : Tryz.prog.info? 4 with
    | none => rw [hq] at h1; cases h1
    | some i => rw [hq] at h1; exact ⟨i, rfl, by simpa using h1⟩
  have hg := inArr_get f k h
  have hk : (0 : Int) ≤ (k : Int) ∧ (k : Int) < 63 := by omega
  simp [Instr.index, Sem.run_bind, asIntOf, run_underlying Tryz.underlying53, run_underlying Tryz.underlying4, part, isAgg, sizeOf, typeInfo, hi, hs, hg, h]
section
variable {ops : Array Oper} {rest : List Oper} {o : Oper} {a : Act} {w : World} {Q : Exit → Act → World → Prop}
theorem wpList_load_in (hg : o.guard = none) (x : Operand) (ho : o.op = .load 53 x) (b : Nat) (star : Bool) (f : Nat → Bool)
    (hx : a.eval x = .pointer (some ⟨b, 1, none⟩)) (hb : SetAt w b star f)
    (h : wpList Tryz.prog ops Q rest (a.put o.dst (.agg (inArr f).toArray)) w) : wpList Tryz.prog ops Q (o :: rest) a w :=
  wpList_load_mid hg 53 x ho b 1 hx (inArr f) _ (SetAt.range hb) Tryz.underlying53 rfl (by rw [inArr_length]; exact sizeIn) h
theorem wpList_index_in (hg : o.guard = none) (x y : Operand) (ho : o.op = .index 53 x y) (f : Nat → Bool) (k : Nat)
    (hx : a.eval x = .agg (inArr f).toArray) (hy : a.eval y = .int .i64 (k : Int)) (hk : k < 63)
    (h : wpList Tryz.prog ops Q rest (a.put o.dst (.bool (f k))) w) : wpList Tryz.prog ops Q (o :: rest) a w := by
  refine wpList_plain hg fun K hK => ?_
  unfold Oper.wp execOp
  simp only [ho, hx, hy, Sem.run_bind, run_index_in w f k hk, Result.andThen_ok, Sem.run_pure]
  exact hK _ _ h
end
theorem three (w : World) (sa sb : Bool) (fa fb : Nat → Bool) :
    SetAt (((w.alloc (.cells (setArr sa fa) 55)).alloc (.cells (setArr sb fb) 55)).alloc (.cells (setArr false fun _ => false) 55)) w.heap.size sa fa ∧
    SetAt (((w.alloc (.cells (setArr sa fa) 55)).alloc (.cells (setArr sb fb) 55)).alloc (.cells (setArr false fun _ => false) 55)) (w.heap.size + 1) sb fb ∧
    SetAt (((w.alloc (.cells (setArr sa fa) 55)).alloc (.cells (setArr sb fb) 55)).alloc (.cells (setArr false fun _ => false) 55)) (w.heap.size + 1 + 1) false (fun _ => false) ∧
    Below w.heap.size w (((w.alloc (.cells (setArr sa fa) 55)).alloc (.cells (setArr sb fb) 55)).alloc (.cells (setArr false fun _ => false) 55)) := by
  have h1 := SetAt.new w sa fa
  have b1 : Below w.heap.size w (w.alloc (.cells (setArr sa fa) 55)) := (Below.refl _ _).alloc (Nat.le_refl _) _
  have s1 : (w.alloc (.cells (setArr sa fa) 55)).heap.size = w.heap.size + 1 := by simp
  generalize w.alloc (.cells (setArr sa fa) 55) = w1 at h1 b1 s1 ⊢
  have h2 := SetAt.new w1 sb fb
  have b2 : Below w1.heap.size w1 (w1.alloc (.cells (setArr sb fb) 55)) := (Below.refl _ _).alloc (Nat.le_refl _) _
  have s2 : (w1.alloc (.cells (setArr sb fb) 55)).heap.size = w1.heap.size + 1 := by simp
  generalize w1.alloc (.cells (setArr sb fb) 55) = w2 at h2 b2 s2 ⊢
  have h3 := SetAt.new w2 false (fun _ => false)
  have b3 : Below w2.heap.size w2 (w2.alloc (.cells (setArr false fun _ => false) 55)) := (Below.refl _ _).alloc (Nat.le_refl _) _
  generalize w2.alloc (.cells (setArr false fun _ => false) 55) = w3 at h3 b3 ⊢
  refine ⟨(h1.below b2 (by omega)).below b3 (by omega), ?_, ?_, b1.trans ((b2.mono (by omega)).trans (b3.mono (by omega)))⟩
  · rw [← s1]; exact h2.below b3 (by omega)
  · rw [← s1, ← s2]; exact h3
def mix (fa fb : Nat → Bool) (k : Nat) (i : Nat) : Bool := fa i || (decide (i < k) && fb i)
theorem mix_zero (fa fb : Nat → Bool) : mix fa fb 0 = fa := by funext i; simp [mix]
theorem mix_at (fa fb : Nat → Bool) (k : Nat) : mix fa fb k k = fa k := by simp [mix]
theorem mix_next (fa fb : Nat → Bool) (k : Nat) : upd (mix fa fb k) k (fa k || fb k) = mix fa fb (k + 1) := by
  funext i
  unfold upd mix
  by_cases h : i = k
  · subst h; simp
  · rw [if_neg h]
    have : decide (i < k) = decide (i < k + 1) := by rw [decide_eq_decide]; omega
    rw [this]
theorem mix_end (star : Bool) (fa fb : Nat → Bool) : setArr star (mix fa fb 63) = setArr star fun i => fa i || fb i := by
  refine setArr_congr fun i hi => ?_
  unfold mix
  rw [decide_eq_true (by omega), Bool.true_and]
def union (a b : CSet) : CSet := (a.1 || b.1, fun i => a.2 i || b.2 i)
set_option maxHeartbeats 2000000 in
set_option maxRecDepth 100000 in
theorem union_any (sa sb : Bool) (fa fb : Nat → Bool) (w : World) :
    Calls Tryz.prog 142 #[.agg (setArr sa fa), .agg (setArr sb fb)] w fun e w' => e = .returned (.agg (setArr (sa || sb) fun i => fa i || fb i)) ∧ Below w.heap.size w w' := by
  have HT := Lib.hid (three w sa sb fa fb)
  go_enter Tryz.func142, Tryz.ntmps142
  go_wp2_with (first
    | (with_reducible refine wpList_box_set rfl (.tmp 0) rfl sa fa rfl ?_)
    | (with_reducible refine wpList_box_set rfl (.tmp 1) rfl sb fb rfl ?_)
    | (with_reducible refine wpList_alloc_set rfl rfl ?_)
    | (with_reducible refine wpList_load_in rfl (.tmp 7) rfl (w.heap.size + 1) sb fb rfl (by exact HT.out.2.1) ?_))
  go_loopw [5, 6, 9] (fun _ _ v wr => ∃ k : Nat, v = .int .i64 (k : Int) ∧ k ≤ 63 ∧ Hid (SetAt wr w.heap.size sa (mix fa fb k)) ∧ Hid (SetAt wr (w.heap.size + 1) sb fb) ∧ Hid (SetAt wr (w.heap.size + 1 + 1) false (fun _ => false)) ∧ Hid (Below w.heap.size w wr)) (fun _ _ v _ => 63 - (intOf v).toNat)
  case atStart => exact ⟨0, rfl, Nat.zero_le _, Lib.hid (by rw [mix_zero]; exact HT.out.1), Lib.hid HT.out.2.1, Lib.hid HT.out.2.2.1, Lib.hid HT.out.2.2.2⟩
  case round =>
    obtain ⟨k, rfl, hk, hs1, hs2, hs3, hs4⟩ := hrel
    clear HT
    by_cases hlt : k < 63
    · have hkc := hs1.out.cell k (by omega)
      rw [mix_at] at hkc
      have hkf := hs1.out.free (1 + k)
      have HN1 : Hid (∀ x, x = (fa k || fb k) → SetAt (wr.setCell ⟨w.heap.size, 1 + k, none⟩ (.bool x)) w.heap.size sa (mix fa fb (k + 1))) := Lib.hid (by
        rintro x rfl
        rw [← mix_next fa fb k]
        exact hs1.out.put k (by omega) _)
      have HN2 : Hid (∀ x, SetAt (wr.setCell ⟨w.heap.size, 1 + k, none⟩ (.bool x)) (w.heap.size + 1) sb fb ∧ SetAt (wr.setCell ⟨w.heap.size, 1 + k, none⟩ (.bool x)) (w.heap.size + 1 + 1) false (fun _ => false) ∧ Below w.heap.size w (wr.setCell ⟨w.heap.size, 1 + k, none⟩ (.bool x))) :=
        Lib.hid (fun x => ⟨hs2.out.other _ _ (by show w.heap.size + 1 ≠ w.heap.size; omega), hs3.out.other _ _ (by show w.heap.size + 1 + 1 ≠ w.heap.size; omega), hs4.out.setCell (Nat.le_refl _) _⟩)
      cases ha : fa k with
      | true =>
        rw [ha] at hkc HN1
        clear ha
        go_wp2_with (with_reducible refine wpList_index_in rfl (.tmp 8) (.tmp 9) rfl fb k rfl rfl (by omega) ?_)
        go_roundw
        case rel => exact ⟨k + 1, by go_num, by omega, Lib.hid (HN1.out _ rfl), Lib.hid (HN2.out _).1, Lib.hid (HN2.out _).2.1, Lib.hid (HN2.out _).2.2⟩
        case measure => simp [intOf]; omega
      | false =>
        rw [ha] at hkc HN1
        clear ha
        go_wp2_with (with_reducible refine wpList_index_in rfl (.tmp 8) (.tmp 9) rfl fb k rfl rfl (by omega) ?_)
        go_roundw
        case rel => exact ⟨k + 1, by go_num, by omega, Lib.hid (HN1.out _ rfl), Lib.hid (HN2.out _).1, Lib.hid (HN2.out _).2.1, Lib.hid (HN2.out _).2.2⟩
        case measure => simp [intOf]; omega
    · have hke : k = 63 := by omega
      subst hke
      have HEND : Hid (SetAt wr w.heap.size sa (fun i => fa i || fb i)) := Lib.hid (by have := hs1.out; unfold SetAt at this ⊢; rw [mix_end] at this; exact this)
      have hcs := HEND.out.star
      have hcf := HEND.out.free 0
      have hcb := hs2.out.star
      have HFIN : Hid (∀ x, SetAt (wr.setCell ⟨w.heap.size, 0, none⟩ (.bool x)) w.heap.size x (fun i => fa i || fb i) ∧ SetAt (wr.setCell ⟨w.heap.size, 0, none⟩ (.bool x)) (w.heap.size + 1 + 1) false (fun _ => false) ∧ Below w.heap.size w (wr.setCell ⟨w.heap.size, 0, none⟩ (.bool x))) :=
        Lib.hid (fun x => ⟨HEND.out.putStar x, hs3.out.other _ _ (by show w.heap.size + 1 + 1 ≠ w.heap.size; omega), hs4.out.setCell (Nat.le_refl _) _⟩)
      clear hs1 hs2 hs3
      cases sa with
      | true =>
        go_wp2_with (first
          | (with_reducible refine wpList_load_set rfl (.tmp 2) rfl w.heap.size true (fun i => fa i || fb i) rfl (by exact (HFIN.out true).1) ?_)
          | (with_reducible refine wpList_store_set rfl (.tmp 4) (.tmp 31) rfl (w.heap.size + 1 + 1) false true (fun _ => false) (fun i => fa i || fb i) rfl rfl (by exact (HFIN.out true).2.1) ?_))
        refine bodyPost_ret (results_set rfl _ _ (w.heap.size + 1 + 1) true (fun i => fa i || fb i) rfl (setRow_at (HFIN.out true).2.1)) rfl ?_
        exact ⟨rfl, below_setRow (HFIN.out true).2.2 (by omega) _⟩
      | false =>
        go_wp2_with (first
          | (with_reducible refine wpList_load_set rfl (.tmp 2) rfl w.heap.size sb (fun i => fa i || fb i) rfl (by exact (HFIN.out sb).1) ?_)
          | (with_reducible refine wpList_store_set rfl (.tmp 4) (.tmp 31) rfl (w.heap.size + 1 + 1) false sb (fun _ => false) (fun i => fa i || fb i) rfl rfl (by exact (HFIN.out sb).2.1) ?_))
        refine bodyPost_ret (results_set rfl _ _ (w.heap.size + 1 + 1) sb (fun i => fa i || fb i) rfl (setRow_at (HFIN.out sb).2.1)) rfl ?_
        exact ⟨rfl, below_setRow (HFIN.out sb).2.2 (by omega) _⟩
end Go.Proofs.YtmnjmhlodbifjaaGreatDoor.Union
namespace Go.Proofs.YtmnjmhlodbifjaaGreatDoor.SpecBits
open Go Go.RowKit Go.Proofs.YtmnjmhlodbifjaaGreatDoor.Set Go.Proofs.YtmnjmhlodbifjaaGreatDoor.Bits Go.Proofs.YtmnjmhlodbifjaaGreatDoor.Range Go.Proofs.YtmnjmhlodbifjaaGreatDoor.SpecItem Go.Proofs.YtmnjmhlodbifjaaGreatDoor.Union
set_option linter.unusedVariables false
def numOf (star : Bool) (f : Nat → Bool) : Int := bset fun i => (decide (i < 63) && f i) || (star && decide (i = 63))
theorem numOf_marked (star : Bool) (f : Nat → Bool) (h : f 63 = false) : numOf star f = marked f star := by
  unfold numOf marked
  refine bset_congr fun i hi => ?_
  by_cases h2 : i = 63
  · subst h2; simp [h]
  · rw [decide_eq_true (by omega), Bool.true_and]
def low (f : Nat → Bool) (k : Nat) (i : Nat) : Bool := decide (i < k) && f i
end Go.Proofs.YtmnjmhlodbifjaaGreatDoor.SpecBits
