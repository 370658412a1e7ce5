/- The reference's CronItem. Conditions: bounds within 0 to 62, texts of at most 65536 bytes. · The reference's CronUnion and CronBits: over the 63 cells of a set. Conditions: none. · The reference's CronBits. Conditions: none. · The plain law of items: what the code reads as an item is what the reference reads. Conditions: bounds within 0 to 62. · The reference's CronField: a list of items. Conditions: bounds within 0 to 62, texts of at most 65536 bytes. · The plain law of lists: what the code reads as a field is what the reference reads. Conditions: bounds within 0 to 62. · Names of months and days: the code's reading beside the reference's, in plain Lean. Conditions: none. · The reference's CronFields as 384 cells: laws for its making, storing and loading. Conditions: none. · The reference's CronSix. Conditions: six texts of at most 65536 bytes each. -/
import Derived.Test.YtmnjmhlodbifjaaGreatDoorR12
import Derived.Test.YtmnjmhlodbifjaaGreatDoorR11
import Derived.Laws.CopyOwn
import Derived.Deep.DeepCutAuto
import Derived.Test.YtmnjmhlodbifjaaGreatDoorR5
import Derived.Test.YtmnjmhlodbifjaaGreatDoorR8
import Derived.Deep.MidRow
import Derived.BigFrame
import Derived.Test.YtmnjmhlodbifjaaGreatDoorR9
import Derived.Deep.QuietTactic
import Derived.BigQuiet
import Derived.Test.YtmnjmhlodbifjaaGreatDoorR2
import Derived.Below
import Derived.Test.YtmnjmhlodbifjaaGreatDoorR4
import Derived.Deep.RegionHeld3
import Derived.Deep.DrawnRows

namespace Go.Proofs.YtmnjmhlodbifjaaGreatDoor.SpecItem
open Go.RowKit Go.Proofs.YtmnjmhlodbifjaaGreatDoor.Mem Go.Proofs.YtmnjmhlodbifjaaGreatDoor.NumPure Go.Proofs.YtmnjmhlodbifjaaGreatDoor.SpecNum Go.Proofs.YtmnjmhlodbifjaaGreatDoor.Split Go.Proofs.YtmnjmhlodbifjaaGreatDoor.SplitPure Go.Proofs.YtmnjmhlodbifjaaGreatDoor.SpecPieces Go.Proofs.YtmnjmhlodbifjaaGreatDoor.SpecEnds Go.Proofs.YtmnjmhlodbifjaaGreatDoor.Set
set_option linter.unusedVariables false
abbrev CSet := Bool × (Nat → Bool)
def empty : CSet := (false, fun _ => false)
def withStep (hi : Nat) (e : Nat × Nat × Bool × Bool × Nat) (r : List (List UInt8)) : Nat × Nat × Nat :=
  match r with
  | [st] => ((specStep st).1, worseN e.2.2.2.2 (specStep st).2, if e.2.2.2.1 && !e.2.2.1 then hi else e.2.1)
  | _ => (1, e.2.2.2.2, e.2.1)
theorem withStep_one (hi : Nat) (e : Nat × Nat × Bool × Bool × Nat) (st : List UInt8) : withStep hi e [st] = ((specStep st).1, worseN e.2.2.2.2 (specStep st).2, if e.2.2.2.1 && !e.2.2.1 then hi else e.2.1) := rfl
def members (low high step : Nat) (v : Nat) : Bool := decide (low ≤ v) && decide (v ≤ high) && decide ((v - low) % step = 0)
def itemOf (lo hi : Nat) (e : Nat × Nat × Bool × Bool × Nat) (t : Nat × Nat × Nat) : CSet × Nat :=
  if t.2.1 ≠ 1 then (empty, t.2.1)
  else if e.1 < lo ∨ hi < t.2.2 ∨ t.2.2 < e.1 then (empty, 0)
  else ((e.2.2.1 && decide (t.1 = 1), members e.1 t.2.2 t.1), 1)
def specItem (lo hi : Nat) (days : Bool) (sval : List UInt8 → Nat × Nat) (l : List UInt8) : CSet × Nat :=
  match pieces 47 l with
  | [] => (empty, 0)
  | a :: r => if 2 ≤ r.length then (empty, 0) else itemOf lo hi (specEnds lo hi days sval (pieces 45 a)) (withStep hi (specEnds lo hi days sval (pieces 45 a)) r)
theorem specItem_of {lo hi : Nat} {days : Bool} {sval : List UInt8 → Nat × Nat} {l a : List UInt8} {r : List (List UInt8)} (h : pieces 47 l = a :: r) :
    specItem lo hi days sval l = if 2 ≤ r.length then (empty, 0) else itemOf lo hi (specEnds lo hi days sval (pieces 45 a)) (withStep hi (specEnds lo hi days sval (pieces 45 a)) r) := by
  unfold specItem; rw [h]
theorem specStep_le (l : List UInt8) : (specStep l).1 ≤ huge ∧ (specStep l).2 ≤ 2 ∧ ((specStep l).2 = 1 → 1 ≤ (specStep l).1 ∧ (specStep l).1 < huge) := by
  have h1 := verdict_le l
  have h2 := number_le l
  unfold specStep
  by_cases h : (specNumber l).2 = 0 ∨ (specNumber l).1 = 0
  · rw [if_pos h]; simp
  · rw [if_neg h]
    by_cases h3 : (specNumber l).1 = huge
    · rw [if_pos h3]; simp
    · rw [if_neg h3]; exact ⟨h2, h1, fun _ => by omega⟩
end Go.Proofs.YtmnjmhlodbifjaaGreatDoor.SpecItem
namespace Go.Proofs.YtmnjmhlodbifjaaGreatDoor.Union
open Go Go.RowKit Go.Proofs.YtmnjmhlodbifjaaGreatDoor.Set Go.Proofs.YtmnjmhlodbifjaaGreatDoor.Bits Go.Proofs.YtmnjmhlodbifjaaGreatDoor.Range Go.Proofs.YtmnjmhlodbifjaaGreatDoor.SpecItem
def inArr (f : Nat → Bool) : List Value := (List.range 63).map fun i => Value.bool (f i)
theorem inArr_length (f : Nat → Bool) : (inArr f).length = 63 := by unfold inArr; rw [List.length_map, List.length_range]
theorem inArr_get (f : Nat → Bool) (k : Nat) (h : k < 63) : (inArr f)[k]? = some (.bool (f k)) := by
  unfold inArr; rw [List.getElem?_map, List.getElem?_range h]; rfl
theorem SetAt.range {w : World} {b : Nat} {star : Bool} {f : Nat → Bool} (h : SetAt w b star f) : w.rangeAt b 1 (inArr f) := by
  intro j v hj
  have hlt : j < 63 := by have := (List.getElem?_eq_some_iff.1 hj).1; rwa [inArr_length] at this
  rw [inArr_get f j hlt] at hj
  cases hj
  exact h.cell j (by omega)
section
variable {ops : Array Oper} {rest : List Oper} {o : Oper} {a : Act} {w : World} {Q : Exit → Act → World → Prop}
end
def union (a b : CSet) : CSet := (a.1 || b.1, fun i => a.2 i || b.2 i)
end Go.Proofs.YtmnjmhlodbifjaaGreatDoor.Union
namespace Go.Proofs.YtmnjmhlodbifjaaGreatDoor.SpecBits
open Go Go.RowKit Go.Proofs.YtmnjmhlodbifjaaGreatDoor.Set Go.Proofs.YtmnjmhlodbifjaaGreatDoor.Bits Go.Proofs.YtmnjmhlodbifjaaGreatDoor.Range Go.Proofs.YtmnjmhlodbifjaaGreatDoor.SpecItem Go.Proofs.YtmnjmhlodbifjaaGreatDoor.Union
set_option linter.unusedVariables false
def numOf (star : Bool) (f : Nat → Bool) : Int := bset fun i => (decide (i < 63) && f i) || (star && decide (i = 63))
theorem numOf_marked (star : Bool) (f : Nat → Bool) (h : f 63 = false) : numOf star f = marked f star := by
  unfold numOf marked
  refine bset_congr fun i hi => ?_
  by_cases h2 : i = 63
  · subst h2; simp [h]
  · rw [decide_eq_true (by omega), Bool.true_and]
def low (f : Nat → Bool) (k : Nat) (i : Nat) : Bool := decide (i < k) && f i
end Go.Proofs.YtmnjmhlodbifjaaGreatDoor.SpecBits
namespace Go.Proofs.YtmnjmhlodbifjaaGreatDoor.ItemPure
open Go.RowKit Go.Proofs.YtmnjmhlodbifjaaGreatDoor.NumPure Go.Proofs.YtmnjmhlodbifjaaGreatDoor.SplitPure Go.Proofs.YtmnjmhlodbifjaaGreatDoor.Bits Go.Proofs.YtmnjmhlodbifjaaGreatDoor.GetBits Go.Proofs.YtmnjmhlodbifjaaGreatDoor.Range Go.Proofs.YtmnjmhlodbifjaaGreatDoor.SpecEnds Go.Proofs.YtmnjmhlodbifjaaGreatDoor.SpecItem
def NumRel (o : Option Nat) (p : Nat × Nat) : Prop :=
  (p.2 = 0 → o = none) ∧ (p.2 = 1 → (p.1 < huge → o = some p.1) ∧ (p.1 = huge → ∀ u, o = some u → huge ≤ u) ∧ p.1 ≤ huge)
theorem number_rel (l : List UInt8) : NumRel (numberOf l) (specNumber l) := ⟨bad_none l, fine_read l⟩
theorem step_rel (l : List UInt8) : ((specStep l).2 = 0 → numberOf l = none ∨ numberOf l = some 0) ∧ ((specStep l).2 = 1 → numberOf l = some (specStep l).1 ∧ 1 ≤ (specStep l).1) := by
  have h := number_rel l
  have hle := specStep_le l
  unfold specStep at hle ⊢
  by_cases h0 : (specNumber l).2 = 0 ∨ (specNumber l).1 = 0
  · rw [if_pos h0]
    refine ⟨fun _ => ?_, fun e => by cases e⟩
    by_cases h1 : (specNumber l).2 = 0
    · exact .inl (h.1 h1)
    · rcases h0 with h0 | h0
      · exact absurd h0 h1
      · have hv := verdict_le l
        by_cases h2 : (specNumber l).2 = 1
        · right; rw [(h.2 h2).1 (by rw [h0]; unfold huge; omega), h0]
        · right; exact open_zero l (by omega) h0
  · rw [if_neg h0] at hle ⊢
    by_cases h3 : (specNumber l).1 = huge
    · rw [if_pos h3]; exact ⟨fun e => (by cases e), fun e => by cases e⟩
    · rw [if_neg h3] at hle ⊢
      refine ⟨fun e => absurd (.inl e) h0, fun e => ?_⟩
      obtain ⟨h4, h5⟩ := hle.2.2 e
      exact ⟨(h.2 e).1 h5, h4⟩
def Agree (val : List UInt8 → Option Nat) (sval : List UInt8 → Nat × Nat) : Prop := ∀ l, NumRel (val l) (sval l)
theorem members_inRange (low high step : Nat) : members low high step = inRange low high step := rfl
def ItemRel (o : Option Int) (r : CSet × Nat) : Prop := (r.2 = 0 → o = none) ∧ (r.2 = 1 → o = some (marked r.1.2 r.1.1))
theorem rel_bad {o : Option Int} {r : CSet × Nat} (h : o = none) (h1 : r.2 ≠ 1) : ItemRel o r := ⟨fun _ => h, fun e => absurd e h1⟩
theorem rel_open {o : Option Int} {r : CSet × Nat} (h : r.2 = 2) : ItemRel o r := ⟨fun e => by omega, fun e => by omega⟩
theorem finish_zero (lo hi a b : Nat) (st : Bool) : finish lo hi (a, b, st, 0) = none := by unfold finish; simp
theorem finish_bad {lo hi a b n : Nat} {st : Bool} (h : a < lo ∨ hi < b ∨ b < a) : finish lo hi (a, b, st, n) = none := by
  unfold finish; rw [if_pos]; simp only; omega
theorem finish_good {lo hi a b n : Nat} {st : Bool} (h : ¬ (a < lo ∨ hi < b ∨ b < a)) (hn : 1 ≤ n) : finish lo hi (a, b, st, n) = some (marked (inRange a b n) st) := by
  unfold finish; rw [if_neg]; simp only; omega
theorem item_ver {lo hi : Nat} {e : Nat × Nat × Bool × Bool × Nat} {n v h : Nat} (hv : v ≠ 1) : itemOf lo hi e (n, v, h) = (empty, v) := if_pos hv
theorem item_out {lo hi : Nat} {e : Nat × Nat × Bool × Bool × Nat} {n h : Nat} (hb : e.1 < lo ∨ hi < h ∨ h < e.1) : itemOf lo hi e (n, 1, h) = (empty, 0) := by
  unfold itemOf; rw [if_neg (by simp)]; exact if_pos hb
theorem item_in {lo hi : Nat} {e : Nat × Nat × Bool × Bool × Nat} {n h : Nat} (hb : ¬ (e.1 < lo ∨ hi < h ∨ h < e.1)) : itemOf lo hi e (n, 1, h) = ((e.2.2.1 && decide (n = 1), members e.1 h n), 1) := by
  unfold itemOf; rw [if_neg (by simp)]; exact if_neg hb
theorem rel_zero {o : Option Int} {c : CSet} (h : o = none) : ItemRel o (c, 0) := rel_bad h (by simp)
theorem rel_two {o : Option Int} {c : CSet} : ItemRel o (c, 2) := rel_open rfl
theorem rel_good {b : Int} {c : CSet} (h : b = marked c.2 c.1) : ItemRel (some b) (c, 1) := by subst h; exact ⟨(fun e => by cases e), fun _ => rfl⟩
theorem withStep_nil (hi : Nat) (e : Nat × Nat × Bool × Bool × Nat) : withStep hi e [] = (1, e.2.2.2.2, e.2.1) := rfl
theorem withStep_many (hi : Nat) (e : Nat × Nat × Bool × Bool × Nat) (a b : List UInt8) (r : List (List UInt8)) : withStep hi e (a :: b :: r) = (1, e.2.2.2.2, e.2.1) := rfl
theorem worse_zero_r (a : Nat) : worseN a 0 = 0 := by unfold worseN; simp
theorem worse_zero_l (a : Nat) : worseN 0 a = 0 := by unfold worseN; simp
theorem tail_rel {lo hi : Nat} (a b : Nat) (star single : Bool) (r0 : List UInt8) (r : List (List UInt8)) (hr : r.length ≤ 1) (hb : star = true → b = hi) :
    ItemRel ((stepped hi single (a, b, star) (r0 :: r)).bind (finish lo hi)) (itemOf lo hi (a, b, star, single, 1) (withStep hi (a, b, star, single, 1) r)) := by
  match r, hr with
  | [], _ =>
    rw [stepped_one, withStep_nil]
    show ItemRel (finish lo hi (a, b, star, 1)) (itemOf lo hi (a, b, star, single, 1) (1, 1, b))
    by_cases h : a < lo ∨ hi < b ∨ b < a
    · rw [item_out h]; exact rel_zero (finish_bad h)
    · rw [item_in h, finish_good h (Nat.le_refl 1)]
      exact rel_good (by simp [members_inRange])
  | [st], _ =>
    rw [withStep_one]
    have hs := step_rel st
    have hle := (specStep_le st).2.1
    obtain ⟨q, hq⟩ : ∃ q, specStep st = q := ⟨_, rfl⟩
    rw [hq] at hs hle ⊢
    obtain ⟨n, v⟩ := q
    simp only at hs hle ⊢
    have hv : v = 0 ∨ v = 1 ∨ v = 2 := by omega
    rcases hv with rfl | rfl | rfl
    · rw [worse_zero_r, item_ver (by decide)]
      refine rel_zero ?_
      rcases hs.1 rfl with h | h
      · rw [stepped_bad h]; rfl
      · rw [stepped_two h]; exact finish_zero ..
    · obtain ⟨h1, h2⟩ := hs.2 rfl
      rw [stepped_two h1, show worseN 1 1 = 1 from rfl]
      show ItemRel (finish lo hi (a, if single then hi else b, star && !decide (1 < n), n)) _
      have he : (if (single && !star) = true then hi else b) = (if single then hi else b) := by
        cases single with
        | false => rfl
        | true => cases star with
          | false => rfl
          | true => simp [hb rfl]
      rw [he]
      generalize (if single then hi else b) = b2
      by_cases h : a < lo ∨ hi < b2 ∨ b2 < a
      · rw [item_out h]; exact rel_zero (finish_bad h)
      · rw [item_in h, finish_good h h2]
        refine rel_good ?_
        simp only [members_inRange]
        have : decide (n = 1) = !decide (1 < n) := by rw [Bool.eq_iff_iff]; simp; omega
        rw [this]
    · rw [show worseN 1 2 = 2 from rfl, item_ver (by decide)]; exact rel_two
theorem tail_open {lo hi : Nat} (o : Option (Nat × Nat × Bool)) (sg : Bool) (e : Nat × Nat × Bool × Bool × Nat) (he : e.2.2.2.2 = 2) (r0 : List UInt8) (r : List (List UInt8)) :
    ItemRel (o.bind fun t => (stepped hi sg t (r0 :: r)).bind (finish lo hi)) (itemOf lo hi e (withStep hi e r)) := by
  match r with
  | [st] =>
    rw [withStep_one, he]
    have hs := step_rel st
    have hle := (specStep_le st).2.1
    obtain ⟨q, hq⟩ : ∃ q, specStep st = q := ⟨_, rfl⟩
    rw [hq] at hs hle ⊢
    obtain ⟨n, v⟩ := q
    simp only at hs hle ⊢
    have hv : v = 0 ∨ v = 1 ∨ v = 2 := by omega
    rcases hv with rfl | rfl | rfl
    · rw [worse_zero_r, item_ver (by decide)]
      refine rel_zero ?_
      cases o with
      | none => rfl
      | some t =>
        simp only [Option.bind_some]
        rcases hs.1 rfl with h | h
        · rw [stepped_bad h]; rfl
        · rw [stepped_two h]; exact finish_zero ..
    · rw [show worseN 2 1 = 2 from rfl, item_ver (by decide)]; exact rel_two
    · rw [show worseN 2 2 = 2 from rfl, item_ver (by decide)]; exact rel_two
  | [] => rw [withStep_nil, he, item_ver (by decide)]; exact rel_two
  | a :: b :: r => rw [withStep_many, he, item_ver (by decide)]; exact rel_two
theorem tail_bad {lo hi : Nat} (o : Option Int) (e : Nat × Nat × Bool × Bool × Nat) (he : e.2.2.2.2 = 0) (r : List (List UInt8)) (h : o = none) : ItemRel o (itemOf lo hi e (withStep hi e r)) := by
  match r with
  | [st] => rw [withStep_one, he, worse_zero_l, item_ver (by decide)]; exact rel_zero h
  | [] => rw [withStep_nil, he, item_ver (by decide)]; exact rel_zero h
  | a :: b :: r => rw [withStep_many, he, item_ver (by decide)]; exact rel_zero h
theorem tail_huge {lo hi : Nat} (hhi : hi ≤ 62) (a b : Nat) (single : Bool) (o : Option (Nat × Nat × Bool)) (ho : ∀ a' b' s', o = some (a', b', s') → huge ≤ a' ∨ (single = false ∧ huge ≤ b')) (r0 : List UInt8) (r : List (List UInt8)) (hr : r.length ≤ 1)
    (hbig : huge ≤ a ∨ (single = false ∧ huge ≤ b)) :
    ItemRel (o.bind fun t => (stepped hi single t (r0 :: r)).bind (finish lo hi)) (itemOf lo hi (a, b, false, single, 1) (withStep hi (a, b, false, single, 1) r)) := by
  have key : ∀ x y n st, (huge ≤ x ∨ huge ≤ y) → finish lo hi (x, y, st, n) = none := by
    intro x y n st h; unfold huge at h; exact finish_bad (by omega)
  have hnone : (o.bind fun t => (stepped hi single t (r0 :: r)).bind (finish lo hi)) = none := by
    cases o with
    | none => rfl
    | some t =>
      obtain ⟨a', b', s'⟩ := t
      have h := ho a' b' s' rfl
      simp only [Option.bind_some]
      match r, hr with
      | [], _ =>
        rw [stepped_one]
        refine key _ _ _ _ ?_
        rcases h with h | h
        · exact .inl h
        · exact .inr h.2
      | [st], _ =>
        cases hn : numberOf st with
        | none => rw [stepped_bad hn]; rfl
        | some n =>
          rw [stepped_two hn]
          refine key _ _ _ _ ?_
          rcases h with h | ⟨rfl, h⟩
          · exact .inl h
          · exact .inr h
  rw [hnone]
  match r, hr with
  | [], _ =>
    rw [withStep_nil]
    show ItemRel none (itemOf lo hi (a, b, false, single, 1) (1, 1, b))
    rw [item_out (by unfold huge at hbig; simp only; omega)]
    exact rel_zero rfl
  | [st], _ =>
    rw [withStep_one]
    have hle := (specStep_le st).2.1
    simp only [Bool.not_false, Bool.and_true]
    have hv : (specStep st).2 = 0 ∨ (specStep st).2 = 1 ∨ (specStep st).2 = 2 := by omega
    rcases hv with hv | hv | hv
    · rw [hv, worse_zero_r, item_ver (by decide)]; exact rel_zero rfl
    · rw [hv, show worseN 1 1 = 1 from rfl, item_out (by
        unfold huge at hbig
        cases single with
        | true => rcases hbig with h | ⟨h, _⟩
                  · simp only [if_true]; omega
                  · cases h
        | false => simp only [Bool.false_eq_true, if_false]; omega)]
      exact rel_zero rfl
    · rw [hv, show worseN 1 2 = 2 from rfl, item_ver (by decide)]; exact rel_two
theorem item_rel {lo hi : Nat} (hhi : hi ≤ 62) (days : Bool) {val : List UInt8 → Option Nat} {sval : List UInt8 → Nat × Nat} (hag : Agree val sval) (hs : ∀ l, (sval l).2 ≤ 2) (l : List UInt8) :
    ItemRel (rangeOf lo hi val l) (specItem lo hi days sval l) := by
  cases hps : pieces 47 l with
  | nil => exact absurd hps (pieces_ne _ _)
  | cons a r =>
    rw [specItem_of hps]
    cases hlh : pieces 45 a with
    | nil => exact absurd hlh (pieces_ne _ _)
    | cons l0 lr =>
      rw [rangeOf_of hps hlh]
      by_cases hr : 2 ≤ r.length
      · rw [if_pos hr]
        refine rel_bad ?_ (by simp)
        match r, hr with
        | b :: c :: r, _ => cases ends lo hi val (l0 :: lr) <;> rfl
      · rw [if_neg hr]
        have hr1 : r.length ≤ 1 := by omega
        by_cases hst : l0 = [42] ∨ l0 = [63]
        · rw [sends_star hst, ends_star hst]
          simp only [Option.bind_some]
          by_cases hop : lr ≠ [] ∨ (l0 = [63] ∧ days = false)
          · rw [if_pos hop]
            exact tail_open (some (lo, hi, true)) _ _ rfl a r
          · rw [if_neg hop]
            have hnil : lr = [] := by
              cases lr with
              | nil => rfl
              | cons x y => exact absurd (.inl (by simp)) hop
            subst hnil
            exact tail_rel lo hi true true a r hr1 (fun _ => rfl)
        · have h0 := hag l0
          have hv0 : (sval l0).2 = 0 ∨ (sval l0).2 = 1 ∨ (sval l0).2 = 2 := by have := hs l0; omega
          match lr with
          | [] =>
            rw [sends_one hst]
            rcases hv0 with hv | hv | hv
            · exact tail_bad _ _ hv r (by rw [ends_bad hst (h0.1 hv)]; rfl)
            · obtain ⟨h1, h2, h3⟩ := h0.2 hv
              rw [hv]
              by_cases hb : (sval l0).1 < huge
              · rw [ends_one hst (h1 hb)]
                exact tail_rel _ _ false true a r hr1 (fun e => by cases e)
              · have he : (sval l0).1 = huge := by omega
                refine tail_huge hhi _ _ true _ ?_ a r hr1 (.inl (by omega))
                intro a' b' s' e
                cases hval : val l0 with
                | none => rw [ends_bad hst hval] at e; cases e
                | some u => rw [ends_one hst hval] at e; cases e; exact .inl (h2 he _ hval)
            · exact tail_open _ _ _ hv a r
          | [l1] =>
            rw [sends_two hst]
            have h1 := hag l1
            have hv1 : (sval l1).2 = 0 ∨ (sval l1).2 = 1 ∨ (sval l1).2 = 2 := by have := hs l1; omega
            have hsg : decide ((l0 :: [l1]).length = 1) = false := by simp
            rw [hsg]
            by_cases hz : (sval l0).2 = 0 ∨ (sval l1).2 = 0
            · refine tail_bad _ _ (by show worseN _ _ = 0; unfold worseN; rw [if_pos hz]) r ?_
              rcases hz with hz | hz
              · rw [ends_bad hst (h0.1 hz)]; rfl
              · cases hval : val l0 with
                | none => rw [ends_bad hst hval]; rfl
                | some x => rw [ends_two_bad hst hval (h1.1 hz)]; rfl
            · by_cases hone : (sval l0).2 = 1 ∧ (sval l1).2 = 1
              · have hw : worseN (sval l0).2 (sval l1).2 = 1 := by rw [hone.1, hone.2]; rfl
                rw [hw]
                obtain ⟨a1, a2, a3⟩ := h0.2 hone.1
                obtain ⟨b1, b2, b3⟩ := h1.2 hone.2
                by_cases hb : (sval l0).1 < huge ∧ (sval l1).1 < huge
                · rw [ends_two hst (a1 hb.1) (b1 hb.2)]
                  exact tail_rel _ _ false false a r hr1 (fun e => by cases e)
                · refine tail_huge hhi _ _ false _ ?_ a r hr1 (by
                    by_cases h1 : huge ≤ (sval l0).1
                    · exact .inl h1
                    · exact .inr ⟨rfl, by omega⟩)
                  intro a' b' s' e
                  cases hval : val l0 with
                  | none => rw [ends_bad hst hval] at e; cases e
                  | some u =>
                    cases hval1 : val l1 with
                    | none => rw [ends_two_bad hst hval hval1] at e; cases e
                    | some y =>
                      rw [ends_two hst hval hval1] at e
                      cases e
                      by_cases he : (sval l0).1 = huge
                      · exact .inl (a2 he _ hval)
                      · exact .inr ⟨rfl, b2 (by omega) _ hval1⟩
              · exact tail_open _ _ _ (by show worseN _ _ = 2; unfold worseN; rw [if_neg hz]; omega) a r
          | l1 :: l2 :: lr =>
            rw [sends_many hst]
            refine tail_bad _ _ rfl r ?_
            cases hval : val l0 with
            | none => rw [ends_bad hst hval]; rfl
            | some x => rw [ends_many hst hval]; rfl
end Go.Proofs.YtmnjmhlodbifjaaGreatDoor.ItemPure
namespace Go.Proofs.YtmnjmhlodbifjaaGreatDoor.SpecField
open Go Go.RowKit Go.Proofs.YtmnjmhlodbifjaaGreatDoor.Mem Go.Proofs.YtmnjmhlodbifjaaGreatDoor.NumPure Go.Proofs.YtmnjmhlodbifjaaGreatDoor.Split Go.Proofs.YtmnjmhlodbifjaaGreatDoor.SplitPure Go.Proofs.YtmnjmhlodbifjaaGreatDoor.SpecPieces Go.Proofs.YtmnjmhlodbifjaaGreatDoor.SpecEnds Go.Proofs.YtmnjmhlodbifjaaGreatDoor.Set Go.Proofs.YtmnjmhlodbifjaaGreatDoor.Bits Go.Proofs.YtmnjmhlodbifjaaGreatDoor.SpecItem Go.Proofs.YtmnjmhlodbifjaaGreatDoor.Union
set_option linter.unusedVariables false
def specList (lo hi : Nat) (days : Bool) (sval : List UInt8 → Nat × Nat) : List (List UInt8) → CSet → Nat → CSet × Nat
  | [], s, v => (s, v)
  | p :: r, s, v => if p = [] then specList lo hi days sval r s (worseN v 2)
    else specList lo hi days sval r (union s (specItem lo hi days sval p).1) (worseN v (specItem lo hi days sval p).2)
def specField (lo hi : Nat) (days : Bool) (sval : List UInt8 → Nat × Nat) (l : List UInt8) : CSet × Nat :=
  if (specList lo hi days sval (pieces 44 l) empty 1).2 ≠ 1 then (empty, (specList lo hi days sval (pieces 44 l) empty 1).2) else (specList lo hi days sval (pieces 44 l) empty 1)
end Go.Proofs.YtmnjmhlodbifjaaGreatDoor.SpecField
namespace Go.Proofs.YtmnjmhlodbifjaaGreatDoor.FieldRel
open Go.RowKit Go.Proofs.YtmnjmhlodbifjaaGreatDoor.NumPure Go.Proofs.YtmnjmhlodbifjaaGreatDoor.SplitPure Go.Proofs.YtmnjmhlodbifjaaGreatDoor.Bits Go.Proofs.YtmnjmhlodbifjaaGreatDoor.Range Go.Proofs.YtmnjmhlodbifjaaGreatDoor.SpecEnds Go.Proofs.YtmnjmhlodbifjaaGreatDoor.SpecItem Go.Proofs.YtmnjmhlodbifjaaGreatDoor.ItemPure Go.Proofs.YtmnjmhlodbifjaaGreatDoor.FieldPure Go.Proofs.YtmnjmhlodbifjaaGreatDoor.Field Go.Proofs.YtmnjmhlodbifjaaGreatDoor.Union Go.Proofs.YtmnjmhlodbifjaaGreatDoor.SpecField Go.Proofs.YtmnjmhlodbifjaaGreatDoor.SpecBits
theorem worse_zero {a b : Nat} (h : worseN a b = 0) : a = 0 ∨ b = 0 := by
  unfold worseN at h; split at h
  · assumption
  · omega
theorem worse_one {a b : Nat} (h : worseN a b = 1) : a = 1 ∧ b = 1 := by
  unfold worseN at h; split at h
  · omega
  · omega
theorem marked_or (p q : Nat → Bool) (s t : Bool) : Go.bits .or .u64 (marked p s) (marked q t) = marked (fun i => p i || q i) (s || t) := by
  unfold marked
  rw [bits_or]
  refine bset_congr fun i _ => ?_
  dsimp only
  cases p i <;> cases q i <;> cases s <;> cases t <;> cases decide (i = 63) <;> rfl
theorem item_top {lo hi : Nat} {days : Bool} {sval : List UInt8 → Nat × Nat} {l : List UInt8} (hhi : hi ≤ 62) (h : (specItem lo hi days sval l).2 = 1) : (specItem lo hi days sval l).1.2 63 = false := by
  have key : ∀ e t, (itemOf lo hi e t).2 = 1 → (itemOf lo hi e t).1.2 63 = false := by
    intro e t h
    unfold itemOf at h ⊢
    by_cases h1 : t.2.1 ≠ 1
    · rw [if_pos h1]; rfl
    · rw [if_neg h1] at h ⊢
      by_cases h2 : e.1 < lo ∨ hi < t.2.2 ∨ t.2.2 < e.1
      · rw [if_pos h2]; rfl
      · rw [if_neg h2]
        show members _ _ _ 63 = false
        unfold members
        have : decide (63 ≤ t.2.2) = false := decide_eq_false (by omega)
        rw [this]; simp
  unfold specItem at h ⊢
  split at h
  · rfl
  · split at h
    · rename_i h2; rw [if_pos h2]; rfl
    · rename_i h2; rw [if_neg h2]; exact key _ _ h
theorem list_rel {lo hi : Nat} (hhi : hi ≤ 62) (days : Bool) {val : List UInt8 → Option Nat} {sval : List UInt8 → Nat × Nat} (hag : Agree val sval) (hs : ∀ l, (sval l).2 ≤ 2) :
    ∀ (ps : List (List UInt8)) (c : CSet) (n : Nat),
    (n ≠ 0 → (specList lo hi days sval ps c n).2 = 0 → ∀ x, orOf lo hi val (ps.filter fun p => !p.isEmpty) x = none) ∧
    ((specList lo hi days sval ps c n).2 = 1 → n = 1 ∧ orOf lo hi val (ps.filter fun p => !p.isEmpty) (marked c.2 c.1) = some (marked (specList lo hi days sval ps c n).1.2 (specList lo hi days sval ps c n).1.1) ∧ (c.2 63 = false → (specList lo hi days sval ps c n).1.2 63 = false)) := by
  intro ps
  induction ps with
  | nil => intro c n; exact ⟨fun h1 h2 => absurd h2 h1, fun h => ⟨h, rfl, fun h => h⟩⟩
  | cons p r ih =>
    intro c n
    by_cases hp : p = []
    · subst hp
      have e : specList lo hi days sval ([] :: r) c n = specList lo hi days sval r c (worseN n 2) := by simp only [specList, if_pos]
      have e2 : ([] :: r).filter (fun p : List UInt8 => !p.isEmpty) = r.filter fun p => !p.isEmpty := rfl
      rw [e, e2]
      obtain ⟨h1, h2⟩ := ih c (worseN n 2)
      refine ⟨fun hn => h1 (fun hw => by rcases worse_zero hw with h | h <;> omega), fun h => ?_⟩
      have := (worse_one (h2 h).1).2
      omega
    · have e : specList lo hi days sval (p :: r) c n = specList lo hi days sval r (union c (specItem lo hi days sval p).1) (worseN n (specItem lo hi days sval p).2) := by simp only [specList, if_neg hp]
      have e2 : (p :: r).filter (fun p : List UInt8 => !p.isEmpty) = p :: r.filter fun p => !p.isEmpty := by
        rw [List.filter_cons_of_pos]
        cases p with
        | nil => exact absurd rfl hp
        | cons _ _ => rfl
      rw [e, e2]
      obtain ⟨h1, h2⟩ := ih (union c (specItem lo hi days sval p).1) (worseN n (specItem lo hi days sval p).2)
      have hrel := item_rel hhi days hag hs p (lo := lo)
      refine ⟨fun hn h0 x => ?_, fun h => ?_⟩
      · unfold orOf
        cases hr : rangeOf lo hi val p with
        | none => rfl
        | some b =>
          refine h1 (fun hw => ?_) h0 _
          rcases worse_zero hw with h | h
          · exact hn h
          · have := hrel.1 h; rw [hr] at this; cases this
      · obtain ⟨hw, h3, h4⟩ := h2 h
        obtain ⟨hn, hv⟩ := worse_one hw
        have hr := hrel.2 hv
        refine ⟨hn, ?_, fun hc => h4 ?_⟩
        · unfold orOf
          rw [hr]
          simp only
          rw [marked_or]
          exact h3
        · show (c.2 63 || (specItem lo hi days sval p).1.2 63) = false
          rw [hc, item_top hhi hv]; rfl
theorem field_rel {lo hi : Nat} (hhi : hi ≤ 62) (days : Bool) {val : List UInt8 → Option Nat} {sval : List UInt8 → Nat × Nat} (hag : Agree val sval) (hs : ∀ l, (sval l).2 ≤ 2) (l : List UInt8) :
    ((specField lo hi days sval l).2 = 0 → orOf lo hi val (full l) 0 = none) ∧
    ((specField lo hi days sval l).2 = 1 → orOf lo hi val (full l) 0 = some (numOf (specField lo hi days sval l).1.1 (specField lo hi days sval l).1.2)) := by
  obtain ⟨h1, h2⟩ := list_rel hhi days hag hs (pieces 44 l) empty 1 (lo := lo)
  have e0 : marked empty.2 empty.1 = 0 := by
    unfold marked; rw [zero_eq]; exact bset_congr fun i _ => by simp [empty]
  unfold specField
  generalize specList lo hi days sval (pieces 44 l) empty 1 = t at h1 h2 ⊢
  by_cases ht : t.2 = 1
  · rw [if_neg (by simp [ht])]
    refine ⟨fun h => by omega, fun _ => ?_⟩
    obtain ⟨-, h3, h4⟩ := h2 ht
    rw [e0] at h3
    rw [numOf_marked _ _ (h4 rfl)]
    exact h3
  · rw [if_pos ht]
    exact ⟨fun h => h1 (by omega) h 0, fun h => absurd h ht⟩
end Go.Proofs.YtmnjmhlodbifjaaGreatDoor.FieldRel
namespace Go.Proofs.YtmnjmhlodbifjaaGreatDoor.NameRel
open Go Go.Proofs.YtmnjmhlodbifjaaGreatDoor.NumPure Go.Proofs.YtmnjmhlodbifjaaGreatDoor.SplitPure Go.Proofs.YtmnjmhlodbifjaaGreatDoor.Lower Go.Proofs.YtmnjmhlodbifjaaGreatDoor.NamesAt Go.Proofs.YtmnjmhlodbifjaaGreatDoor.Names Go.Proofs.YtmnjmhlodbifjaaGreatDoor.NameMap Go.Proofs.YtmnjmhlodbifjaaGreatDoor.Range Go.Proofs.YtmnjmhlodbifjaaGreatDoor.FieldPure Go.Proofs.YtmnjmhlodbifjaaGreatDoor.Field Go.Proofs.YtmnjmhlodbifjaaGreatDoor.Kind Go.Proofs.YtmnjmhlodbifjaaGreatDoor.FillPure Go.Proofs.YtmnjmhlodbifjaaGreatDoor.PlainPure Go.Proofs.YtmnjmhlodbifjaaGreatDoor.ItemPure Go.Proofs.YtmnjmhlodbifjaaGreatDoor.FieldRel Go.Proofs.YtmnjmhlodbifjaaGreatDoor.SpecField Go.Proofs.YtmnjmhlodbifjaaGreatDoor.SpecItem Go.Proofs.YtmnjmhlodbifjaaGreatDoor.SpecEnds Go.Proofs.YtmnjmhlodbifjaaGreatDoor.SpecBits
def foreign (t : List UInt8) : Bool := t.any fun b => decide (128 ≤ b.toNat)
theorem foreign_not {t : List UInt8} (h : foreign t = false) : Ascii t := by
  intro b hb
  unfold foreign at h
  rw [List.any_eq_false] at h
  have := h b hb
  simpa using this
theorem foreign_ascii {t : List UInt8} (h : Ascii t) : foreign t = false := by
  unfold foreign
  rw [List.any_eq_false]
  intro b hb
  have := h b hb
  simpa using this
def svalN (l : List (ByteArray × Nat)) (t : List UInt8) : Nat × Nat :=
  match nlook l (ofL (t.map low)) with
  | some v => (v, 1)
  | none => if foreign t then (0, 2) else specNumber t
def svalOf (kind : Nat) : List UInt8 → Nat × Nat := if kind = 4 then svalN monthNames else if kind = 5 then svalN dayNames else specNumber
theorem low_back {t : List UInt8} (h : Ascii (t.map low)) : Ascii t := fun b hb => (low_ascii b).1 (h _ (List.mem_map_of_mem hb))
def Short (l : List (ByteArray × Nat)) : Prop := ∀ p ∈ l, p.2 ≤ 12 ∧ ∀ b ∈ p.1.data.toList, b.toNat < 128
theorem bytes_beq {a b : ByteArray} (h : (a == b) = true) : a = b := by
  obtain ⟨x⟩ := a
  obtain ⟨y⟩ := b
  have : (x == y) = true := h
  exact congrArg ByteArray.mk (by simpa using this)
theorem look_mem {l : List (ByteArray × Nat)} {s : ByteArray} {v : Nat} (h : nlook l s = some v) : (s, v) ∈ l := by
  induction l with
  | nil => simp [nlook] at h
  | cons p r ih =>
    obtain ⟨t, n⟩ := p
    unfold nlook at h
    split at h
    · rename_i he
      cases h
      rw [bytes_beq he]
      exact List.mem_cons_self
    · exact List.mem_cons_of_mem _ (ih h)
theorem months_short : Short monthNames := by unfold Short; decide
theorem days_short : Short dayNames := by unfold Short; decide
theorem agree_names {l : List (ByteArray × Nat)} (hl : Short l) : Agree (nameOr l) (svalN l) := by
  intro t
  unfold svalN
  cases hn : nlook l (ofL (t.map low)) with
  | some v =>
    obtain ⟨h1, h2⟩ := hl _ (look_mem hn)
    simp only [toList_ofL] at h2
    have ha : Ascii t := low_back h2
    have : nameOr l t = some v := by unfold nameOr; rw [lower_ascii ha, hn]
    rw [this]
    simp only at h1
    refine ⟨fun h => by simp at h, fun _ => ⟨fun _ => rfl, fun h => ?_, ?_⟩⟩ <;> simp only [huge] at * <;> omega
  | none =>
    simp only
    cases hf : foreign t with
    | true => exact ⟨fun h => by simp at h, fun h => by simp at h⟩
    | false =>
      have ha := foreign_not hf
      have : nameOr l t = numberOf t := by unfold nameOr; rw [lower_ascii ha, hn]
      rw [this]
      exact number_rel t
theorem agree_all (kind : Nat) : Agree (Kind.valOf kind) (svalOf kind) := by
  unfold Kind.valOf svalOf
  split
  · exact agree_names months_short
  · split
    · exact agree_names days_short
    · exact number_rel
theorem svalN_le {l : List (ByteArray × Nat)} (hl : Short l) (t : List UInt8) : (svalN l t).2 ≤ 2 ∧ (svalN l t).1 ≤ huge := by
  unfold svalN
  cases hn : nlook l (ofL (t.map low)) with
  | some v =>
    have := (hl _ (look_mem hn)).1
    simp only at this
    exact ⟨by simp, by simp only [huge]; omega⟩
  | none =>
    simp only
    split
    · exact ⟨by simp, by simp⟩
    · exact ⟨verdict_le t, number_le t⟩
theorem sval_le (kind : Nat) (t : List UInt8) : (svalOf kind t).2 ≤ 2 ∧ (svalOf kind t).1 ≤ huge := by
  unfold svalOf
  split
  · exact svalN_le months_short t
  · split
    · exact svalN_le days_short t
    · exact ⟨verdict_le t, number_le t⟩
def sfieldOf (kind : Nat) (l : List UInt8) : CSet × Nat := specField (lowOf kind) (highOf kind) (kind == 3 || kind == 5) (svalOf kind) l
theorem field_agree (kind : Nat) (hk : kind ≤ 5) (l : List UInt8) : ((sfieldOf kind l).2 = 0 → fieldOf kind l = none) ∧ ((sfieldOf kind l).2 = 1 → fieldOf kind l = some (numOf (sfieldOf kind l).1.1 (sfieldOf kind l).1.2)) :=
  field_rel (low_high5 kind hk).2 _ (agree_all kind) (fun t => (sval_le kind t).1) l
def sixV (L : List (List UInt8)) : Nat → Nat
  | 0 => 1
  | k + 1 => worseN (sixV L k) (sfieldOf k (L.getD k [])).2
def numsOf (L : List (List UInt8)) (k : Nat) : List Int := (List.range k).map fun j => numOf (sfieldOf j (L.getD j [])).1.1 (sfieldOf j (L.getD j [])).1.2
theorem sixV_fine (L : List (List UInt8)) : ∀ k, k ≤ 6 → sixV L k = 1 → six L k = some (numsOf L k) ∧ ∀ j, j < k → (sfieldOf j (L.getD j [])).2 = 1 := by
  intro k
  induction k with
  | zero => intro _ _; exact ⟨rfl, fun j hj => by omega⟩
  | succ k ih =>
    intro hk h
    unfold sixV at h
    obtain ⟨h1, h2⟩ := worse_one h
    obtain ⟨h3, h4⟩ := ih (by omega) h1
    refine ⟨?_, fun j hj => ?_⟩
    · unfold six
      rw [h3, (field_agree k (by omega) _).2 h2]
      simp [numsOf, List.range_succ]
    · by_cases hjk : j = k
      · subst hjk; exact h2
      · exact h4 j (by omega)
theorem sixV_bad (L : List (List UInt8)) : ∀ k, k ≤ 6 → sixV L k = 0 → six L k = none := by
  intro k
  induction k with
  | zero => intro _ h; simp [sixV] at h
  | succ k ih =>
    intro hk h
    unfold sixV at h
    rcases worse_zero h with h1 | h1
    · unfold six; rw [ih (by omega) h1]
    · unfold six
      rw [(field_agree k (by omega) _).1 h1]
      cases six L k <;> rfl
end Go.Proofs.YtmnjmhlodbifjaaGreatDoor.NameRel
namespace Go.Proofs.YtmnjmhlodbifjaaGreatDoor.SpecName
end Go.Proofs.YtmnjmhlodbifjaaGreatDoor.SpecName
namespace Go.Proofs.YtmnjmhlodbifjaaGreatDoor.Fields
open Go Go.RowKit Go.Proofs.YtmnjmhlodbifjaaGreatDoor.Set
set_option linter.unusedVariables false
def fld (st : Nat → Bool) (f : Nat → Nat → Bool) (i : Nat) : Value := if i % 64 = 0 then .bool (st (i / 64)) else .bool (f (i / 64) (i % 64 - 1))
def fldArr (st : Nat → Bool) (f : Nat → Nat → Bool) : Array Value := Array.ofFn (n := 384) fun i => fld st f i.val
theorem fldArr_size (st : Nat → Bool) (f : Nat → Nat → Bool) : (fldArr st f).size = 384 := by simp [fldArr]
theorem fldArr_get (st : Nat → Bool) (f : Nat → Nat → Bool) (i : Nat) (h : i < 384) : (fldArr st f)[i]? = some (fld st f i) := by
  rw [Array.getElem?_eq_getElem (by rw [fldArr_size]; omega)]
  simp [fldArr]
theorem below_setCells {B b o : Nat} {w w' : World} (vs : List Value) (h : Below B w w') (hb : B ≤ b) : Below B w (w'.setCells b o vs) := by
  induction vs generalizing o w' with
  | nil => exact h
  | cons v r ih => rw [World.setCells]; exact ih (h.setCell (p := ⟨b, o, none⟩) hb v)
structure FldAt (w : World) (b : Nat) (st : Nat → Bool) (f : Nat → Nat → Bool) : Prop where
  lt : b < w.heap.size
  cells : ∀ i, i < 384 → w.cell? ⟨b, i, none⟩ = some (fld st f i)
  free : ∀ i, i < 384 → w.frozen? ⟨b, i, none⟩ = false
section
variable {w : World} {b : Nat} {st : Nat → Bool} {f : Nat → Nat → Bool}
theorem FldAt.below {w' : World} {B : Nat} (h : FldAt w b st f) (hb : Below B w w') (hB : b < B) : FldAt w' b st f :=
  ⟨Nat.lt_of_lt_of_le h.lt hb.size, fun i hi => (hb.cell (p := ⟨b, i, none⟩) hB).trans (h.cells i hi), fun i hi => (hb.frozen (p := ⟨b, i, none⟩) hB).trans (h.free i hi)⟩
theorem FldAt.star (h : FldAt w b st f) (k : Nat) (hk : k < 6) : w.cell? ⟨b, k * 64, none⟩ = some (.bool (st k)) := by
  rw [h.cells _ (by omega)]; unfold fld; rw [if_pos (by omega), show k * 64 / 64 = k by omega]
theorem FldAt.val (h : FldAt w b st f) (k v : Nat) (hk : k < 6) (hv : v ≤ 62) : w.cell? ⟨b, k * 64 + 1 + v, none⟩ = some (.bool (f k v)) := by
  rw [h.cells _ (by omega)]; unfold fld; rw [if_neg (by omega), show (k * 64 + 1 + v) / 64 = k by omega, show (k * 64 + 1 + v) % 64 - 1 = v by omega]
theorem FldAt.range (h : FldAt w b st f) : w.rangeAt b 0 (fldArr st f).toList := fun j v hv => by
  rw [Array.getElem?_toList] at hv
  have hj : j < 384 := by rw [← fldArr_size st f]; exact (Array.getElem?_eq_some_iff.1 hv).1
  rw [fldArr_get _ _ _ hj] at hv
  rw [Nat.zero_add, h.cells j hj]; exact hv
theorem FldAt.there (h : FldAt w b st f) (o n : Nat) (hn : o + n ≤ 384) : w.there b o n := fun j hj => ⟨by rw [h.cells _ (by omega)]; rfl, h.free _ (by omega)⟩
theorem FldAt.set (h : FldAt w b st f) (k : Nat) (hk : k < 6) : w.rangeAt b (k * 64) (setArr (st k) (f k)).toList := fun j v hv => by
  rw [Array.getElem?_toList] at hv
  have hj : j < 64 := by rw [← setArr_size (st k) (f k)]; exact (Array.getElem?_eq_some_iff.1 hv).1
  cases j with
  | zero => rw [setArr_zero] at hv; rw [Nat.add_zero, h.star k hk]; exact hv
  | succ j =>
    rw [Nat.add_comm j 1, setArr_get _ _ _ (by omega)] at hv
    rw [show k * 64 + (j + 1) = k * 64 + 1 + j by omega, h.val k j hk (by omega)]; exact hv
def updK {α : Type} (g : Nat → α) (k : Nat) (x : α) : Nat → α := fun i => if i = k then x else g i
theorem FldAt.put (h : FldAt w b st f) (k : Nat) (hk : k < 6) (s : Bool) (g : Nat → Bool) : FldAt (w.setCells b (k * 64) (setArr s g).toList) b (updK st k s) (updK f k g) := by
  have hl : (setArr s g).toList.length = 64 := by simp [setArr_size]
  have hth := h.there (k * 64) 64 (by omega)
  refine ⟨?_, fun i hi => ?_, fun i hi => by rw [World.frozen?_setCells]; exact h.free i hi⟩
  · exact Nat.lt_of_lt_of_le h.lt (below_setCells (b := b) (o := k * 64) (setArr s g).toList (Below.refl 0 w) (Nat.zero_le _)).size
  · by_cases c : k * 64 ≤ i ∧ i < k * 64 + 64
    · obtain ⟨j, rfl⟩ : ∃ j, i = k * 64 + j := ⟨i - k * 64, by omega⟩
      have hr := World.rangeAt_setCells_same w b (k * 64) (setArr s g).toList (by rw [hl]; exact hth)
      have hj : j < 64 := by omega
      unfold fld
      cases j with
      | zero =>
        have := hr 0 (.bool s) (by rw [Array.getElem?_toList]; exact setArr_zero s g)
        rw [this, if_pos (by omega), show (k * 64 + 0) / 64 = k by omega]
        simp [updK]
      | succ j =>
        have := hr (j + 1) (.bool (g j)) (by rw [Array.getElem?_toList, Nat.add_comm j 1]; exact setArr_get s g j (by omega))
        rw [this, if_neg (by omega), show (k * 64 + (j + 1)) / 64 = k by omega, show (k * 64 + (j + 1)) % 64 - 1 = j by omega]
        simp [updK]
    · rw [World.cell?_setCells_out b (setArr s g).toList (k * 64) w ⟨b, i, none⟩ (fun _ _ => by rw [hl]; simp only; omega), h.cells i hi]
      unfold fld updK
      rw [if_neg (show ¬ i / 64 = k by omega), if_neg (show ¬ i / 64 = k by omega)]
theorem FldAt.new (w : World) (st : Nat → Bool) (f : Nat → Nat → Bool) : FldAt (w.alloc (.cells (fldArr st f) 57)) w.heap.size st f := by
  have hh : (w.alloc (.cells (fldArr st f) 57)).heap[w.heap.size]? = some (.cells (fldArr st f) 57 (0, 0)) := heap_alloc_new w _
  exact ⟨by simp, fun i hi => by rw [cell_of_row _ _ _ _ _ _ hh, fldArr_get _ _ _ hi], fun i hi => frozen_of_row _ _ i _ _ hh⟩
theorem FldAt.other (h : FldAt w b st f) (p : Addr) (u : Value) (hne : b ≠ p.block) : FldAt (w.setCell p u) b st f := by
  have hb : (w.setCell p u).heap[b]? = w.heap[b]? := Below.heap_setCell w p u b hne
  exact ⟨by simp [World.setCell]; exact h.lt, fun i hi => (World.cell?_of_block (w := w) (a := ⟨b, i, none⟩) hb).trans (h.cells i hi), fun i hi => (World.frozen?_of_block (w := w) (a := ⟨b, i, none⟩) hb).trans (h.free i hi)⟩
end
theorem sizeInfoF : (Tryz.prog.info? 57).map (·.size) = some 384 := by kernel_rfl
section
variable {ops : Array Oper} {rest : List Oper} {o : Oper} {a : Act} {w : World} {Q : Exit → Act → World → Prop}
theorem wpList_box_fields (hg : o.guard = none) (x : Operand) (ho : o.op = .box 57 x) (st : Nat → Bool) (f : Nat → Nat → Bool)
    (hx : a.eval x = .agg (fldArr st f))
    (h : wpList Tryz.prog ops Q rest (a.put o.dst (.pointer (some ⟨w.heap.size, 0, none⟩))) (w.alloc (.cells (fldArr st f) 57))) : wpList Tryz.prog ops Q (o :: rest) a w := by
  refine wpList_plain hg fun K hK => ?_
  unfold Oper.wp execOp
  simp only [ho, hx, Instr.box, Sem.run_bind, newVar, newRow, Value.cells, run_newObj_alloc, Sem.run_pure, Result.andThen_ok]
  exact hK _ _ h
theorem wpList_load_fields (hg : o.guard = none) (x : Operand) (ho : o.op = .load 57 x) (b : Nat) (st : Nat → Bool) (f : Nat → Nat → Bool)
    (hx : a.eval x = .pointer (some ⟨b, 0, none⟩)) (hb : FldAt w b st f)
    (h : wpList Tryz.prog ops Q rest (a.put o.dst (.agg (fldArr st f))) w) : wpList Tryz.prog ops Q (o :: rest) a w := by
  refine wpList_load_mid hg 57 x ho b 0 hx (fldArr st f).toList _ hb.range Tryz.underlying57 rfl (by simp [fldArr_size, sizeInfoF]) ?_
  simpa using h
end
section
variable {w : World} {b : Nat} {st : Nat → Bool} {f : Nat → Nat → Bool} {ops : Array Oper} {rest : List Oper} {o : Oper} {a : Act} {Q : Exit → Act → World → Prop}
end
end Go.Proofs.YtmnjmhlodbifjaaGreatDoor.Fields
namespace Go.Proofs.YtmnjmhlodbifjaaGreatDoor.SpecSix
open Go Go.RowKit Go.Proofs.YtmnjmhlodbifjaaGreatDoor.Mem Go.Proofs.YtmnjmhlodbifjaaGreatDoor.Aid Go.Proofs.YtmnjmhlodbifjaaGreatDoor.Set Go.Proofs.YtmnjmhlodbifjaaGreatDoor.Fields Go.Proofs.YtmnjmhlodbifjaaGreatDoor.NumPure Go.Proofs.YtmnjmhlodbifjaaGreatDoor.SplitPure Go.Proofs.YtmnjmhlodbifjaaGreatDoor.Kind Go.Proofs.YtmnjmhlodbifjaaGreatDoor.FillPure Go.Proofs.YtmnjmhlodbifjaaGreatDoor.FillA Go.Proofs.YtmnjmhlodbifjaaGreatDoor.PlainPure Go.Proofs.YtmnjmhlodbifjaaGreatDoor.NameRel Go.Proofs.YtmnjmhlodbifjaaGreatDoor.SpecEnds Go.Proofs.YtmnjmhlodbifjaaGreatDoor.SpecItem Go.Proofs.YtmnjmhlodbifjaaGreatDoor.SpecField Go.Proofs.YtmnjmhlodbifjaaGreatDoor.SpecName Go.Proofs.YtmnjmhlodbifjaaGreatDoor.Big
set_option linter.unusedVariables false
attribute [local go_sem ↓] Go.wp_at_zero Go.wp_at_succ
theorem allocS_eq : Instr.alloc 55 true (.tuple #[]) = allocB 55 := rfl
theorem loadS_eq (a : Value) : Instr.loadAt 55 a = loadB 55 a := rfl
theorem storeS_eq (a v : Value) : Instr.storeAt 55 a v = storeB 55 a v := rfl
attribute [local go_sem ↓] allocS_eq loadS_eq storeS_eq
end Go.Proofs.YtmnjmhlodbifjaaGreatDoor.SpecSix
namespace Go.Proofs.YtmnjmhlodbifjaaGreatDoor.Meaning
end Go.Proofs.YtmnjmhlodbifjaaGreatDoor.Meaning
