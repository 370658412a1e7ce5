/- The plain law of items: what the code reads as an item is what the reference reads. Conditions: bounds within 0 to 62. -/
import Derived.Test.YtmnjmhlodbifjaaGreatDoorRange
import Derived.Test.YtmnjmhlodbifjaaGreatDoorSpecItem
namespace Go.Proofs.YtmnjmhlodbifjaaGreatDoor.ItemPure
open Go.RowKit Go.Proofs.YtmnjmhlodbifjaaGreatDoor.NumPure Go.Proofs.YtmnjmhlodbifjaaGreatDoor.SplitPure Go.Proofs.YtmnjmhlodbifjaaGreatDoor.Bits Go.Proofs.YtmnjmhlodbifjaaGreatDoor.GetBits Go.Proofs.YtmnjmhlodbifjaaGreatDoor.Range Go.Proofs.YtmnjmhlodbifjaaGreatDoor.SpecEnds Go.Proofs.YtmnjmhlodbifjaaGreatDoor.SpecItem

/-- A number that was read, beside the reference's reading. -/
def NumRel (o : Option Nat) (p : Nat × Nat) : Prop :=
  (p.2 = 0 → o = none) ∧ (p.2 = 1 → (p.1 < huge → o = some p.1) ∧ (p.1 = huge → ∀ u, o = some u → huge ≤ u) ∧ p.1 ≤ huge)

theorem number_rel (l : List UInt8) : NumRel (numberOf l) (specNumber l) := ⟨bad_none l, fine_read l⟩

theorem step_rel (l : List UInt8) : ((specStep l).2 = 0 → numberOf l = none ∨ numberOf l = some 0) ∧ ((specStep l).2 = 1 → numberOf l = some (specStep l).1 ∧ 1 ≤ (specStep l).1) := by
  have h := number_rel l
  have hle := specStep_le l
  unfold specStep at hle ⊢
  by_cases h0 : (specNumber l).2 = 0 ∨ (specNumber l).1 = 0
  · rw [if_pos h0]
    refine ⟨fun _ => ?_, fun e => by cases e⟩
    by_cases h1 : (specNumber l).2 = 0
    · exact .inl (h.1 h1)
    · rcases h0 with h0 | h0
      · exact absurd h0 h1
      · have hv := verdict_le l
        by_cases h2 : (specNumber l).2 = 1
        · right; rw [(h.2 h2).1 (by rw [h0]; unfold huge; omega), h0]
        · right; exact open_zero l (by omega) h0
  · rw [if_neg h0] at hle ⊢
    by_cases h3 : (specNumber l).1 = huge
    · rw [if_pos h3]; exact ⟨fun e => (by cases e), fun e => by cases e⟩
    · rw [if_neg h3] at hle ⊢
      refine ⟨fun e => absurd (.inl e) h0, fun e => ?_⟩
      obtain ⟨h4, h5⟩ := hle.2.2 e
      exact ⟨(h.2 e).1 h5, h4⟩

/-- What the two readings of a field's values have in common. -/
def Agree (val : List UInt8 → Option Nat) (sval : List UInt8 → Nat × Nat) : Prop := ∀ l, NumRel (val l) (sval l)

theorem members_inRange (low high step : Nat) : members low high step = inRange low high step := rfl

/-- The code's reading of an item beside the reference's. -/
def ItemRel (o : Option Int) (r : CSet × Nat) : Prop := (r.2 = 0 → o = none) ∧ (r.2 = 1 → o = some (marked r.1.2 r.1.1))

theorem rel_bad {o : Option Int} {r : CSet × Nat} (h : o = none) (h1 : r.2 ≠ 1) : ItemRel o r := ⟨fun _ => h, fun e => absurd e h1⟩
theorem rel_open {o : Option Int} {r : CSet × Nat} (h : r.2 = 2) : ItemRel o r := ⟨fun e => by omega, fun e => by omega⟩

theorem finish_zero (lo hi a b : Nat) (st : Bool) : finish lo hi (a, b, st, 0) = none := by unfold finish; simp
theorem finish_bad {lo hi a b n : Nat} {st : Bool} (h : a < lo ∨ hi < b ∨ b < a) : finish lo hi (a, b, st, n) = none := by
  unfold finish; rw [if_pos]; simp only; omega
theorem finish_good {lo hi a b n : Nat} {st : Bool} (h : ¬ (a < lo ∨ hi < b ∨ b < a)) (hn : 1 ≤ n) : finish lo hi (a, b, st, n) = some (marked (inRange a b n) st) := by
  unfold finish; rw [if_neg]; simp only; omega

theorem item_ver {lo hi : Nat} {e : Nat × Nat × Bool × Bool × Nat} {n v h : Nat} (hv : v ≠ 1) : itemOf lo hi e (n, v, h) = (empty, v) := if_pos hv
theorem item_out {lo hi : Nat} {e : Nat × Nat × Bool × Bool × Nat} {n h : Nat} (hb : e.1 < lo ∨ hi < h ∨ h < e.1) : itemOf lo hi e (n, 1, h) = (empty, 0) := by
  unfold itemOf; rw [if_neg (by simp)]; exact if_pos hb
theorem item_in {lo hi : Nat} {e : Nat × Nat × Bool × Bool × Nat} {n h : Nat} (hb : ¬ (e.1 < lo ∨ hi < h ∨ h < e.1)) : itemOf lo hi e (n, 1, h) = ((e.2.2.1 && decide (n = 1), members e.1 h n), 1) := by
  unfold itemOf; rw [if_neg (by simp)]; exact if_neg hb
theorem rel_zero {o : Option Int} {c : CSet} (h : o = none) : ItemRel o (c, 0) := rel_bad h (by simp)
theorem rel_two {o : Option Int} {c : CSet} : ItemRel o (c, 2) := rel_open rfl
theorem rel_good {b : Int} {c : CSet} (h : b = marked c.2 c.1) : ItemRel (some b) (c, 1) := by subst h; exact ⟨(fun e => by cases e), fun _ => rfl⟩
theorem withStep_nil (hi : Nat) (e : Nat × Nat × Bool × Bool × Nat) : withStep hi e [] = (1, e.2.2.2.2, e.2.1) := rfl
theorem withStep_many (hi : Nat) (e : Nat × Nat × Bool × Bool × Nat) (a b : List UInt8) (r : List (List UInt8)) : withStep hi e (a :: b :: r) = (1, e.2.2.2.2, e.2.1) := rfl
theorem worse_zero_r (a : Nat) : worseN a 0 = 0 := by unfold worseN; simp
theorem worse_zero_l (a : Nat) : worseN 0 a = 0 := by unfold worseN; simp

/-- The part of the step, of ends (a, b, star) that both have. -/
theorem tail_rel {lo hi : Nat} (a b : Nat) (star single : Bool) (r0 : List UInt8) (r : List (List UInt8)) (hr : r.length ≤ 1) (hb : star = true → b = hi) :
    ItemRel ((stepped hi single (a, b, star) (r0 :: r)).bind (finish lo hi)) (itemOf lo hi (a, b, star, single, 1) (withStep hi (a, b, star, single, 1) r)) := by
  match r, hr with
  | [], _ =>
    rw [stepped_one, withStep_nil]
    show ItemRel (finish lo hi (a, b, star, 1)) (itemOf lo hi (a, b, star, single, 1) (1, 1, b))
    by_cases h : a < lo ∨ hi < b ∨ b < a
    · rw [item_out h]; exact rel_zero (finish_bad h)
    · rw [item_in h, finish_good h (Nat.le_refl 1)]
      exact rel_good (by simp [members_inRange])
  | [st], _ =>
    rw [withStep_one]
    have hs := step_rel st
    have hle := (specStep_le st).2.1
    obtain ⟨q, hq⟩ : ∃ q, specStep st = q := ⟨_, rfl⟩
    rw [hq] at hs hle ⊢
    obtain ⟨n, v⟩ := q
    simp only at hs hle ⊢
    have hv : v = 0 ∨ v = 1 ∨ v = 2 := by omega
    rcases hv with rfl | rfl | rfl
    · rw [worse_zero_r, item_ver (by decide)]
      refine rel_zero ?_
      rcases hs.1 rfl with h | h
      · rw [stepped_bad h]; rfl
      · rw [stepped_two h]; exact finish_zero ..
    · obtain ⟨h1, h2⟩ := hs.2 rfl
      rw [stepped_two h1, show worseN 1 1 = 1 from rfl]
      show ItemRel (finish lo hi (a, if single then hi else b, star && !decide (1 < n), n)) _
      have he : (if (single && !star) = true then hi else b) = (if single then hi else b) := by
        cases single with
        | false => rfl
        | true => cases star with
          | false => rfl
          | true => simp [hb rfl]
      rw [he]
      generalize (if single then hi else b) = b2
      by_cases h : a < lo ∨ hi < b2 ∨ b2 < a
      · rw [item_out h]; exact rel_zero (finish_bad h)
      · rw [item_in h, finish_good h h2]
        refine rel_good ?_
        simp only [members_inRange]
        have : decide (n = 1) = !decide (1 < n) := by rw [Bool.eq_iff_iff]; simp; omega
        rw [this]
    · rw [show worseN 1 2 = 2 from rfl, item_ver (by decide)]; exact rel_two

/-- A verdict that is no longer fine: the item is open, or the code refuses it. -/
theorem tail_open {lo hi : Nat} (o : Option (Nat × Nat × Bool)) (sg : Bool) (e : Nat × Nat × Bool × Bool × Nat) (he : e.2.2.2.2 = 2) (r0 : List UInt8) (r : List (List UInt8)) :
    ItemRel (o.bind fun t => (stepped hi sg t (r0 :: r)).bind (finish lo hi)) (itemOf lo hi e (withStep hi e r)) := by
  match r with
  | [st] =>
    rw [withStep_one, he]
    have hs := step_rel st
    have hle := (specStep_le st).2.1
    obtain ⟨q, hq⟩ : ∃ q, specStep st = q := ⟨_, rfl⟩
    rw [hq] at hs hle ⊢
    obtain ⟨n, v⟩ := q
    simp only at hs hle ⊢
    have hv : v = 0 ∨ v = 1 ∨ v = 2 := by omega
    rcases hv with rfl | rfl | rfl
    · rw [worse_zero_r, item_ver (by decide)]
      refine rel_zero ?_
      cases o with
      | none => rfl
      | some t =>
        simp only [Option.bind_some]
        rcases hs.1 rfl with h | h
        · rw [stepped_bad h]; rfl
        · rw [stepped_two h]; exact finish_zero ..
    · rw [show worseN 2 1 = 2 from rfl, item_ver (by decide)]; exact rel_two
    · rw [show worseN 2 2 = 2 from rfl, item_ver (by decide)]; exact rel_two
  | [] => rw [withStep_nil, he, item_ver (by decide)]; exact rel_two
  | a :: b :: r => rw [withStep_many, he, item_ver (by decide)]; exact rel_two

/-- A verdict that is bad. -/
theorem tail_bad {lo hi : Nat} (o : Option Int) (e : Nat × Nat × Bool × Bool × Nat) (he : e.2.2.2.2 = 0) (r : List (List UInt8)) (h : o = none) : ItemRel o (itemOf lo hi e (withStep hi e r)) := by
  match r with
  | [st] => rw [withStep_one, he, worse_zero_l, item_ver (by decide)]; exact rel_zero h
  | [] => rw [withStep_nil, he, item_ver (by decide)]; exact rel_zero h
  | a :: b :: r => rw [withStep_many, he, item_ver (by decide)]; exact rel_zero h

/-- Ends of which one is too great: refused either way. -/
theorem tail_huge {lo hi : Nat} (hhi : hi ≤ 62) (a b : Nat) (single : Bool) (o : Option (Nat × Nat × Bool)) (ho : ∀ a' b' s', o = some (a', b', s') → huge ≤ a' ∨ (single = false ∧ huge ≤ b')) (r0 : List UInt8) (r : List (List UInt8)) (hr : r.length ≤ 1)
    (hbig : huge ≤ a ∨ (single = false ∧ huge ≤ b)) :
    ItemRel (o.bind fun t => (stepped hi single t (r0 :: r)).bind (finish lo hi)) (itemOf lo hi (a, b, false, single, 1) (withStep hi (a, b, false, single, 1) r)) := by
  have key : ∀ x y n st, (huge ≤ x ∨ huge ≤ y) → finish lo hi (x, y, st, n) = none := by
    intro x y n st h; unfold huge at h; exact finish_bad (by omega)
  have hnone : (o.bind fun t => (stepped hi single t (r0 :: r)).bind (finish lo hi)) = none := by
    cases o with
    | none => rfl
    | some t =>
      obtain ⟨a', b', s'⟩ := t
      have h := ho a' b' s' rfl
      simp only [Option.bind_some]
      match r, hr with
      | [], _ =>
        rw [stepped_one]
        refine key _ _ _ _ ?_
        rcases h with h | h
        · exact .inl h
        · exact .inr h.2
      | [st], _ =>
        cases hn : numberOf st with
        | none => rw [stepped_bad hn]; rfl
        | some n =>
          rw [stepped_two hn]
          refine key _ _ _ _ ?_
          rcases h with h | ⟨rfl, h⟩
          · exact .inl h
          · exact .inr h
  rw [hnone]
  match r, hr with
  | [], _ =>
    rw [withStep_nil]
    show ItemRel none (itemOf lo hi (a, b, false, single, 1) (1, 1, b))
    rw [item_out (by unfold huge at hbig; simp only; omega)]
    exact rel_zero rfl
  | [st], _ =>
    rw [withStep_one]
    have hle := (specStep_le st).2.1
    simp only [Bool.not_false, Bool.and_true]
    have hv : (specStep st).2 = 0 ∨ (specStep st).2 = 1 ∨ (specStep st).2 = 2 := by omega
    rcases hv with hv | hv | hv
    · rw [hv, worse_zero_r, item_ver (by decide)]; exact rel_zero rfl
    · rw [hv, show worseN 1 1 = 1 from rfl, item_out (by
        unfold huge at hbig
        cases single with
        | true => rcases hbig with h | ⟨h, _⟩
                  · simp only [if_true]; omega
                  · cases h
        | false => simp only [Bool.false_eq_true, if_false]; omega)]
      exact rel_zero rfl
    · rw [hv, show worseN 1 2 = 2 from rfl, item_ver (by decide)]; exact rel_two

/-- The whole law of an item. -/
theorem item_rel {lo hi : Nat} (hhi : hi ≤ 62) (days : Bool) {val : List UInt8 → Option Nat} {sval : List UInt8 → Nat × Nat} (hag : Agree val sval) (hs : ∀ l, (sval l).2 ≤ 2) (l : List UInt8) :
    ItemRel (rangeOf lo hi val l) (specItem lo hi days sval l) := by
  cases hps : pieces 47 l with
  | nil => exact absurd hps (pieces_ne _ _)
  | cons a r =>
    rw [specItem_of hps]
    cases hlh : pieces 45 a with
    | nil => exact absurd hlh (pieces_ne _ _)
    | cons l0 lr =>
      rw [rangeOf_of hps hlh]
      by_cases hr : 2 ≤ r.length
      · rw [if_pos hr]
        refine rel_bad ?_ (by simp)
        match r, hr with
        | b :: c :: r, _ => cases ends lo hi val (l0 :: lr) <;> rfl
      · rw [if_neg hr]
        have hr1 : r.length ≤ 1 := by omega
        by_cases hst : l0 = [42] ∨ l0 = [63]
        · rw [sends_star hst, ends_star hst]
          simp only [Option.bind_some]
          by_cases hop : lr ≠ [] ∨ (l0 = [63] ∧ days = false)
          · rw [if_pos hop]
            exact tail_open (some (lo, hi, true)) _ _ rfl a r
          · rw [if_neg hop]
            have hnil : lr = [] := by
              cases lr with
              | nil => rfl
              | cons x y => exact absurd (.inl (by simp)) hop
            subst hnil
            exact tail_rel lo hi true true a r hr1 (fun _ => rfl)
        · have h0 := hag l0
          have hv0 : (sval l0).2 = 0 ∨ (sval l0).2 = 1 ∨ (sval l0).2 = 2 := by have := hs l0; omega
          match lr with
          | [] =>
            rw [sends_one hst]
            rcases hv0 with hv | hv | hv
            · exact tail_bad _ _ hv r (by rw [ends_bad hst (h0.1 hv)]; rfl)
            · obtain ⟨h1, h2, h3⟩ := h0.2 hv
              rw [hv]
              by_cases hb : (sval l0).1 < huge
              · rw [ends_one hst (h1 hb)]
                exact tail_rel _ _ false true a r hr1 (fun e => by cases e)
              · have he : (sval l0).1 = huge := by omega
                refine tail_huge hhi _ _ true _ ?_ a r hr1 (.inl (by omega))
                intro a' b' s' e
                cases hval : val l0 with
                | none => rw [ends_bad hst hval] at e; cases e
                | some u => rw [ends_one hst hval] at e; cases e; exact .inl (h2 he _ hval)
            · exact tail_open _ _ _ hv a r
          | [l1] =>
            rw [sends_two hst]
            have h1 := hag l1
            have hv1 : (sval l1).2 = 0 ∨ (sval l1).2 = 1 ∨ (sval l1).2 = 2 := by have := hs l1; omega
            have hsg : decide ((l0 :: [l1]).length = 1) = false := by simp
            rw [hsg]
            by_cases hz : (sval l0).2 = 0 ∨ (sval l1).2 = 0
            · refine tail_bad _ _ (by show worseN _ _ = 0; unfold worseN; rw [if_pos hz]) r ?_
              rcases hz with hz | hz
              · rw [ends_bad hst (h0.1 hz)]; rfl
              · cases hval : val l0 with
                | none => rw [ends_bad hst hval]; rfl
                | some x => rw [ends_two_bad hst hval (h1.1 hz)]; rfl
            · by_cases hone : (sval l0).2 = 1 ∧ (sval l1).2 = 1
              · have hw : worseN (sval l0).2 (sval l1).2 = 1 := by rw [hone.1, hone.2]; rfl
                rw [hw]
                obtain ⟨a1, a2, a3⟩ := h0.2 hone.1
                obtain ⟨b1, b2, b3⟩ := h1.2 hone.2
                by_cases hb : (sval l0).1 < huge ∧ (sval l1).1 < huge
                · rw [ends_two hst (a1 hb.1) (b1 hb.2)]
                  exact tail_rel _ _ false false a r hr1 (fun e => by cases e)
                · refine tail_huge hhi _ _ false _ ?_ a r hr1 (by
                    by_cases h1 : huge ≤ (sval l0).1
                    · exact .inl h1
                    · exact .inr ⟨rfl, by omega⟩)
                  intro a' b' s' e
                  cases hval : val l0 with
                  | none => rw [ends_bad hst hval] at e; cases e
                  | some u =>
                    cases hval1 : val l1 with
                    | none => rw [ends_two_bad hst hval hval1] at e; cases e
                    | some y =>
                      rw [ends_two hst hval hval1] at e
                      cases e
                      by_cases he : (sval l0).1 = huge
                      · exact .inl (a2 he _ hval)
                      · exact .inr ⟨rfl, b2 (by omega) _ hval1⟩
              · exact tail_open _ _ _ (by show worseN _ _ = 2; unfold worseN; rw [if_neg hz]; omega) a r
          | l1 :: l2 :: lr =>
            rw [sends_many hst]
            refine tail_bad _ _ rfl r ?_
            cases hval : val l0 with
            | none => rw [ends_bad hst hval]; rfl
            | some x => rw [ends_many hst hval]; rfl

end Go.Proofs.YtmnjmhlodbifjaaGreatDoor.ItemPure
