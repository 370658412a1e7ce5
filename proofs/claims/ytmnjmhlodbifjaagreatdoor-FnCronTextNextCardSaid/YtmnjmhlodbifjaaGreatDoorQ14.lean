/- The plain law of items: what the code reads as an item is what the reference reads. Conditions: bounds within 0 to 62. · The reference's CronField: a list of items. Conditions: bounds within 0 to 62, texts of at most 65536 bytes. · The plain law of lists: what the code reads as a field is what the reference reads. Conditions: bounds within 0 to 62. · Names of months and days: the code's reading beside the reference's, in plain Lean. Conditions: none. -/
import Derived.Test.YtmnjmhlodbifjaaGreatDoorQ8
import Derived.Test.YtmnjmhlodbifjaaGreatDoorQ13
import Derived.Test.YtmnjmhlodbifjaaGreatDoorQ12
import Derived.Test.YtmnjmhlodbifjaaGreatDoorQ9
import Derived.Test.YtmnjmhlodbifjaaGreatDoorQ11

namespace Go.Proofs.YtmnjmhlodbifjaaGreatDoor.ItemPure
open Go.RowKit Go.Proofs.YtmnjmhlodbifjaaGreatDoor.NumPure Go.Proofs.YtmnjmhlodbifjaaGreatDoor.SplitPure Go.Proofs.YtmnjmhlodbifjaaGreatDoor.Bits Go.Proofs.YtmnjmhlodbifjaaGreatDoor.GetBits Go.Proofs.YtmnjmhlodbifjaaGreatDoor.Range Go.Proofs.YtmnjmhlodbifjaaGreatDoor.SpecEnds Go.Proofs.YtmnjmhlodbifjaaGreatDoor.SpecItem
def NumRel (o : Option Nat) (p : Nat × Nat) : Prop :=
  (p.2 = 0 → o = none) ∧ (p.2 = 1 → (p.1 < huge → o = some p.1) ∧ (p.1 = huge → ∀ u, o = some u → huge ≤ u) ∧ p.1 ≤ huge)
theorem number_rel (l : List UInt8) : NumRel (numberOf l) (specNumber l) := ⟨bad_none l, fine_read l⟩
theorem step_rel (l : List UInt8) : ((specStep l).2 = 0 → numberOf l = none ∨ numberOf l = some 0) ∧ ((specStep l).2 = 1 → numberOf l = some (specStep l).1 ∧ 1 ≤ (specStep l).1) := by
  have h := number_rel l
  have hle := specStep_le l
  unfold specStep at hle ⊢
  by_cases h0 : (specNumber l).2 = 0 ∨ (specNumber l).1 = 0
  · rw [if_pos h0]
    refine ⟨fun _ => ?_, fun e => by cases e⟩
    by_cases h1 : (specNumber l).2 = 0
    · exact .inl (h.1 h1)
    · rcases h0 with h0 | h0
      · exact absurd h0 h1
      · have hv := verdict_le l
        by_cases h2 : (specNumber l).2 = 1
        · right; rw [(h.2 h2).1 (by rw [h0]; unfold huge; omega), h0]
        · right; exact open_zero l (by omega) h0
  · rw [if_neg h0] at hle ⊢
    by_cases h3 : (specNumber l).1 = huge
    · rw [if_pos h3]; exact ⟨fun e => (by cases e), fun e => by cases e⟩
    · rw [if_neg h3] at hle ⊢
      refine ⟨fun e => absurd (.inl e) h0, fun e => ?_⟩
      obtain ⟨h4, h5⟩ := hle.2.2 e
      exact ⟨(h.2 e).1 h5, h4⟩
def Agree (val : List UInt8 → Option Nat) (sval : List UInt8 → Nat × Nat) : Prop := ∀ l, NumRel (val l) (sval l)
theorem members_inRange (low high step : Nat) : members low high step = inRange low high step := rfl
def ItemRel (o : Option Int) (r : CSet × Nat) : Prop := (r.2 = 0 → o = none) ∧ (r.2 = 1 → o = some (marked r.1.2 r.1.1))
theorem rel_bad {o : Option Int} {r : CSet × Nat} (h : o = none) (h1 : r.2 ≠ 1) : ItemRel o r := ⟨fun _ => h, fun e => absurd e h1⟩
theorem rel_open {o : Option Int} {r : CSet × Nat} (h : r.2 = 2) : ItemRel o r := ⟨fun e => by omega, fun e => by omega⟩
theorem finish_zero (lo hi a b : Nat) (st : Bool) : finish lo hi (a, b, st, 0) = none := by unfold finish; simp
theorem finish_bad {lo hi a b n : Nat} {st : Bool} (h : a < lo ∨ hi < b ∨ b < a) : finish lo hi (a, b, st, n) = none := by
  unfold finish; rw [if_pos]; simp only; omega
theorem finish_good {lo hi a b n : Nat} {st : Bool} (h : ¬ (a < lo ∨ hi < b ∨ b < a)) (hn : 1 ≤ n) : finish lo hi (a, b, st, n) = some (marked (inRange a b n) st) := by
  unfold finish; rw [if_neg]; simp only; omega
theorem item_ver {lo hi : Nat} {e : Nat × Nat × Bool × Bool × Nat} {n v h : Nat} (hv : v ≠ 1) : itemOf lo hi e (n, v, h) = (empty, v) := if_pos hv
theorem item_out {lo hi : Nat} {e : Nat × Nat × Bool × Bool × Nat} {n h : Nat} (hb : e.1 < lo ∨ hi < h ∨ h < e.1) : itemOf lo hi e (n, 1, h) = (empty, 0) := by
  unfold itemOf; rw [if_neg (by simp)]; exact if_pos hb
theorem item_in {lo hi : Nat} {e : Nat × Nat × Bool × Bool × Nat} {n h : Nat} (hb : ¬ (e.1 < lo ∨ hi < h ∨ h < e.1)) : itemOf lo hi e (n, 1, h) = ((e.2.2.1 && decide (n = 1), members e.1 h n), 1) := by
  unfold itemOf; rw [if_neg (by simp)]; exact if_neg hb
theorem rel_zero {o : Option Int} {c : CSet} (h : o = none) : ItemRel o (c, 0) := rel_bad h (by simp)
theorem rel_two {o : Option Int} {c : CSet} : ItemRel o (c, 2) := rel_open rfl
theorem rel_good {b : Int} {c : CSet} (h : b = marked c.2 c.1) : ItemRel (some b) (c, 1) := by subst h; exact ⟨(fun e => by cases e), fun _ => rfl⟩
theorem withStep_nil (hi : Nat) (e : Nat × Nat × Bool × Bool × Nat) : withStep hi e [] = (1, e.2.2.2.2, e.2.1) := rfl
theorem withStep_many (hi : Nat) (e : Nat × Nat × Bool × Bool × Nat) (a b : List UInt8) (r : List (List UInt8)) : withStep hi e (a :: b :: r) = (1, e.2.2.2.2, e.2.1) := rfl
theorem worse_zero_r (a : Nat) : worseN a 0 = 0 := by unfold worseN; simp
theorem worse_zero_l (a : Nat) : worseN 0 a = 0 := by unfold worseN; simp
theorem tail_rel {lo hi : Nat} (a b : Nat) (star single : Bool) (r0 : List UInt8) (r : List (List UInt8)) (hr : r.length ≤ 1) (hb : star = true → b = hi) :
    ItemRel ((stepped hi single (a, b, star) (r0 :: r)).bind (finish lo hi)) (itemOf lo hi (a, b, star, single, 1) (withStep hi (a, b, star, single, 1) r)) := by
  match r, hr with
  | [], _ =>
    rw [stepped_one, withStep_nil]
    show ItemRel (finish lo hi (a, b, star, 1)) (itemOf lo hi (a, b, star, single, 1) (1, 1, b))
    by_cases h : a < lo ∨ hi < b ∨ b < a
    · rw [item_out h]; exact rel_zero (finish_bad h)
    · rw [item_in h, finish_good h (Nat.le_refl 1)]
      exact rel_good (by simp [members_inRange])
  | [st], _ =>
    rw [withStep_one]
    have hs := step_rel st
    have hle := (specStep_le st).2.1
    obtain ⟨q, hq⟩ : ∃ q, specStep st = q := ⟨_, rfl⟩
    rw [hq] at hs hle ⊢
    obtain ⟨n, v⟩ := q
    simp only at hs hle ⊢
    have hv : v = 0 ∨ v = 1 ∨ v = 2 := by omega
    rcases hv with rfl | rfl | rfl
    · rw [worse_zero_r, item_ver (by decide)]
      refine rel_zero ?_
      rcases hs.1 rfl with h | h
      · rw [stepped_bad h]; rfl
      · rw [stepped_two h]; exact finish_zero ..
    · obtain ⟨h1, h2⟩ := hs.2 rfl
      rw [stepped_two h1, show worseN 1 1 = 1 from rfl]
      show ItemRel (finish lo hi (a, if single then hi else b, star && !decide (1 < n), n)) _
      have he : (if (single && !star) = true then hi else b) = (if single then hi else b) := by
        cases single with
        | false => rfl
        | true => cases star with
          | false => rfl
          | true => simp [hb rfl]
      rw [he]
      generalize (if single then hi else b) = b2
      by_cases h : a < lo ∨ hi < b2 ∨ b2 < a
      · rw [item_out h]; exact rel_zero (finish_bad h)
      · rw [item_in h, finish_good h h2]
        refine rel_good ?_
        simp only [members_inRange]
        have : decide (n = 1) = !decide (1 < n) := by rw [Bool.eq_iff_iff]; simp; omega
        rw [this]
    · rw [show worseN 1 2 = 2 from rfl, item_ver (by decide)]; exact rel_two
theorem tail_open {lo hi : Nat} (o : Option (Nat × Nat × Bool)) (sg : Bool) (e : Nat × Nat × Bool × Bool × Nat) (he : e.2.2.2.2 = 2) (r0 : List UInt8) (r : List (List UInt8)) :
    ItemRel (o.bind fun t => (stepped hi sg t (r0 :: r)).bind (finish lo hi)) (itemOf lo hi e (withStep hi e r)) := by
  match r with
  | [st] =>
    rw [withStep_one, he]
    have hs := step_rel st
    have hle := (specStep_le st).2.1
    obtain ⟨q, hq⟩ : ∃ q, specStep st = q := ⟨_, rfl⟩
    rw [hq] at hs hle ⊢
    obtain ⟨n, v⟩ := q
    simp only at hs hle ⊢
    have hv : v = 0 ∨ v = 1 ∨ v = 2 := by omega
    rcases hv with rfl | rfl | rfl
    · rw [worse_zero_r, item_ver (by decide)]
      refine rel_zero ?_
      cases o with
      | none => rfl
      | some t =>
        simp only [Option.bind_some]
        rcases hs.1 rfl with h | h
        · rw [stepped_bad h]; rfl
        · rw [stepped_two h]; exact finish_zero ..
    · rw [show worseN 2 1 = 2 from rfl, item_ver (by decide)]; exact rel_two
    · rw [show worseN 2 2 = 2 from rfl, item_ver (by decide)]; exact rel_two
  | [] => rw [withStep_nil, he, item_ver (by decide)]; exact rel_two
  | a :: b :: r => rw [withStep_many, he, item_ver (by decide)]; exact rel_two
theorem tail_bad {lo hi : Nat} (o : Option Int) (e : Nat × Nat × Bool × Bool × Nat) (he : e.2.2.2.2 = 0) (r : List (List UInt8)) (h : o = none) : ItemRel o (itemOf lo hi e (withStep hi e r)) := by
  match r with
  | [st] => rw [withStep_one, he, worse_zero_l, item_ver (by decide)]; exact rel_zero h
  | [] => rw [withStep_nil, he, item_ver (by decide)]; exact rel_zero h
  | a :: b :: r => rw [withStep_many, he, item_ver (by decide)]; exact rel_zero h
theorem tail_huge {lo hi : Nat} (hhi : hi ≤ 62) (a b : Nat) (single : Bool) (o : Option (Nat × Nat × Bool)) (ho : ∀ a' b' s', o = some (a', b', s') → huge ≤ a' ∨ (single = false ∧ huge ≤ b')) (r0 : List UInt8) (r : List (List UInt8)) (hr : r.length ≤ 1)
    (hbig : huge ≤ a ∨ (single = false ∧ huge ≤ b)) :
    ItemRel (o.bind fun t => (stepped hi single t (r0 :: r)).bind (finish lo hi)) (itemOf lo hi (a, b, false, single, 1) (withStep hi (a, b, false, single, 1) r)) := by
  have key : ∀ x y n st, (huge ≤ x ∨ huge ≤ y) → finish lo hi (x, y, st, n) = none := by
    intro x y n st h; unfold huge at h; exact finish_bad (by omega)
  have hnone : (o.bind fun t => (stepped hi single t (r0 :: r)).bind (finish lo hi)) = none := by
    cases o with
    | none => rfl
    | some t =>
      obtain ⟨a', b', s'⟩ := t
      have h := ho a' b' s' rfl
      simp only [Option.bind_some]
      match r, hr with
      | [], _ =>
        rw [stepped_one]
        refine key _ _ _ _ ?_
        rcases h with h | h
        · exact .inl h
        · exact .inr h.2
      | [st], _ =>
        cases hn : numberOf st with
        | none => rw [stepped_bad hn]; rfl
        | some n =>
          rw [stepped_two hn]
          refine key _ _ _ _ ?_
          rcases h with h | ⟨rfl, h⟩
          · exact .inl h
          · exact .inr h
  rw [hnone]
  match r, hr with
  | [], _ =>
    rw [withStep_nil]
    show ItemRel none (itemOf lo hi (a, b, false, single, 1) (1, 1, b))
    rw [item_out (by unfold huge at hbig; simp only; omega)]
    exact rel_zero rfl
  | [st], _ =>
    rw [withStep_one]
    have hle := (specStep_le st).2.1
    simp only [Bool.not_false, Bool.and_true]
    have hv : (specStep st).2 = 0 ∨ (specStep st).2 = 1 ∨ (specStep st).2 = 2 := by omega
    rcases hv with hv | hv | hv
    · rw [hv, worse_zero_r, item_ver (by decide)]; exact rel_zero rfl
    · rw [hv, show worseN 1 1 = 1 from rfl, item_out (by
        unfold huge at hbig
        cases single with
        | true => rcases hbig with h | ⟨h, _⟩
                  · simp only [if_true]; omega
                  · cases h
        | false => simp only [Bool.false_eq_true, if_false]; omega)]
      exact rel_zero rfl
    · rw [hv, show worseN 1 2 = 2 from rfl, item_ver (by decide)]; exact rel_two
theorem item_rel {lo hi : Nat} (hhi : hi ≤ 62) (days : Bool) {val : List UInt8 → Option Nat} {sval : List UInt8 → Nat × Nat} (hag : Agree val sval) (hs : ∀ l, (sval l).2 ≤ 2) (l : List UInt8) :
    ItemRel (rangeOf lo hi val l) (specItem lo hi days sval l) := by
  cases hps : pieces 47 l with
  | nil => exact absurd hps (pieces_ne _ _)
  | cons a r =>
    rw [specItem_of hps]
    cases hlh : pieces 45 a with
    | nil => exact absurd hlh (pieces_ne _ _)
    | cons l0 lr =>
      rw [rangeOf_of hps hlh]
      by_cases hr : 2 ≤ r.length
      · rw [if_pos hr]
        refine rel_bad ?_ (by simp)
        match r, hr with
        | b :: c :: r, _ => cases ends lo hi val (l0 :: lr) <;> rfl
      · rw [if_neg hr]
        have hr1 : r.length ≤ 1 := by omega
        by_cases hst : l0 = [42] ∨ l0 = [63]
        · rw [sends_star hst, ends_star hst]
          simp only [Option.bind_some]
          by_cases hop : lr ≠ [] ∨ (l0 = [63] ∧ days = false)
          · rw [if_pos hop]
            exact tail_open (some (lo, hi, true)) _ _ rfl a r
          · rw [if_neg hop]
            have hnil : lr = [] := by
              cases lr with
              | nil => rfl
              | cons x y => exact absurd (.inl (by simp)) hop
            subst hnil
            exact tail_rel lo hi true true a r hr1 (fun _ => rfl)
        · have h0 := hag l0
          have hv0 : (sval l0).2 = 0 ∨ (sval l0).2 = 1 ∨ (sval l0).2 = 2 := by have := hs l0; omega
          match lr with
          | [] =>
            rw [sends_one hst]
            rcases hv0 with hv | hv | hv
            · exact tail_bad _ _ hv r (by rw [ends_bad hst (h0.1 hv)]; rfl)
            · obtain ⟨h1, h2, h3⟩ := h0.2 hv
              rw [hv]
              by_cases hb : (sval l0).1 < huge
              · rw [ends_one hst (h1 hb)]
                exact tail_rel _ _ false true a r hr1 (fun e => by cases e)
              · have he : (sval l0).1 = huge := by omega
                refine tail_huge hhi _ _ true _ ?_ a r hr1 (.inl (by omega))
                intro a' b' s' e
                cases hval : val l0 with
                | none => rw [ends_bad hst hval] at e; cases e
                | some u => rw [ends_one hst hval] at e; cases e; exact .inl (h2 he _ hval)
            · exact tail_open _ _ _ hv a r
          | [l1] =>
            rw [sends_two hst]
            have h1 := hag l1
            have hv1 : (sval l1).2 = 0 ∨ (sval l1).2 = 1 ∨ (sval l1).2 = 2 := by have := hs l1; omega
            have hsg : decide ((l0 :: [l1]).length = 1) = false := by simp
            rw [hsg]
            by_cases hz : (sval l0).2 = 0 ∨ (sval l1).2 = 0
            · refine tail_bad _ _ (by show worseN _ _ = 0; unfold worseN; rw [if_pos hz]) r ?_
              rcases hz with hz | hz
              · rw [ends_bad hst (h0.1 hz)]; rfl
              · cases hval : val l0 with
                | none => rw [ends_bad hst hval]; rfl
                | some x => rw [ends_two_bad hst hval (h1.1 hz)]; rfl
            · by_cases hone : (sval l0).2 = 1 ∧ (sval l1).2 = 1
              · have hw : worseN (sval l0).2 (sval l1).2 = 1 := by rw [hone.1, hone.2]; rfl
                rw [hw]
                obtain ⟨a1, a2, a3⟩ := h0.2 hone.1
                obtain ⟨b1, b2, b3⟩ := h1.2 hone.2
                by_cases hb : (sval l0).1 < huge ∧ (sval l1).1 < huge
                · rw [ends_two hst (a1 hb.1) (b1 hb.2)]
                  exact tail_rel _ _ false false a r hr1 (fun e => by cases e)
                · refine tail_huge hhi _ _ false _ ?_ a r hr1 (by
                    by_cases h1 : huge ≤ (sval l0).1
                    · exact .inl h1
                    · exact .inr ⟨rfl, by omega⟩)
                  intro a' b' s' e
                  cases hval : val l0 with
                  | none => rw [ends_bad hst hval] at e; cases e
                  | some u =>
                    cases hval1 : val l1 with
                    | none => rw [ends_two_bad hst hval hval1] at e; cases e
                    | some y =>
                      rw [ends_two hst hval hval1] at e
                      cases e
                      by_cases he : (sval l0).1 = huge
                      · exact .inl (a2 he _ hval)
                      · exact .inr ⟨rfl, b2 (by omega) _ hval1⟩
              · exact tail_open _ _ _ (by show worseN _ _ = 2; unfold worseN; rw [if_neg hz]; omega) a r
          | l1 :: l2 :: lr =>
            rw [sends_many hst]
            refine tail_bad _ _ rfl r ?_
            cases hval : val l0 with
            | none => rw [ends_bad hst hval]; rfl
            | some x => rw [ends_many hst hval]; rfl
end Go.Proofs.YtmnjmhlodbifjaaGreatDoor.ItemPure
namespace Go.Proofs.YtmnjmhlodbifjaaGreatDoor.SpecField
open Go Go.RowKit Go.Proofs.YtmnjmhlodbifjaaGreatDoor.Mem Go.Proofs.YtmnjmhlodbifjaaGreatDoor.NumPure Go.Proofs.YtmnjmhlodbifjaaGreatDoor.Split Go.Proofs.YtmnjmhlodbifjaaGreatDoor.SplitPure Go.Proofs.YtmnjmhlodbifjaaGreatDoor.SpecPieces Go.Proofs.YtmnjmhlodbifjaaGreatDoor.SpecEnds Go.Proofs.YtmnjmhlodbifjaaGreatDoor.Set Go.Proofs.YtmnjmhlodbifjaaGreatDoor.Bits Go.Proofs.YtmnjmhlodbifjaaGreatDoor.SpecItem Go.Proofs.YtmnjmhlodbifjaaGreatDoor.Union
set_option linter.unusedVariables false
def specList (lo hi : Nat) (days : Bool) (sval : List UInt8 → Nat × Nat) : List (List UInt8) → CSet → Nat → CSet × Nat
  | [], s, v => (s, v)
  | p :: r, s, v => if p = [] then specList lo hi days sval r s (worseN v 2)
    else specList lo hi days sval r (union s (specItem lo hi days sval p).1) (worseN v (specItem lo hi days sval p).2)
def specField (lo hi : Nat) (days : Bool) (sval : List UInt8 → Nat × Nat) (l : List UInt8) : CSet × Nat :=
  if (specList lo hi days sval (pieces 44 l) empty 1).2 ≠ 1 then (empty, (specList lo hi days sval (pieces 44 l) empty 1).2) else (specList lo hi days sval (pieces 44 l) empty 1)
theorem item_two {lo hi : Nat} {days : Bool} {sval : List UInt8 → Nat × Nat} {l : List UInt8} (hlo : lo ≤ 62) (hhi : hi ≤ 62) (hs : ∀ l, (sval l).2 ≤ 2 ∧ (sval l).1 ≤ huge) : (specItem lo hi days sval l).2 ≤ 2 := by
  have hi0 : ∀ e t, t.2.1 ≤ 2 → (itemOf lo hi e t).2 ≤ 2 := by
    intro e t h
    unfold itemOf
    split
    · exact h
    · split <;> simp
  unfold specItem
  split
  · simp
  · split
    · simp
    · rename_i a r _ _
      have h := specEnds_le (days := days) (ps := SplitPure.pieces 45 a) hlo hhi hs
      exact hi0 _ _ (withStep_le (e := specEnds lo hi days sval (SplitPure.pieces 45 a)) (r := r) hhi h.2.1 h.2.2).2.1
theorem worse_two {a b : Nat} (h1 : a ≤ 2) (h2 : b ≤ 2) : worseN a b ≤ 2 := by unfold worseN; split <;> omega
theorem field_start (lo hi : Nat) (kind : Int) (w w1 : World)
    (hb : Below (((w.alloc (.cells #[.int .i64 (lo : Int), .int .i64 (hi : Int), .int .i64 kind] 186)).alloc (.cells (setArr false fun _ => false) 55)).alloc (.cells (setArr false fun _ => false) 55)).heap.size
      (((w.alloc (.cells #[.int .i64 (lo : Int), .int .i64 (hi : Int), .int .i64 kind] 186)).alloc (.cells (setArr false fun _ => false) 55)).alloc (.cells (setArr false fun _ => false) 55)) w1) :
    Box3 w1 w.heap.size (.int .i64 (lo : Int)) (.int .i64 (hi : Int)) (.int .i64 kind) ∧ SetAt w1 (w.heap.size + 1) false (fun _ => false) ∧ SetAt w1 (w.heap.size + 1 + 1) false (fun _ => false) ∧ Below w.heap.size w w1 := by
  have h1 := box3_new w 186 (.int .i64 (lo : Int)) (.int .i64 (hi : Int)) (.int .i64 kind)
  have hsz : (w.alloc (.cells #[.int .i64 (lo : Int), .int .i64 (hi : Int), .int .i64 kind] 186)).heap.size = w.heap.size + 1 := by simp
  have hbw : Below w.heap.size w (w.alloc (.cells #[.int .i64 (lo : Int), .int .i64 (hi : Int), .int .i64 kind] 186)) := (Below.refl _ _).alloc (Nat.le_refl _) _
  generalize w.alloc (.cells #[.int .i64 (lo : Int), .int .i64 (hi : Int), .int .i64 kind] 186) = wa at h1 hb hsz hbw
  have h2 := SetAt.new wa false fun _ => false
  have hb2 : Below wa.heap.size wa (wa.alloc (.cells (setArr false fun _ => false) 55)) := (Below.refl _ _).alloc (Nat.le_refl _) _
  have hsz2 : (wa.alloc (.cells (setArr false fun _ => false) 55)).heap.size = wa.heap.size + 1 := by simp
  generalize wa.alloc (.cells (setArr false fun _ => false) 55) = wb at h2 hb hb2 hsz2
  have h3 := SetAt.new wb false fun _ => false
  have hb3 : Below wb.heap.size wb (wb.alloc (.cells (setArr false fun _ => false) 55)) := (Below.refl _ _).alloc (Nat.le_refl _) _
  have hsz3 : (wb.alloc (.cells (setArr false fun _ => false) 55)).heap.size = wb.heap.size + 1 := by simp
  generalize wb.alloc (.cells (setArr false fun _ => false) 55) = wc at h3 hb hb3 hsz3
  refine ⟨((h1.below hb2).below hb3).below hb, ?_, ?_, hbw.trans ((hb2.mono (by omega)).trans ((hb3.mono (by omega)).trans (hb.mono (by omega))))⟩
  · rw [← hsz]; exact (h2.below hb3 (by omega)).below hb (by omega)
  · rw [← hsz, ← hsz2]; exact h3.below hb (by omega)
def Rel (lo hi : Nat) (kind : Int) (days : Bool) (sval : List UInt8 → Nat × Nat) (ps : List (List UInt8)) (t : CSet × Nat) (w0 : World) (g : Nat) (v i : Value) (wr : World) : Prop :=
  ∃ (k n : Nat) (c : CSet), i = .int .i64 (k : Int) ∧ v = .int .i64 (n : Int) ∧ n ≤ 2 ∧ k ≤ ps.length ∧ specList lo hi days sval (ps.drop k) c n = t ∧
    Box3 wr w0.heap.size (.int .i64 (lo : Int)) (.int .i64 (hi : Int)) (.int .i64 kind) ∧ SetAt wr (w0.heap.size + 1) false (fun _ => false) ∧ SetAt wr (w0.heap.size + 1 + 1) c.1 c.2 ∧ Strs wr g ps ∧ Below w0.heap.size w0 wr
theorem rel_next {lo hi : Nat} {kind : Int} {days : Bool} {sval : List UInt8 → Nat × Nat} {ps : List (List UInt8)} {t : CSet × Nat} {w0 wr w3 : World} {g k n m : Nat} {sa sb : Bool} {fa fb : Nat → Bool}
    (hk : k + 1 ≤ ps.length) (hn : worseN n m ≤ 2) (ht : specList lo hi days sval (ps.drop (k + 1)) (union (sa, fa) (sb, fb)) (worseN n m) = t)
    (hbx : Box3 wr w0.heap.size (.int .i64 (lo : Int)) (.int .i64 (hi : Int)) (.int .i64 kind)) (h1 : SetAt wr (w0.heap.size + 1) false (fun _ => false)) (h2 : SetAt wr (w0.heap.size + 1 + 1) sa fa) (hS : Strs wr g ps) (hb : Below w0.heap.size w0 wr) (hg : w0.heap.size + 1 + 1 < g)
    (hb2 : Below wr.heap.size wr w3) :
    Rel lo hi kind days sval ps t w0 g (.int .i64 (worseN n m : Int)) (.int .i64 ((k : Int) + 1)) (w3.setRow (w0.heap.size + 1 + 1) (setArr (sa || sb) fun i => fa i || fb i)) := by
  have e1 := hbx.below hb2
  have e2 := h1.below hb2 h1.lt
  have e3 := h2.below hb2 h2.lt
  have e4 := hS.below hb2
  have e5 := hb.trans (hb2.mono hb.size)
  have hbb := below_setRow e5 (show w0.heap.size ≤ w0.heap.size + 1 + 1 by omega) (setArr (sa || sb) fun i => fa i || fb i)
  have hkeep : ∀ b j, b ≠ w0.heap.size + 1 + 1 → (w3.setRow (w0.heap.size + 1 + 1) (setArr (sa || sb) fun i => fa i || fb i)).cell? ⟨b, j, none⟩ = w3.cell? ⟨b, j, none⟩ := by
    intro b j hne
    unfold World.cell?
    rw [show (w3.setRow (w0.heap.size + 1 + 1) (setArr (sa || sb) fun i => fa i || fb i)).heap[b]? = w3.heap[b]? from setRow_other w3 _ b _ hne]
  have hsz : (w3.setRow (w0.heap.size + 1 + 1) (setArr (sa || sb) fun i => fa i || fb i)).heap.size = w3.heap.size := by simp [World.setRow]
  refine ⟨k + 1, worseN n m, union (sa, fa) (sb, fb), by go_num, rfl, hn, hk, ht, ?_, setRow_else e2 (by omega), setRow_at e3, ?_, hbb⟩
  · exact ⟨by rw [hsz]; exact e1.1, by rw [hkeep _ _ (by omega)]; exact e1.2.1, by rw [hkeep _ _ (by omega)]; exact e1.2.2.1, by rw [hkeep _ _ (by omega)]; exact e1.2.2.2⟩
  · exact ⟨by rw [hsz]; exact e4.1, fun i p hp => by rw [hkeep _ _ (by omega)]; exact e4.2 i p hp⟩
theorem after_item {wr w2 : World} {b : Nat} {sa sb : Bool} {fa fb : Nat → Bool} (h2 : SetAt wr b sa fa) (hb2 : Below wr.heap.size wr w2) :
    SetAt ((w2.alloc (.cells (setArr false fun _ => false) 55)).setRow w2.heap.size (setArr sb fb)) b sa fa ∧
    SetAt ((w2.alloc (.cells (setArr false fun _ => false) 55)).setRow w2.heap.size (setArr sb fb)) w2.heap.size sb fb ∧
    Below wr.heap.size wr ((w2.alloc (.cells (setArr false fun _ => false) 55)).setRow w2.heap.size (setArr sb fb)) := by
  have e1 := h2.below hb2 h2.lt
  have hs := hb2.size
  have hlt := h2.lt
  exact ⟨setRow_else ((Below.heap_alloc w2 _ _ e1.lt).trans e1) (by omega), setRow_at (SetAt.new w2 _ _), below_setRow (hb2.alloc hb2.size _) hb2.size _⟩
set_option maxHeartbeats 2000000 in
set_option maxRecDepth 100000 in
theorem field_any (s : ByteArray) (lo hi : Nat) (kind : Int) (days : Bool) (sval : List UInt8 → Nat × Nat) (w : World) (hlo : lo ≤ 62) (hhi : hi ≤ 62) (hs : s.size ≤ 65536)
    (hd : days = (kind == 3 || kind == 5)) (hval : ValueAt kind sval) :
    Calls Tryz.prog 116 #[.agg #[.int .i64 (lo : Int), .int .i64 (hi : Int), .int .i64 kind], .string s] w fun e w' => ItemRes (specField lo hi days sval s.data.toList) e ∧ Below w.heap.size w w' := by
  have HP := Lib.hid (fun w => pieces_any s 44 w hs)
  have HL := Lib.hid (pieces_sum 44 s.data.toList)
  have hcount := pieces_count 44 s.data.toList
  rw [length_toList] at hcount HL
  unfold specField
  obtain ⟨ps, Hps⟩ : ∃ ps, Hid (pieces 44 s.data.toList = ps) := ⟨_, Lib.hid rfl⟩
  rw [Hps.out] at HP HL hcount ⊢
  have HI := Lib.hid (fun (p : List UInt8) (h : p.length ≤ 65536) (w : World) => item_any (ofL p) lo hi kind days sval w hlo hhi (by rw [size_ofL]; exact h) hd hval)
  have H2 := Lib.hid (fun l => item_two (lo := lo) (hi := hi) (days := days) (l := l) hlo hhi hval.1)
  clear hd hval
  obtain ⟨t, Ht⟩ : ∃ t, Hid (specList lo hi days sval ps empty 1 = t) := ⟨_, Lib.hid rfl⟩
  rw [Ht.out]
  obtain ⟨R, HR⟩ : ∃ R, Hid ((if t.2 ≠ 1 then (empty, t.2) else t) = R) := ⟨_, Lib.hid rfl⟩
  rw [HR.out]
  go_enter Tryz.func116, Tryz.ntmps116
  go_wp2_with (first
    | (with_reducible refine wpList_alloc_set rfl rfl ?_)
    | (go_at_call 140; refine (HP.out _).mono ?_; rintro e w1 ⟨g, cap, rfl, hcap, hg, hS, hb1⟩; (have HX := Lib.hid (And.intro (field_start lo hi kind w w1 hb1) hS))))
  have hg2 : w.heap.size + 1 + 1 < g := by simp at hg; omega
  clear hb1 hg hS
  go_loopw [7, 9, 10, 11, 15] (fun v _ _ _ i wr => Hid (Rel lo hi kind days sval ps t w g v i wr) ∧ (∃ k : Nat, i = .int .i64 (k : Int) ∧ k ≤ ps.length) ∧ ∃ n : Nat, v = .int .i64 (n : Int)) (fun _ _ _ _ i _ => ps.length - (intOf i).toNat)
  case atStart => exact ⟨Lib.hid ⟨0, 1, empty, rfl, rfl, by omega, Nat.zero_le _, Ht.out, HX.out.1.1, HX.out.1.2.1, HX.out.1.2.2.1, HX.out.2, HX.out.1.2.2.2⟩, ⟨0, rfl, Nat.zero_le _⟩, 1, rfl⟩
  case round =>
    obtain ⟨⟨k, n, ⟨sa, fa⟩, rfl, rfl, hn, hk, HT, hbox, hs1, hs2, hS, hbel⟩, -⟩ := hrel
    have HT := Lib.hid HT
    clear HX
    by_cases hlt : k < ps.length
    · have hat : ps[k]? = some ps[k] := List.getElem?_eq_getElem hlt
      have hmem : ps[k] ∈ ps := List.getElem_mem hlt
      have hpl := HL.out _ hmem
      have hck := hS.2 k _ hat
      have hd : ps.drop k = ps[k] :: ps.drop (k + 1) := List.drop_eq_getElem_cons hlt
      rw [hd] at HT
      obtain ⟨p, hp⟩ : ∃ p, ps[k] = p := ⟨_, rfl⟩
      rw [hp] at HT hck hpl
      have hpl2 : p.length ≤ 65536 := by omega
      clear hd hat hmem hp hpl
      have HB := Lib.hid (And.intro hbox (And.intro hs1 (And.intro hs2 (And.intro hS hbel))))
      obtain ⟨hc0, hc1, hc2⟩ := hbox.2
      clear hbox hs1 hs2 hS hbel
      by_cases hpe : p = []
      · have HT2 : Hid (specList lo hi days sval (ps.drop (k + 1)) (sa, fa) (worseN n 2) = t) := Lib.hid (by rw [← HT.out, hpe]; simp only [specList, if_pos])
        subst hpe
        have hq : ((ofL ([] : List UInt8)).toList == []) = true := by rw [ByteArray.toList_eq, toList_ofL]; rfl
        clear HT
        go_wp2_with (go_at_call 46; refine (worse_any _ 2 _ hn (by omega)).mono ?_; rintro e w5 ⟨rfl, rfl⟩)
        go_roundw
        case rel => exact ⟨Lib.hid ⟨k + 1, worseN n 2, (sa, fa), by go_num, rfl, worse_two hn (by omega), by omega, HT2.out, HB.out.1, HB.out.2.1, HB.out.2.2.1, HB.out.2.2.2.1, HB.out.2.2.2.2⟩, ⟨k + 1, by go_num, by omega⟩, _, rfl⟩
        case measure => simp [intOf]; omega
      · have hq : ((ofL p).toList == []) = false := by rw [ByteArray.toList_eq, toList_ofL]; simpa using hpe
        have HIp := Lib.hid (HI.out p hpl2)
        have hm := H2.out p
        rw [toList_ofL] at HIp
        have HT2 : Hid (specList lo hi days sval (ps.drop (k + 1)) (union (sa, fa) (specItem lo hi days sval p).1) (worseN n (specItem lo hi days sval p).2) = t) := Lib.hid (by rw [← HT.out]; simp only [specList, if_neg hpe])
        obtain ⟨q, hq2⟩ : ∃ q, specItem lo hi days sval p = q := ⟨_, rfl⟩
        rw [hq2] at HIp HT2 hm
        obtain ⟨⟨sb, fb⟩, m⟩ := q
        simp only at hm
        clear hq2 hpe HT
        go_wp2_with (first
          | (go_at_call 141; refine (HIp.out _).mono ?_; rintro e w2 ⟨rfl, hb2⟩; (have HF2 := Lib.hid (after_item (sb := sb) (fb := fb) HB.out.2.2.1 hb2)))
          | (with_reducible refine wpList_alloc_set rfl rfl ?_)
          | (with_reducible refine wpList_store_set rfl (.tmp 10) (.tmp 27) rfl w2.heap.size false sb (fun _ => false) fb rfl rfl (SetAt.new w2 _ _) ?_)
          | (with_reducible refine wpList_load_set rfl (.tmp 6) rfl (w.heap.size + 1 + 1) sa fa rfl (by exact HF2.out.1) ?_)
          | (with_reducible refine wpList_load_set rfl (.tmp 10) rfl w2.heap.size sb fb rfl (by exact HF2.out.2.1) ?_)
          | (go_at_call 142; refine (union_any sa sb fa fb _).mono ?_; rintro e w3 ⟨rfl, hb3⟩; (have HF3 := Lib.hid (HF2.out.2.2.trans (hb3.mono HF2.out.2.2.size))))
          | (go_at_call 46; refine (worse_any _ _ _ hn hm).mono ?_; rintro e w5 ⟨rfl, rfl⟩)
          | (with_reducible refine wpList_store_set rfl (.tmp 6) (.tmp 31) rfl (w.heap.size + 1 + 1) sa (sa || sb) fa (fun i => fa i || fb i) rfl rfl (by exact HB.out.2.2.1.below HF3.out HB.out.2.2.1.lt) ?_))
        have HN := Lib.hid (rel_next (kind := kind) (show k + 1 ≤ ps.length from hlt) (worse_two hn hm) HT2.out HB.out.1 HB.out.2.1 HB.out.2.2.1 HB.out.2.2.2.1 HB.out.2.2.2.2 hg2 HF3.out)
        go_roundw
        case rel => exact ⟨HN, ⟨k + 1, by go_num, by omega⟩, _, rfl⟩
        case measure => simp [intOf]; omega
    · have HT2 : Hid (t = ((sa, fa), n)) := Lib.hid (by rw [← HT.out, List.drop_of_length_le (by omega)]; rfl)
      have hb2 := setRow_at (star' := sa) (f' := fa) hs1
      by_cases hn1 : n = 1
      · subst hn1
        go_wp2_with (first
          | (with_reducible refine wpList_load_set rfl (.tmp 6) rfl (w.heap.size + 1 + 1) sa fa rfl (by exact hs2) ?_)
          | (with_reducible refine wpList_store_set rfl (.tmp 4) (.tmp 40) rfl (w.heap.size + 1) false sa (fun _ => false) fa rfl rfl (by exact hs1) ?_))
        refine bodyPost_ret (results_set_tmp rfl _ _ (w.heap.size + 1) sa fa rfl (setRow_at hs1)) rfl ?_
        exact ⟨by rw [← HR.out, HT2.out, if_neg (by simp)]; rfl, below_setRow hbel (by omega) _⟩
      · have hnq : ((n : Int) != 1) = true := by rw [bne_iff_ne]; omega
        go_wp2_with (first
          | (with_reducible refine wpList_build_set rfl rfl ?_)
          | (with_reducible refine wpList_store_set rfl (.tmp 4) (.tmp 38) rfl (w.heap.size + 1) false false (fun _ => false) (fun _ => false) rfl rfl (by exact hs1) ?_))
        refine bodyPost_ret (results_set_tmp rfl _ _ (w.heap.size + 1) false (fun _ => false) rfl (setRow_at hs1)) rfl ?_
        exact ⟨by rw [← HR.out, HT2.out, if_pos hn1]; rfl, below_setRow hbel (by omega) _⟩
end Go.Proofs.YtmnjmhlodbifjaaGreatDoor.SpecField
namespace Go.Proofs.YtmnjmhlodbifjaaGreatDoor.FieldRel
open Go.RowKit Go.Proofs.YtmnjmhlodbifjaaGreatDoor.NumPure Go.Proofs.YtmnjmhlodbifjaaGreatDoor.SplitPure Go.Proofs.YtmnjmhlodbifjaaGreatDoor.Bits Go.Proofs.YtmnjmhlodbifjaaGreatDoor.Range Go.Proofs.YtmnjmhlodbifjaaGreatDoor.SpecEnds Go.Proofs.YtmnjmhlodbifjaaGreatDoor.SpecItem Go.Proofs.YtmnjmhlodbifjaaGreatDoor.ItemPure Go.Proofs.YtmnjmhlodbifjaaGreatDoor.FieldPure Go.Proofs.YtmnjmhlodbifjaaGreatDoor.Field Go.Proofs.YtmnjmhlodbifjaaGreatDoor.Union Go.Proofs.YtmnjmhlodbifjaaGreatDoor.SpecField Go.Proofs.YtmnjmhlodbifjaaGreatDoor.SpecBits
theorem worse_zero {a b : Nat} (h : worseN a b = 0) : a = 0 ∨ b = 0 := by
  unfold worseN at h; split at h
  · assumption
  · omega
theorem worse_one {a b : Nat} (h : worseN a b = 1) : a = 1 ∧ b = 1 := by
  unfold worseN at h; split at h
  · omega
  · omega
theorem marked_or (p q : Nat → Bool) (s t : Bool) : Go.bits .or .u64 (marked p s) (marked q t) = marked (fun i => p i || q i) (s || t) := by
  unfold marked
  rw [bits_or]
  refine bset_congr fun i _ => ?_
  dsimp only
  cases p i <;> cases q i <;> cases s <;> cases t <;> cases decide (i = 63) <;> rfl
theorem item_top {lo hi : Nat} {days : Bool} {sval : List UInt8 → Nat × Nat} {l : List UInt8} (hhi : hi ≤ 62) (h : (specItem lo hi days sval l).2 = 1) : (specItem lo hi days sval l).1.2 63 = false := by
  have key : ∀ e t, (itemOf lo hi e t).2 = 1 → (itemOf lo hi e t).1.2 63 = false := by
    intro e t h
    unfold itemOf at h ⊢
    by_cases h1 : t.2.1 ≠ 1
    · rw [if_pos h1]; rfl
    · rw [if_neg h1] at h ⊢
      by_cases h2 : e.1 < lo ∨ hi < t.2.2 ∨ t.2.2 < e.1
      · rw [if_pos h2]; rfl
      · rw [if_neg h2]
        show members _ _ _ 63 = false
        unfold members
        have : decide (63 ≤ t.2.2) = false := decide_eq_false (by omega)
        rw [this]; simp
  unfold specItem at h ⊢
  split at h
  · rfl
  · split at h
    · rename_i h2; rw [if_pos h2]; rfl
    · rename_i h2; rw [if_neg h2]; exact key _ _ h
theorem list_rel {lo hi : Nat} (hhi : hi ≤ 62) (days : Bool) {val : List UInt8 → Option Nat} {sval : List UInt8 → Nat × Nat} (hag : Agree val sval) (hs : ∀ l, (sval l).2 ≤ 2) :
    ∀ (ps : List (List UInt8)) (c : CSet) (n : Nat),
    (n ≠ 0 → (specList lo hi days sval ps c n).2 = 0 → ∀ x, orOf lo hi val (ps.filter fun p => !p.isEmpty) x = none) ∧
    ((specList lo hi days sval ps c n).2 = 1 → n = 1 ∧ orOf lo hi val (ps.filter fun p => !p.isEmpty) (marked c.2 c.1) = some (marked (specList lo hi days sval ps c n).1.2 (specList lo hi days sval ps c n).1.1) ∧ (c.2 63 = false → (specList lo hi days sval ps c n).1.2 63 = false)) := by
  intro ps
  induction ps with
  | nil => intro c n; exact ⟨fun h1 h2 => absurd h2 h1, fun h => ⟨h, rfl, fun h => h⟩⟩
  | cons p r ih =>
    intro c n
    by_cases hp : p = []
    · subst hp
      have e : specList lo hi days sval ([] :: r) c n = specList lo hi days sval r c (worseN n 2) := by simp only [specList, if_pos]
      have e2 : ([] :: r).filter (fun p : List UInt8 => !p.isEmpty) = r.filter fun p => !p.isEmpty := rfl
      rw [e, e2]
      obtain ⟨h1, h2⟩ := ih c (worseN n 2)
      refine ⟨fun hn => h1 (fun hw => by rcases worse_zero hw with h | h <;> omega), fun h => ?_⟩
      have := (worse_one (h2 h).1).2
      omega
    · have e : specList lo hi days sval (p :: r) c n = specList lo hi days sval r (union c (specItem lo hi days sval p).1) (worseN n (specItem lo hi days sval p).2) := by simp only [specList, if_neg hp]
      have e2 : (p :: r).filter (fun p : List UInt8 => !p.isEmpty) = p :: r.filter fun p => !p.isEmpty := by
        rw [List.filter_cons_of_pos]
        cases p with
        | nil => exact absurd rfl hp
        | cons _ _ => rfl
      rw [e, e2]
      obtain ⟨h1, h2⟩ := ih (union c (specItem lo hi days sval p).1) (worseN n (specItem lo hi days sval p).2)
      have hrel := item_rel hhi days hag hs p (lo := lo)
      refine ⟨fun hn h0 x => ?_, fun h => ?_⟩
      · unfold orOf
        cases hr : rangeOf lo hi val p with
        | none => rfl
        | some b =>
          refine h1 (fun hw => ?_) h0 _
          rcases worse_zero hw with h | h
          · exact hn h
          · have := hrel.1 h; rw [hr] at this; cases this
      · obtain ⟨hw, h3, h4⟩ := h2 h
        obtain ⟨hn, hv⟩ := worse_one hw
        have hr := hrel.2 hv
        refine ⟨hn, ?_, fun hc => h4 ?_⟩
        · unfold orOf
          rw [hr]
          simp only
          rw [marked_or]
          exact h3
        · show (c.2 63 || (specItem lo hi days sval p).1.2 63) = false
          rw [hc, item_top hhi hv]; rfl
theorem field_rel {lo hi : Nat} (hhi : hi ≤ 62) (days : Bool) {val : List UInt8 → Option Nat} {sval : List UInt8 → Nat × Nat} (hag : Agree val sval) (hs : ∀ l, (sval l).2 ≤ 2) (l : List UInt8) :
    ((specField lo hi days sval l).2 = 0 → orOf lo hi val (full l) 0 = none) ∧
    ((specField lo hi days sval l).2 = 1 → orOf lo hi val (full l) 0 = some (numOf (specField lo hi days sval l).1.1 (specField lo hi days sval l).1.2)) := by
  obtain ⟨h1, h2⟩ := list_rel hhi days hag hs (pieces 44 l) empty 1 (lo := lo)
  have e0 : marked empty.2 empty.1 = 0 := by
    unfold marked; rw [zero_eq]; exact bset_congr fun i _ => by simp [empty]
  unfold specField
  generalize specList lo hi days sval (pieces 44 l) empty 1 = t at h1 h2 ⊢
  by_cases ht : t.2 = 1
  · rw [if_neg (by simp [ht])]
    refine ⟨fun h => by omega, fun _ => ?_⟩
    obtain ⟨-, h3, h4⟩ := h2 ht
    rw [e0] at h3
    rw [numOf_marked _ _ (h4 rfl)]
    exact h3
  · rw [if_pos ht]
    exact ⟨fun h => h1 (by omega) h 0, fun h => absurd h ht⟩
theorem field_le {lo hi : Nat} {days : Bool} {sval : List UInt8 → Nat × Nat} {l : List UInt8} (hlo : lo ≤ 62) (hhi : hi ≤ 62) (hs : ∀ l, (sval l).2 ≤ 2 ∧ (sval l).1 ≤ huge) : (specField lo hi days sval l).2 ≤ 2 := by
  have key : ∀ ps c n, n ≤ 2 → (specList lo hi days sval ps c n).2 ≤ 2 := by
    intro ps
    induction ps with
    | nil => intro c n h; exact h
    | cons p r ih =>
      intro c n h
      unfold specList
      split
      · exact ih _ _ (worse_two h (by omega))
      · exact ih _ _ (worse_two h (item_two hlo hhi hs))
  have h := key (pieces 44 l) empty 1 (by omega)
  unfold specField
  split
  · exact h
  · exact h
end Go.Proofs.YtmnjmhlodbifjaaGreatDoor.FieldRel
namespace Go.Proofs.YtmnjmhlodbifjaaGreatDoor.NameRel
open Go Go.Proofs.YtmnjmhlodbifjaaGreatDoor.NumPure Go.Proofs.YtmnjmhlodbifjaaGreatDoor.SplitPure Go.Proofs.YtmnjmhlodbifjaaGreatDoor.Lower Go.Proofs.YtmnjmhlodbifjaaGreatDoor.NamesAt Go.Proofs.YtmnjmhlodbifjaaGreatDoor.Names Go.Proofs.YtmnjmhlodbifjaaGreatDoor.NameMap Go.Proofs.YtmnjmhlodbifjaaGreatDoor.Range Go.Proofs.YtmnjmhlodbifjaaGreatDoor.FieldPure Go.Proofs.YtmnjmhlodbifjaaGreatDoor.Field Go.Proofs.YtmnjmhlodbifjaaGreatDoor.Kind Go.Proofs.YtmnjmhlodbifjaaGreatDoor.FillPure Go.Proofs.YtmnjmhlodbifjaaGreatDoor.PlainPure Go.Proofs.YtmnjmhlodbifjaaGreatDoor.ItemPure Go.Proofs.YtmnjmhlodbifjaaGreatDoor.FieldRel Go.Proofs.YtmnjmhlodbifjaaGreatDoor.SpecField Go.Proofs.YtmnjmhlodbifjaaGreatDoor.SpecItem Go.Proofs.YtmnjmhlodbifjaaGreatDoor.SpecEnds Go.Proofs.YtmnjmhlodbifjaaGreatDoor.SpecBits
def foreign (t : List UInt8) : Bool := t.any fun b => decide (128 ≤ b.toNat)
theorem foreign_not {t : List UInt8} (h : foreign t = false) : Ascii t := by
  intro b hb
  unfold foreign at h
  rw [List.any_eq_false] at h
  have := h b hb
  simpa using this
def svalN (l : List (ByteArray × Nat)) (t : List UInt8) : Nat × Nat :=
  match nlook l (ofL (t.map low)) with
  | some v => (v, 1)
  | none => if foreign t then (0, 2) else specNumber t
def svalOf (kind : Nat) : List UInt8 → Nat × Nat := if kind = 4 then svalN monthNames else if kind = 5 then svalN dayNames else specNumber
theorem low_back {t : List UInt8} (h : Ascii (t.map low)) : Ascii t := fun b hb => (low_ascii b).1 (h _ (List.mem_map_of_mem hb))
def Short (l : List (ByteArray × Nat)) : Prop := ∀ p ∈ l, p.2 ≤ 12 ∧ ∀ b ∈ p.1.data.toList, b.toNat < 128
theorem bytes_beq {a b : ByteArray} (h : (a == b) = true) : a = b := by
  obtain ⟨x⟩ := a
  obtain ⟨y⟩ := b
  have : (x == y) = true := h
  exact congrArg ByteArray.mk (by simpa using this)
theorem look_mem {l : List (ByteArray × Nat)} {s : ByteArray} {v : Nat} (h : nlook l s = some v) : (s, v) ∈ l := by
  induction l with
  | nil => simp [nlook] at h
  | cons p r ih =>
    obtain ⟨t, n⟩ := p
    unfold nlook at h
    split at h
    · rename_i he
      cases h
      rw [bytes_beq he]
      exact List.mem_cons_self
    · exact List.mem_cons_of_mem _ (ih h)
theorem months_short : Short monthNames := by unfold Short; decide
theorem days_short : Short dayNames := by unfold Short; decide
theorem agree_names {l : List (ByteArray × Nat)} (hl : Short l) : Agree (nameOr l) (svalN l) := by
  intro t
  unfold svalN
  cases hn : nlook l (ofL (t.map low)) with
  | some v =>
    obtain ⟨h1, h2⟩ := hl _ (look_mem hn)
    simp only [toList_ofL] at h2
    have ha : Ascii t := low_back h2
    have : nameOr l t = some v := by unfold nameOr; rw [lower_ascii ha, hn]
    rw [this]
    simp only at h1
    refine ⟨fun h => by simp at h, fun _ => ⟨fun _ => rfl, fun h => ?_, ?_⟩⟩ <;> simp only [huge] at * <;> omega
  | none =>
    simp only
    cases hf : foreign t with
    | true => exact ⟨fun h => by simp at h, fun h => by simp at h⟩
    | false =>
      have ha := foreign_not hf
      have : nameOr l t = numberOf t := by unfold nameOr; rw [lower_ascii ha, hn]
      rw [this]
      exact number_rel t
theorem agree_all (kind : Nat) : Agree (Kind.valOf kind) (svalOf kind) := by
  unfold Kind.valOf svalOf
  split
  · exact agree_names months_short
  · split
    · exact agree_names days_short
    · exact number_rel
theorem svalN_le {l : List (ByteArray × Nat)} (hl : Short l) (t : List UInt8) : (svalN l t).2 ≤ 2 ∧ (svalN l t).1 ≤ huge := by
  unfold svalN
  cases hn : nlook l (ofL (t.map low)) with
  | some v =>
    have := (hl _ (look_mem hn)).1
    simp only at this
    exact ⟨by simp, by simp only [huge]; omega⟩
  | none =>
    simp only
    split
    · exact ⟨by simp, by simp⟩
    · exact ⟨verdict_le t, number_le t⟩
theorem sval_le (kind : Nat) (t : List UInt8) : (svalOf kind t).2 ≤ 2 ∧ (svalOf kind t).1 ≤ huge := by
  unfold svalOf
  split
  · exact svalN_le months_short t
  · split
    · exact svalN_le days_short t
    · exact ⟨verdict_le t, number_le t⟩
def sfieldOf (kind : Nat) (l : List UInt8) : CSet × Nat := specField (lowOf kind) (highOf kind) (kind == 3 || kind == 5) (svalOf kind) l
theorem field_agree (kind : Nat) (hk : kind ≤ 5) (l : List UInt8) : ((sfieldOf kind l).2 = 0 → fieldOf kind l = none) ∧ ((sfieldOf kind l).2 = 1 → fieldOf kind l = some (numOf (sfieldOf kind l).1.1 (sfieldOf kind l).1.2)) :=
  field_rel (low_high5 kind hk).2 _ (agree_all kind) (fun t => (sval_le kind t).1) l
theorem sfield_le (kind : Nat) (hk : kind ≤ 5) (l : List UInt8) : (sfieldOf kind l).2 ≤ 2 := by
  have := low_high5 kind hk
  exact field_le (by omega) this.2 (sval_le kind)
def sixV (L : List (List UInt8)) : Nat → Nat
  | 0 => 1
  | k + 1 => worseN (sixV L k) (sfieldOf k (L.getD k [])).2
theorem sixV_le (L : List (List UInt8)) : ∀ k, k ≤ 6 → sixV L k ≤ 2 := by
  intro k
  induction k with
  | zero => intro _; simp [sixV]
  | succ k ih => intro hk; exact worse_two (ih (by omega)) (sfield_le k (by omega) _)
def numsOf (L : List (List UInt8)) (k : Nat) : List Int := (List.range k).map fun j => numOf (sfieldOf j (L.getD j [])).1.1 (sfieldOf j (L.getD j [])).1.2
theorem sixV_fine (L : List (List UInt8)) : ∀ k, k ≤ 6 → sixV L k = 1 → six L k = some (numsOf L k) ∧ ∀ j, j < k → (sfieldOf j (L.getD j [])).2 = 1 := by
  intro k
  induction k with
  | zero => intro _ _; exact ⟨rfl, fun j hj => by omega⟩
  | succ k ih =>
    intro hk h
    unfold sixV at h
    obtain ⟨h1, h2⟩ := worse_one h
    obtain ⟨h3, h4⟩ := ih (by omega) h1
    refine ⟨?_, fun j hj => ?_⟩
    · unfold six
      rw [h3, (field_agree k (by omega) _).2 h2]
      simp [numsOf, List.range_succ]
    · by_cases hjk : j = k
      · subst hjk; exact h2
      · exact h4 j (by omega)
theorem sixV_bad (L : List (List UInt8)) : ∀ k, k ≤ 6 → sixV L k = 0 → six L k = none := by
  intro k
  induction k with
  | zero => intro _ h; simp [sixV] at h
  | succ k ih =>
    intro hk h
    unfold sixV at h
    rcases worse_zero h with h1 | h1
    · unfold six; rw [ih (by omega) h1]
    · unfold six
      rw [(field_agree k (by omega) _).1 h1]
      cases six L k <;> rfl
end Go.Proofs.YtmnjmhlodbifjaaGreatDoor.NameRel
