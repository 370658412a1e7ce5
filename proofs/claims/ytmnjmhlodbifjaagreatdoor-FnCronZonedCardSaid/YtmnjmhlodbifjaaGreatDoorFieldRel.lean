/- The plain law of lists: what the code reads as a field is what the reference reads. Conditions: bounds within 0 to 62. -/
import Derived.Test.YtmnjmhlodbifjaaGreatDoorFieldCall
import Derived.Test.YtmnjmhlodbifjaaGreatDoorSpecField
import Derived.Test.YtmnjmhlodbifjaaGreatDoorSpecBits
namespace Go.Proofs.YtmnjmhlodbifjaaGreatDoor.FieldRel
open Go.RowKit Go.Proofs.YtmnjmhlodbifjaaGreatDoor.NumPure Go.Proofs.YtmnjmhlodbifjaaGreatDoor.SplitPure Go.Proofs.YtmnjmhlodbifjaaGreatDoor.Bits Go.Proofs.YtmnjmhlodbifjaaGreatDoor.Range Go.Proofs.YtmnjmhlodbifjaaGreatDoor.SpecEnds Go.Proofs.YtmnjmhlodbifjaaGreatDoor.SpecItem Go.Proofs.YtmnjmhlodbifjaaGreatDoor.ItemPure Go.Proofs.YtmnjmhlodbifjaaGreatDoor.FieldPure Go.Proofs.YtmnjmhlodbifjaaGreatDoor.Field Go.Proofs.YtmnjmhlodbifjaaGreatDoor.Union Go.Proofs.YtmnjmhlodbifjaaGreatDoor.SpecField Go.Proofs.YtmnjmhlodbifjaaGreatDoor.SpecBits

theorem worse_zero {a b : Nat} (h : worseN a b = 0) : a = 0 ∨ b = 0 := by
  unfold worseN at h; split at h
  · assumption
  · omega
theorem worse_one {a b : Nat} (h : worseN a b = 1) : a = 1 ∧ b = 1 := by
  unfold worseN at h; split at h
  · omega
  · omega

theorem marked_or (p q : Nat → Bool) (s t : Bool) : Go.bits .or .u64 (marked p s) (marked q t) = marked (fun i => p i || q i) (s || t) := by
  unfold marked
  rw [bits_or]
  refine bset_congr fun i _ => ?_
  dsimp only
  cases p i <;> cases q i <;> cases s <;> cases t <;> cases decide (i = 63) <;> rfl

/-- No value above the bounds. -/
theorem item_top {lo hi : Nat} {days : Bool} {sval : List UInt8 → Nat × Nat} {l : List UInt8} (hhi : hi ≤ 62) (h : (specItem lo hi days sval l).2 = 1) : (specItem lo hi days sval l).1.2 63 = false := by
  have key : ∀ e t, (itemOf lo hi e t).2 = 1 → (itemOf lo hi e t).1.2 63 = false := by
    intro e t h
    unfold itemOf at h ⊢
    by_cases h1 : t.2.1 ≠ 1
    · rw [if_pos h1]; rfl
    · rw [if_neg h1] at h ⊢
      by_cases h2 : e.1 < lo ∨ hi < t.2.2 ∨ t.2.2 < e.1
      · rw [if_pos h2]; rfl
      · rw [if_neg h2]
        show members _ _ _ 63 = false
        unfold members
        have : decide (63 ≤ t.2.2) = false := decide_eq_false (by omega)
        rw [this]; simp
  unfold specItem at h ⊢
  split at h
  · rfl
  · split at h
    · rename_i h2; rw [if_pos h2]; rfl
    · rename_i h2; rw [if_neg h2]; exact key _ _ h

theorem list_rel {lo hi : Nat} (hhi : hi ≤ 62) (days : Bool) {val : List UInt8 → Option Nat} {sval : List UInt8 → Nat × Nat} (hag : Agree val sval) (hs : ∀ l, (sval l).2 ≤ 2) :
    ∀ (ps : List (List UInt8)) (c : CSet) (n : Nat),
    (n ≠ 0 → (specList lo hi days sval ps c n).2 = 0 → ∀ x, orOf lo hi val (ps.filter fun p => !p.isEmpty) x = none) ∧
    ((specList lo hi days sval ps c n).2 = 1 → n = 1 ∧ orOf lo hi val (ps.filter fun p => !p.isEmpty) (marked c.2 c.1) = some (marked (specList lo hi days sval ps c n).1.2 (specList lo hi days sval ps c n).1.1) ∧ (c.2 63 = false → (specList lo hi days sval ps c n).1.2 63 = false)) := by
  intro ps
  induction ps with
  | nil => intro c n; exact ⟨fun h1 h2 => absurd h2 h1, fun h => ⟨h, rfl, fun h => h⟩⟩
  | cons p r ih =>
    intro c n
    by_cases hp : p = []
    · subst hp
      have e : specList lo hi days sval ([] :: r) c n = specList lo hi days sval r c (worseN n 2) := by simp only [specList, if_pos]
      have e2 : ([] :: r).filter (fun p : List UInt8 => !p.isEmpty) = r.filter fun p => !p.isEmpty := rfl
      rw [e, e2]
      obtain ⟨h1, h2⟩ := ih c (worseN n 2)
      refine ⟨fun hn => h1 (fun hw => by rcases worse_zero hw with h | h <;> omega), fun h => ?_⟩
      have := (worse_one (h2 h).1).2
      omega
    · have e : specList lo hi days sval (p :: r) c n = specList lo hi days sval r (union c (specItem lo hi days sval p).1) (worseN n (specItem lo hi days sval p).2) := by simp only [specList, if_neg hp]
      have e2 : (p :: r).filter (fun p : List UInt8 => !p.isEmpty) = p :: r.filter fun p => !p.isEmpty := by
        rw [List.filter_cons_of_pos]
        cases p with
        | nil => exact absurd rfl hp
        | cons _ _ => rfl
      rw [e, e2]
      obtain ⟨h1, h2⟩ := ih (union c (specItem lo hi days sval p).1) (worseN n (specItem lo hi days sval p).2)
      have hrel := item_rel hhi days hag hs p (lo := lo)
      refine ⟨fun hn h0 x => ?_, fun h => ?_⟩
      · unfold orOf
        cases hr : rangeOf lo hi val p with
        | none => rfl
        | some b =>
          refine h1 (fun hw => ?_) h0 _
          rcases worse_zero hw with h | h
          · exact hn h
          · have := hrel.1 h; rw [hr] at this; cases this
      · obtain ⟨hw, h3, h4⟩ := h2 h
        obtain ⟨hn, hv⟩ := worse_one hw
        have hr := hrel.2 hv
        refine ⟨hn, ?_, fun hc => h4 ?_⟩
        · unfold orOf
          rw [hr]
          simp only
          rw [marked_or]
          exact h3
        · show (c.2 63 || (specItem lo hi days sval p).1.2 63) = false
          rw [hc, item_top hhi hv]; rfl

/-- The whole law of a field. -/
theorem field_rel {lo hi : Nat} (hhi : hi ≤ 62) (days : Bool) {val : List UInt8 → Option Nat} {sval : List UInt8 → Nat × Nat} (hag : Agree val sval) (hs : ∀ l, (sval l).2 ≤ 2) (l : List UInt8) :
    ((specField lo hi days sval l).2 = 0 → orOf lo hi val (full l) 0 = none) ∧
    ((specField lo hi days sval l).2 = 1 → orOf lo hi val (full l) 0 = some (numOf (specField lo hi days sval l).1.1 (specField lo hi days sval l).1.2)) := by
  obtain ⟨h1, h2⟩ := list_rel hhi days hag hs (pieces 44 l) empty 1 (lo := lo)
  have e0 : marked empty.2 empty.1 = 0 := by
    unfold marked; rw [zero_eq]; exact bset_congr fun i _ => by simp [empty]
  unfold specField
  generalize specList lo hi days sval (pieces 44 l) empty 1 = t at h1 h2 ⊢
  by_cases ht : t.2 = 1
  · rw [if_neg (by simp [ht])]
    refine ⟨fun h => by omega, fun _ => ?_⟩
    obtain ⟨-, h3, h4⟩ := h2 ht
    rw [e0] at h3
    rw [numOf_marked _ _ (h4 rfl)]
    exact h3
  · rw [if_pos ht]
    exact ⟨fun h => h1 (by omega) h 0, fun h => absurd h ht⟩

theorem field_le {lo hi : Nat} {days : Bool} {sval : List UInt8 → Nat × Nat} {l : List UInt8} (hlo : lo ≤ 62) (hhi : hi ≤ 62) (hs : ∀ l, (sval l).2 ≤ 2 ∧ (sval l).1 ≤ huge) : (specField lo hi days sval l).2 ≤ 2 := by
  have key : ∀ ps c n, n ≤ 2 → (specList lo hi days sval ps c n).2 ≤ 2 := by
    intro ps
    induction ps with
    | nil => intro c n h; exact h
    | cons p r ih =>
      intro c n h
      unfold specList
      split
      · exact ih _ _ (worse_two h (by omega))
      · exact ih _ _ (worse_two h (item_two hlo hhi hs))
  have h := key (pieces 44 l) empty 1 (by omega)
  unfold specField
  split
  · exact h
  · exact h

end Go.Proofs.YtmnjmhlodbifjaaGreatDoor.FieldRel
