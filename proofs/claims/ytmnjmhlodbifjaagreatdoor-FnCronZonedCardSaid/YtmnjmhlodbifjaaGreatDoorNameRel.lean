/- Names of months and days: the code's reading beside the reference's, in plain Lean. Conditions: none. -/
import Derived.Test.YtmnjmhlodbifjaaGreatDoorPlainPure
import Derived.Test.YtmnjmhlodbifjaaGreatDoorFieldRel
import Derived.Test.YtmnjmhlodbifjaaGreatDoorSpecBits
namespace Go.Proofs.YtmnjmhlodbifjaaGreatDoor.NameRel
open Go Go.Proofs.YtmnjmhlodbifjaaGreatDoor.NumPure Go.Proofs.YtmnjmhlodbifjaaGreatDoor.SplitPure Go.Proofs.YtmnjmhlodbifjaaGreatDoor.Lower Go.Proofs.YtmnjmhlodbifjaaGreatDoor.NamesAt Go.Proofs.YtmnjmhlodbifjaaGreatDoor.Names Go.Proofs.YtmnjmhlodbifjaaGreatDoor.NameMap Go.Proofs.YtmnjmhlodbifjaaGreatDoor.Range Go.Proofs.YtmnjmhlodbifjaaGreatDoor.FieldPure Go.Proofs.YtmnjmhlodbifjaaGreatDoor.Field Go.Proofs.YtmnjmhlodbifjaaGreatDoor.Kind Go.Proofs.YtmnjmhlodbifjaaGreatDoor.FillPure Go.Proofs.YtmnjmhlodbifjaaGreatDoor.PlainPure Go.Proofs.YtmnjmhlodbifjaaGreatDoor.ItemPure Go.Proofs.YtmnjmhlodbifjaaGreatDoor.FieldRel Go.Proofs.YtmnjmhlodbifjaaGreatDoor.SpecField Go.Proofs.YtmnjmhlodbifjaaGreatDoor.SpecItem Go.Proofs.YtmnjmhlodbifjaaGreatDoor.SpecEnds Go.Proofs.YtmnjmhlodbifjaaGreatDoor.SpecBits

def foreign (t : List UInt8) : Bool := t.any fun b => decide (128 ≤ b.toNat)
theorem foreign_not {t : List UInt8} (h : foreign t = false) : Ascii t := by
  intro b hb
  unfold foreign at h
  rw [List.any_eq_false] at h
  have := h b hb
  simpa using this
theorem foreign_ascii {t : List UInt8} (h : Ascii t) : foreign t = false := by
  unfold foreign
  rw [List.any_eq_false]
  intro b hb
  have := h b hb
  simpa using this
/-- The reference's reading of a value where there are names. -/
def svalN (l : List (ByteArray × Nat)) (t : List UInt8) : Nat × Nat :=
  match nlook l (ofL (t.map low)) with
  | some v => (v, 1)
  | none => if foreign t then (0, 2) else specNumber t
def svalOf (kind : Nat) : List UInt8 → Nat × Nat := if kind = 4 then svalN monthNames else if kind = 5 then svalN dayNames else specNumber

theorem low_back {t : List UInt8} (h : Ascii (t.map low)) : Ascii t := fun b hb => (low_ascii b).1 (h _ (List.mem_map_of_mem hb))
def Short (l : List (ByteArray × Nat)) : Prop := ∀ p ∈ l, p.2 ≤ 12 ∧ ∀ b ∈ p.1.data.toList, b.toNat < 128
theorem bytes_beq {a b : ByteArray} (h : (a == b) = true) : a = b := by
  obtain ⟨x⟩ := a
  obtain ⟨y⟩ := b
  have : (x == y) = true := h
  exact congrArg ByteArray.mk (by simpa using this)
theorem look_mem {l : List (ByteArray × Nat)} {s : ByteArray} {v : Nat} (h : nlook l s = some v) : (s, v) ∈ l := by
  induction l with
  | nil => simp [nlook] at h
  | cons p r ih =>
    obtain ⟨t, n⟩ := p
    unfold nlook at h
    split at h
    · rename_i he
      cases h
      rw [bytes_beq he]
      exact List.mem_cons_self
    · exact List.mem_cons_of_mem _ (ih h)
theorem months_short : Short monthNames := by unfold Short; decide
theorem days_short : Short dayNames := by unfold Short; decide
theorem agree_names {l : List (ByteArray × Nat)} (hl : Short l) : Agree (nameOr l) (svalN l) := by
  intro t
  unfold svalN
  cases hn : nlook l (ofL (t.map low)) with
  | some v =>
    obtain ⟨h1, h2⟩ := hl _ (look_mem hn)
    simp only [toList_ofL] at h2
    have ha : Ascii t := low_back h2
    have : nameOr l t = some v := by unfold nameOr; rw [lower_ascii ha, hn]
    rw [this]
    simp only at h1
    refine ⟨fun h => by simp at h, fun _ => ⟨fun _ => rfl, fun h => ?_, ?_⟩⟩ <;> simp only [huge] at * <;> omega
  | none =>
    simp only
    cases hf : foreign t with
    | true => exact ⟨fun h => by simp at h, fun h => by simp at h⟩
    | false =>
      have ha := foreign_not hf
      have : nameOr l t = numberOf t := by unfold nameOr; rw [lower_ascii ha, hn]
      rw [this]
      exact number_rel t
theorem agree_all (kind : Nat) : Agree (Kind.valOf kind) (svalOf kind) := by
  unfold Kind.valOf svalOf
  split
  · exact agree_names months_short
  · split
    · exact agree_names days_short
    · exact number_rel
theorem svalN_le {l : List (ByteArray × Nat)} (hl : Short l) (t : List UInt8) : (svalN l t).2 ≤ 2 ∧ (svalN l t).1 ≤ huge := by
  unfold svalN
  cases hn : nlook l (ofL (t.map low)) with
  | some v =>
    have := (hl _ (look_mem hn)).1
    simp only at this
    exact ⟨by simp, by simp only [huge]; omega⟩
  | none =>
    simp only
    split
    · exact ⟨by simp, by simp⟩
    · exact ⟨verdict_le t, number_le t⟩
theorem sval_le (kind : Nat) (t : List UInt8) : (svalOf kind t).2 ≤ 2 ∧ (svalOf kind t).1 ≤ huge := by
  unfold svalOf
  split
  · exact svalN_le months_short t
  · split
    · exact svalN_le days_short t
    · exact ⟨verdict_le t, number_le t⟩

/-- The reference's reading of one field. -/
def sfieldOf (kind : Nat) (l : List UInt8) : CSet × Nat := specField (lowOf kind) (highOf kind) (kind == 3 || kind == 5) (svalOf kind) l
theorem field_agree (kind : Nat) (hk : kind ≤ 5) (l : List UInt8) : ((sfieldOf kind l).2 = 0 → fieldOf kind l = none) ∧ ((sfieldOf kind l).2 = 1 → fieldOf kind l = some (numOf (sfieldOf kind l).1.1 (sfieldOf kind l).1.2)) :=
  field_rel (low_high5 kind hk).2 _ (agree_all kind) (fun t => (sval_le kind t).1) l
theorem sfield_le (kind : Nat) (hk : kind ≤ 5) (l : List UInt8) : (sfieldOf kind l).2 ≤ 2 := by
  have := low_high5 kind hk
  exact field_le (by omega) this.2 (sval_le kind)
/-- The verdict over the first k fields. -/
def sixV (L : List (List UInt8)) : Nat → Nat
  | 0 => 1
  | k + 1 => worseN (sixV L k) (sfieldOf k (L.getD k [])).2
theorem sixV_le (L : List (List UInt8)) : ∀ k, k ≤ 6 → sixV L k ≤ 2 := by
  intro k
  induction k with
  | zero => intro _; simp [sixV]
  | succ k ih => intro hk; exact worse_two (ih (by omega)) (sfield_le k (by omega) _)
def numsOf (L : List (List UInt8)) (k : Nat) : List Int := (List.range k).map fun j => numOf (sfieldOf j (L.getD j [])).1.1 (sfieldOf j (L.getD j [])).1.2
theorem sixV_fine (L : List (List UInt8)) : ∀ k, k ≤ 6 → sixV L k = 1 → six L k = some (numsOf L k) ∧ ∀ j, j < k → (sfieldOf j (L.getD j [])).2 = 1 := by
  intro k
  induction k with
  | zero => intro _ _; exact ⟨rfl, fun j hj => by omega⟩
  | succ k ih =>
    intro hk h
    unfold sixV at h
    obtain ⟨h1, h2⟩ := worse_one h
    obtain ⟨h3, h4⟩ := ih (by omega) h1
    refine ⟨?_, fun j hj => ?_⟩
    · unfold six
      rw [h3, (field_agree k (by omega) _).2 h2]
      simp [numsOf, List.range_succ]
    · by_cases hjk : j = k
      · subst hjk; exact h2
      · exact h4 j (by omega)
theorem sixV_bad (L : List (List UInt8)) : ∀ k, k ≤ 6 → sixV L k = 0 → six L k = none := by
  intro k
  induction k with
  | zero => intro _ h; simp [sixV] at h
  | succ k ih =>
    intro hk h
    unfold sixV at h
    rcases worse_zero h with h1 | h1
    · unfold six; rw [ih (by omega) h1]
    · unfold six
      rw [(field_agree k (by omega) _).1 h1]
      cases six L k <;> rfl
/-- The reference's verdict over a plain text of ASCII, not empty. -/
def plainV (o : Int) (l : List UInt8) : Nat :=
  match fillOf o ((words l).map ofL) with
  | none => 0
  | some L => if words l = [] then 2 else sixV (L.map fun s => s.data.toList) 6
theorem plainV_fine {o : Int} {l : List UInt8} (hl : l ≠ []) (h : plainV o l = 1) : ∃ L, fillOf o ((words l).map ofL) = some L ∧ plainOf o l = some (numsOf (L.map fun s => s.data.toList) 6) := by
  unfold plainV at h
  unfold plainOf
  rw [if_neg hl]
  cases hf : fillOf o ((words l).map ofL) with
  | none => rw [hf] at h; cases h
  | some L =>
    rw [hf] at h
    simp only at h
    split at h
    · cases h
    · exact ⟨L, rfl, (sixV_fine _ 6 (Nat.le_refl _) h).1⟩
theorem plainV_bad {o : Int} {l : List UInt8} (h : plainV o l = 0) : plainOf o l = none := by
  unfold plainV at h
  unfold plainOf
  split
  · rfl
  · cases hf : fillOf o ((words l).map ofL) with
    | none => rfl
    | some L =>
      rw [hf] at h
      simp only at h
      split at h
      · cases h
      · exact sixV_bad _ 6 (Nat.le_refl _) h

end Go.Proofs.YtmnjmhlodbifjaaGreatDoor.NameRel
