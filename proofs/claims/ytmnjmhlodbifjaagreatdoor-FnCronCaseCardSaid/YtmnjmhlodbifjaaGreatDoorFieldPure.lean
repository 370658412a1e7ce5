/- Plain lemmas: the fields between commas are the pieces that aren't empty. Conditions: none. -/
import Derived.Test.YtmnjmhlodbifjaaGreatDoorSplitPure
import Derived.Lib.FieldsP
import Derived.Lib.TrimUEq
import Derived.Laws.RangeAny
import Derived.Laws.RangeString
namespace Go.Proofs.YtmnjmhlodbifjaaGreatDoor.FieldPure
open Go Go.RowKit Go.Proofs.YtmnjmhlodbifjaaGreatDoor.SplitPure

def isComma (r : Nat) : Bool := r == 44
/-- The pieces that aren't empty. -/
def full (l : List UInt8) : List (List UInt8) := (pieces 44 l).filter fun p => !p.isEmpty

theorem full_nil : full [] = [] := rfl
theorem full_none {l : List UInt8} (h : (44 : UInt8) ∉ l) (hn : l ≠ []) : full l = [l] := by
  unfold full; rw [pieces_none h]; cases l with
  | nil => exact absurd rfl hn
  | cons _ _ => rfl
theorem full_cons {a b : List UInt8} (h : (44 : UInt8) ∉ a) (hn : a ≠ []) : full (a ++ 44 :: b) = a :: full b := by
  unfold full; rw [pieces_cons h]; cases a with
  | nil => exact absurd rfl hn
  | cons _ _ => rfl
theorem full_comma {b : List UInt8} : full (44 :: b) = full b := by
  unfold full; simp [pieces]

theorem wide (n b0 b1 b2 b3 : Nat) (h : 128 ≤ b0) :
    (Lib.decodeN n b0 b1 b2 b3).2 = 1 ∨ ((Lib.decodeN n b0 b1 b2 b3).2 = 2 ∧ b1 / 64 = 2) ∨ ((Lib.decodeN n b0 b1 b2 b3).2 = 3 ∧ b1 / 64 = 2 ∧ b2 / 64 = 2) ∨
      ((Lib.decodeN n b0 b1 b2 b3).2 = 4 ∧ b1 / 64 = 2 ∧ b2 / 64 = 2 ∧ b3 / 64 = 2) := by
  unfold Lib.decodeN
  repeat' split
  all_goals first
    | omega
    | simp_all

theorem take1 (l : List UInt8) (x : UInt8) : x ∈ l.take 1 → x = l.getD 0 0 := by
  cases l <;> simp
theorem take_mem (l : List UInt8) (x : UInt8) (n : Nat) : x ∈ l.take n → ∃ i, i < n ∧ x = l.getD i 0 := by
  intro h
  obtain ⟨i, hi, rfl⟩ := List.getElem_of_mem h
  have hi2 := hi
  rw [List.length_take] at hi2
  refine ⟨i, by omega, ?_⟩
  rw [List.getElem_take, List.getD_eq_getElem?_getD, List.getElem?_eq_getElem (by omega)]; rfl

/-- A rune that is no comma covers no comma. -/
theorem no_comma (s : ByteArray) (pos : Nat) (h : pos < s.size) (hp : isComma (Utf8.decode s pos).1 = false) :
    1 ≤ (Utf8.decode s pos).2 ∧ (44 : UInt8) ∉ (s.data.toList.drop pos).take (Utf8.decode s pos).2 := by
  have hgd : ∀ i, (s.data.toList.drop pos).getD i 0 = s.data.toList.getD (pos + i) 0 := by
    intro i; simp [List.getD_eq_getElem?_getD, List.getElem?_drop]
  have h0 : s.data.toList.getD pos 0 = s[pos] := by
    rw [List.getD_eq_getElem?_getD, List.getElem?_eq_getElem (by simpa using h)]; rfl
  by_cases ha : (s[pos]'h).toNat < 128
  · have hd := decode_ascii s pos h ha
    rw [hd] at hp ⊢
    refine ⟨Nat.le_refl _, fun hm => ?_⟩
    have := take1 _ _ hm
    rw [hgd, Nat.add_zero, h0] at this
    rw [← this] at hp
    revert hp; decide
  · have hw := decode_high s pos h (by omega)
    refine ⟨hw.2, fun hm => ?_⟩
    obtain ⟨i, hi, he⟩ := take_mem _ _ _ hm
    rw [hgd] at he
    have hN := Lib.decode_N s pos
    have hc := wide (s.data.toList.length - pos) (s.data.toList.getD pos 0).toNat (s.data.toList.getD (pos + 1) 0).toNat (s.data.toList.getD (pos + 2) 0).toNat (s.data.toList.getD (pos + 3) 0).toNat (by rw [h0]; omega)
    rw [← hN] at hc
    have he' : (s.data.toList.getD (pos + i) 0).toNat = 44 := by rw [← he]; rfl
    have hi4 : i = 0 ∨ i = 1 ∨ i = 2 ∨ i = 3 := by omega
    rcases hi4 with rfl | rfl | rfl | rfl
    · rw [Nat.add_zero, h0] at he'; omega
    · omega
    · omega
    · omega

theorem is_comma (s : ByteArray) (pos : Nat) (h : pos < s.size) (hp : isComma (Utf8.decode s pos).1 = true) : (Utf8.decode s pos).2 = 1 ∧ s[pos] = 44 := by
  by_cases ha : (s[pos]'h).toNat < 128
  · have hd := decode_ascii s pos h ha
    rw [hd] at hp ⊢
    refine ⟨rfl, ?_⟩
    simp [isComma] at hp
    exact UInt8.toNat_inj.1 hp
  · have hw := decode_high s pos h (by omega)
    simp [isComma] at hp
    omega

theorem drop_at (s : ByteArray) (a pos : Nat) (h : pos < s.size) (ha : a ≤ pos) (hc : s[pos] = 44) : s.data.toList.drop a = (s.data.toList.drop a).take (pos - a) ++ 44 :: s.data.toList.drop (pos + 1) := by
  have h2 := (List.take_append_drop (pos - a) (s.data.toList.drop a)).symm
  rw [List.drop_drop, show a + (pos - a) = pos by omega, List.drop_eq_getElem_cons (i := pos) (by simpa using h)] at h2
  rw [show s.data.toList[pos]'(by simpa using h) = 44 from hc] at h2
  exact h2

theorem spans_full (s : ByteArray) : ∀ (f pos : Nat) (st : Option Nat) (acc : List (Nat × Nat)), s.size ≤ f + pos →
    (∀ a, st = some a → a < pos ∧ a < s.size ∧ (44 : UInt8) ∉ (s.data.toList.drop a).take (pos - a)) →
    (Lib.closeSpans s (Lib.spansFromP isComma s f pos st acc)).map (fun x => s.extract x.1 x.2) =
      acc.map (fun x => s.extract x.1 x.2) ++ (full (s.data.toList.drop (st.getD pos))).map ofL := by
  intro f
  induction f with
  | zero =>
    intro pos st acc hf hst
    rw [Lib.spansFromP_end _ _ _ _ _ _ (by omega)]
    cases st with
    | none =>
      simp only [Lib.closeSpans, Option.getD_none]
      rw [List.drop_of_length_le (by simp; omega), full_nil]; simp
    | some a =>
      obtain ⟨h1, h2, h3⟩ := hst a rfl
      rw [List.take_of_length_le (by simp; omega)] at h3
      simp only [Lib.closeSpans, Option.getD_some]
      rw [full_none h3 (by rw [ne_eq, List.drop_eq_nil_iff]; simp; omega)]
      simp [eq_ofL (Lib.extract_to_end s a)]
  | succ f ih =>
    intro pos st acc hf hst
    by_cases hlt : pos < s.size
    · unfold Lib.spansFromP
      rw [if_pos hlt]
      cases hp : isComma (Utf8.decode s pos).1 with
      | true =>
        obtain ⟨hw, hc⟩ := is_comma s pos hlt hp
        simp only [if_true]
        cases st with
        | some a =>
          obtain ⟨h1, h2, h3⟩ := hst a rfl
          simp only
          rw [hw, ih (pos + 1) none _ (by omega) (by intro a h; cases h)]
          simp only [Option.getD_none, Option.getD_some]
          rw [drop_at s a pos hlt (by omega) hc, full_cons h3 (by rw [ne_eq, ← List.length_eq_zero_iff]; simp; omega)]
          simp [eq_ofL (show (s.extract a pos).data.toList = _ by rw [extract_sub, toList_ofL])]
        | none =>
          simp only
          rw [hw, ih (pos + 1) none _ (by omega) (by intro a h; cases h)]
          simp only [Option.getD_none]
          have := drop_at s pos pos hlt (Nat.le_refl _) hc
          rw [Nat.sub_self, List.take_zero, List.nil_append] at this
          rw [this, full_comma]
      | false =>
        obtain ⟨hw, hc⟩ := no_comma s pos hlt hp
        simp only [Bool.false_eq_true, if_false]
        cases st with
        | some a =>
          obtain ⟨h1, h2, h3⟩ := hst a rfl
          simp only
          rw [ih _ (some a) _ (by omega) (by
            intro b hb; cases hb
            refine ⟨by omega, h2, ?_⟩
            rw [show pos + (Utf8.decode s pos).2 - a = (pos - a) + (Utf8.decode s pos).2 by omega, List.take_add, List.mem_append, not_or]
            refine ⟨h3, ?_⟩
            rw [List.drop_drop, show a + (pos - a) = pos by omega]; exact hc)]
          rfl
        | none =>
          simp only
          rw [ih _ (some pos) _ (by omega) (by
            intro b hb; cases hb
            refine ⟨by omega, hlt, ?_⟩
            rw [Nat.add_sub_cancel_left]; exact hc)]
          rfl
    · rw [Lib.spansFromP_end _ _ _ _ _ _ hlt]
      cases st with
      | none =>
        simp only [Lib.closeSpans, Option.getD_none]
        rw [List.drop_of_length_le (by simp; omega), full_nil]; simp
      | some a =>
        obtain ⟨h1, h2, h3⟩ := hst a rfl
        rw [List.take_of_length_le (by simp; omega)] at h3
        simp only [Lib.closeSpans, Option.getD_some]
        rw [full_none h3 (by rw [ne_eq, List.drop_eq_nil_iff]; simp; omega)]
        simp [eq_ofL (Lib.extract_to_end s a)]

theorem fields_full (s : ByteArray) : Lib.goFieldsP isComma s = (full s.data.toList).map ofL := by
  unfold Lib.goFieldsP Lib.spansOfP
  rw [spans_full s s.size 0 none [] (by omega) (by intro a h; cases h)]
  simp

end Go.Proofs.YtmnjmhlodbifjaaGreatDoor.FieldPure
