/- Plain lemmas: which fields a parser's options take, and the six texts. Conditions: options below 512. -/
import Derived.WalkKit
namespace Go.Proofs.YtmnjmhlodbifjaaGreatDoor.FillPure
open Go

/-- The options' bits of the places, as the code has them, and of the kinds, as the reference has them. -/
def place (k : Nat) : Nat := [1, 4, 8, 16, 32, 64].getD k 0
def taking (k : Nat) : Nat := [3, 4, 8, 16, 32, 192].getD k 0
def sec (o : Int) : Bool := decide (0 < Go.bits .and .i64 o 2)
def dow (o : Int) : Bool := decide (0 < Go.bits .and .i64 o 128)
/-- The options with the optional fields as fields. -/
def more (o : Int) : Int := if dow o then Go.bits .or .i64 (if sec o then Go.bits .or .i64 o 1 else o) 64 else if sec o then Go.bits .or .i64 o 1 else o
def hit (o : Int) (k : Nat) : Bool := decide (0 < Go.bits .and .i64 o (place k : Int))
def takes (o : Int) (k : Nat) : Bool := Go.bits .and .i64 o (taking k : Int) != 0

theorem opts_facts : ∀ n : Fin 512, (∀ k : Fin 6, hit (more (n.val : Int)) k.val = takes (n.val : Int) k.val) ∧
    (Go.bits .and .i64 (n.val : Int) 2 != 0) = sec (n.val : Int) ∧ (Go.bits .and .i64 (n.val : Int) 128 != 0) = dow (n.val : Int) ∧
    sec (more (n.val : Int)) = sec (n.val : Int) ∧ dow (more (n.val : Int)) = dow (n.val : Int) ∧
    (sec (n.val : Int) = true → takes (n.val : Int) 0 = true) ∧ (dow (n.val : Int) = true → takes (n.val : Int) 5 = true) ∧
    dow (Go.bits .or .i64 (n.val : Int) 1) = dow (n.val : Int) := by
  decide +kernel

/-- How many of the first k. -/
def cnt (t : Nat → Bool) : Nat → Nat
  | 0 => 0
  | k + 1 => cnt t k + (if t k then 1 else 0)
theorem cnt_succ (t : Nat → Bool) (k : Nat) : cnt t (k + 1) = cnt t k + (if t k then 1 else 0) := rfl
theorem cnt_le (t : Nat → Bool) (k : Nat) : cnt t k ≤ k := by
  induction k with
  | zero => exact Nat.le_refl _
  | succ k ih => rw [cnt_succ]; split <;> omega
theorem cnt_mono (t : Nat → Bool) {j k : Nat} (h : j ≤ k) : cnt t j ≤ cnt t k := by
  induction k with
  | zero => have : j = 0 := by omega
            subst this; exact Nat.le_refl _
  | succ k ih =>
    by_cases hj : j = k + 1
    · subst hj; exact Nat.le_refl _
    · have := ih (by omega); rw [cnt_succ]; omega
theorem cnt_lt (t : Nat → Bool) {j k : Nat} (h : j < k) (ht : t j = true) : cnt t j < cnt t k := by
  have h1 := cnt_mono t (show j + 1 ≤ k from h)
  rw [cnt_succ, if_pos ht] at h1; omega
theorem cnt_congr {t u : Nat → Bool} {k : Nat} (h : ∀ j, j < k → t j = u j) : cnt t k = cnt u k := by
  induction k with
  | zero => rfl
  | succ k ih => rw [cnt_succ, cnt_succ, ih (fun j hj => h j (by omega)), h k (by omega)]

/-- The default of a field. -/
def dflt (k : Nat) : ByteArray := if k ≤ 2 then ⟨#[48]⟩ else ⟨#[42]⟩
/-- The text at a place. -/
def at' (t : Nat → Bool) (fs : List ByteArray) (k : Nat) : ByteArray := if t k then fs.getD (cnt t k) ⟨#[]⟩ else dflt k
def filled (t : Nat → Bool) (fs : List ByteArray) : List ByteArray := (List.range 6).map (at' t fs)

theorem filled_congr {t u : Nat → Bool} {fs : List ByteArray} (h : ∀ k, k < 6 → t k = u k) : filled t fs = filled u fs := by
  unfold filled
  refine List.map_congr_left fun k hk => ?_
  have hk := List.mem_range.1 hk
  unfold at'
  rw [h k hk, cnt_congr (fun j hj => h j (by omega))]

/-- The last place left away. -/
theorem filled_last {t u : Nat → Bool} {fs : List ByteArray} (h : ∀ k, k < 5 → t k = u k) (h5 : t 5 = true) (hu : u 5 = false) (hl : fs.length + 1 = cnt t 6) : filled t (fs ++ [⟨#[42]⟩]) = filled u fs := by
  have h6 : cnt t 6 = cnt t 5 + 1 := by rw [cnt_succ, if_pos h5]
  unfold filled
  refine List.map_congr_left fun k hk => ?_
  have hk := List.mem_range.1 hk
  unfold at'
  by_cases hk5 : k = 5
  · subst hk5
    rw [if_pos h5, hu, if_neg (by simp), show cnt t 5 = fs.length by omega]
    simp [dflt]
  · rw [h k (by omega), ← cnt_congr (fun j hj => h j (by omega))]
    cases hb : u k with
    | false => rfl
    | true =>
      rw [if_pos rfl, if_pos rfl]
      have := cnt_lt t (show k < 5 by omega) (by rw [h k (by omega)]; exact hb)
      rw [List.getD_eq_getElem?_getD, List.getD_eq_getElem?_getD, List.getElem?_append_left (by omega)]

/-- The first place left away. -/
theorem filled_first {t u : Nat → Bool} {fs : List ByteArray} (h : ∀ k, 1 ≤ k → k < 6 → t k = u k) (h0 : t 0 = true) (hu : u 0 = false) : filled t (⟨#[48]⟩ :: fs) = filled u fs := by
  have hc : ∀ k, k < 6 → 1 ≤ k → cnt t k = cnt u k + 1 := by
    intro k
    induction k with
    | zero => intro _ h; omega
    | succ k ih =>
      intro h1 _
      rw [cnt_succ, cnt_succ]
      by_cases hk : k = 0
      · subst hk; rw [if_pos h0, hu, if_neg (by simp)]; rfl
      · rw [ih (by omega) (by omega), h k (by omega) (by omega)]; omega
  unfold filled
  refine List.map_congr_left fun k hk => ?_
  have hk := List.mem_range.1 hk
  unfold at'
  by_cases hk0 : k = 0
  · subst hk0
    rw [if_pos h0, hu, if_neg (by simp)]
    rfl
  · rw [h k (by omega) hk, hc k hk (by omega)]
    cases hb : u k with
    | false => rfl
    | true => rfl

/-- What the reference says: the kind that is missing (6: none), or a refusal. -/
def missOf (o : Int) (m : Nat) : Option Nat :=
  if sec o && dow o then none
  else if m = cnt (takes o) 6 then some 6
  else if sec o = true ∧ m + 1 = cnt (takes o) 6 then some 0
  else if dow o = true ∧ m + 1 = cnt (takes o) 6 then some 5
  else none
def without (t : Nat → Bool) (miss : Nat) (k : Nat) : Bool := t k && decide (k ≠ miss)
def fillOf (o : Int) (fs : List ByteArray) : Option (List ByteArray) := (missOf o fs.length).map fun miss => filled (without (takes o) miss) fs

end Go.Proofs.YtmnjmhlodbifjaaGreatDoor.FillPure
