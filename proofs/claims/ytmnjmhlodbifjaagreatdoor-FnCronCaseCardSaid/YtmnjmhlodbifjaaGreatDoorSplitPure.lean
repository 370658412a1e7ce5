/- Plain lemmas: a text parted at each byte c; the first place of a byte. Conditions: none. -/
import Derived.WalkKit
import Derived.Lib.IndexBytes
namespace Go.Proofs.YtmnjmhlodbifjaaGreatDoor.SplitPure
open Go

/-- The text of a list of bytes. -/
def ofL (l : List UInt8) : ByteArray := ⟨l.toArray⟩
theorem ofL_toList (s : ByteArray) : ofL s.data.toList = s := by cases s; simp [ofL]
theorem toList_ofL (l : List UInt8) : (ofL l).data.toList = l := by simp [ofL]
theorem size_ofL (l : List UInt8) : (ofL l).size = l.length := by simp [ofL, ByteArray.size]
theorem eq_ofL {s : ByteArray} {l : List UInt8} (h : s.data.toList = l) : s = ofL l := by rw [← h, ofL_toList]
theorem ofL_inj {a b : List UInt8} (h : ofL a = ofL b) : a = b := by rw [← toList_ofL a, h, toList_ofL]
theorem length_toList (s : ByteArray) : s.data.toList.length = s.size := by simp

/-- The pieces between the bytes c. -/
def pieces (c : UInt8) : List UInt8 → List (List UInt8)
  | [] => [[]]
  | x :: r => if x = c then [] :: pieces c r else
    match pieces c r with
    | [] => [[x]]
    | p :: ps => (x :: p) :: ps

theorem pieces_ne (c : UInt8) (l : List UInt8) : pieces c l ≠ [] := by
  cases l with
  | nil => simp [pieces]
  | cons x r =>
    simp only [pieces]
    split
    · simp
    · split <;> simp

theorem pieces_none {c : UInt8} {l : List UInt8} (h : c ∉ l) : pieces c l = [l] := by
  induction l with
  | nil => rfl
  | cons x r ih =>
    simp only [List.mem_cons, not_or] at h
    simp only [pieces]
    rw [if_neg (fun e => h.1 e.symm), ih h.2]

theorem pieces_cons {c : UInt8} {a b : List UInt8} (h : c ∉ a) : pieces c (a ++ c :: b) = a :: pieces c b := by
  induction a with
  | nil => simp [pieces]
  | cons x r ih =>
    simp only [List.mem_cons, not_or] at h
    simp only [List.cons_append, pieces]
    rw [if_neg (fun e => h.1 e.symm), ih h.2]

theorem pieces_sum (c : UInt8) (l : List UInt8) : ∀ p ∈ pieces c l, p.length ≤ l.length := by
  induction l with
  | nil => simp [pieces]
  | cons x r ih =>
    intro p hp
    simp only [pieces] at hp
    split at hp
    · simp only [List.mem_cons] at hp
      rcases hp with rfl | hp
      · simp
      · have := ih p hp; simp; omega
    · split at hp
      · rename_i h; exact absurd h (pieces_ne c r)
      · rename_i q qs h
        simp only [List.mem_cons] at hp
        rcases hp with rfl | hp
        · have := ih q (by rw [h]; simp); simp; omega
        · have := ih p (by rw [h]; simp [hp]); simp; omega

theorem pieces_count (c : UInt8) (l : List UInt8) : (pieces c l).length ≤ l.length + 1 := by
  induction l with
  | nil => simp [pieces]
  | cons x r ih =>
    simp only [pieces]
    split
    · simp; omega
    · split
      · simp
      · rename_i q qs h; rw [h] at ih; simp at ih ⊢; omega

/-- The first place of c, or the text's length. -/
def fstAt (c : UInt8) : List UInt8 → Nat
  | [] => 0
  | x :: r => if x = c then 0 else fstAt c r + 1

theorem fstAt_le (c : UInt8) (l : List UInt8) : fstAt c l ≤ l.length := by
  induction l with
  | nil => simp [fstAt]
  | cons x r ih => simp only [fstAt]; split <;> simp <;> omega

theorem fstAt_mem {c : UInt8} {l : List UInt8} : fstAt c l < l.length ↔ c ∈ l := by
  induction l with
  | nil => simp [fstAt]
  | cons x r ih =>
    simp only [fstAt, List.mem_cons]
    split
    · rename_i h; simp [h]
    · rename_i h
      simp only [List.length_cons]
      constructor
      · intro h2; exact .inr (ih.1 (by omega))
      · rintro (e | h2)
        · exact absurd e.symm h
        · have := ih.2 h2; omega

theorem fstAt_split {c : UInt8} {l : List UInt8} (h : fstAt c l < l.length) : l = l.take (fstAt c l) ++ c :: l.drop (fstAt c l + 1) ∧ c ∉ l.take (fstAt c l) := by
  induction l with
  | nil => simp at h
  | cons x r ih =>
    simp only [fstAt] at h ⊢
    split at h
    · rename_i e; simp [e]
    · rename_i e
      rw [if_neg e]
      obtain ⟨h1, h2⟩ := ih (by simp at h; omega)
      simp only [List.take_succ_cons, List.drop_succ_cons, List.cons_append, List.mem_cons, not_or]
      exact ⟨by rw [← h1], fun e2 => e e2.symm, h2⟩

/-- Where the bytes before k are none, and the byte at k is c. -/
theorem fstAt_at {c : UInt8} {l : List UInt8} {k : Nat} (h1 : c ∉ l.take k) (h2 : l[k]? = some c) : fstAt c l = k := by
  induction l generalizing k with
  | nil => simp at h2
  | cons x r ih =>
    cases k with
    | zero => simp at h2; simp [fstAt, h2]
    | succ k =>
      simp only [List.take_succ_cons, List.mem_cons, not_or] at h1
      simp only [fstAt]
      rw [if_neg (fun e => h1.1 e.symm), ih h1.2 (by simpa using h2)]

theorem fstAt_none {c : UInt8} {l : List UInt8} (h : c ∉ l) : fstAt c l = l.length := by
  have h1 := fstAt_le c l
  have h2 : ¬ fstAt c l < l.length := fun h' => h (fstAt_mem.1 h')
  omega

theorem pieces_step {c : UInt8} {l : List UInt8} (h : fstAt c l < l.length) : pieces c l = l.take (fstAt c l) :: pieces c (l.drop (fstAt c l + 1)) := by
  obtain ⟨h1, h2⟩ := fstAt_split h
  have h3 := congrArg (pieces c) h1
  rw [pieces_cons h2] at h3
  exact h3

/-- What a search for c gives. -/
def idxOf (c : UInt8) (l : List UInt8) : Int := if fstAt c l < l.length then (fstAt c l : Int) else -1
theorem idxOf_some {c : UInt8} {l : List UInt8} (h : fstAt c l < l.length) : idxOf c l = (fstAt c l : Int) := if_pos h
theorem idxOf_none {c : UInt8} {l : List UInt8} (h : c ∉ l) : idxOf c l = -1 := if_neg (by rw [fstAt_none h]; omega)

theorem extract_sub (s : ByteArray) (a b : Nat) : s.extract a b = ofL ((s.data.toList.drop a).take (b - a)) := eq_ofL (Lib.extract_data s a b)

end Go.Proofs.YtmnjmhlodbifjaaGreatDoor.SplitPure
