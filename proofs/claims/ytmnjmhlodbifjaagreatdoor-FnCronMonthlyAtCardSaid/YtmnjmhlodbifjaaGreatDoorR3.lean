/- The plain law of numbers: what the reference reads as a number, and what strconv.Atoi makes of the same text. Conditions: none. · Plain lemmas: a text parted at each byte c; the first place of a byte. Conditions: none. · Plain lemmas: the fields between commas are the pieces that aren't empty. Conditions: none. · Plain lemmas: which fields a parser's options take, and the six texts. Conditions: options below 512. -/
import Derived.Lib.AtoiAll
import Derived.WalkKit
import Derived.Lib.IndexBytes
import Derived.Lib.FieldsP
import Derived.Lib.TrimUEq
import Derived.Laws.RangeAny
import Derived.Laws.RangeString

namespace Go.Proofs.YtmnjmhlodbifjaaGreatDoor.NumPure
open Go
def isDig (c : UInt8) : Bool := decide (48 ≤ c.toNat) && decide (c.toNat ≤ 57)
def zeros (l : List UInt8) : Bool := l.all fun c => c == 48
def huge : Nat := 1099511627776
def readN : Nat → List UInt8 → Option Nat
  | n, [] => some n
  | n, c :: r => if isDig c then readN (min (10 * n + (c.toNat - 48)) huge) r else none
def signed (l : List UInt8) : Bool :=
  match l with
  | [] => false
  | c :: r => c == 43 || (c == 45 && zeros r)
def specNumber (l : List UInt8) : Nat × Nat :=
  let t := if signed l then l.tail else l
  if t = [] then (0, 0) else
  match readN 0 t with
  | none => (0, 0)
  | some n => (n, if signed l then 2 else 1)
def numberOf (l : List UInt8) : Option Nat :=
  match Lib.atoiAll l with
  | .ok v => if 0 ≤ v then some v.toNat else none
  | _ => none
theorem readN_le {l : List UInt8} : ∀ {n m : Nat}, readN n l = some m → n ≤ huge → m ≤ huge := by
  induction l with
  | nil => intro n m h hn; simp [readN] at h; omega
  | cons c r ih =>
    intro n m h hn
    simp only [readN] at h
    split at h
    · exact ih h (Nat.min_le_right _ _)
    · cases h
theorem readN_none {l : List UInt8} : ∀ {n : Nat}, readN n l = none ↔ ¬ l.all isDig = true := by
  induction l with
  | nil => intro n; simp [readN]
  | cons c r ih =>
    intro n
    simp only [readN, List.all_cons]
    by_cases h : isDig c
    · rw [if_pos h, ih]; simp [h]
    · simp [h]
theorem parse_ok {l : List UInt8} : ∀ {a u : Nat}, Lib.parseUint10 a l = .ok u → l.all isDig = true ∧ a ≤ u ∧ (u = 0 → zeros l = true) := by
  induction l with
  | nil => intro a u h; simp [Lib.parseUint10] at h; subst h; simp [zeros]
  | cons c r ih =>
    intro a u h
    simp only [Lib.parseUint10] at h
    split at h
    · rename_i hd
      split at h
      · cases h
      · split at h
        · cases h
        · obtain ⟨h1, h2, h3⟩ := ih h
          refine ⟨by rw [List.all_cons, h1, Bool.and_true]; simp [isDig, hd.1, hd.2], by omega, fun hu => ?_⟩
          have h4 := h3 hu
          have h5 : c = 48 := by apply UInt8.toNat_inj.1; show c.toNat = 48; omega
          simp only [zeros, List.all_cons, h5] at h4 ⊢
          simpa using h4
    · cases h
theorem numberOf_neg (r : List UInt8) (hz : zeros r = false) : numberOf (45 :: r) = none := by
  unfold numberOf
  cases h : Lib.atoiAll (45 :: r) with
  | ok v =>
    simp only [Lib.atoiAll] at h
    rw [if_pos (Or.inr (by decide))] at h
    cases hm : Lib.parseMag r with
    | ok u =>
      rw [hm] at h
      simp only at h
      have hp : Lib.parseUint10 0 r = .ok u := by
        unfold Lib.parseMag at hm
        split at hm
        · cases hm
        · exact hm
      have hu : u ≠ 0 := fun e => by rw [(parse_ok hp).2.2 e] at hz; cases hz
      rw [if_neg (by simp)] at h
      split at h
      · cases h
      · rw [if_pos (by decide)] at h
        cases h
        simp only
        rw [if_neg (by omega)]
    | _ => rw [hm] at h; cases h
  | _ => rfl
theorem numberOf_none (l : List UInt8) (h : ∀ u, Lib.parseMag (match l with | [] => [] | c :: r => if c.toNat = 43 ∨ c.toNat = 45 then r else l) ≠ .ok u) : numberOf l = none := by
  unfold numberOf
  cases l with
  | nil => rfl
  | cons c r =>
    simp only [Lib.atoiAll]
    simp only at h
    cases hm : Lib.parseMag (if c.toNat = 43 ∨ c.toNat = 45 then r else c :: r) with
    | ok u => exact absurd hm (h u)
    | _ => rfl
theorem bad_none (l : List UInt8) (h : (specNumber l).2 = 0) : numberOf l = none := by
  have key : ∀ t : List UInt8, (t = [] ∨ readN 0 t = none) → ∀ u, Lib.parseMag t ≠ .ok u := by
    intro t ht u hu
    unfold Lib.parseMag at hu
    split at hu
    · cases hu
    · rename_i hne
      rcases ht with ht | ht
      · exact hne ht
      · exact readN_none.1 ht (parse_ok hu).1
  have h0 : (if signed l then l.tail else l) = [] ∨ readN 0 (if signed l then l.tail else l) = none := by
    simp only [specNumber] at h
    generalize (if signed l then l.tail else l) = t at h ⊢
    by_cases ht : t = []
    · exact .inl ht
    · right
      rw [if_neg ht] at h
      cases hr : readN 0 t with
      | none => rfl
      | some n => rw [hr] at h; simp only at h; split at h <;> cases h
  cases l with
  | nil => rfl
  | cons c r =>
    by_cases hs : signed (c :: r) = true
    · rw [if_pos hs] at h0
      refine numberOf_none _ fun u => ?_
      have hc : c.toNat = 43 ∨ c.toNat = 45 := by
        simp only [signed, Bool.or_eq_true, Bool.and_eq_true, beq_iff_eq] at hs
        rcases hs with rfl | ⟨rfl, _⟩
        · left; rfl
        · right; rfl
      simp only
      rw [if_pos hc]
      exact key r h0 u
    · rw [if_neg hs] at h0
      by_cases h45 : c = 45
      · subst h45
        refine numberOf_neg r ?_
        simp [signed] at hs
        simpa using hs
      · by_cases h43 : c = 43
        · subst h43; simp [signed] at hs
        · refine numberOf_none _ fun u => ?_
          simp only
          rw [if_neg (by
            rintro (e | e)
            · exact h43 (UInt8.toNat_inj.1 e)
            · exact h45 (UInt8.toNat_inj.1 e))]
          exact key (c :: r) h0 u
theorem readN_huge (l : List UInt8) : ∀ {n m : Nat}, readN n l = some m → huge ≤ n → m = huge ∨ (l = [] ∧ m = n) := by
  induction l with
  | nil => intro n m h hn; simp [readN] at h; exact .inr ⟨rfl, h.symm⟩
  | cons c r ih =>
    intro n m h hn
    simp only [readN] at h
    split at h
    · have hm : min (10 * n + (c.toNat - 48)) huge = huge := Nat.min_eq_right (by omega)
      rw [hm] at h
      rcases ih h (Nat.le_refl _) with h2 | ⟨_, h2⟩
      · exact .inl h2
      · exact .inl h2
    · cases h
theorem read_exact (l : List UInt8) : ∀ {a m : Nat}, readN a l = some m → a < huge →
    (m < huge → Lib.parseUint10 a l = .ok m) ∧ (m = huge → ∀ u, Lib.parseUint10 a l = .ok u → huge ≤ u) := by
  induction l with
  | nil =>
    intro a m h ha
    simp [readN] at h
    subst h
    exact ⟨fun _ => rfl, fun e => by omega⟩
  | cons c r ih =>
    intro a m h ha
    simp only [readN] at h
    split at h
    · rename_i hd
      have hc := hd
      simp only [isDig, Bool.and_eq_true, decide_eq_true_eq] at hc
      by_cases hb : 10 * a + (c.toNat - 48) < huge
      · rw [Nat.min_eq_left (by omega)] at h
        obtain ⟨h1, h2⟩ := ih h hb
        unfold huge at hb ha
        have e : Lib.parseUint10 a (c :: r) = Lib.parseUint10 (10 * a + (c.toNat - 48)) r := by
          simp only [Lib.parseUint10]
          rw [if_pos hc, if_neg (by omega), if_neg (by omega), Nat.mul_comm a 10]
        rw [e]
        exact ⟨h1, h2⟩
      · rw [Nat.min_eq_right (by omega)] at h
        have hm : m = huge := by
          rcases readN_huge r h (Nat.le_refl _) with h2 | ⟨_, h2⟩ <;> exact h2
        refine ⟨fun hlt => by omega, fun _ u hu => ?_⟩
        simp only [Lib.parseUint10] at hu
        rw [if_pos hc] at hu
        split at hu
        · cases hu
        · split at hu
          · cases hu
          · have := (parse_ok hu).2.1; omega
    · cases h
theorem fine_read (l : List UInt8) (h : (specNumber l).2 = 1) :
    ((specNumber l).1 < huge → numberOf l = some (specNumber l).1) ∧ ((specNumber l).1 = huge → ∀ u, numberOf l = some u → huge ≤ u) ∧ (specNumber l).1 ≤ huge := by
  have hs : signed l = false := by
    cases hs : signed l with
    | false => rfl
    | true =>
      simp only [specNumber, hs, if_true] at h
      split at h
      · cases h
      · split at h <;> simp at h
  have hne : l ≠ [] := by rintro rfl; simp [specNumber, signed] at h
  have hsome : l.all isDig = true := by
    cases hd : l.all isDig with
    | true => rfl
    | false =>
      have : readN 0 l = none := readN_none.2 (by rw [hd]; simp)
      simp [specNumber, hs, hne, this] at h
  cases hr : readN 0 l with
  | none => exact absurd hsome (readN_none.1 hr)
  | some m =>
    have hv : (specNumber l).1 = m := by simp [specNumber, hs, hne, hr]
    obtain ⟨h1, h2⟩ := read_exact l hr (by unfold huge; omega)
    have hle := readN_le hr (by unfold huge; omega)
    rw [hv]
    cases l with
    | nil => exact absurd rfl hne
    | cons c r =>
      simp only [List.all_cons, Bool.and_eq_true, isDig, decide_eq_true_eq] at hsome
      have hat : ∀ u, numberOf (c :: r) = some u ↔ Lib.parseUint10 0 (c :: r) = .ok u ∧ u < 9223372036854775808 := by
        intro u
        unfold numberOf
        simp only [Lib.atoiAll]
        rw [if_neg (by omega)]
        have hm : Lib.parseMag (c :: r) = Lib.parseUint10 0 (c :: r) := by unfold Lib.parseMag; rw [if_neg (by simp)]
        rw [hm]
        cases hp : Lib.parseUint10 0 (c :: r) with
        | ok v =>
          simp only
          have h45 : ¬ c.toNat = 45 := by omega
          by_cases hbig : 9223372036854775808 ≤ v
          · rw [if_pos ⟨h45, hbig⟩]
            constructor
            · intro e; cases e
            · rintro ⟨e, hlt⟩; cases e; omega
          · rw [if_neg (by omega), if_neg (by omega), if_neg h45]
            simp only
            rw [if_pos (by omega)]
            simp only [Int.toNat_natCast, Option.some.injEq, Lib.NumEnd.ok.injEq]
            constructor
            · rintro rfl; exact ⟨rfl, by omega⟩
            · rintro ⟨e, _⟩; exact e
        | _ => simp
      refine ⟨fun hlt => (hat m).2 ⟨h1 hlt, by unfold huge at hlt; omega⟩, fun e u hu => h2 e u ((hat u).1 hu).1, hle⟩
theorem open_zero (l : List UInt8) (h : (specNumber l).2 = 2) (h0 : (specNumber l).1 = 0) : numberOf l = some 0 := by
  have hs : signed l = true := by
    cases hs : signed l with
    | true => rfl
    | false =>
      simp only [specNumber, hs, Bool.false_eq_true, if_false] at h
      by_cases hl : l = []
      · rw [if_pos hl] at h; cases h
      · rw [if_neg hl] at h
        cases hn : readN 0 l with
        | none => rw [hn] at h; cases h
        | some n => rw [hn] at h; cases h
  cases l with
  | nil => simp [signed] at hs
  | cons c r =>
    have hc : c.toNat = 43 ∨ c.toNat = 45 := by
      simp only [signed, Bool.or_eq_true, Bool.and_eq_true, beq_iff_eq] at hs
      rcases hs with rfl | ⟨rfl, _⟩
      · left; rfl
      · right; rfl
    simp only [specNumber, hs, if_true, List.tail_cons] at h h0
    by_cases hr : r = []
    · rw [if_pos hr] at h; cases h
    · rw [if_neg hr] at h h0
      cases hn : readN 0 r with
      | none => rw [hn] at h; cases h
      | some n =>
        rw [hn] at h0
        simp only at h0
        subst h0
        have hp := (read_exact r hn (by unfold huge; omega)).1 (by unfold huge; omega)
        unfold numberOf
        simp only [Lib.atoiAll]
        rw [if_pos hc]
        have hm : Lib.parseMag r = .ok 0 := by unfold Lib.parseMag; rw [if_neg hr]; exact hp
        rw [hm]
        simp only
        rw [if_neg (by omega), if_neg (by omega)]
        have hz : (if c.toNat = 45 then -((0 : Nat) : Int) else ((0 : Nat) : Int)) = 0 := by split <;> rfl
        rw [hz]; rfl
end Go.Proofs.YtmnjmhlodbifjaaGreatDoor.NumPure
namespace Go.Proofs.YtmnjmhlodbifjaaGreatDoor.SplitPure
open Go
def ofL (l : List UInt8) : ByteArray := ⟨l.toArray⟩
theorem ofL_toList (s : ByteArray) : ofL s.data.toList = s := by cases s; simp [ofL]
theorem toList_ofL (l : List UInt8) : (ofL l).data.toList = l := by simp [ofL]
theorem size_ofL (l : List UInt8) : (ofL l).size = l.length := by simp [ofL, ByteArray.size]
theorem eq_ofL {s : ByteArray} {l : List UInt8} (h : s.data.toList = l) : s = ofL l := by rw [← h, ofL_toList]
theorem length_toList (s : ByteArray) : s.data.toList.length = s.size := by simp
def pieces (c : UInt8) : List UInt8 → List (List UInt8)
  | [] => [[]]
  | x :: r => if x = c then [] :: pieces c r else
    match pieces c r with
    | [] => [[x]]
    | p :: ps => (x :: p) :: ps
theorem pieces_ne (c : UInt8) (l : List UInt8) : pieces c l ≠ [] := by
  cases l with
  | nil => simp [pieces]
  | cons x r =>
    simp only [pieces]
    split
    · simp
    · split <;> simp
theorem pieces_none {c : UInt8} {l : List UInt8} (h : c ∉ l) : pieces c l = [l] := by
  induction l with
  | nil => rfl
  | cons x r ih =>
    simp only [List.mem_cons, not_or] at h
    simp only [pieces]
    rw [if_neg (fun e => h.1 e.symm), ih h.2]
theorem pieces_cons {c : UInt8} {a b : List UInt8} (h : c ∉ a) : pieces c (a ++ c :: b) = a :: pieces c b := by
  induction a with
  | nil => simp [pieces]
  | cons x r ih =>
    simp only [List.mem_cons, not_or] at h
    simp only [List.cons_append, pieces]
    rw [if_neg (fun e => h.1 e.symm), ih h.2]
theorem pieces_sum (c : UInt8) (l : List UInt8) : ∀ p ∈ pieces c l, p.length ≤ l.length := by
  induction l with
  | nil => simp [pieces]
  | cons x r ih =>
    intro p hp
    simp only [pieces] at hp
    split at hp
    · simp only [List.mem_cons] at hp
      rcases hp with rfl | hp
      · simp
      · have := ih p hp; simp; omega
    · split at hp
      · rename_i h; exact absurd h (pieces_ne c r)
      · rename_i q qs h
        simp only [List.mem_cons] at hp
        rcases hp with rfl | hp
        · have := ih q (by rw [h]; simp); simp; omega
        · have := ih p (by rw [h]; simp [hp]); simp; omega
theorem pieces_count (c : UInt8) (l : List UInt8) : (pieces c l).length ≤ l.length + 1 := by
  induction l with
  | nil => simp [pieces]
  | cons x r ih =>
    simp only [pieces]
    split
    · simp; omega
    · split
      · simp
      · rename_i q qs h; rw [h] at ih; simp at ih ⊢; omega
def fstAt (c : UInt8) : List UInt8 → Nat
  | [] => 0
  | x :: r => if x = c then 0 else fstAt c r + 1
theorem fstAt_le (c : UInt8) (l : List UInt8) : fstAt c l ≤ l.length := by
  induction l with
  | nil => simp [fstAt]
  | cons x r ih => simp only [fstAt]; split <;> simp <;> omega
theorem fstAt_mem {c : UInt8} {l : List UInt8} : fstAt c l < l.length ↔ c ∈ l := by
  induction l with
  | nil => simp [fstAt]
  | cons x r ih =>
    simp only [fstAt, List.mem_cons]
    split
    · rename_i h; simp [h]
    · rename_i h
      simp only [List.length_cons]
      constructor
      · intro h2; exact .inr (ih.1 (by omega))
      · rintro (e | h2)
        · exact absurd e.symm h
        · have := ih.2 h2; omega
theorem fstAt_split {c : UInt8} {l : List UInt8} (h : fstAt c l < l.length) : l = l.take (fstAt c l) ++ c :: l.drop (fstAt c l + 1) ∧ c ∉ l.take (fstAt c l) := by
  induction l with
  | nil => simp at h
  | cons x r ih =>
    simp only [fstAt] at h ⊢
    split at h
    · rename_i e; simp [e]
    · rename_i e
      rw [if_neg e]
      obtain ⟨h1, h2⟩ := ih (by simp at h; omega)
      simp only [List.take_succ_cons, List.drop_succ_cons, List.cons_append, List.mem_cons, not_or]
      exact ⟨by rw [← h1], fun e2 => e e2.symm, h2⟩
theorem fstAt_at {c : UInt8} {l : List UInt8} {k : Nat} (h1 : c ∉ l.take k) (h2 : l[k]? = some c) : fstAt c l = k := by
  induction l generalizing k with
  | nil => simp at h2
  | cons x r ih =>
    cases k with
    | zero => simp at h2; simp [fstAt, h2]
    | succ k =>
      simp only [List.take_succ_cons, List.mem_cons, not_or] at h1
      simp only [fstAt]
      rw [if_neg (fun e => h1.1 e.symm), ih h1.2 (by simpa using h2)]
theorem fstAt_none {c : UInt8} {l : List UInt8} (h : c ∉ l) : fstAt c l = l.length := by
  have h1 := fstAt_le c l
  have h2 : ¬ fstAt c l < l.length := fun h' => h (fstAt_mem.1 h')
  omega
theorem pieces_step {c : UInt8} {l : List UInt8} (h : fstAt c l < l.length) : pieces c l = l.take (fstAt c l) :: pieces c (l.drop (fstAt c l + 1)) := by
  obtain ⟨h1, h2⟩ := fstAt_split h
  have h3 := congrArg (pieces c) h1
  rw [pieces_cons h2] at h3
  exact h3
def idxOf (c : UInt8) (l : List UInt8) : Int := if fstAt c l < l.length then (fstAt c l : Int) else -1
theorem idxOf_some {c : UInt8} {l : List UInt8} (h : fstAt c l < l.length) : idxOf c l = (fstAt c l : Int) := if_pos h
theorem idxOf_none {c : UInt8} {l : List UInt8} (h : c ∉ l) : idxOf c l = -1 := if_neg (by rw [fstAt_none h]; omega)
theorem extract_sub (s : ByteArray) (a b : Nat) : s.extract a b = ofL ((s.data.toList.drop a).take (b - a)) := eq_ofL (Lib.extract_data s a b)
end Go.Proofs.YtmnjmhlodbifjaaGreatDoor.SplitPure
namespace Go.Proofs.YtmnjmhlodbifjaaGreatDoor.FieldPure
open Go Go.RowKit Go.Proofs.YtmnjmhlodbifjaaGreatDoor.SplitPure
def isComma (r : Nat) : Bool := r == 44
def full (l : List UInt8) : List (List UInt8) := (pieces 44 l).filter fun p => !p.isEmpty
theorem full_nil : full [] = [] := rfl
theorem full_none {l : List UInt8} (h : (44 : UInt8) ∉ l) (hn : l ≠ []) : full l = [l] := by
  unfold full; rw [pieces_none h]; cases l with
  | nil => exact absurd rfl hn
  | cons _ _ => rfl
theorem full_cons {a b : List UInt8} (h : (44 : UInt8) ∉ a) (hn : a ≠ []) : full (a ++ 44 :: b) = a :: full b := by
  unfold full; rw [pieces_cons h]; cases a with
  | nil => exact absurd rfl hn
  | cons _ _ => rfl
theorem full_comma {b : List UInt8} : full (44 :: b) = full b := by
  unfold full; simp [pieces]
theorem wide (n b0 b1 b2 b3 : Nat) (h : 128 ≤ b0) :
    (Lib.decodeN n b0 b1 b2 b3).2 = 1 ∨ ((Lib.decodeN n b0 b1 b2 b3).2 = 2 ∧ b1 / 64 = 2) ∨ ((Lib.decodeN n b0 b1 b2 b3).2 = 3 ∧ b1 / 64 = 2 ∧ b2 / 64 = 2) ∨
      ((Lib.decodeN n b0 b1 b2 b3).2 = 4 ∧ b1 / 64 = 2 ∧ b2 / 64 = 2 ∧ b3 / 64 = 2) := by
  unfold Lib.decodeN
  repeat' split
  all_goals first
    | omega
    | simp_all
theorem take1 (l : List UInt8) (x : UInt8) : x ∈ l.take 1 → x = l.getD 0 0 := by
  cases l <;> simp
theorem take_mem (l : List UInt8) (x : UInt8) (n : Nat) : x ∈ l.take n → ∃ i, i < n ∧ x = l.getD i 0 := by
  intro h
  obtain ⟨i, hi, rfl⟩ := List.getElem_of_mem h
  have hi2 := hi
  rw [List.length_take] at hi2
  refine ⟨i, by omega, ?_⟩
  rw [List.getElem_take, List.getD_eq_getElem?_getD, List.getElem?_eq_getElem (by omega)]; rfl
theorem no_comma (s : ByteArray) (pos : Nat) (h : pos < s.size) (hp : isComma (Utf8.decode s pos).1 = false) :
    1 ≤ (Utf8.decode s pos).2 ∧ (44 : UInt8) ∉ (s.data.toList.drop pos).take (Utf8.decode s pos).2 := by
  have hgd : ∀ i, (s.data.toList.drop pos).getD i 0 = s.data.toList.getD (pos + i) 0 := by
    intro i; simp [List.getD_eq_getElem?_getD, List.getElem?_drop]
  have h0 : s.data.toList.getD pos 0 = s[pos] := by
    rw [List.getD_eq_getElem?_getD, List.getElem?_eq_getElem (by simpa using h)]; rfl
  by_cases ha : (s[pos]'h).toNat < 128
  · have hd := decode_ascii s pos h ha
    rw [hd] at hp ⊢
    refine ⟨Nat.le_refl _, fun hm => ?_⟩
    have := take1 _ _ hm
    rw [hgd, Nat.add_zero, h0] at this
    rw [← this] at hp
    revert hp; decide
  · have hw := decode_high s pos h (by omega)
    refine ⟨hw.2, fun hm => ?_⟩
    obtain ⟨i, hi, he⟩ := take_mem _ _ _ hm
    rw [hgd] at he
    have hN := Lib.decode_N s pos
    have hc := wide (s.data.toList.length - pos) (s.data.toList.getD pos 0).toNat (s.data.toList.getD (pos + 1) 0).toNat (s.data.toList.getD (pos + 2) 0).toNat (s.data.toList.getD (pos + 3) 0).toNat (by rw [h0]; omega)
    rw [← hN] at hc
    have he' : (s.data.toList.getD (pos + i) 0).toNat = 44 := by rw [← he]; rfl
    have hi4 : i = 0 ∨ i = 1 ∨ i = 2 ∨ i = 3 := by omega
    rcases hi4 with rfl | rfl | rfl | rfl
    · rw [Nat.add_zero, h0] at he'; omega
    · omega
    · omega
    · omega
theorem is_comma (s : ByteArray) (pos : Nat) (h : pos < s.size) (hp : isComma (Utf8.decode s pos).1 = true) : (Utf8.decode s pos).2 = 1 ∧ s[pos] = 44 := by
  by_cases ha : (s[pos]'h).toNat < 128
  · have hd := decode_ascii s pos h ha
    rw [hd] at hp ⊢
    refine ⟨rfl, ?_⟩
    simp [isComma] at hp
    exact UInt8.toNat_inj.1 hp
  · have hw := decode_high s pos h (by omega)
    simp [isComma] at hp
    omega
theorem drop_at (s : ByteArray) (a pos : Nat) (h : pos < s.size) (ha : a ≤ pos) (hc : s[pos] = 44) : s.data.toList.drop a = (s.data.toList.drop a).take (pos - a) ++ 44 :: s.data.toList.drop (pos + 1) := by
  have h2 := (List.take_append_drop (pos - a) (s.data.toList.drop a)).symm
  rw [List.drop_drop, show a + (pos - a) = pos by omega, List.drop_eq_getElem_cons (i := pos) (by simpa using h)] at h2
  rw [show s.data.toList[pos]'(by simpa using h) = 44 from hc] at h2
  exact h2
theorem spans_full (s : ByteArray) : ∀ (f pos : Nat) (st : Option Nat) (acc : List (Nat × Nat)), s.size ≤ f + pos →
    (∀ a, st = some a → a < pos ∧ a < s.size ∧ (44 : UInt8) ∉ (s.data.toList.drop a).take (pos - a)) →
    (Lib.closeSpans s (Lib.spansFromP isComma s f pos st acc)).map (fun x => s.extract x.1 x.2) =
      acc.map (fun x => s.extract x.1 x.2) ++ (full (s.data.toList.drop (st.getD pos))).map ofL := by
  intro f
  induction f with
  | zero =>
    intro pos st acc hf hst
    rw [Lib.spansFromP_end _ _ _ _ _ _ (by omega)]
    cases st with
    | none =>
      simp only [Lib.closeSpans, Option.getD_none]
      rw [List.drop_of_length_le (by simp; omega), full_nil]; simp
    | some a =>
      obtain ⟨h1, h2, h3⟩ := hst a rfl
      rw [List.take_of_length_le (by simp; omega)] at h3
      simp only [Lib.closeSpans, Option.getD_some]
      rw [full_none h3 (by rw [ne_eq, List.drop_eq_nil_iff]; simp; omega)]
      simp [eq_ofL (Lib.extract_to_end s a)]
  | succ f ih =>
    intro pos st acc hf hst
    by_cases hlt : pos < s.size
    · unfold Lib.spansFromP
      rw [if_pos hlt]
      cases hp : isComma (Utf8.decode s pos).1 with
      | true =>
        obtain ⟨hw, hc⟩ := is_comma s pos hlt hp
        simp only [if_true]
        cases st with
        | some a =>
          obtain ⟨h1, h2, h3⟩ := hst a rfl
          simp only
          rw [hw, ih (pos + 1) none _ (by omega) (by intro a h; cases h)]
          simp only [Option.getD_none, Option.getD_some]
          rw [drop_at s a pos hlt (by omega) hc, full_cons h3 (by rw [ne_eq, ← List.length_eq_zero_iff]; simp; omega)]
          simp [eq_ofL (show (s.extract a pos).data.toList = _ by rw [extract_sub, toList_ofL])]
        | none =>
          simp only
          rw [hw, ih (pos + 1) none _ (by omega) (by intro a h; cases h)]
          simp only [Option.getD_none]
          have := drop_at s pos pos hlt (Nat.le_refl _) hc
          rw [Nat.sub_self, List.take_zero, List.nil_append] at this
          rw [this, full_comma]
      | false =>
        obtain ⟨hw, hc⟩ := no_comma s pos hlt hp
        simp only [Bool.false_eq_true, if_false]
        cases st with
        | some a =>
          obtain ⟨h1, h2, h3⟩ := hst a rfl
          simp only
          rw [ih _ (some a) _ (by omega) (by
            intro b hb; cases hb
            refine ⟨by omega, h2, ?_⟩
            rw [show pos + (Utf8.decode s pos).2 - a = (pos - a) + (Utf8.decode s pos).2 by omega, List.take_add, List.mem_append, not_or]
            refine ⟨h3, ?_⟩
            rw [List.drop_drop, show a + (pos - a) = pos by omega]; exact hc)]
          rfl
        | none =>
          simp only
          rw [ih _ (some pos) _ (by omega) (by
            intro b hb; cases hb
            refine ⟨by omega, hlt, ?_⟩
            rw [Nat.add_sub_cancel_left]; exact hc)]
          rfl
    · rw [Lib.spansFromP_end _ _ _ _ _ _ hlt]
      cases st with
      | none =>
        simp only [Lib.closeSpans, Option.getD_none]
        rw [List.drop_of_length_le (by simp; omega), full_nil]; simp
      | some a =>
        obtain ⟨h1, h2, h3⟩ := hst a rfl
        rw [List.take_of_length_le (by simp; omega)] at h3
        simp only [Lib.closeSpans, Option.getD_some]
        rw [full_none h3 (by rw [ne_eq, List.drop_eq_nil_iff]; simp; omega)]
        simp [eq_ofL (Lib.extract_to_end s a)]
theorem fields_full (s : ByteArray) : Lib.goFieldsP isComma s = (full s.data.toList).map ofL := by
  unfold Lib.goFieldsP Lib.spansOfP
  rw [spans_full s s.size 0 none [] (by omega) (by intro a h; cases h)]
  simp
end Go.Proofs.YtmnjmhlodbifjaaGreatDoor.FieldPure
namespace Go.Proofs.YtmnjmhlodbifjaaGreatDoor.FillPure
open Go
def place (k : Nat) : Nat := [1, 4, 8, 16, 32, 64].getD k 0
def taking (k : Nat) : Nat := [3, 4, 8, 16, 32, 192].getD k 0
def sec (o : Int) : Bool := decide (0 < Go.bits .and .i64 o 2)
def dow (o : Int) : Bool := decide (0 < Go.bits .and .i64 o 128)
def more (o : Int) : Int := if dow o then Go.bits .or .i64 (if sec o then Go.bits .or .i64 o 1 else o) 64 else if sec o then Go.bits .or .i64 o 1 else o
def hit (o : Int) (k : Nat) : Bool := decide (0 < Go.bits .and .i64 o (place k : Int))
def takes (o : Int) (k : Nat) : Bool := Go.bits .and .i64 o (taking k : Int) != 0
theorem opts_facts : ∀ n : Fin 512, (∀ k : Fin 6, hit (more (n.val : Int)) k.val = takes (n.val : Int) k.val) ∧
    (Go.bits .and .i64 (n.val : Int) 2 != 0) = sec (n.val : Int) ∧ (Go.bits .and .i64 (n.val : Int) 128 != 0) = dow (n.val : Int) ∧
    sec (more (n.val : Int)) = sec (n.val : Int) ∧ dow (more (n.val : Int)) = dow (n.val : Int) ∧
    (sec (n.val : Int) = true → takes (n.val : Int) 0 = true) ∧ (dow (n.val : Int) = true → takes (n.val : Int) 5 = true) ∧
    dow (Go.bits .or .i64 (n.val : Int) 1) = dow (n.val : Int) := by
  decide +kernel
def cnt (t : Nat → Bool) : Nat → Nat
  | 0 => 0
  | k + 1 => cnt t k + (if t k then 1 else 0)
theorem cnt_succ (t : Nat → Bool) (k : Nat) : cnt t (k + 1) = cnt t k + (if t k then 1 else 0) := rfl
theorem cnt_le (t : Nat → Bool) (k : Nat) : cnt t k ≤ k := by
  induction k with
  | zero => exact Nat.le_refl _
  | succ k ih => rw [cnt_succ]; split <;> omega
theorem cnt_mono (t : Nat → Bool) {j k : Nat} (h : j ≤ k) : cnt t j ≤ cnt t k := by
  induction k with
  | zero => have : j = 0 := by omega
            subst this; exact Nat.le_refl _
  | succ k ih =>
    by_cases hj : j = k + 1
    · subst hj; exact Nat.le_refl _
    · have := ih (by omega); rw [cnt_succ]; omega
theorem cnt_lt (t : Nat → Bool) {j k : Nat} (h : j < k) (ht : t j = true) : cnt t j < cnt t k := by
  have h1 := cnt_mono t (show j + 1 ≤ k from h)
  rw [cnt_succ, if_pos ht] at h1; omega
theorem cnt_congr {t u : Nat → Bool} {k : Nat} (h : ∀ j, j < k → t j = u j) : cnt t k = cnt u k := by
  induction k with
  | zero => rfl
  | succ k ih => rw [cnt_succ, cnt_succ, ih (fun j hj => h j (by omega)), h k (by omega)]
def dflt (k : Nat) : ByteArray := if k ≤ 2 then ⟨#[48]⟩ else ⟨#[42]⟩
def at' (t : Nat → Bool) (fs : List ByteArray) (k : Nat) : ByteArray := if t k then fs.getD (cnt t k) ⟨#[]⟩ else dflt k
def filled (t : Nat → Bool) (fs : List ByteArray) : List ByteArray := (List.range 6).map (at' t fs)
theorem filled_congr {t u : Nat → Bool} {fs : List ByteArray} (h : ∀ k, k < 6 → t k = u k) : filled t fs = filled u fs := by
  unfold filled
  refine List.map_congr_left fun k hk => ?_
  have hk := List.mem_range.1 hk
  unfold at'
  rw [h k hk, cnt_congr (fun j hj => h j (by omega))]
theorem filled_last {t u : Nat → Bool} {fs : List ByteArray} (h : ∀ k, k < 5 → t k = u k) (h5 : t 5 = true) (hu : u 5 = false) (hl : fs.length + 1 = cnt t 6) : filled t (fs ++ [⟨#[42]⟩]) = filled u fs := by
  have h6 : cnt t 6 = cnt t 5 + 1 := by rw [cnt_succ, if_pos h5]
  unfold filled
  refine List.map_congr_left fun k hk => ?_
  have hk := List.mem_range.1 hk
  unfold at'
  by_cases hk5 : k = 5
  · subst hk5
    rw [if_pos h5, hu, if_neg (by simp), show cnt t 5 = fs.length by omega]
    simp [dflt]
  · rw [h k (by omega), ← cnt_congr (fun j hj => h j (by omega))]
    cases hb : u k with
    | false => rfl
    | true =>
      rw [if_pos rfl, if_pos rfl]
      have := cnt_lt t (show k < 5 by omega) (by rw [h k (by omega)]; exact hb)
      rw [List.getD_eq_getElem?_getD, List.getD_eq_getElem?_getD, List.getElem?_append_left (by omega)]
theorem filled_first {t u : Nat → Bool} {fs : List ByteArray} (h : ∀ k, 1 ≤ k → k < 6 → t k = u k) (h0 : t 0 = true) (hu : u 0 = false) : filled t (⟨#[48]⟩ :: fs) = filled u fs := by
  have hc : ∀ k, k < 6 → 1 ≤ k → cnt t k = cnt u k + 1 := by
    intro k
    induction k with
    | zero => intro _ h; omega
    | succ k ih =>
      intro h1 _
      rw [cnt_succ, cnt_succ]
      by_cases hk : k = 0
      · subst hk; rw [if_pos h0, hu, if_neg (by simp)]; rfl
      · rw [ih (by omega) (by omega), h k (by omega) (by omega)]; omega
  unfold filled
  refine List.map_congr_left fun k hk => ?_
  have hk := List.mem_range.1 hk
  unfold at'
  by_cases hk0 : k = 0
  · subst hk0
    rw [if_pos h0, hu, if_neg (by simp)]
    rfl
  · rw [h k (by omega) hk, hc k hk (by omega)]
    cases hb : u k with
    | false => rfl
    | true => rfl
def missOf (o : Int) (m : Nat) : Option Nat :=
  if sec o && dow o then none
  else if m = cnt (takes o) 6 then some 6
  else if sec o = true ∧ m + 1 = cnt (takes o) 6 then some 0
  else if dow o = true ∧ m + 1 = cnt (takes o) 6 then some 5
  else none
def without (t : Nat → Bool) (miss : Nat) (k : Nat) : Bool := t k && decide (k ≠ miss)
def fillOf (o : Int) (fs : List ByteArray) : Option (List ByteArray) := (missOf o fs.length).map fun miss => filled (without (takes o) miss) fs
end Go.Proofs.YtmnjmhlodbifjaaGreatDoor.FillPure
