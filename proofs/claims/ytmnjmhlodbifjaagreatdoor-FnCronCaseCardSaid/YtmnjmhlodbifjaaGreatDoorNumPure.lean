/- The plain law of numbers: what the reference reads as a number, and what strconv.Atoi makes of the same text. Conditions: none. -/
import Derived.Lib.AtoiAll
import Derived.WalkKit
namespace Go.Proofs.YtmnjmhlodbifjaaGreatDoor.NumPure
open Go

def isDig (c : UInt8) : Bool := decide (48 ≤ c.toNat) && decide (c.toNat ≤ 57)
def zeros (l : List UInt8) : Bool := l.all fun c => c == 48
def huge : Nat := 1099511627776
def readN : Nat → List UInt8 → Option Nat
  | n, [] => some n
  | n, c :: r => if isDig c then readN (min (10 * n + (c.toNat - 48)) huge) r else none
/-- The sign that is left open. -/
def signed (l : List UInt8) : Bool :=
  match l with
  | [] => false
  | c :: r => c == 43 || (c == 45 && zeros r)
/-- The reference's reading: a number and a verdict (0 bad, 1 fine, 2 open). -/
def specNumber (l : List UInt8) : Nat × Nat :=
  let t := if signed l then l.tail else l
  if t = [] then (0, 0) else
  match readN 0 t with
  | none => (0, 0)
  | some n => (n, if signed l then 2 else 1)

def numberOf (l : List UInt8) : Option Nat :=
  match Lib.atoiAll l with
  | .ok v => if 0 ≤ v then some v.toNat else none
  | _ => none

theorem readN_le {l : List UInt8} : ∀ {n m : Nat}, readN n l = some m → n ≤ huge → m ≤ huge := by
  induction l with
  | nil => intro n m h hn; simp [readN] at h; omega
  | cons c r ih =>
    intro n m h hn
    simp only [readN] at h
    split at h
    · exact ih h (Nat.min_le_right _ _)
    · cases h

theorem readN_none {l : List UInt8} : ∀ {n : Nat}, readN n l = none ↔ ¬ l.all isDig = true := by
  induction l with
  | nil => intro n; simp [readN]
  | cons c r ih =>
    intro n
    simp only [readN, List.all_cons]
    by_cases h : isDig c
    · rw [if_pos h, ih]; simp [h]
    · simp [h]

theorem parse_ok {l : List UInt8} : ∀ {a u : Nat}, Lib.parseUint10 a l = .ok u → l.all isDig = true ∧ a ≤ u ∧ (u = 0 → zeros l = true) := by
  induction l with
  | nil => intro a u h; simp [Lib.parseUint10] at h; subst h; simp [zeros]
  | cons c r ih =>
    intro a u h
    simp only [Lib.parseUint10] at h
    split at h
    · rename_i hd
      split at h
      · cases h
      · split at h
        · cases h
        · obtain ⟨h1, h2, h3⟩ := ih h
          refine ⟨by rw [List.all_cons, h1, Bool.and_true]; simp [isDig, hd.1, hd.2], by omega, fun hu => ?_⟩
          have h4 := h3 hu
          have h5 : c = 48 := by apply UInt8.toNat_inj.1; show c.toNat = 48; omega
          simp only [zeros, List.all_cons, h5] at h4 ⊢
          simpa using h4
    · cases h

theorem numberOf_neg (r : List UInt8) (hz : zeros r = false) : numberOf (45 :: r) = none := by
  unfold numberOf
  cases h : Lib.atoiAll (45 :: r) with
  | ok v =>
    simp only [Lib.atoiAll] at h
    rw [if_pos (Or.inr (by decide))] at h
    cases hm : Lib.parseMag r with
    | ok u =>
      rw [hm] at h
      simp only at h
      have hp : Lib.parseUint10 0 r = .ok u := by
        unfold Lib.parseMag at hm
        split at hm
        · cases hm
        · exact hm
      have hu : u ≠ 0 := fun e => by rw [(parse_ok hp).2.2 e] at hz; cases hz
      rw [if_neg (by simp)] at h
      split at h
      · cases h
      · rw [if_pos (by decide)] at h
        cases h
        simp only
        rw [if_neg (by omega)]
    | _ => rw [hm] at h; cases h
  | _ => rfl

theorem numberOf_none (l : List UInt8) (h : ∀ u, Lib.parseMag (match l with | [] => [] | c :: r => if c.toNat = 43 ∨ c.toNat = 45 then r else l) ≠ .ok u) : numberOf l = none := by
  unfold numberOf
  cases l with
  | nil => rfl
  | cons c r =>
    simp only [Lib.atoiAll]
    simp only at h
    cases hm : Lib.parseMag (if c.toNat = 43 ∨ c.toNat = 45 then r else c :: r) with
    | ok u => exact absurd hm (h u)
    | _ => rfl

/-- What the reference calls wrong is refused. -/
theorem bad_none (l : List UInt8) (h : (specNumber l).2 = 0) : numberOf l = none := by
  have key : ∀ t : List UInt8, (t = [] ∨ readN 0 t = none) → ∀ u, Lib.parseMag t ≠ .ok u := by
    intro t ht u hu
    unfold Lib.parseMag at hu
    split at hu
    · cases hu
    · rename_i hne
      rcases ht with ht | ht
      · exact hne ht
      · exact readN_none.1 ht (parse_ok hu).1
  have h0 : (if signed l then l.tail else l) = [] ∨ readN 0 (if signed l then l.tail else l) = none := by
    simp only [specNumber] at h
    generalize (if signed l then l.tail else l) = t at h ⊢
    by_cases ht : t = []
    · exact .inl ht
    · right
      rw [if_neg ht] at h
      cases hr : readN 0 t with
      | none => rfl
      | some n => rw [hr] at h; simp only at h; split at h <;> cases h
  cases l with
  | nil => rfl
  | cons c r =>
    by_cases hs : signed (c :: r) = true
    · rw [if_pos hs] at h0
      refine numberOf_none _ fun u => ?_
      have hc : c.toNat = 43 ∨ c.toNat = 45 := by
        simp only [signed, Bool.or_eq_true, Bool.and_eq_true, beq_iff_eq] at hs
        rcases hs with rfl | ⟨rfl, _⟩
        · left; rfl
        · right; rfl
      simp only
      rw [if_pos hc]
      exact key r h0 u
    · rw [if_neg hs] at h0
      by_cases h45 : c = 45
      · subst h45
        refine numberOf_neg r ?_
        simp [signed] at hs
        simpa using hs
      · by_cases h43 : c = 43
        · subst h43; simp [signed] at hs
        · refine numberOf_none _ fun u => ?_
          simp only
          rw [if_neg (by
            rintro (e | e)
            · exact h43 (UInt8.toNat_inj.1 e)
            · exact h45 (UInt8.toNat_inj.1 e))]
          exact key (c :: r) h0 u

theorem read_parse (l : List UInt8) : ∀ (a k : Nat), l.all isDig = true → a < 10 ^ k → k + l.length ≤ 12 →
    ∃ u, readN a l = some u ∧ Lib.parseUint10 a l = .ok u ∧ u < 1000000000000 := by
  induction l with
  | nil =>
    intro a k _ h1 h2
    refine ⟨a, rfl, rfl, Nat.lt_of_lt_of_le h1 ?_⟩
    have : 10 ^ k ≤ 10 ^ 12 := Nat.pow_le_pow_right (by decide) (by simpa using h2)
    simpa using this
  | cons c r ih =>
    intro a k hd h1 h2
    simp only [List.all_cons, Bool.and_eq_true] at hd
    have hc := hd.1
    simp only [isDig, Bool.and_eq_true, decide_eq_true_eq] at hc
    simp only [List.length_cons] at h2
    have hk : 10 ^ k ≤ 10 ^ 11 := Nat.pow_le_pow_right (by decide) (by omega)
    have h3 : a < 100000000000 := Nat.lt_of_lt_of_le h1 (by simpa using hk)
    have h4 : 10 * a + (c.toNat - 48) < 10 ^ (k + 1) := by rw [Nat.pow_succ]; omega
    obtain ⟨u, hu1, hu2, hu3⟩ := ih (10 * a + (c.toNat - 48)) (k + 1) hd.2 h4 (by omega)
    refine ⟨u, ?_, ?_, hu3⟩
    · simp only [readN]
      rw [if_pos hd.1, Nat.min_eq_left (by unfold huge; omega)]
      exact hu1
    · simp only [Lib.parseUint10]
      rw [if_pos hc, if_neg (by omega), if_neg (by omega), Nat.mul_comm a 10]
      exact hu2

/-- What the reference reads as fine, in at most twelve bytes, is read so. -/
theorem fine_some (l : List UInt8) (h : (specNumber l).2 = 1) (hl : l.length ≤ 12) : numberOf l = some (specNumber l).1 := by
  have hs : signed l = false := by
    cases hs : signed l with
    | false => rfl
    | true =>
      simp only [specNumber, hs, if_true] at h
      split at h
      · cases h
      · split at h <;> simp at h
  have hne : l ≠ [] := by rintro rfl; simp [specNumber, signed] at h
  have hsome : l.all isDig = true := by
    cases hd : l.all isDig with
    | true => rfl
    | false =>
      have : readN 0 l = none := readN_none.2 (by rw [hd]; simp)
      simp [specNumber, hs, hne, this] at h
  obtain ⟨u, h1, h2, h3⟩ := read_parse l 0 0 hsome (by decide) (by omega)
  have hv : (specNumber l).1 = u := by simp [specNumber, hs, hne, h1]
  rw [hv]
  cases l with
  | nil => exact absurd rfl hne
  | cons c r =>
    simp only [List.all_cons, Bool.and_eq_true, isDig, decide_eq_true_eq] at hsome
    unfold numberOf
    simp only [Lib.atoiAll]
    rw [if_neg (by omega)]
    have hm : Lib.parseMag (c :: r) = .ok u := by unfold Lib.parseMag; rw [if_neg (by simp)]; exact h2
    rw [hm]
    simp only
    rw [if_neg (by omega), if_neg (by omega), if_neg (by omega)]
    simp

theorem readN_huge (l : List UInt8) : ∀ {n m : Nat}, readN n l = some m → huge ≤ n → m = huge ∨ (l = [] ∧ m = n) := by
  induction l with
  | nil => intro n m h hn; simp [readN] at h; exact .inr ⟨rfl, h.symm⟩
  | cons c r ih =>
    intro n m h hn
    simp only [readN] at h
    split at h
    · have hm : min (10 * n + (c.toNat - 48)) huge = huge := Nat.min_eq_right (by omega)
      rw [hm] at h
      rcases ih h (Nat.le_refl _) with h2 | ⟨_, h2⟩
      · exact .inl h2
      · exact .inl h2
    · cases h

/-- Where the reading stays below the bound it is exact; else the text's number is at least the bound, if it is one. -/
theorem read_exact (l : List UInt8) : ∀ {a m : Nat}, readN a l = some m → a < huge →
    (m < huge → Lib.parseUint10 a l = .ok m) ∧ (m = huge → ∀ u, Lib.parseUint10 a l = .ok u → huge ≤ u) := by
  induction l with
  | nil =>
    intro a m h ha
    simp [readN] at h
    subst h
    exact ⟨fun _ => rfl, fun e => by omega⟩
  | cons c r ih =>
    intro a m h ha
    simp only [readN] at h
    split at h
    · rename_i hd
      have hc := hd
      simp only [isDig, Bool.and_eq_true, decide_eq_true_eq] at hc
      by_cases hb : 10 * a + (c.toNat - 48) < huge
      · rw [Nat.min_eq_left (by omega)] at h
        obtain ⟨h1, h2⟩ := ih h hb
        unfold huge at hb ha
        have e : Lib.parseUint10 a (c :: r) = Lib.parseUint10 (10 * a + (c.toNat - 48)) r := by
          simp only [Lib.parseUint10]
          rw [if_pos hc, if_neg (by omega), if_neg (by omega), Nat.mul_comm a 10]
        rw [e]
        exact ⟨h1, h2⟩
      · rw [Nat.min_eq_right (by omega)] at h
        have hm : m = huge := by
          rcases readN_huge r h (Nat.le_refl _) with h2 | ⟨_, h2⟩ <;> exact h2
        refine ⟨fun hlt => by omega, fun _ u hu => ?_⟩
        simp only [Lib.parseUint10] at hu
        rw [if_pos hc] at hu
        split at hu
        · cases hu
        · split at hu
          · cases hu
          · have := (parse_ok hu).2.1; omega
    · cases h

/-- What the reference reads as fine. -/
theorem fine_read (l : List UInt8) (h : (specNumber l).2 = 1) :
    ((specNumber l).1 < huge → numberOf l = some (specNumber l).1) ∧ ((specNumber l).1 = huge → ∀ u, numberOf l = some u → huge ≤ u) ∧ (specNumber l).1 ≤ huge := by
  have hs : signed l = false := by
    cases hs : signed l with
    | false => rfl
    | true =>
      simp only [specNumber, hs, if_true] at h
      split at h
      · cases h
      · split at h <;> simp at h
  have hne : l ≠ [] := by rintro rfl; simp [specNumber, signed] at h
  have hsome : l.all isDig = true := by
    cases hd : l.all isDig with
    | true => rfl
    | false =>
      have : readN 0 l = none := readN_none.2 (by rw [hd]; simp)
      simp [specNumber, hs, hne, this] at h
  cases hr : readN 0 l with
  | none => exact absurd hsome (readN_none.1 hr)
  | some m =>
    have hv : (specNumber l).1 = m := by simp [specNumber, hs, hne, hr]
    obtain ⟨h1, h2⟩ := read_exact l hr (by unfold huge; omega)
    have hle := readN_le hr (by unfold huge; omega)
    rw [hv]
    cases l with
    | nil => exact absurd rfl hne
    | cons c r =>
      simp only [List.all_cons, Bool.and_eq_true, isDig, decide_eq_true_eq] at hsome
      have hat : ∀ u, numberOf (c :: r) = some u ↔ Lib.parseUint10 0 (c :: r) = .ok u ∧ u < 9223372036854775808 := by
        intro u
        unfold numberOf
        simp only [Lib.atoiAll]
        rw [if_neg (by omega)]
        have hm : Lib.parseMag (c :: r) = Lib.parseUint10 0 (c :: r) := by unfold Lib.parseMag; rw [if_neg (by simp)]
        rw [hm]
        cases hp : Lib.parseUint10 0 (c :: r) with
        | ok v =>
          simp only
          have h45 : ¬ c.toNat = 45 := by omega
          by_cases hbig : 9223372036854775808 ≤ v
          · rw [if_pos ⟨h45, hbig⟩]
            constructor
            · intro e; cases e
            · rintro ⟨e, hlt⟩; cases e; omega
          · rw [if_neg (by omega), if_neg (by omega), if_neg h45]
            simp only
            rw [if_pos (by omega)]
            simp only [Int.toNat_natCast, Option.some.injEq, Lib.NumEnd.ok.injEq]
            constructor
            · rintro rfl; exact ⟨rfl, by omega⟩
            · rintro ⟨e, _⟩; exact e
        | _ => simp
      refine ⟨fun hlt => (hat m).2 ⟨h1 hlt, by unfold huge at hlt; omega⟩, fun e u hu => h2 e u ((hat u).1 hu).1, hle⟩

/-- Zeros behind a sign that is left open. -/
theorem open_zero (l : List UInt8) (h : (specNumber l).2 = 2) (h0 : (specNumber l).1 = 0) : numberOf l = some 0 := by
  have hs : signed l = true := by
    cases hs : signed l with
    | true => rfl
    | false =>
      simp only [specNumber, hs, Bool.false_eq_true, if_false] at h
      by_cases hl : l = []
      · rw [if_pos hl] at h; cases h
      · rw [if_neg hl] at h
        cases hn : readN 0 l with
        | none => rw [hn] at h; cases h
        | some n => rw [hn] at h; cases h
  cases l with
  | nil => simp [signed] at hs
  | cons c r =>
    have hc : c.toNat = 43 ∨ c.toNat = 45 := by
      simp only [signed, Bool.or_eq_true, Bool.and_eq_true, beq_iff_eq] at hs
      rcases hs with rfl | ⟨rfl, _⟩
      · left; rfl
      · right; rfl
    simp only [specNumber, hs, if_true, List.tail_cons] at h h0
    by_cases hr : r = []
    · rw [if_pos hr] at h; cases h
    · rw [if_neg hr] at h h0
      cases hn : readN 0 r with
      | none => rw [hn] at h; cases h
      | some n =>
        rw [hn] at h0
        simp only at h0
        subst h0
        have hp := (read_exact r hn (by unfold huge; omega)).1 (by unfold huge; omega)
        unfold numberOf
        simp only [Lib.atoiAll]
        rw [if_pos hc]
        have hm : Lib.parseMag r = .ok 0 := by unfold Lib.parseMag; rw [if_neg hr]; exact hp
        rw [hm]
        simp only
        rw [if_neg (by omega), if_neg (by omega)]
        have hz : (if c.toNat = 45 then -((0 : Nat) : Int) else ((0 : Nat) : Int)) = 0 := by split <;> rfl
        rw [hz]; rfl

end Go.Proofs.YtmnjmhlodbifjaaGreatDoor.NumPure
