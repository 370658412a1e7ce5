/- Floats of 64 bits that stand for whole numbers below 2^53, and what every operation on floats hands back. Conditions: none. · Durations as plain lists: what the reference reads. Conditions: none. -/
import Derived.Test.YtmnjmhlodbifjaaGreatDoorBig
import Derived.Laws.FloatArith
import Derived.Test.YtmnjmhlodbifjaaGreatDoorFillPure

namespace Go.Proofs.YtmnjmhlodbifjaaGreatDoor.Float
open Go Go.RowKit Go.Proofs.YtmnjmhlodbifjaaGreatDoor.Mem Go.Proofs.YtmnjmhlodbifjaaGreatDoor.Aid
set_option linter.unusedVariables false

/-- The float nearest to a number. -/
def fl (n : Nat) : Nat := Ieee.double.nearest false n 0
theorem log_le {n : Nat} (h : n < 2 ^ 53) : n.log2 ≤ 52 := by
  by_cases h0 : n = 0
  · subst h0; decide
  · have := (Nat.log2_lt h0).2 h
    omega
theorem log_pow {n : Nat} (h : n ≠ 0) (k : Nat) : (n * 2 ^ k).log2 = n.log2 + k := by
  have h1 := Nat.log2_self_le h
  have h2 := Nat.lt_log2_self (n := n)
  have hp : 0 < 2 ^ k := Nat.two_pow_pos k
  have hne : n * 2 ^ k ≠ 0 := by
    intro e
    rcases Nat.mul_eq_zero.1 e with e | e
    · exact h e
    · omega
  refine (Nat.log2_eq_iff hne).2 ⟨?_, ?_⟩
  · rw [Nat.pow_add]; exact Nat.mul_le_mul_right _ h1
  · rw [show n.log2 + k + 1 = (n.log2 + 1) + k by omega, Nat.pow_add]; exact Nat.mul_lt_mul_of_pos_right h2 hp
theorem shl (n k : Nat) : n <<< k = n * 2 ^ k := Nat.shiftLeft_eq n k
/-- A number with nothing to drop. -/
theorem cut_exact (way : Ieee.Toward) (hw : way = .even ∨ way = .zero) (n k : Nat) (h : n ≠ 0) : way.cut false (n * 2 ^ k) k = n := by
  have hl := log_pow h k
  have hm : min k ((n * 2 ^ k).log2 + 2) = k := by omega
  have hp : 0 < 2 ^ k := Nat.two_pow_pos k
  unfold Ieee.Toward.cut
  simp only [hm, shl, Nat.one_mul, Nat.mul_div_cancel _ hp, Nat.mul_mod_left]
  rcases hw with rfl | rfl
  · have h1 : decide (2 ^ k < 2 * 0) = false := by simp
    have h2 : ((2 : Nat) ^ k == 2 * 0) = false := by
      rw [beq_eq_false_iff_ne]; omega
    rw [h1, h2]
    simp
  · simp
theorem leastPlace_eq : Ieee.double.leastPlace = -1074 := by decide
theorem frac_eq : Ieee.double.fractionBits = 52 := rfl
theorem inf_eq : Ieee.double.infRung = 9218868437227405312 := by decide
theorem binade_eq : Ieee.double.binade = 4503599627370496 := by decide
theorem sign_eq : Ieee.double.signWeight = 9223372036854775808 := by decide
/-- The word of a whole number, however it is scaled. -/
theorem nearest_up {n : Nat} (h1 : 1 ≤ n) (h2 : n < 2 ^ 53) (k : Nat) : Ieee.double.nearest false (n * 2 ^ k) (-(k : Int)) = (n.log2 + 1022) * 4503599627370496 + n * 2 ^ (52 - n.log2) := by
  have h0 : n ≠ 0 := by omega
  have hl := log_le h2
  have hp : 0 < 2 ^ k := Nat.two_pow_pos k
  have hne : n * 2 ^ k ≠ 0 := by
    intro e
    rcases Nat.mul_eq_zero.1 e with e | e
    · exact h0 e
    · omega
  unfold Ieee.Format.nearest
  rw [if_neg hne]
  simp only [log_pow h0 k, leastPlace_eq, frac_eq, inf_eq, binade_eq]
  have e1 : max (-(k : Int) + ((n.log2 + k : Nat) : Int) - ((52 : Nat) : Int)) (-1074) = (n.log2 : Int) - 52 := by
    rw [Int.max_def]; split <;> omega
  rw [e1]
  have e2 : ((n.log2 : Int) - 52 - (-1074)).toNat = n.log2 + 1022 := by omega
  rw [e2]
  have hK : n * 2 ^ (52 - n.log2) < 9007199254740992 := by
    have := Nat.lt_log2_self (n := n)
    calc n * 2 ^ (52 - n.log2) < 2 ^ (n.log2 + 1) * 2 ^ (52 - n.log2) := Nat.mul_lt_mul_of_pos_right this (Nat.two_pow_pos _)
      _ = 9007199254740992 := by rw [← Nat.pow_add, show n.log2 + 1 + (52 - n.log2) = 53 by omega]
  have ec : Ieee.Toward.even.cut false ((n * 2 ^ k) <<< (-(k : Int) - ((n.log2 : Int) - 52)).toNat) ((n.log2 : Int) - 52 - -(k : Int)).toNat = n * 2 ^ (52 - n.log2) := by
    rw [shl, Nat.mul_assoc, ← Nat.pow_add]
    by_cases hk : k ≤ 52 - n.log2
    · rw [show ((n.log2 : Int) - 52 - -(k : Int)).toNat = 0 by omega, show k + (-(k : Int) - ((n.log2 : Int) - 52)).toNat = 52 - n.log2 by omega]
      have := cut_exact .even (.inl rfl) (n * 2 ^ (52 - n.log2)) 0 (by
        intro e
        rcases Nat.mul_eq_zero.1 e with e | e
        · exact h0 e
        · have := Nat.two_pow_pos (52 - n.log2); omega)
      rwa [Nat.pow_zero, Nat.mul_one] at this
    · obtain ⟨d, hd⟩ : ∃ d, k = (52 - n.log2) + d := ⟨k - (52 - n.log2), by omega⟩
      rw [show ((n.log2 : Int) - 52 - -(k : Int)).toNat = d by omega, show k + (-(k : Int) - ((n.log2 : Int) - 52)).toNat = (52 - n.log2) + d by omega]
      rw [Nat.pow_add, ← Nat.mul_assoc]
      exact cut_exact .even (.inl rfl) _ d (by
        intro e
        rcases Nat.mul_eq_zero.1 e with e | e
        · exact h0 e
        · have := Nat.two_pow_pos (52 - n.log2); omega)
  rw [ec]
  unfold Ieee.Format.word
  rw [if_neg (by decide)]
  rw [Nat.min_eq_left]
  generalize n * 2 ^ (52 - n.log2) = K at hK
  omega
theorem fl_eq {n : Nat} (h1 : 1 ≤ n) (h2 : n < 2 ^ 53) : fl n = (n.log2 + 1022) * 4503599627370496 + n * 2 ^ (52 - n.log2) := by
  have := nearest_up h1 h2 0
  rw [Nat.pow_zero, Nat.mul_one] at this
  exact this
theorem kept {n : Nat} (h1 : 1 ≤ n) (h2 : n < 2 ^ 53) : 4503599627370496 ≤ n * 2 ^ (52 - n.log2) ∧ n * 2 ^ (52 - n.log2) < 9007199254740992 := by
  have hl := log_le h2
  constructor
  · calc 4503599627370496 = 2 ^ n.log2 * 2 ^ (52 - n.log2) := by rw [← Nat.pow_add, show n.log2 + (52 - n.log2) = 52 by omega]
      _ ≤ n * 2 ^ (52 - n.log2) := Nat.mul_le_mul_right _ (Nat.log2_self_le (by omega))
  · have := Nat.lt_log2_self (n := n)
    calc n * 2 ^ (52 - n.log2) < 2 ^ (n.log2 + 1) * 2 ^ (52 - n.log2) := Nat.mul_lt_mul_of_pos_right this (Nat.two_pow_pos _)
      _ = 9007199254740992 := by rw [← Nat.pow_add, show n.log2 + 1 + (52 - n.log2) = 53 by omega]
theorem read_fl {n : Nat} (h1 : 1 ≤ n) (h2 : n < 2 ^ 53) : Ieee.double.read (fl n) = .number false (n * 2 ^ (52 - n.log2)) ((n.log2 : Int) - 52) := by
  have hl := log_le h2
  obtain ⟨k1, k2⟩ := kept h1 h2
  rw [fl_eq h1 h2]
  generalize n * 2 ^ (52 - n.log2) = K at k1 k2
  obtain ⟨J, rfl⟩ : ∃ J, K = 4503599627370496 + J := Nat.exists_eq_add_of_le k1
  have hJ : J < 4503599627370496 := by omega
  clear k1 k2
  obtain ⟨l, hl2⟩ : ∃ l, n.log2 = l := ⟨_, rfl⟩
  rw [hl2] at hl ⊢
  clear hl2
  unfold Ieee.Format.read
  simp only [leastPlace_eq, inf_eq, binade_eq, sign_eq]
  have e3 : (l + 1022) * 4503599627370496 + (4503599627370496 + J) = (l + 1023) * 4503599627370496 + J := by omega
  rw [e3]
  have hb : (l + 1023) * 4503599627370496 + J < 9223372036854775808 := by omega
  have e1 : ((l + 1023) * 4503599627370496 + J) / 9223372036854775808 = 0 := Nat.div_eq_of_lt hb
  have e2 : ((l + 1023) * 4503599627370496 + J) % 9223372036854775808 = (l + 1023) * 4503599627370496 + J := Nat.mod_eq_of_lt hb
  rw [e1, e2]
  have e4 : ((l + 1023) * 4503599627370496 + J) % 4503599627370496 = J := by
    rw [Nat.mul_comm, Nat.mul_add_mod]; exact Nat.mod_eq_of_lt hJ
  have e5 : ((l + 1023) * 4503599627370496 + J) / 4503599627370496 = l + 1023 := by
    rw [Nat.mul_comm, Nat.mul_add_div (show 0 < 4503599627370496 by decide), Nat.div_eq_of_lt hJ, Nat.add_zero]
  rw [e4, e5]
  have c1 : ¬ (l + 1023) * 4503599627370496 + J < 4503599627370496 := by omega
  have c2 : (l + 1023) * 4503599627370496 + J < 9218868437227405312 := by omega
  rw [if_neg c1, if_pos c2]
  have e7 : (-1074 : Int) + ((l + 1023 - 1 : Nat) : Int) = (l : Int) - 52 := by omega
  rw [e7]
  rfl
theorem mul_exact {a b : Nat} (ha : 1 ≤ a) (hb : 1 ≤ b) (h : a * b < 2 ^ 53) : Ieee.double.mul (fl a) (fl b) = some (fl (a * b)) := by
  have ha2 : a < 2 ^ 53 := Nat.lt_of_le_of_lt (Nat.le_mul_of_pos_right a hb) h
  have hb2 : b < 2 ^ 53 := Nat.lt_of_le_of_lt (Nat.le_mul_of_pos_left b ha) h
  have hab : 1 ≤ a * b := Nat.mul_pos ha hb
  have la := log_le ha2
  have lb := log_le hb2
  unfold Ieee.Format.mul
  rw [read_fl ha ha2, read_fl hb hb2]
  simp only [Ieee.Datum.product, Option.map_some, Ieee.Format.write]
  congr 1
  rw [show a * 2 ^ (52 - a.log2) * (b * 2 ^ (52 - b.log2)) = a * b * 2 ^ ((52 - a.log2) + (52 - b.log2)) by rw [Nat.pow_add]; ac_rfl]
  rw [show (a.log2 : Int) - 52 + ((b.log2 : Int) - 52) = -(((52 - a.log2) + (52 - b.log2) : Nat) : Int) by omega]
  rw [fl_eq hab h]
  exact nearest_up hab h _
theorem int_fl {n : Nat} (h1 : 1 ≤ n) (h2 : n < 2 ^ 53) : floatToIntVal .f64 (fl n) .u64 = some (n : Int) := by
  have hl := log_le h2
  have hd : FloatKind.f64.decode (fl n) = .number false (n * 2 ^ (52 - n.log2)) ((n.log2 : Int) - 52) := read_fl h1 h2
  unfold floatToIntVal
  rw [hd]
  simp only [Ieee.Datum.toInt, Ieee.Datum.integral]
  rw [show ((n.log2 : Int) - 52).toNat = 0 by omega, show (-((n.log2 : Int) - 52)).toNat = 52 - n.log2 by omega]
  rw [shl, Nat.pow_zero, Nat.mul_one, cut_exact .zero (.inr rfl) n _ (by omega)]
  have hs : Ieee.signed false n 0 = (n : Int) := by
    unfold Ieee.signed
    rw [if_neg (by decide), shl, Nat.pow_zero, Nat.mul_one]
  rw [hs]
  rw [if_pos]
  constructor
  · show (0 : Int) ≤ n
    omega
  · show (n : Int) ≤ 18446744073709551615
    omega
theorem of_int (n : Nat) : floatOfInt .f64 (n : Int) = fl n := by
  unfold floatOfInt FloatKind.nearest FloatKind.encode fl
  have h1 : decide ((n : Int) < 0) = false := decide_eq_false (by omega)
  rw [h1]
  rfl

/-- What arithmetic on floats hands back, whatever they are. -/
theorem arith_gen (P : Program) (op : BinOp) (h : op = .mul ∨ op = .quo) (t : TypeId) (x y : Nat) (w : World) : ∃ b n, (binOp op t (.float .f64 x) (.float .f64 y)).run P w = .ok (.float .f64 b) (w.drewN n) := by
  cases hf : floatBits op .f64 x y with
  | some r => exact ⟨r, 0, run_float_arith w op t .f64 x y r hf⟩
  | none =>
    rcases h with rfl | rfl
    · unfold floatBits at hf
      simp only at hf
      cases hq : (Question.nanBits FloatKind.f64 x y).forced with
      | true => exact ⟨0, 0, by simp [binOp, Op.floatArith, hf, hq]; rfl⟩
      | false => exact ⟨(Question.nanBits FloatKind.f64 x y).cut (w.tape w.drawn (Question.nanBits FloatKind.f64 x y)), 1, by simp [binOp, Op.floatArith, hf, hq]; rfl⟩
    · unfold floatBits at hf
      simp only at hf
      cases hq : (Question.nanBits FloatKind.f64 x y).forced with
      | true => exact ⟨0, 0, by simp [binOp, Op.floatArith, hf, hq]; rfl⟩
      | false => exact ⟨(Question.nanBits FloatKind.f64 x y).cut (w.tape w.drawn (Question.nanBits FloatKind.f64 x y)), 1, by simp [binOp, Op.floatArith, hf, hq]; rfl⟩
theorem conv_gen (P : Program) (src dst : TypeId) (b : Nat) (w : World) (hs : (P.underlying src).isSome = true) (hd : P.underlying dst = some (.int .u64)) : ∃ (m n : Nat), m < 2 ^ 64 ∧ (convert src dst (.float .f64 b)).run P w = .ok (.int .u64 (m : Int)) (w.drewN n) := by
  cases hf : floatToIntVal .f64 b .u64 with
  | some r =>
    have hr : 0 ≤ r ∧ r ≤ 18446744073709551615 := by
      unfold floatToIntVal at hf
      split at hf
      · split at hf
        · rename_i hb; cases hf; exact hb
        · cases hf
      · cases hf
    refine ⟨r.toNat, 0, by omega, ?_⟩
    rw [show ((r.toNat : Nat) : Int) = r by omega]
    exact run_convert_float_int w src dst .f64 .u64 b r hs hd hf
  | none =>
    obtain ⟨u, hs'⟩ := Option.isSome_iff_exists.1 hs
    have key : ∀ z : Int, ∃ m : Nat, m < 2 ^ 64 ∧ IntKind.u64.wrap z = (m : Int) := fun z => by
      refine ⟨(IntKind.u64.wrap z).toNat, ?_, ?_⟩ <;> rw [IntKind.wrap_u64] <;> omega
    have hany : ∀ X : World, ∃ (m n : Nat), m < 2 ^ 64 ∧ (Conv.floatToInt .f64 b .u64).run P X = .ok (.int .u64 (m : Int)) (X.drewN n) := fun X => by
      have h2 : (Conv.floatToInt .f64 b .u64) = (do pure (.int .u64 (IntKind.u64.wrap (← choose (.floatToInt .f64 b .u64))))) := by
        unfold floatToIntVal at hf
        unfold Conv.floatToInt
        dsimp only
        cases he : (FloatKind.f64.decode b).toInt .zero with
        | none => rfl
        | some n =>
          rw [he] at hf
          simp only at hf
          split at hf
          · cases hf
          · rename_i hn
            simp only
            rw [if_neg hn]
      rw [h2]
      cases hq : (Question.floatToInt FloatKind.f64 b IntKind.u64).forced with
      | true =>
        obtain ⟨m, hm, he⟩ := key 0
        exact ⟨m, 0, hm, by simp [hq]; exact ⟨he, rfl⟩⟩
      | false =>
        obtain ⟨m, hm, he⟩ := key ((Question.floatToInt FloatKind.f64 b IntKind.u64).cut (X.tape X.drawn (Question.floatToInt FloatKind.f64 b IntKind.u64)))
        exact ⟨m, 1, hm, by simp [hq]; exact ⟨he, rfl⟩⟩
    obtain ⟨m, n, hm, he⟩ := hany w
    refine ⟨m, n, hm, ?_⟩
    cases u <;> simp [convert, run_underlying hs', run_underlying hd, he]

end Go.Proofs.YtmnjmhlodbifjaaGreatDoor.Float

namespace Go.Proofs.YtmnjmhlodbifjaaGreatDoor.DurPure
open Go Go.Proofs.YtmnjmhlodbifjaaGreatDoor.NumPure Go.Proofs.YtmnjmhlodbifjaaGreatDoor.Float
set_option linter.unusedVariables false

/-- The number of a row of digits. -/
def numOf (l : List UInt8) : Nat := l.foldl (fun n c => 10 * n + (c.toNat - 48)) 0
theorem val_snoc (l : List UInt8) (c : UInt8) : numOf (l ++ [c]) = 10 * numOf l + (c.toNat - 48) := by simp [numOf]
theorem isDig_iff (c : UInt8) : isDig c = true ↔ 48 ≤ c.toNat ∧ c.toNat ≤ 57 := by
  unfold isDig
  simp
theorem fold_lt : ∀ (l : List UInt8) (n : Nat), (∀ c ∈ l, isDig c = true) → l.foldl (fun n c => 10 * n + (c.toNat - 48)) n < (n + 1) * 10 ^ l.length := by
  intro l
  induction l with
  | nil => intro n _; simp
  | cons c r ih =>
    intro n h
    have h1 := ih (10 * n + (c.toNat - 48)) (fun x hx => h x (by simp [hx]))
    have h2 := (isDig_iff c).1 (h c (by simp))
    rw [List.foldl_cons, List.length_cons, Nat.pow_succ]
    refine Nat.lt_of_lt_of_le h1 ?_
    calc (10 * n + (c.toNat - 48) + 1) * 10 ^ r.length ≤ ((n + 1) * 10) * 10 ^ r.length := Nat.mul_le_mul_right _ (by omega)
      _ = (n + 1) * (10 ^ r.length * 10) := by rw [Nat.mul_assoc, Nat.mul_comm 10]
theorem val_lt (l : List UInt8) (h : ∀ c ∈ l, isDig c = true) : numOf l < 10 ^ l.length := by
  have := fold_lt l 0 h
  simpa [numOf] using this
theorem dropWhile_le (p : UInt8 → Bool) : ∀ l : List UInt8, (l.dropWhile p).length ≤ l.length := by
  intro l
  induction l with
  | nil => simp
  | cons c r ih =>
    simp only [List.dropWhile]
    split
    · simp; omega
    · exact Nat.le_refl _
def isNum (c : UInt8) : Bool := isDig c || c == 46
/-- A unit: how many nanoseconds, and how many digits a fraction may have. -/
def unitOf (u : List UInt8) : Nat × Nat :=
  if u = [110, 115] then (1, 0)
  else if u = [117, 115] ∨ u = [194, 181, 115] ∨ u = [206, 188, 115] then (1000, 3)
  else if u = [109, 115] then (1000000, 6)
  else if u = [115] then (1000000000, 9)
  else if u = [109] then (60000000000, 10)
  else if u = [104] then (3600000000000, 11)
  else (0, 0)
def whole (l : List UInt8) : List UInt8 := l.takeWhile isDig
/-- Behind the whole digits: the digits of the fraction and what follows. -/
def frac : List UInt8 → List UInt8 × List UInt8
  | [] => ([], [])
  | c :: r => if c = 46 then (r.takeWhile isDig, r.dropWhile isDig) else ([], c :: r)
def fpart (l : List UInt8) : List UInt8 := (frac (l.dropWhile isDig)).1
def behind (l : List UInt8) : List UInt8 := (frac (l.dropWhile isDig)).2
def unitName (l : List UInt8) : List UInt8 := (behind l).takeWhile fun c => !isNum c
def tailOf (l : List UInt8) : List UInt8 := (behind l).dropWhile fun c => !isNum c
def unitN (l : List UInt8) : Nat := (unitOf (unitName l)).1
def most (l : List UInt8) : Nat := (unitOf (unitName l)).2
def termBad (l : List UInt8) : Bool := (decide ((whole l).length + (fpart l).length = 0)) || unitN l == 0
def termOk (l : List UInt8) : Bool := decide ((whole l).length ≤ 15) && decide ((fpart l).length ≤ most l) && decide (numOf (whole l) ≤ 4611686018427387904 / unitN l - 1)
def termNum (l : List UInt8) : Nat := numOf (whole l) * unitN l + numOf (fpart l) * (unitN l / 10 ^ (fpart l).length)
/-- The terms one behind the other: none: bad; some none: left open. -/
def durGo : Nat → List UInt8 → Nat → Bool → Option (Option Nat)
  | 0, _, sum, fine => if fine then some (some sum) else some none
  | n + 1, l, sum, fine =>
    if l = [] then (if fine then some (some sum) else some none)
    else if termBad l then none
    else if fine && termOk l && decide (sum + termNum l ≤ 4611686018427387904) then durGo n (tailOf l) (sum + termNum l) true
    else durGo n (tailOf l) 0 false
theorem dur_false : ∀ n l sum x, durGo n l sum false ≠ some (some x) := by
  intro n
  induction n with
  | zero => intro l sum x; simp [durGo]
  | succ n ih =>
    intro l sum x
    unfold durGo
    split
    · simp
    · split
      · simp
      · simp only [Bool.false_and, Bool.false_eq_true, if_false]
        exact ih _ _ _
theorem dur_nil (n : Nat) (sum : Nat) (fine : Bool) : durGo n [] sum fine = if fine then some (some sum) else some none := by
  cases n <;> simp [durGo]
/-- The sign ahead. -/
def signOf : List UInt8 → Bool × List UInt8
  | [] => (false, [])
  | c :: r => if c = 45 then (true, r) else if c = 43 then (false, r) else (false, c :: r)
def finish (neg : Bool) : Option (Option Nat) → Option (Option Int)
  | none => none
  | some none => some none
  | some (some n) => some (some (if neg then -(n : Int) else (n : Int)))
/-- A duration: none: bad; some none: left open. -/
def dur (l : List UInt8) : Option (Option Int) :=
  if (signOf l).2 = [48] then some (some 0)
  else if (signOf l).2 = [] then none
  else finish (signOf l).1 (durGo (signOf l).2.length (signOf l).2 0 true)
theorem span_at {p : UInt8 → Bool} : ∀ {l : List UInt8} {k : Nat}, k ≤ l.length → (∀ j, j < k → p (l.getD j 0) = true) → (k < l.length → p (l.getD k 0) = false) → l.takeWhile p = l.take k ∧ l.dropWhile p = l.drop k := by
  intro l
  induction l with
  | nil => intro k hk _ _; have : k = 0 := by simpa using hk
           subst this; simp
  | cons c r ih =>
    intro k hk h1 h2
    cases k with
    | zero =>
      have h2 := h2 (by simp)
      simp only [List.getD_cons_zero] at h2
      simp [List.takeWhile, List.dropWhile, h2]
    | succ k =>
      have hc := h1 0 (by omega)
      simp only [List.getD_cons_zero] at hc
      obtain ⟨a, b⟩ := ih (k := k) (by simpa using hk) (fun j hj => by have := h1 (j + 1) (by omega); simpa using this) (fun hlt => by have := h2 (by simpa using hlt); simpa using this)
      simp [List.takeWhile, List.dropWhile, hc, a, b]
theorem rest_le (l : List UInt8) : (behind l).length ≤ l.length := by
  have h1 : (l.dropWhile isDig).length ≤ l.length := dropWhile_le _ _
  unfold behind
  cases hq : l.dropWhile isDig with
  | nil => simp [frac]
  | cons c r =>
    rw [hq] at h1
    by_cases hc : c = 46
    · have := dropWhile_le isDig r
      simp only [frac, if_pos hc]
      simp at h1; omega
    · simp only [frac, if_neg hc]
      exact h1
/-- A term that is not bad takes something away. -/
theorem rest_lt (l : List UInt8) (h : termBad l = false) : (tailOf l).length < l.length := by
  have h1 := rest_le l
  have hn : unitName l ≠ [] := by
    intro e
    unfold termBad unitN at h
    rw [e] at h
    simp [unitOf] at h
  unfold tailOf
  unfold unitName at hn
  cases hb : behind l with
  | nil => rw [hb] at hn; simp at hn
  | cons c r =>
    rw [hb] at hn h1
    cases hc : isNum c with
    | true => simp [List.takeWhile, hc] at hn
    | false =>
      have := dropWhile_le (fun c => !isNum c) r
      simp [List.dropWhile, hc] at h1 ⊢
      omega
theorem dur_step {n : Nat} {l : List UInt8} {sum : Nat} {fine : Bool} (h0 : l ≠ []) (hl : l.length ≤ n + 1) (hb : termBad l = false) : (fine && termOk l && decide (sum + termNum l ≤ 4611686018427387904)) = true → durGo (n + 1) l sum fine = durGo n (tailOf l) (sum + termNum l) true := by
  intro h
  rw [durGo, if_neg h0, hb, if_neg (by decide), if_pos h]
theorem dur_open {n : Nat} {l : List UInt8} {sum : Nat} {fine : Bool} (h0 : l ≠ []) (hb : termBad l = false) : (fine && termOk l && decide (sum + termNum l ≤ 4611686018427387904)) = false → durGo (n + 1) l sum fine = durGo n (tailOf l) 0 false := by
  intro h
  rw [durGo, if_neg h0, hb, if_neg (by decide), h, if_neg (by decide)]
theorem dur_bad {n : Nat} {l : List UInt8} {sum : Nat} {fine : Bool} (h0 : l ≠ []) (hb : termBad l = true) : durGo (n + 1) l sum fine = none := by
  rw [durGo, if_neg h0, if_pos hb]

/-- The units that there are. -/
theorem unit_cases (u : List UInt8) : unitOf u ∈ [(1, 0), (1000, 3), (1000000, 6), (1000000000, 9), (60000000000, 10), (3600000000000, 11), (0, 0)] := by
  unfold unitOf
  repeat' split
  all_goals simp
theorem div_tab : ∀ u ∈ [((1 : Nat), (0 : Nat)), (1000, 3), (1000000, 6), (1000000000, 9), (60000000000, 10), (3600000000000, 11)], ∀ k, k < 12 → k ≤ u.2 → Ieee.double.div (fl u.1) (fl (10 ^ k)) = some (fl (u.1 / 10 ^ k)) ∧ u.1 / 10 ^ k * 10 ^ k = u.1 := by decide +kernel
theorem fl_one : fl 1 = 4607182418800017408 := by decide +kernel
theorem fl_ten : fl 10 = 4621819117588971520 := by decide +kernel

end Go.Proofs.YtmnjmhlodbifjaaGreatDoor.DurPure
