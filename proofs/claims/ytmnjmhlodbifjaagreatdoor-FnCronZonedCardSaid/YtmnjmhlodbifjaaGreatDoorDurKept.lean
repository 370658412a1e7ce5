/- What the reading of a duration keeps from term to term, as a plain law. Conditions: none. -/
import Derived.Test.YtmnjmhlodbifjaaGreatDoorDurPure
import Derived.Test.YtmnjmhlodbifjaaGreatDoorTrimSpec
import Derived.Test.YtmnjmhlodbifjaaGreatDoorWordsU
namespace Go.Proofs.YtmnjmhlodbifjaaGreatDoor.DurKept
open Go Go.Proofs.YtmnjmhlodbifjaaGreatDoor.NumPure Go.Proofs.YtmnjmhlodbifjaaGreatDoor.Float Go.Proofs.YtmnjmhlodbifjaaGreatDoor.DurPure Go.Proofs.YtmnjmhlodbifjaaGreatDoor.TrimSpec
set_option linter.unusedVariables false

theorem not_fine {n : Nat} {l : List UInt8} {sum : Nat} {fine : Bool} {R : Option (Option Nat)} (h : durGo n l sum fine = R) (h0 : l ≠ []) (hn : l.length ≤ n) (hx : termBad l = true ∨ (fine && termOk l && decide (sum + termNum l ≤ 4611686018427387904)) = false) : ∀ x, R ≠ some (some x) := by
  intro x
  obtain ⟨m, rfl⟩ : ∃ m, n = m + 1 := ⟨n - 1, by
    have : 0 < l.length := List.length_pos_iff.2 h0
    omega⟩
  rw [← h]
  cases hb : termBad l with
  | true => rw [dur_bad h0 hb]; simp
  | false =>
    rcases hx with hx | hx
    · rw [hb] at hx; cases hx
    · rw [dur_open h0 hb hx]
      exact dur_false _ _ _ _
theorem ne_nil {t : ByteArray} (h0 : 0 < t.size) : t.data.toList ≠ [] := fun e => by
  have h : t.data.toList.length = 0 := by rw [e]; rfl
  rw [← Lib.size_eq] at h
  omega
/-- What is kept from term to term. -/
def Kept (R : Option (Option Nat)) (t : ByteArray) (d : Nat) : Prop := ∃ (sum n : Nat) (fine : Bool), t.data.toList.length ≤ n ∧ durGo n t.data.toList sum fine = R ∧ (fine = true → d = sum ∧ sum ≤ 4611686018427387904)
theorem Kept.bad {R : Option (Option Nat)} {t : ByteArray} {d : Nat} (h : Kept R t d) (h0 : 0 < t.size) (hb : termBad t.data.toList = true) : ∀ x, R ≠ some (some x) := by
  obtain ⟨sum, n, fine, hn, h1, _⟩ := h
  exact not_fine h1 (ne_nil h0) hn (.inl hb)
theorem Kept.nok {R : Option (Option Nat)} {t : ByteArray} {d : Nat} (h : Kept R t d) (h0 : 0 < t.size) (hb : termOk t.data.toList = false) : ∀ x, R ≠ some (some x) := by
  obtain ⟨sum, n, fine, hn, h1, _⟩ := h
  exact not_fine h1 (ne_nil h0) hn (.inr (by rw [hb]; simp))
theorem unit_le (u : List UInt8) : (unitOf u).1 ≤ 3600000000000 := by
  have h := unit_cases u
  simp only [List.mem_cons, List.not_mem_nil, or_false] at h
  rcases h with h | h | h | h | h | h | h <;> rw [h] <;> decide
theorem most_le (l : List UInt8) : most l ≤ 11 := by
  have h := unit_cases (unitName l)
  unfold most
  simp only [List.mem_cons, List.not_mem_nil, or_false] at h
  rcases h with h | h | h | h | h | h | h <;> rw [h] <;> decide
theorem fpart_dig (l : List UInt8) : ∀ c ∈ fpart l, isDig c = true := by
  intro c hc
  unfold fpart at hc
  cases hq : l.dropWhile isDig with
  | nil => rw [hq] at hc; simp [frac] at hc
  | cons a r =>
    rw [hq] at hc
    by_cases ha : a = 46
    · simp only [frac, if_pos ha] at hc
      exact List.all_eq_true.1 (List.all_takeWhile) c hc
    · simp only [frac, if_neg ha] at hc
      cases hc
theorem ok_parts {l : List UInt8} (h : termOk l = true) : (fpart l).length ≤ most l ∧ numOf (whole l) ≤ 4611686018427387904 / unitN l - 1 := by
  unfold termOk at h
  simp only [Bool.and_eq_true, decide_eq_true_eq] at h
  exact ⟨h.1.2, h.2⟩
theorem unit_pos {l : List UInt8} (hb : termBad l = false) : 0 < unitN l := by
  unfold termBad at hb
  simp only [Bool.or_eq_false_iff, beq_eq_false_iff_ne] at hb
  omega
/-- The parts of a term that is taken. -/
theorem part_le (l : List UInt8) : numOf (fpart l) * (unitN l / 10 ^ (fpart l).length) ≤ unitN l := by
  have h1 := val_lt (fpart l) (fpart_dig l)
  have h2 : 10 ^ (fpart l).length * (unitN l / 10 ^ (fpart l).length) ≤ unitN l := Nat.mul_div_le _ _
  exact Nat.le_trans (Nat.mul_le_mul_right _ (Nat.le_of_lt h1)) h2
theorem whole_le {l : List UInt8} (hb : termBad l = false) (ho : termOk l = true) : numOf (whole l) * unitN l + unitN l ≤ 4611686018427387904 := by
  have h1 := unit_pos hb
  have h2 := (ok_parts ho).2
  have h3 : unitN l ≤ 3600000000000 := unit_le _
  have h4 : 1 ≤ 4611686018427387904 / unitN l := by
    rw [Nat.le_div_iff_mul_le h1]; omega
  have h5 : numOf (whole l) + 1 ≤ 4611686018427387904 / unitN l := by omega
  have h6 := (Nat.le_div_iff_mul_le h1).1 h5
  rw [Nat.add_mul, Nat.one_mul] at h6
  exact h6
theorem num_le {l : List UInt8} (hb : termBad l = false) (ho : termOk l = true) : termNum l ≤ 4611686018427387904 := by
  have h1 := whole_le hb ho
  have h2 := part_le l
  unfold termNum
  omega
/-- Whole digits beyond what a term may have. -/
theorem nok_of_gt {l : List UInt8} (hb : termBad l = false) (h : 9223372036854775808 / unitN l < numOf (whole l)) : termOk l = false := by
  rw [Bool.eq_false_iff]
  intro ho
  have h2 := (ok_parts ho).2
  have h3 : 4611686018427387904 / unitN l ≤ 9223372036854775808 / unitN l := Nat.div_le_div_right (by decide)
  generalize 4611686018427387904 / unitN l = a at h2 h3
  generalize 9223372036854775808 / unitN l = b at h h3
  omega
theorem Kept.next {R : Option (Option Nat)} {t t' : ByteArray} {d v : Nat} (h : Kept R t d) (h0 : 0 < t.size) (hb : termBad t.data.toList = false) (hd : d ≤ 9223372036854775808) (hv : v ≤ 9223372036854775808)
    (hok : termOk t.data.toList = true → v = termNum t.data.toList) (ht : t'.data.toList = tailOf t.data.toList) :
    ((d + v) % 18446744073709551616 ≤ 9223372036854775808 → Kept R t' ((d + v) % 18446744073709551616)) ∧ (9223372036854775808 < (d + v) % 18446744073709551616 → ∀ x, R ≠ some (some x)) := by
  obtain ⟨sum, n, fine, hn, h1, hf⟩ := h
  have h00 := ne_nil h0
  have hlt := rest_lt _ hb
  obtain ⟨m, rfl⟩ : ∃ m, n = m + 1 := ⟨n - 1, by
    have : 0 < t.data.toList.length := List.length_pos_iff.2 h00
    omega⟩
  cases hc : (fine && termOk t.data.toList && decide (sum + termNum t.data.toList ≤ 4611686018427387904)) with
  | true =>
    have h2 := dur_step h00 hn hb hc
    simp only [Bool.and_eq_true, decide_eq_true_eq] at hc
    obtain ⟨⟨hfi, ho⟩, hs⟩ := hc
    obtain ⟨rfl, hs2⟩ := hf hfi
    have e := hok ho
    have e2 : (d + v) % 18446744073709551616 = d + termNum t.data.toList := by rw [e]; exact Nat.mod_eq_of_lt (by omega)
    rw [e2]
    refine ⟨fun _ => ⟨d + termNum t.data.toList, m, true, by rw [ht]; omega, by rw [ht, ← h2, h1], fun _ => ⟨rfl, hs⟩⟩, fun hx => by omega⟩
  | false =>
    have h2 := dur_open (n := m) (sum := sum) (fine := fine) h00 hb hc
    refine ⟨fun _ => ⟨0, m, false, by rw [ht]; omega, by rw [ht, ← h2, h1], fun hx => by cases hx⟩, fun _ => not_fine h1 h00 hn (.inr hc)⟩
theorem bad_of_first {l : List UInt8} {c : UInt8} {r : List UInt8} (hl : l = c :: r) (hc : isNum c = false) : termBad l = true := by
  subst hl
  unfold isNum at hc
  simp only [Bool.or_eq_false_iff] at hc
  have h1 : (c :: r).takeWhile isDig = [] := by simp [List.takeWhile, hc.1]
  have h2 : (c :: r).dropWhile isDig = c :: r := by simp [List.dropWhile, hc.1]
  have h3 : ¬ c = 46 := by simpa using hc.2
  unfold termBad whole fpart
  rw [h1, h2]
  simp [frac, h3]

theorem span_num {l : List UInt8} {t : ByteArray} {k : Nat} (ht : t.data.toList = behind l) (hk : k ≤ t.size) (h : ∀ j, j < k → isNum (t.data.toList.getD j 0) = false) (he : ∀ h : k < t.size, isNum t[k] = true) : unitName l = t.data.toList.take k ∧ tailOf l = t.data.toList.drop k := by
  unfold unitName tailOf
  rw [← ht]
  refine span_at (p := fun c => !isNum c) (by simpa using hk) (fun j hj => by rw [h j hj]; rfl) (fun hlt => ?_)
  have hlt : k < t.size := by simpa using hlt
  rw [Words.getD_at t k hlt, he hlt]
  rfl
theorem snoc_num {t : ByteArray} {k : Nat} (hk : k < t.size) (hd : isNum t[k] = false) (h : ∀ j, j < k → isNum (t.data.toList.getD j 0) = false) : ∀ j, j < k + 1 → isNum (t.data.toList.getD j 0) = false := by
  intro j hj
  by_cases hjk : j = k
  · subst hjk; rw [Words.getD_at t j hk]; exact hd
  · exact h j (by omega)
theorem bad_of_name {l : List UInt8} (h : unitName l = []) : termBad l = true := by
  unfold termBad unitN
  rw [h]
  simp [unitOf]
theorem bad_of_unit {l : List UInt8} (h : unitN l = 0) : termBad l = true := by
  unfold termBad
  rw [h]
  simp
theorem not_bad {l : List UInt8} (h : (whole l).length + (fpart l).length ≠ 0) (hn : unitN l ≠ 0) : termBad l = false := by
  unfold termBad
  rw [decide_eq_false h]
  simpa using hn

end Go.Proofs.YtmnjmhlodbifjaaGreatDoor.DurKept
