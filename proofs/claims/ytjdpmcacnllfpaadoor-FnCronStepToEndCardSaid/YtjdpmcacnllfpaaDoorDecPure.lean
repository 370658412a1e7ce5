/- Plain lemmas: decimals as numbers. Conditions: below 2^40. -/
import Derived.Test.YtjdpmcacnllfpaaDoorNumPure
import Derived.Test.YtjdpmcacnllfpaaDoorSplitPure
import Derived.Lib.ItoaNum
namespace Go.Proofs.YtjdpmcacnllfpaaDoor.DecPure
open Go Go.Proofs.YtjdpmcacnllfpaaDoor.NumPure Go.Proofs.YtjdpmcacnllfpaaDoor.SplitPure

theorem readN_snoc (l : List UInt8) (c : UInt8) : ∀ n, readN n (l ++ [c]) = (readN n l).bind fun m => if isDig c then some (min (10 * m + (c.toNat - 48)) huge) else none := by
  induction l with
  | nil => intro n; simp [readN]
  | cons x r ih =>
    intro n
    simp only [List.cons_append, readN]
    split
    · exact ih _
    · rfl

theorem digit {k : Nat} (h : k < 10) : (UInt8.ofNat (48 + k)).toNat = 48 + k := by
  rw [UInt8.toNat_ofNat']
  exact Nat.mod_eq_of_lt (by omega)
theorem dec_all (u : Nat) : ∀ c ∈ Lib.decDigits u, 48 ≤ c.toNat ∧ c.toNat ≤ 57 := by
  induction u using Nat.strongRecOn with
  | ind u ih =>
    intro c hc
    rw [Lib.decDigits] at hc
    split at hc
    · rename_i h
      simp only [List.mem_singleton] at hc
      subst hc
      rw [digit h]; omega
    · rename_i h
      rw [List.mem_append, List.mem_singleton] at hc
      rcases hc with hc | rfl
      · exact ih (u / 10) (by omega) c hc
      · rw [digit (by omega)]; omega
theorem dec_ne (u : Nat) : Lib.decDigits u ≠ [] := by
  rw [Lib.decDigits]
  split <;> simp
theorem read_dec (u : Nat) (hu : u < huge) : readN 0 (Lib.decDigits u) = some u := by
  induction u using Nat.strongRecOn with
  | ind u ih =>
    rw [Lib.decDigits]
    split
    · rename_i h
      have hd : isDig (UInt8.ofNat (48 + u)) = true := by unfold isDig; rw [digit h]; simp; omega
      simp only [readN, hd, if_true, digit h]
      congr 1
      omega
    · rename_i h
      have hd : isDig (UInt8.ofNat (48 + u % 10)) = true := by unfold isDig; rw [digit (by omega)]; simp; omega
      rw [readN_snoc, ih (u / 10) (by omega) (by omega)]
      simp only [Option.bind_some, hd, if_true, digit (show u % 10 < 10 by omega)]
      congr 1
      omega
theorem dec_signed (u : Nat) : signed (Lib.decDigits u) = false := by
  have h := dec_all u
  cases hl : Lib.decDigits u with
  | nil => rfl
  | cons c r =>
    have hc := h c (by rw [hl]; simp)
    unfold signed
    have h1 : (c == 43) = false := by
      rw [beq_eq_false_iff_ne]; rintro rfl; revert hc; decide
    have h2 : (c == 45) = false := by
      rw [beq_eq_false_iff_ne]; rintro rfl; revert hc; decide
    simp [h1, h2]
theorem number_dec (u : Nat) (hu : u < huge) : numberOf (Lib.decDigits u) = some u := by
  have hs : specNumber (Lib.decDigits u) = (u, 1) := by
    unfold specNumber
    simp only [dec_signed, Bool.false_eq_true, if_false, dec_ne, read_dec u hu]
  have h := fine_read (Lib.decDigits u) (by rw [hs])
  rw [hs] at h
  exact h.1 hu
theorem dec_without (u : Nat) (c : UInt8) (h : c.toNat < 48 ∨ 57 < c.toNat) : c ∉ Lib.decDigits u := fun hm => by
  have := dec_all u c hm; omega

theorem dec_len (k : Nat) : ∀ u, u < 10 ^ (k + 1) → (Lib.decDigits u).length ≤ k + 1 := by
  induction k with
  | zero => intro u h; rw [Lib.decDigits, dif_pos (by simpa using h)]; simp
  | succ k ih =>
    intro u h
    rw [Lib.decDigits]
    split
    · simp
    · have h2 := ih (u / 10) (by rw [Nat.pow_succ] at h; omega)
      rw [List.length_append, List.length_singleton]; omega

end Go.Proofs.YtjdpmcacnllfpaaDoor.DecPure
