/- Plain lemmas: the texts of a value with a step, and what they mean. Conditions: numbers below 2^40. -/
import Derived.Test.YtjdpmcacnllfpaaDoorDecPure
import Derived.Test.YtjdpmcacnllfpaaDoorItemAll
import Derived.MapKept
namespace Go.Proofs.YtjdpmcacnllfpaaDoor.StepPure
open Go Go.RowKit Go.Proofs.YtjdpmcacnllfpaaDoor.NumPure Go.Proofs.YtjdpmcacnllfpaaDoor.SplitPure Go.Proofs.YtjdpmcacnllfpaaDoor.DecPure Go.Proofs.YtjdpmcacnllfpaaDoor.Lower Go.Proofs.YtjdpmcacnllfpaaDoor.NameMap Go.Proofs.YtjdpmcacnllfpaaDoor.Names Go.Proofs.YtjdpmcacnllfpaaDoor.NamesAt Go.Proofs.YtjdpmcacnllfpaaDoor.ItemAll Go.Proofs.YtjdpmcacnllfpaaDoor.ItemKind Go.Proofs.YtjdpmcacnllfpaaDoor.Range Go.Proofs.YtjdpmcacnllfpaaDoor.Bits Go.Proofs.YtjdpmcacnllfpaaDoor.GetBits

theorem lowB_digit {r : Nat} (h : 48 ≤ r ∧ r ≤ 57) : lowB r = [UInt8.ofNat r] := by
  have h2 : r = 48 ∨ r = 49 ∨ r = 50 ∨ r = 51 ∨ r = 52 ∨ r = 53 ∨ r = 54 ∨ r = 55 ∨ r = 56 ∨ r = 57 := by omega
  rcases h2 with rfl | rfl | rfl | rfl | rfl | rfl | rfl | rfl | rfl | rfl <;> rfl
theorem lower_digits (s : ByteArray) (h : ∀ c ∈ s.data.toList, 48 ≤ c.toNat ∧ c.toNat ≤ 57) : ∀ f pos, s.size ≤ f + pos → lowGo s f pos = s.data.toList.drop pos := by
  intro f
  induction f with
  | zero => intro pos hp; rw [List.drop_of_length_le (by simp; omega)]; rfl
  | succ f ih =>
    intro pos hp
    by_cases hlt : pos < s.size
    · have hm := h (s.data.toList[pos]'(by simpa using hlt)) (List.getElem_mem _)
      have e : s.data.toList[pos]'(by simpa using hlt) = s[pos] := rfl
      rw [e] at hm
      have hd := decode_ascii s pos hlt (by omega)
      rw [lowGo_next s f pos hlt, hd, lowB_digit hm, ih (pos + 1) (by omega), List.drop_eq_getElem_cons (i := pos) (by simpa using hlt)]
      simp
      rfl
    · rw [lowGo_end s _ pos hlt, List.drop_of_length_le (by simp; omega)]
theorem lower_dec (u : Nat) : lower (ofL (Lib.decDigits u)) = Lib.decDigits u := by
  unfold lower
  rw [lower_digits _ (by rw [toList_ofL]; exact dec_all u) _ 0 (by omega), toList_ofL]; rfl

/-- A name begins with a letter. -/
theorem nlook_digits (l : List (ByteArray × Nat)) (hl : ∀ p ∈ l, ∃ c r, p.1 = ⟨(c :: r).toArray⟩ ∧ 57 < c.toNat) (u : Nat) : nlook l (ofL (Lib.decDigits u)) = none := by
  induction l with
  | nil => rfl
  | cons p r ih =>
    obtain ⟨t, n⟩ := p
    unfold nlook
    rw [if_neg]
    · exact ih (fun q hq => hl q (by simp [hq]))
    · intro he
      obtain ⟨c, rr, h1, h2⟩ := hl (t, n) (by simp)
      have h3 : ofL (Lib.decDigits u) = t := (MapKept.bytes_beq _ _).1 he
      simp only at h1
      have h4 : Lib.decDigits u = c :: rr := by
        rw [h1] at h3
        have := congrArg (fun b : ByteArray => b.data.toList) h3
        simpa [ofL] using this
      have := dec_all u c (by rw [h4]; simp)
      omega

theorem val_dec (kind u : Nat) (hu : u < huge) : ItemAll.valOf kind (Lib.decDigits u) = some u := by
  unfold ItemAll.valOf
  split
  · unfold nameOr; rw [lower_dec, nlook_digits _ (by intro p hp; simp only [monthNames, List.mem_cons, List.not_mem_nil, or_false] at hp; rcases hp with rfl | rfl | rfl | rfl | rfl | rfl | rfl | rfl | rfl | rfl | rfl | rfl <;> exact ⟨_, _, rfl, by decide⟩)]; exact number_dec u hu
  · split
    · unfold nameOr; rw [lower_dec, nlook_digits _ (by intro p hp; simp only [dayNames, List.mem_cons, List.not_mem_nil, or_false] at hp; rcases hp with rfl | rfl | rfl | rfl | rfl | rfl | rfl <;> exact ⟨_, _, rfl, by decide⟩)]; exact number_dec u hu
    · exact number_dec u hu

theorem dec_star (u : Nat) : ¬ (Lib.decDigits u = [42] ∨ Lib.decDigits u = [63]) := by
  rintro (h | h)
  · have := dec_all u 42 (by rw [h]; simp); revert this; decide
  · have := dec_all u 63 (by rw [h]; simp); revert this; decide

/-- low/step. -/
theorem range_step {kind low st lo hi : Nat} (h1 : lo ≤ low) (h2 : low ≤ hi) (hh : hi ≤ 62) (hs : 1 ≤ st) (hs2 : st < huge) :
    rangeOf lo hi (ItemAll.valOf kind) (Lib.decDigits low ++ 47 :: Lib.decDigits st) = some (marked (inRange low hi st) false) := by
  have p1 : pieces 47 (Lib.decDigits low ++ 47 :: Lib.decDigits st) = [Lib.decDigits low, Lib.decDigits st] := by
    rw [pieces_cons (dec_without _ _ (by decide)), pieces_none (dec_without _ _ (by decide))]
  have p2 : pieces 45 (Lib.decDigits low) = [Lib.decDigits low] := pieces_none (dec_without _ _ (by decide))
  rw [rangeOf_of p1 p2, ends_one (dec_star low) (val_dec kind low (by unfold huge; omega)), Option.bind_some, stepped_two (number_dec st hs2)]
  simp only [Option.bind_some, List.length_cons, List.length_nil, decide_true, if_true, Bool.false_and]
  unfold finish
  rw [if_neg (by simp only; omega)]

/-- low-high/step. -/
theorem range_ends {kind low st lo hi : Nat} (h1 : lo ≤ low) (h2 : low ≤ hi) (hh : hi ≤ 62) (hs : 1 ≤ st) (hs2 : st < huge) :
    rangeOf lo hi (ItemAll.valOf kind) ((Lib.decDigits low ++ 45 :: Lib.decDigits hi) ++ 47 :: Lib.decDigits st) = some (marked (inRange low hi st) false) := by
  have p1 : pieces 47 ((Lib.decDigits low ++ 45 :: Lib.decDigits hi) ++ 47 :: Lib.decDigits st) = [Lib.decDigits low ++ 45 :: Lib.decDigits hi, Lib.decDigits st] := by
    rw [pieces_cons (by
      simp only [List.mem_append, List.mem_cons, not_or]
      exact ⟨dec_without _ _ (by decide), by decide, dec_without _ _ (by decide)⟩), pieces_none (dec_without _ _ (by decide))]
  have p2 : pieces 45 (Lib.decDigits low ++ 45 :: Lib.decDigits hi) = [Lib.decDigits low, Lib.decDigits hi] := by
    rw [pieces_cons (dec_without _ _ (by decide)), pieces_none (dec_without _ _ (by decide))]
  rw [rangeOf_of p1 p2, ends_two (dec_star low) (val_dec kind low (by unfold huge; omega)) (val_dec kind hi (by unfold huge; omega)), Option.bind_some, stepped_two (number_dec st hs2)]
  simp only [Option.bind_some, List.length_cons, List.length_nil, Bool.false_and]
  unfold finish
  rw [if_neg (by simp; omega)]
  simp

/-- A star with a step. -/
theorem range_star {kind st lo hi : Nat} (h2 : lo ≤ hi) (hs : 1 ≤ st) (hs2 : st < huge) :
    rangeOf lo hi (ItemAll.valOf kind) ([42] ++ 47 :: Lib.decDigits st) = some (marked (inRange lo hi st) (!decide (1 < st))) := by
  have p1 : pieces 47 ([42] ++ 47 :: Lib.decDigits st) = [[42], Lib.decDigits st] := by
    rw [pieces_cons (by decide), pieces_none (dec_without _ _ (by decide))]
  have p2 : pieces 45 [42] = [[42]] := rfl
  rw [rangeOf_of p1 p2, ends_star (.inl rfl), Option.bind_some, stepped_two (number_dec st hs2)]
  simp only [Option.bind_some, List.length_cons, List.length_nil, decide_true, if_true, Bool.true_and]
  unfold finish
  rw [if_neg (by simp only; omega)]

theorem marked_star (p : Nat → Bool) : Go.bits .or .u64 (marked p false) 9223372036854775808 = marked p true := by
  rw [show (9223372036854775808 : Int) = starBit true from rfl, show marked p false = bset p by unfold marked; exact bset_congr fun i _ => by simp]
  exact or_starBit p true

end Go.Proofs.YtjdpmcacnllfpaaDoor.StepPure
