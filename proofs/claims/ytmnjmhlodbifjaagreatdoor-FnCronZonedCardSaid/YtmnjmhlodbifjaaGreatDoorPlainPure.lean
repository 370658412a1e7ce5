/- Plain cron texts in plain Lean: words, the reading of six fields, letters of the other case. Conditions: none. -/
import Derived.Test.YtmnjmhlodbifjaaGreatDoorFieldCall
import Derived.Test.YtmnjmhlodbifjaaGreatDoorKind
import Derived.Test.YtmnjmhlodbifjaaGreatDoorFillPure
namespace Go.Proofs.YtmnjmhlodbifjaaGreatDoor.PlainPure
open Go Go.Proofs.YtmnjmhlodbifjaaGreatDoor.NumPure Go.Proofs.YtmnjmhlodbifjaaGreatDoor.SplitPure Go.Proofs.YtmnjmhlodbifjaaGreatDoor.Lower Go.Proofs.YtmnjmhlodbifjaaGreatDoor.NamesAt Go.Proofs.YtmnjmhlodbifjaaGreatDoor.Names Go.Proofs.YtmnjmhlodbifjaaGreatDoor.NameMap Go.Proofs.YtmnjmhlodbifjaaGreatDoor.Range Go.Proofs.YtmnjmhlodbifjaaGreatDoor.FieldPure Go.Proofs.YtmnjmhlodbifjaaGreatDoor.Field Go.Proofs.YtmnjmhlodbifjaaGreatDoor.Kind Go.Proofs.YtmnjmhlodbifjaaGreatDoor.FillPure

/-- A isSp of ASCII. -/
def isSp (b : UInt8) : Bool := b == 32 || (decide (9 ≤ b.toNat) && decide (b.toNat ≤ 13))
/-- The words from place i on; st is where the word under way began. -/
def wordsGo (l : List UInt8) : Nat → Nat → Option Nat → List (List UInt8)
  | 0, _, none => []
  | 0, i, some f => [(l.drop f).take (i - f)]
  | n + 1, i, st =>
    if isSp (l.getD i 0) then
      match st with
      | none => wordsGo l n (i + 1) none
      | some f => (l.drop f).take (i - f) :: wordsGo l n (i + 1) none
    else
      match st with
      | none => wordsGo l n (i + 1) (some i)
      | some f => wordsGo l n (i + 1) (some f)
def words (l : List UInt8) : List (List UInt8) := wordsGo l l.length 0 none

/-- The value of one field's text. -/
def fieldOf (kind : Nat) (l : List UInt8) : Option Int := orOf (lowOf kind) (highOf kind) (Kind.valOf kind) (full l) 0
/-- The six fields, read one after the other. -/
def six (L : List (List UInt8)) : Nat → Option (List Int)
  | 0 => some []
  | k + 1 => match six L k with
    | none => none
    | some r => match fieldOf k (L.getD k []) with
      | none => none
      | some b => some (r ++ [b])
/-- What a plain text means to a parser. -/
def plainOf (o : Int) (l : List UInt8) : Option (List Int) :=
  if l = [] then none else
  match fillOf o ((words l).map ofL) with
  | none => none
  | some L => six (L.map fun s => s.data.toList) 6

/-- The small letter of a capital. -/
def low (b : UInt8) : UInt8 := if decide (65 ≤ b.toNat) && decide (b.toNat ≤ 90) then b + 32 else b
theorem all8 {P : UInt8 → Prop} (h : ∀ n : Fin 256, P (UInt8.ofNat n.val)) (b : UInt8) : P b := by
  have := h ⟨b.toNat, b.toNat_lt⟩
  rwa [show UInt8.ofNat b.toNat = b from UInt8.ofNat_toNat] at this
theorem low_low (b : UInt8) : low (low b) = low b := all8 (P := fun b => low (low b) = low b) (by decide +kernel) b
theorem low_sp (b : UInt8) : isSp (low b) = isSp b := all8 (P := fun b => isSp (low b) = isSp b) (by decide +kernel) b
theorem low_ascii (b : UInt8) : (low b).toNat < 128 ↔ b.toNat < 128 := all8 (P := fun b => (low b).toNat < 128 ↔ b.toNat < 128) (by decide +kernel) b
def Own (c : UInt8) : Prop := ∀ b, low b = c ↔ b = c
theorem own42 : Own 42 := all8 (by decide +kernel)
theorem own44 : Own 44 := all8 (by decide +kernel)
theorem own45 : Own 45 := all8 (by decide +kernel)
theorem own47 : Own 47 := all8 (by decide +kernel)
theorem own63 : Own 63 := all8 (by decide +kernel)
def Ascii (l : List UInt8) : Prop := ∀ b ∈ l, b.toNat < 128
theorem Ascii.low {l : List UInt8} (h : Ascii l) : Ascii (l.map low) := by
  intro b hb
  obtain ⟨a, ha, rfl⟩ := List.mem_map.1 hb
  exact (low_ascii a).2 (h a ha)

theorem pieces_low {c : UInt8} (hc : Own c) (l : List UInt8) : pieces c (l.map low) = (pieces c l).map (·.map low) := by
  induction l with
  | nil => rfl
  | cons x r ih =>
    simp only [List.map_cons, pieces]
    by_cases h : x = c
    · rw [if_pos ((hc x).2 h), if_pos h, ih]
      rfl
    · rw [if_neg (fun e => h ((hc x).1 e)), if_neg h, ih]
      cases pieces c r <;> rfl
theorem pieces_ascii {c : UInt8} {l : List UInt8} (h : Ascii l) : ∀ p ∈ pieces c l, Ascii p := by
  induction l with
  | nil => intro p hp; simp [pieces] at hp; subst hp; intro b hb; cases hb
  | cons x r ih =>
    have ihr := ih fun b hb => h b (List.mem_cons_of_mem _ hb)
    have hx := h x List.mem_cons_self
    intro p hp
    unfold pieces at hp
    split at hp
    · rcases List.mem_cons.1 hp with rfl | hp
      · intro b hb; cases hb
      · exact ihr p hp
    · split at hp
      · simp at hp; subst hp; intro b hb; simp at hb; subst hb; exact hx
      · rename_i q qs hq
        rw [hq] at ihr
        rcases List.mem_cons.1 hp with rfl | hp
        · intro b hb
          rcases List.mem_cons.1 hb with rfl | hb
          · exact hx
          · exact ihr q List.mem_cons_self b hb
        · exact ihr p (List.mem_cons_of_mem _ hp)
theorem full_low (l : List UInt8) : full (l.map low) = (full l).map (·.map low) := by
  unfold full
  rw [pieces_low own44, List.filter_map]
  congr 1
  refine List.filter_congr fun p _ => ?_
  cases p <;> rfl
theorem full_ascii {l : List UInt8} (h : Ascii l) : ∀ p ∈ full l, Ascii p := fun p hp => pieces_ascii h p (List.mem_filter.1 hp).1

theorem wordsGo_low (l : List UInt8) : ∀ (n i : Nat) (st : Option Nat), i + n ≤ l.length → wordsGo (l.map low) n i st = (wordsGo l n i st).map (·.map low) := by
  intro n
  induction n with
  | zero => intro i st _; cases st <;> simp [wordsGo, List.map_drop, List.map_take]
  | succ n ih =>
    intro i st hi
    have hg : (l.map low).getD i 0 = low (l.getD i 0) := by
      rw [List.getD_eq_getElem?_getD, List.getD_eq_getElem?_getD, List.getElem?_map, List.getElem?_eq_getElem (by omega)]
      rfl
    unfold wordsGo
    rw [hg, low_sp]
    split
    · cases st with
      | none => exact ih _ _ (by omega)
      | some f => simp only [List.map_cons, ih _ _ (show i + 1 + n ≤ l.length by omega), List.map_drop, List.map_take]
    · cases st with
      | none => exact ih _ _ (by omega)
      | some f => exact ih _ _ (by omega)
theorem words_low (l : List UInt8) : words (l.map low) = (words l).map (·.map low) := by
  unfold words
  rw [List.length_map]
  exact wordsGo_low l _ _ _ (by omega)
theorem wordsGo_sub (l : List UInt8) : ∀ (n i : Nat) (st : Option Nat), ∀ p ∈ wordsGo l n i st, ∀ b ∈ p, b ∈ l := by
  intro n
  induction n with
  | zero =>
    intro i st p hp b hb
    cases st with
    | none => simp [wordsGo] at hp
    | some f => simp [wordsGo] at hp; subst hp; exact List.mem_of_mem_drop (List.mem_of_mem_take hb)
  | succ n ih =>
    intro i st p hp b hb
    unfold wordsGo at hp
    split at hp
    · cases st with
      | none => exact ih _ _ p hp b hb
      | some f =>
        rcases List.mem_cons.1 hp with rfl | hp
        · exact List.mem_of_mem_drop (List.mem_of_mem_take hb)
        · exact ih _ _ p hp b hb
    · cases st with
      | none => exact ih _ _ p hp b hb
      | some f => exact ih _ _ p hp b hb
theorem words_ascii {l : List UInt8} (h : Ascii l) : ∀ p ∈ words l, Ascii p := fun p hp b hb => h b (wordsGo_sub l _ _ _ p hp b hb)
theorem wordsGo_size (l : List UInt8) : ∀ (n i : Nat) (st : Option Nat), i + n ≤ l.length → ∀ p ∈ wordsGo l n i st, p.length ≤ l.length := by
  intro n
  induction n with
  | zero =>
    intro i st _ p hp
    cases st with
    | none => simp [wordsGo] at hp
    | some f => simp [wordsGo] at hp; subst hp; simp; omega
  | succ n ih =>
    intro i st hi p hp
    unfold wordsGo at hp
    split at hp
    · cases st with
      | none => exact ih _ _ (by omega) p hp
      | some f =>
        rcases List.mem_cons.1 hp with rfl | hp
        · simp; omega
        · exact ih _ _ (by omega) p hp
    · cases st with
      | none => exact ih _ _ (by omega) p hp
      | some f => exact ih _ _ (by omega) p hp
theorem words_size {l p : List UInt8} (h : p ∈ words l) : p.length ≤ l.length := wordsGo_size l _ _ _ (by omega) p h
theorem wordsGo_count (l : List UInt8) : ∀ (n i : Nat) (st : Option Nat), (wordsGo l n i st).length ≤ n + (if st.isSome then 1 else 0) := by
  intro n
  induction n with
  | zero => intro i st; cases st <;> simp [wordsGo]
  | succ n ih =>
    intro i st
    unfold wordsGo
    split
    · cases st with
      | none => have := ih (i + 1) none; simp at this ⊢; omega
      | some f => have := ih (i + 1) none; simp at this ⊢; omega
    · cases st with
      | none => have := ih (i + 1) (some i); simp at this ⊢; omega
      | some f => have := ih (i + 1) (some f); simp at this ⊢; omega
theorem words_count (l : List UInt8) : (words l).length ≤ l.length := by
  have := wordsGo_count l l.length 0 none
  simpa [words] using this

/-- A letter is no part of a number. -/
theorem readN_letter {t : List UInt8} {b : UInt8} (hb : b ∈ t) (h : isDig b = false) : ∀ n, readN n t = none := by
  induction t with
  | nil => cases hb
  | cons c r ih =>
    intro n
    unfold readN
    rcases List.mem_cons.1 hb with rfl | hb
    · rw [h]; rfl
    · split
      · exact ih hb _
      · rfl
theorem number_letter {l : List UInt8} {b : UInt8} (hb : b ∈ l) (h : isDig b = false) (h1 : b ≠ 43) (h2 : b ≠ 45) : numberOf l = none := by
  refine bad_none l ?_
  unfold specNumber
  have hm : b ∈ (if signed l then l.tail else l) := by
    split
    · cases l with
      | nil => cases hb
      | cons c r =>
        rename_i hs
        rcases List.mem_cons.1 hb with rfl | hb
        · simp [signed] at hs
          rcases hs with hs | hs
          · exact absurd hs h1
          · exact absurd hs.1 h2
        · exact hb
    · exact hb
  simp only [readN_letter hm h]
  simp
theorem low_letter (b : UInt8) : low b ≠ b → (isDig b = false ∧ b ≠ 43 ∧ b ≠ 45) ∧ (isDig (low b) = false ∧ low b ≠ 43 ∧ low b ≠ 45) :=
  all8 (P := fun b => low b ≠ b → (isDig b = false ∧ b ≠ 43 ∧ b ≠ 45) ∧ (isDig (low b) = false ∧ low b ≠ 43 ∧ low b ≠ 45)) (by decide +kernel) b
theorem map_low_id {l : List UInt8} (h : ¬ ∃ b ∈ l, low b ≠ b) : l.map low = l := by
  induction l with
  | nil => rfl
  | cons x r ih =>
    rw [List.map_cons, ih fun ⟨b, hb, hn⟩ => h ⟨b, List.mem_cons_of_mem _ hb, hn⟩]
    by_cases hx : low x = x
    · rw [hx]
    · exact absurd ⟨x, List.mem_cons_self, hx⟩ h
theorem number_low (l : List UInt8) : numberOf (l.map low) = numberOf l := by
  by_cases h : ∃ b ∈ l, low b ≠ b
  · obtain ⟨b, hb, hn⟩ := h
    obtain ⟨⟨a1, a2, a3⟩, b1, b2, b3⟩ := low_letter b hn
    rw [number_letter hb a1 a2 a3, number_letter (List.mem_map_of_mem hb) b1 b2 b3]
  · rw [map_low_id h]

theorem encode_small : ∀ n : Fin 128, (if 65 ≤ n.val ∧ n.val ≤ 90 then [UInt8.ofNat (n.val + 32)] else (Utf8.encode (n.val : Int)).data.toList) = [low (UInt8.ofNat n.val)] := by decide +kernel
theorem lowB_ascii {b : UInt8} (h : b.toNat < 128) : lowB b.toNat = [low b] := by
  have := encode_small ⟨b.toNat, h⟩
  rw [show UInt8.ofNat b.toNat = b from UInt8.ofNat_toNat] at this
  unfold lowB
  rw [← this]
  simp only
  rw [if_neg (show ¬ b.toNat = 304 by omega), if_neg (show ¬ b.toNat = 8490 by omega)]
theorem lowGo_ascii (l : List UInt8) (h : Ascii l) : ∀ f pos, l.length ≤ f + pos → lowGo (ofL l) f pos = (l.drop pos).map low := by
  intro f
  induction f with
  | zero =>
    intro pos hp
    rw [lowGo_end _ _ _ (by rw [size_ofL]; omega), List.drop_of_length_le (by omega)]
    rfl
  | succ f ih =>
    intro pos hp
    by_cases hlt : pos < (ofL l).size
    · have hl : pos < l.length := by rwa [size_ofL] at hlt
      have ha : (l[pos]).toNat < 128 := h _ (List.getElem_mem hl)
      have hd : Utf8.decode (ofL l) pos = ((l[pos]).toNat, 1) := decode_ascii _ _ hlt ha
      rw [lowGo_next _ _ _ hlt, hd]
      simp only
      rw [lowB_ascii ha, ih _ (by omega), List.drop_eq_getElem_cons hl]
      rfl
    · rw [lowGo_end _ _ _ hlt, List.drop_of_length_le (by rw [size_ofL] at hlt; omega)]
      rfl
theorem lower_ascii {l : List UInt8} (h : Ascii l) : lower (ofL l) = l.map low := by
  unfold lower
  rw [size_ofL, lowGo_ascii l h _ _ (by omega)]
  rfl
theorem map_low_low (l : List UInt8) : (l.map low).map low = l.map low := by
  rw [List.map_map]
  exact List.map_congr_left fun b _ => low_low b

theorem val_low (kind : Nat) {l : List UInt8} (h : Ascii l) : Kind.valOf kind (l.map low) = Kind.valOf kind l := by
  unfold Kind.valOf
  have key : ∀ t, nameOr t (l.map low) = nameOr t l := fun t => by
    unfold nameOr
    rw [lower_ascii h, lower_ascii h.low, map_low_low, number_low]
  split
  · exact key _
  · split
    · exact key _
    · exact number_low l

theorem star_low {c : UInt8} (hc : Own c) (a : List UInt8) : a.map low = [c] ↔ a = [c] := by
  match a with
  | [] => simp
  | [x] => simp [hc x]
  | x :: y :: r => simp
theorem ends_low (lo hi kind : Nat) {lh : List (List UInt8)} (h : ∀ p ∈ lh, Ascii p) : ends lo hi (Kind.valOf kind) (lh.map (·.map low)) = ends lo hi (Kind.valOf kind) lh := by
  match lh, h with
  | [], _ => rfl
  | a :: r, h =>
    have ha := val_low kind (h a List.mem_cons_self)
    unfold ends
    simp only [List.map_cons, star_low own42, star_low own63, ha]
    split
    · rfl
    · cases Kind.valOf kind a with
      | none => rfl
      | some x =>
        match r, h with
        | [], _ => rfl
        | [b], h => simp only [List.map_cons, List.map_nil, val_low kind (h b (by simp))]
        | b :: c :: r, _ => rfl
theorem stepped_low (hi : Nat) (s : Bool) (t : Nat × Nat × Bool) (rs : List (List UInt8)) : stepped hi s t (rs.map (·.map low)) = stepped hi s t rs := by
  match rs with
  | [] => rfl
  | [_] => rfl
  | [_, st] => simp only [List.map_cons, List.map_nil, stepped, number_low]
  | _ :: _ :: _ :: _ => rfl
theorem range_low (lo hi kind : Nat) {l : List UInt8} (h : Ascii l) : rangeOf lo hi (Kind.valOf kind) (l.map low) = rangeOf lo hi (Kind.valOf kind) l := by
  obtain ⟨r0, rr, h1⟩ : ∃ r0 rr, pieces 47 l = r0 :: rr := by
    cases h1 : pieces 47 l with
    | nil => exact absurd h1 (pieces_ne _ _)
    | cons a r => exact ⟨a, r, rfl⟩
  have h0 : Ascii r0 := pieces_ascii h r0 (by rw [h1]; exact List.mem_cons_self)
  unfold rangeOf
  simp only [pieces_low own47, h1, List.map_cons, List.headD_cons, pieces_low own45, List.length_map]
  rw [ends_low lo hi kind (pieces_ascii h0)]
  congr 1
  funext t
  have := stepped_low hi (decide ((pieces 45 r0).length = 1)) t (r0 :: rr)
  simp only [List.map_cons] at this
  rw [this]
theorem orOf_low (lo hi kind : Nat) : ∀ (ps : List (List UInt8)) (x : Int), (∀ p ∈ ps, Ascii p) → orOf lo hi (Kind.valOf kind) (ps.map (·.map low)) x = orOf lo hi (Kind.valOf kind) ps x := by
  intro ps
  induction ps with
  | nil => intro x _; rfl
  | cons p r ih =>
    intro x h
    simp only [List.map_cons, orOf, range_low lo hi kind (h p List.mem_cons_self)]
    cases rangeOf lo hi (Kind.valOf kind) p with
    | none => rfl
    | some c => exact ih _ fun q hq => h q (List.mem_cons_of_mem _ hq)
theorem field_low (kind : Nat) {l : List UInt8} (h : Ascii l) : fieldOf kind (l.map low) = fieldOf kind l := by
  unfold fieldOf
  rw [full_low, orOf_low _ _ _ _ _ (full_ascii h)]
theorem six_low {L M : List (List UInt8)} (h : ∀ k, k < 6 → Ascii (L.getD k []) ∧ M.getD k [] = (L.getD k []).map low) : ∀ k, k ≤ 6 → six M k = six L k := by
  intro k
  induction k with
  | zero => intro _; rfl
  | succ k ih =>
    intro hk
    unfold six
    rw [ih (by omega), (h k (by omega)).2, field_low k (h k (by omega)).1]

/-- The texts of the fields commute with the small letters. -/
theorem dflt_low (k : Nat) : ((dflt k).data.toList).map low = (dflt k).data.toList := by
  unfold dflt
  split <;> decide
theorem dflt_ascii (k : Nat) : Ascii (dflt k).data.toList := by
  unfold dflt Ascii
  split <;> decide
theorem at_low (t : Nat → Bool) (ws : List (List UInt8)) (hw : ∀ p ∈ ws, Ascii p) (k : Nat) :
    Ascii (at' t (ws.map ofL) k).data.toList ∧ (at' t ((ws.map (·.map low)).map ofL) k).data.toList = (at' t (ws.map ofL) k).data.toList.map low := by
  unfold at'
  split
  · rw [List.getD_eq_getElem?_getD, List.getD_eq_getElem?_getD, List.getElem?_map, List.getElem?_map, List.getElem?_map]
    cases hc : ws[cnt t k]? with
    | none => exact ⟨fun b hb => (by cases hb), rfl⟩
    | some p =>
      simp only [Option.map_some, Option.getD_some, toList_ofL]
      exact ⟨hw p (List.mem_of_getElem? hc), trivial⟩
  · exact ⟨dflt_ascii k, (dflt_low k).symm⟩
theorem getD_filled (t : Nat → Bool) (fs : List ByteArray) (k : Nat) (hk : k < 6) : ((filled t fs).map fun s => s.data.toList).getD k [] = (at' t fs k).data.toList := by
  unfold filled
  rw [List.getD_eq_getElem?_getD, List.getElem?_map, List.getElem?_map, List.getElem?_range hk]
  rfl
theorem plain_low (o : Int) {l : List UInt8} (h : Ascii l) : plainOf o (l.map low) = plainOf o l := by
  unfold plainOf
  by_cases hn : l = []
  · subst hn; rfl
  · rw [if_neg hn, if_neg (by simpa using hn), words_low]
    unfold fillOf
    rw [List.length_map, List.length_map, List.length_map]
    cases missOf o (words l).length with
    | none => rfl
    | some miss =>
      refine six_low (fun k hk => ?_) 6 (Nat.le_refl _)
      rw [getD_filled _ _ _ hk, getD_filled _ _ _ hk]
      exact at_low _ _ (words_ascii h) k
theorem plain_alike (o : Int) {l m : List UInt8} (hl : Ascii l) (hm : Ascii m) (h : l.map low = m.map low) : plainOf o l = plainOf o m := by
  rw [← plain_low o hl, h, plain_low o hm]

end Go.Proofs.YtmnjmhlodbifjaaGreatDoor.PlainPure
