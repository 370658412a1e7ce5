/- Plain cron texts in plain Lean: words, the reading of six fields, letters of the other case. Conditions: none. · The reference's CronSet as 64 cells: laws for its making, storing and loading. Conditions: none. -/
import Derived.Test.YtmnjmhlodbifjaaGreatDoorR9
import Derived.Test.YtmnjmhlodbifjaaGreatDoorR10
import Derived.Test.YtmnjmhlodbifjaaGreatDoorR3
import Derived.Test.YtmnjmhlodbifjaaGreatDoorChecked
import Derived.Test.YtmnjmhlodbifjaaGreatDoorR2
import Derived.ProofKit
import Derived.Laws.Tables
import Derived.Laws.Rows

namespace Go.Proofs.YtmnjmhlodbifjaaGreatDoor.PlainPure
open Go Go.Proofs.YtmnjmhlodbifjaaGreatDoor.NumPure Go.Proofs.YtmnjmhlodbifjaaGreatDoor.SplitPure Go.Proofs.YtmnjmhlodbifjaaGreatDoor.Lower Go.Proofs.YtmnjmhlodbifjaaGreatDoor.NamesAt Go.Proofs.YtmnjmhlodbifjaaGreatDoor.Names Go.Proofs.YtmnjmhlodbifjaaGreatDoor.NameMap Go.Proofs.YtmnjmhlodbifjaaGreatDoor.Range Go.Proofs.YtmnjmhlodbifjaaGreatDoor.FieldPure Go.Proofs.YtmnjmhlodbifjaaGreatDoor.Field Go.Proofs.YtmnjmhlodbifjaaGreatDoor.Kind Go.Proofs.YtmnjmhlodbifjaaGreatDoor.FillPure
def isSp (b : UInt8) : Bool := b == 32 || (decide (9 ≤ b.toNat) && decide (b.toNat ≤ 13))
def wordsGo (l : List UInt8) : Nat → Nat → Option Nat → List (List UInt8)
  | 0, _, none => []
  | 0, i, some f => [(l.drop f).take (i - f)]
  | n + 1, i, st =>
    if isSp (l.getD i 0) then
      match st with
      | none => wordsGo l n (i + 1) none
      | some f => (l.drop f).take (i - f) :: wordsGo l n (i + 1) none
    else
      match st with
      | none => wordsGo l n (i + 1) (some i)
      | some f => wordsGo l n (i + 1) (some f)
def words (l : List UInt8) : List (List UInt8) := wordsGo l l.length 0 none
def fieldOf (kind : Nat) (l : List UInt8) : Option Int := orOf (lowOf kind) (highOf kind) (Kind.valOf kind) (full l) 0
def six (L : List (List UInt8)) : Nat → Option (List Int)
  | 0 => some []
  | k + 1 => match six L k with
    | none => none
    | some r => match fieldOf k (L.getD k []) with
      | none => none
      | some b => some (r ++ [b])
def low (b : UInt8) : UInt8 := if decide (65 ≤ b.toNat) && decide (b.toNat ≤ 90) then b + 32 else b
theorem all8 {P : UInt8 → Prop} (h : ∀ n : Fin 256, P (UInt8.ofNat n.val)) (b : UInt8) : P b := by
  have := h ⟨b.toNat, b.toNat_lt⟩
  rwa [show UInt8.ofNat b.toNat = b from UInt8.ofNat_toNat] at this
theorem low_ascii (b : UInt8) : (low b).toNat < 128 ↔ b.toNat < 128 := all8 (P := fun b => (low b).toNat < 128 ↔ b.toNat < 128) (by decide +kernel) b
def Ascii (l : List UInt8) : Prop := ∀ b ∈ l, b.toNat < 128
theorem Ascii.low {l : List UInt8} (h : Ascii l) : Ascii (l.map low) := by
  intro b hb
  obtain ⟨a, ha, rfl⟩ := List.mem_map.1 hb
  exact (low_ascii a).2 (h a ha)
theorem wordsGo_size (l : List UInt8) : ∀ (n i : Nat) (st : Option Nat), i + n ≤ l.length → ∀ p ∈ wordsGo l n i st, p.length ≤ l.length := by
  intro n
  induction n with
  | zero =>
    intro i st _ p hp
    cases st with
    | none => simp [wordsGo] at hp
    | some f => simp [wordsGo] at hp; subst hp; simp; omega
  | succ n ih =>
    intro i st hi p hp
    unfold wordsGo at hp
    split at hp
    · cases st with
      | none => exact ih _ _ (by omega) p hp
      | some f =>
        rcases List.mem_cons.1 hp with rfl | hp
        · simp; omega
        · exact ih _ _ (by omega) p hp
    · cases st with
      | none => exact ih _ _ (by omega) p hp
      | some f => exact ih _ _ (by omega) p hp
theorem words_size {l p : List UInt8} (h : p ∈ words l) : p.length ≤ l.length := wordsGo_size l _ _ _ (by omega) p h
theorem wordsGo_count (l : List UInt8) : ∀ (n i : Nat) (st : Option Nat), (wordsGo l n i st).length ≤ n + (if st.isSome then 1 else 0) := by
  intro n
  induction n with
  | zero => intro i st; cases st <;> simp [wordsGo]
  | succ n ih =>
    intro i st
    unfold wordsGo
    split
    · cases st with
      | none => have := ih (i + 1) none; simp at this ⊢; omega
      | some f => have := ih (i + 1) none; simp at this ⊢; omega
    · cases st with
      | none => have := ih (i + 1) (some i); simp at this ⊢; omega
      | some f => have := ih (i + 1) (some f); simp at this ⊢; omega
theorem words_count (l : List UInt8) : (words l).length ≤ l.length := by
  have := wordsGo_count l l.length 0 none
  simpa [words] using this
theorem encode_small : ∀ n : Fin 128, (if 65 ≤ n.val ∧ n.val ≤ 90 then [UInt8.ofNat (n.val + 32)] else (Utf8.encode (n.val : Int)).data.toList) = [low (UInt8.ofNat n.val)] := by decide +kernel
theorem lowB_ascii {b : UInt8} (h : b.toNat < 128) : lowB b.toNat = [low b] := by
  have := encode_small ⟨b.toNat, h⟩
  rw [show UInt8.ofNat b.toNat = b from UInt8.ofNat_toNat] at this
  unfold lowB
  rw [← this]
  simp only
  rw [if_neg (show ¬ b.toNat = 304 by omega), if_neg (show ¬ b.toNat = 8490 by omega)]
theorem lowGo_ascii (l : List UInt8) (h : Ascii l) : ∀ f pos, l.length ≤ f + pos → lowGo (ofL l) f pos = (l.drop pos).map low := by
  intro f
  induction f with
  | zero =>
    intro pos hp
    rw [lowGo_end _ _ _ (by rw [size_ofL]; omega), List.drop_of_length_le (by omega)]
    rfl
  | succ f ih =>
    intro pos hp
    by_cases hlt : pos < (ofL l).size
    · have hl : pos < l.length := by rwa [size_ofL] at hlt
      have ha : (l[pos]).toNat < 128 := h _ (List.getElem_mem hl)
      have hd : Utf8.decode (ofL l) pos = ((l[pos]).toNat, 1) := decode_ascii _ _ hlt ha
      rw [lowGo_next _ _ _ hlt, hd]
      simp only
      rw [lowB_ascii ha, ih _ (by omega), List.drop_eq_getElem_cons hl]
      rfl
    · rw [lowGo_end _ _ _ hlt, List.drop_of_length_le (by rw [size_ofL] at hlt; omega)]
      rfl
theorem lower_ascii {l : List UInt8} (h : Ascii l) : lower (ofL l) = l.map low := by
  unfold lower
  rw [size_ofL, lowGo_ascii l h _ _ (by omega)]
  rfl
end Go.Proofs.YtmnjmhlodbifjaaGreatDoor.PlainPure
namespace Go.Proofs.YtmnjmhlodbifjaaGreatDoor.Set
open Go Go.RowKit
def setArr (star : Bool) (f : Nat → Bool) : Array Value := Array.ofFn (n := 64) fun i => if i.val = 0 then Value.bool star else Value.bool (f (i.val - 1))
def upd (f : Nat → Bool) (v : Nat) (x : Bool) : Nat → Bool := fun i => if i = v then x else f i
theorem setArr_size (star : Bool) (f : Nat → Bool) : (setArr star f).size = 64 := by simp [setArr]
theorem setArr_zero (star : Bool) (f : Nat → Bool) : (setArr star f)[0]? = some (.bool star) := by simp [setArr]
theorem setArr_get (star : Bool) (f : Nat → Bool) (v : Nat) (h : v ≤ 62) : (setArr star f)[1 + v]? = some (.bool (f v)) := by
  rw [Array.getElem?_eq_getElem (by rw [setArr_size]; omega)]
  simp [setArr]
theorem setArr_set (star : Bool) (f : Nat → Bool) (v : Nat) (x : Bool) (h : v ≤ 62) : (setArr star f).setIfInBounds (1 + v) (.bool x) = setArr star (upd f v x) := by
  apply Array.ext_getElem?
  intro i
  rw [Array.getElem?_setIfInBounds]
  by_cases hi : 1 + v = i
  · subst hi
    rw [if_pos rfl, if_pos (by rw [setArr_size]; omega), setArr_get _ _ _ h]
    simp [upd]
  · rw [if_neg hi]
    rcases Nat.lt_or_ge i 64 with h2 | h2
    · cases i with
      | zero => rw [setArr_zero, setArr_zero]
      | succ j => rw [Nat.add_comm j 1, setArr_get _ _ _ (by omega), setArr_get _ _ _ (by omega)]; simp [upd]; intro e; omega
    · rw [Array.getElem?_eq_none (by rw [setArr_size]; omega), Array.getElem?_eq_none (by rw [setArr_size]; omega)]
def SetAt (w : World) (b : Nat) (star : Bool) (f : Nat → Bool) : Prop := w.heap[b]? = some (.cells (setArr star f) 55 (0, 0))
theorem SetAt.lt {w : World} {b : Nat} {star : Bool} {f : Nat → Bool} (h : SetAt w b star f) : b < w.heap.size := (Array.getElem?_eq_some_iff.1 h).1
theorem SetAt.below {w w' : World} {b : Nat} {star : Bool} {f : Nat → Bool} {B : Nat} (h : SetAt w b star f) (hb : Below B w w') (hB : b < B) : SetAt w' b star f := (hb.block b hB).trans h
theorem SetAt.cell {w : World} {b : Nat} {star : Bool} {f : Nat → Bool} (h : SetAt w b star f) (v : Nat) (hv : v ≤ 62) : w.cell? ⟨b, 1 + v, none⟩ = some (.bool (f v)) := by
  rw [cell_of_row w b _ _ _ _ h, setArr_get _ _ _ hv]
theorem SetAt.star {w : World} {b : Nat} {star : Bool} {f : Nat → Bool} (h : SetAt w b star f) : w.cell? ⟨b, 0, none⟩ = some (.bool star) := by
  rw [cell_of_row w b _ _ _ _ h, setArr_zero]
theorem SetAt.free {w : World} {b : Nat} {star : Bool} {f : Nat → Bool} (h : SetAt w b star f) (j : Nat) : w.frozen? ⟨b, j, none⟩ = false := frozen_of_row w b j _ _ h
theorem SetAt.new (w : World) (star : Bool) (f : Nat → Bool) : SetAt (w.alloc (.cells (setArr star f) 55)) w.heap.size star f := heap_alloc_new w _
theorem SetAt.put {w : World} {b : Nat} {star : Bool} {f : Nat → Bool} (h : SetAt w b star f) (v : Nat) (hv : v ≤ 62) (x : Bool) : SetAt (w.setCell ⟨b, 1 + v, none⟩ (.bool x)) b star (upd f v x) := by
  unfold SetAt
  rw [heap_setCell_same w b (1 + v) _ _ _ h, setArr_set _ _ _ _ hv]
theorem SetAt.other {w : World} {b : Nat} {star : Bool} {f : Nat → Bool} (h : SetAt w b star f) (p : Addr) (u : Value) (hne : b ≠ p.block) : SetAt (w.setCell p u) b star f := by
  unfold SetAt
  rw [heap_setCell_other w p b u hne]; exact h
theorem sizeInfo : (Tryz.prog.info? 55).map (·.size) = some 64 := by kernel_rfl
theorem builtZero : Tryz.prog.built 55 [] = some (setArr false fun _ => false) := by kernel_rfl
section
variable {ops : Array Oper} {rest : List Oper} {o : Oper} {a : Act} {w : World} {Q : Exit → Act → World → Prop}
theorem wpList_build_set (hg : o.guard = none) (ho : o.op = .build 55 #[])
    (h : wpList Tryz.prog ops Q rest (a.put o.dst (.agg (setArr false fun _ => false))) w) : wpList Tryz.prog ops Q (o :: rest) a w := by
  refine wpList_build hg 55 #[] ho (by simp [builtZero]) ?_
  simpa [builtZero] using h
theorem wpList_box_set (hg : o.guard = none) (x : Operand) (ho : o.op = .box 55 x) (star : Bool) (f : Nat → Bool)
    (hx : a.eval x = .agg (setArr star f))
    (h : wpList Tryz.prog ops Q rest (a.put o.dst (.pointer (some ⟨w.heap.size, 0, none⟩))) (w.alloc (.cells (setArr star f) 55))) : wpList Tryz.prog ops Q (o :: rest) a w := by
  refine wpList_plain hg fun K hK => ?_
  unfold Oper.wp execOp
  simp only [ho, hx, Instr.box, Sem.run_bind, newVar, newRow, Value.cells, run_newObj_alloc, Sem.run_pure, Result.andThen_ok]
  exact hK _ _ h
end
end Go.Proofs.YtmnjmhlodbifjaaGreatDoor.Set
