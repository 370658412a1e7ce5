/- The reference's cronPieces. Conditions: texts of at most 65536 bytes. · The reference's numbers: the walks of isDigit, cronZeros and CronNumber. Conditions: texts of at most 65536 bytes. · The reference's worse, CronStep, CronValue (of fields without names) and cronEnds. Conditions: texts of at most 65536 bytes. -/
import Derived.Test.YtmnjmhlodbifjaaGreatDoorR5
import Derived.Test.YtmnjmhlodbifjaaGreatDoorChecked
import Derived.Test.YtmnjmhlodbifjaaGreatDoorR3
import Derived.ProofKit
import Derived.OpenShut
import Derived.Lib.Hide
import Derived.WalkSpells
import Derived.Lib.IndexBytes
import Derived.Deep.RegionHeld3

namespace Go.Proofs.YtmnjmhlodbifjaaGreatDoor.SpecPieces
open Go.RowKit Go.Proofs.YtmnjmhlodbifjaaGreatDoor.Mem Go.Proofs.YtmnjmhlodbifjaaGreatDoor.Split Go.Proofs.YtmnjmhlodbifjaaGreatDoor.SplitPure
def Rel (s : ByteArray) (c : UInt8) (B : Nat) (w0 : World) (v fr i : Value) (wr : World) : Prop :=
  ∃ (k f : Nat) (done : List (List UInt8)), i = .int .i64 (k : Int) ∧ fr = .int .i64 (f : Int) ∧ f ≤ k ∧ k ≤ s.size ∧ done.length ≤ f ∧
    pieces c s.data.toList = done ++ pieces c (s.data.toList.drop f) ∧ c ∉ (s.data.toList.drop f).take (k - f) ∧
    wr.ownsRow B 9 1 v done.length (strs done) ∧ Below B w0 wr
theorem rel_skip {s : ByteArray} {c : UInt8} {k f : Nat} (hk : k < s.size) (hf : f ≤ k) (h : c ∉ (s.data.toList.drop f).take (k - f)) (hc : ¬ s[k] = c) : c ∉ (s.data.toList.drop f).take (k + 1 - f) := by
  rw [show k + 1 - f = (k - f) + 1 by omega, List.take_succ_eq_append_getElem (by simp; omega)]
  simp only [List.mem_append, not_or]
  refine ⟨h, ?_⟩
  simp only [List.getElem_drop, List.mem_singleton]
  rw [show s.data.toList[f + (k - f)]'(by simp; omega) = s[k] by congr 1; omega]
  exact fun e => hc e.symm
end Go.Proofs.YtmnjmhlodbifjaaGreatDoor.SpecPieces
namespace Go.Proofs.YtmnjmhlodbifjaaGreatDoor.SpecNum
open Go.RowKit Go.Proofs.YtmnjmhlodbifjaaGreatDoor.NumPure
theorem take_snoc (s : ByteArray) (k : Nat) (h : k < s.size) : s.data.toList.take (k + 1) = s.data.toList.take k ++ [s[k]] := by
  rw [List.take_succ_eq_append_getElem (by simpa using h)]; rfl
end Go.Proofs.YtmnjmhlodbifjaaGreatDoor.SpecNum
namespace Go.Proofs.YtmnjmhlodbifjaaGreatDoor.SpecEnds
open Go.RowKit Go.Proofs.YtmnjmhlodbifjaaGreatDoor.Mem Go.Proofs.YtmnjmhlodbifjaaGreatDoor.NumPure Go.Proofs.YtmnjmhlodbifjaaGreatDoor.SpecNum Go.Proofs.YtmnjmhlodbifjaaGreatDoor.Split Go.Proofs.YtmnjmhlodbifjaaGreatDoor.SplitPure Go.Proofs.YtmnjmhlodbifjaaGreatDoor.SpecPieces
set_option linter.unusedVariables false
def worseN (a b : Nat) : Nat := if a = 0 ∨ b = 0 then 0 else max a b
def specStep (l : List UInt8) : Nat × Nat :=
  if (specNumber l).2 = 0 ∨ (specNumber l).1 = 0 then (0, 0) else if (specNumber l).1 = huge then (0, 2) else specNumber l
def specEnds (lo hi : Nat) (days : Bool) (sval : List UInt8 → Nat × Nat) (ps : List (List UInt8)) : Nat × Nat × Bool × Bool × Nat :=
  match ps with
  | [] => (0, 0, false, false, 0)
  | a :: r =>
    if a = [42] ∨ a = [63] then (lo, hi, true, r.isEmpty, if r ≠ [] ∨ (a = [63] ∧ days = false) then 2 else 1)
    else match r with
      | [] => ((sval a).1, (sval a).1, false, true, (sval a).2)
      | [b] => ((sval a).1, (sval b).1, false, false, worseN (sval a).2 (sval b).2)
      | _ => (0, 0, false, false, 0)
theorem verdict_le (l : List UInt8) : (specNumber l).2 ≤ 2 := by
  unfold specNumber
  simp only
  generalize (if signed l then l.tail else l) = t
  by_cases ht : t = []
  · rw [if_pos ht]; simp
  · rw [if_neg ht]
    cases readN 0 t with
    | none => simp
    | some n => simp only; split <;> omega
theorem number_le (l : List UInt8) : (specNumber l).1 ≤ huge := by
  unfold specNumber
  simp only
  generalize (if signed l then l.tail else l) = t
  by_cases ht : t = []
  · rw [if_pos ht]; simp
  · rw [if_neg ht]
    cases h : readN 0 t with
    | none => simp
    | some n => exact readN_le h (by unfold huge; omega)
def Box3 (w : World) (b : Nat) (x y z : Value) : Prop := b < w.heap.size ∧ w.cell? ⟨b, 0, none⟩ = some x ∧ w.cell? ⟨b, 1, none⟩ = some y ∧ w.cell? ⟨b, 2, none⟩ = some z
theorem Box3.below {w w' : World} {b : Nat} {x y z : Value} (h : Box3 w b x y z) (hb : Below w.heap.size w w') : Box3 w' b x y z :=
  ⟨Nat.lt_of_lt_of_le h.1 hb.size, (hb.cell (p := ⟨b, 0, none⟩) h.1).trans h.2.1, (hb.cell (p := ⟨b, 1, none⟩) h.1).trans h.2.2.1, (hb.cell (p := ⟨b, 2, none⟩) h.1).trans h.2.2.2⟩
section
variable {lo hi : Nat} {days : Bool} {sval : List UInt8 → Nat × Nat} {a : List UInt8}
theorem sends_star {r : List (List UInt8)} (h : a = [42] ∨ a = [63]) : specEnds lo hi days sval (a :: r) = (lo, hi, true, r.isEmpty, if r ≠ [] ∨ (a = [63] ∧ days = false) then 2 else 1) := by unfold specEnds; simp [h]
theorem sends_one (h : ¬ (a = [42] ∨ a = [63])) : specEnds lo hi days sval [a] = ((sval a).1, (sval a).1, false, true, (sval a).2) := by unfold specEnds; simp [h]
theorem sends_two {b : List UInt8} (h : ¬ (a = [42] ∨ a = [63])) : specEnds lo hi days sval [a, b] = ((sval a).1, (sval b).1, false, false, worseN (sval a).2 (sval b).2) := by unfold specEnds; simp [h]
theorem sends_many {b c : List UInt8} {r : List (List UInt8)} (h : ¬ (a = [42] ∨ a = [63])) : specEnds lo hi days sval (a :: b :: c :: r) = (0, 0, false, false, 0) := by unfold specEnds; simp [h]
end
end Go.Proofs.YtmnjmhlodbifjaaGreatDoor.SpecEnds
