/- The argument of kind []bool, opened. Conditions: none. -/
import Derived.Test.YtmnjmhlodbifjaaGreatDoorFlip
import Derived.Lib.SmallJoins
import Derived.Deep.Grids
import Derived.WalkKit
import Derived.ProofKit
import Derived.OpenShut
import Derived.ChangeSlices
namespace Go.Proofs.YtmnjmhlodbifjaaGreatDoor.OpenF
open Go Go.Joins Go.ChangeShapes Go.WideShapes Go.RowKit Go.Deep Go.Proofs.YtmnjmhlodbifjaaGreatDoor.Flip
set_option linter.unusedVariables false
variable {H : Type} {enc : TypeId × Value → H} {w : World} {base : Nat} {held : Bool}

set_option maxRecDepth 100000 in
theorem open_flags {r : Reach} {b0 : Nat} {v : Value} {d : DataW H} {p : List MemPlace} (hv : Value.okWide Tryz.prog w r b0 22 v)
    (h : DataW.Trod enc Tryz.prog w base (fun _ => true) held 22 v d p) :
    ∃ (a : Option Addr) (n c : Nat), v = .slice a n c ∧ n ≤ maxLen ∧ Bools w a n := by
  obtain ⟨a0, n0, c0, rfl⟩ := okWide_slice Tryz.underlying22 hv
  obtain ⟨fuel, hf⟩ := h
  rcases open_bools (e := 4) Tryz.underlying22 (by kernel_rfl) (by kernel_rfl) hf with ⟨hcs, -⟩ | ⟨a, len, cap, B, hcs, -, hl, hm, -, hcell⟩
  · cases hcs
    exact ⟨none, 0, 0, rfl, Nat.zero_le _, fun i hi => by omega⟩
  · cases hcs
    refine ⟨some a, _, _, rfl, Nat.le_trans hl hm, fun i hi => ⟨a, B i, rfl, ?_, hcell i (by omega)⟩⟩
    have := World.block_lt_of_cell? w _ (hcell i (by omega))
    rwa [show (a.add i).block = a.block by unfold Addr.add; split <;> rfl] at this
end Go.Proofs.YtmnjmhlodbifjaaGreatDoor.OpenF
