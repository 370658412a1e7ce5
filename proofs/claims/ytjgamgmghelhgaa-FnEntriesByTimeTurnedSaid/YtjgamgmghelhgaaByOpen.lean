/- The arguments of FnEntriesByTimeTurned, opened, and its walk over them. Conditions: none. -/
import Derived.Test.YtjgamgmghelhgaaByLaw
import Derived.Lib.SmallJoins
import Derived.Deep.Grids
import Derived.Deep.SlicePairs
import Derived.ChangeSlices
import Derived.WalkKit
import Derived.ProofKit
import Derived.OpenShut
namespace Go.Proofs.Ytjgamgmghelhgaa.ByOpen
open Go Go.Joins Go.ChangeShapes Go.WideShapes Go.RowKit Go.Deep Go.Proofs.Ytjgamgmghelhgaa.ByImpl
set_option linter.unusedVariables false
variable {H : Type} {enc : TypeId × Value → H} {w : World} {base : Nat} {held : Bool}

def OpenI (w : World) (v : Value) : Prop := ∃ (a : Option Addr) (n c : Nat) (s m : Nat → Int), v = .slice a n c ∧ n ≤ c ∧ (a = none → c = 0) ∧ Insts w a n s m
def OpenB (w : World) (v : Value) : Prop := ∃ (a : Option Addr) (n c : Nat) (z : Nat → Bool), v = .slice a n c ∧ n ≤ c ∧ (a = none → c = 0) ∧ Marks w a n z
set_option maxRecDepth 100000 in
theorem opened0 {r : Reach} {b0 : Nat} {v : Value} {d : DataW H} {p : List MemPlace} (hv : Value.okWide Try.prog w r b0 22 v)
    (h : DataW.Trod enc Try.prog w base (fun _ => true) held 22 v d p) : OpenI w v := by
  obtain ⟨a0, n0, c0, rfl⟩ := okWide_slice Try.underlying22 hv
  obtain ⟨fuel, hf⟩ := h
  rcases open_slice_pairs Try.underlying22 Try.underlying28 (by kernel_rfl) rfl rfl (by kernel_rfl) (by kernel_rfl) hf with ⟨hcs, -⟩ | ⟨a, len, cap, m, n, V0, V1, D0, D1, P0, P1, hcs, -, hl, hm, hmm, -, hcell⟩
  · cases hcs
    exact ⟨none, 0, 0, fun _ => 0, fun _ => 0, rfl, Nat.le_refl _, fun _ => rfl, fun i hi => by omega⟩
  · cases hcs
    simp only [if_true] at hmm
    have hs : ∀ i, i < n0 → ∃ q : Int × Int, V0 i = .int .i64 q.1 ∧ V1 i = .int .i64 q.2 := fun i hi => by
      obtain ⟨-, -, t0, t1⟩ := hcell i (by omega)
      obtain ⟨s, hs, -, -⟩ := DataW.trod_int (k := .i64) (by kernel_rfl) t0
      obtain ⟨u, hu, -, -⟩ := DataW.trod_int (k := .i64) (by kernel_rfl) t1
      simp only [List.cons.injEq, and_true] at hs hu
      exact ⟨(s, u), hs, hu⟩
    obtain ⟨q, hq⟩ := choose_lt hs
    refine ⟨some a, n0, c0, fun i => (q i).1, fun i => (q i).2, rfl, hl, (fun h => by cases h), fun i hi => ⟨a, rfl, ?_, ?_⟩⟩
    · exact ((hcell i (by omega)).1).trans (by rw [(hq i hi).1])
    · obtain ⟨h0, h1, -, -⟩ := hcell i (by omega)
      have hsp := World.cell?_spot (hcell 0 (by omega)).1
      obtain ⟨b, o, sp⟩ := a
      have hsp' : sp = none := by simpa [Addr.add] using hsp
      subst hsp'
      rw [Addr.add_lit] at h1 ⊢
      rw [(hq i hi).2] at h1
      exact h1
set_option maxRecDepth 100000 in
theorem opened1 {r : Reach} {b0 : Nat} {v : Value} {d : DataW H} {p : List MemPlace} (hv : Value.okWide Try.prog w r b0 23 v)
    (h : DataW.Trod enc Try.prog w base (fun _ => true) held 23 v d p) : OpenB w v := by
  obtain ⟨a0, n0, c0, rfl⟩ := okWide_slice Try.underlying23 hv
  obtain ⟨fuel, hf⟩ := h
  rcases open_bools (e := 4) Try.underlying23 (by kernel_rfl) (by kernel_rfl) hf with ⟨hcs, -⟩ | ⟨a, len, cap, B, hcs, -, hl, hm, -, hcell⟩
  · cases hcs
    exact ⟨none, 0, 0, fun _ => false, rfl, Nat.le_refl _, fun _ => rfl, fun i hi => by omega⟩
  · cases hcs
    exact ⟨some a, _, _, B, rfl, hl, (fun h => by cases h), fun i hi => ⟨a, rfl, hcell i (by omega)⟩⟩
end Go.Proofs.Ytjgamgmghelhgaa.ByOpen
namespace Go.Proofs.Ytjgamgmghelhgaa.fnEntriesByTimeTurned
open Go Go.RowKit Go.Proofs.Ytjgamgmghelhgaa.ByOpen
theorem walk (v0 v1 : Value) (k : Int) (w : World) (h0 : OpenI w v0) (h1 : OpenB w v1) : Calls Try.prog 3 #[v0, v1, .int .i64 k] w fun e w' => e = .returned (.bool true) ∧ RowKit.Below w.heap.size w w' := by
  obtain ⟨pa, n, c, s, m, rfl, hc, hp, hi⟩ := h0
  obtain ⟨pz, nz, cz, z, rfl, hcz, hpz, hz⟩ := h1
  exact ByLaw.law_any pa pz n nz c cz k s m z w hi hz hc hcz hp hpz
end Go.Proofs.Ytjgamgmghelhgaa.fnEntriesByTimeTurned
