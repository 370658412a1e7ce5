/- byTime's Swap. Conditions: indices within the row. -/
import Derived.Test.YtjgamgmghelhgaaSortK
import Derived.Deep.DeepCutAuto
namespace Go.Proofs.Ytjgamgmghelhgaa.BySwap
open Go Go.RowKit Go.Sort Go.Proofs.Ytjgamgmghelhgaa.SortS
set_option linter.unusedVariables false

set_option maxHeartbeats 1000000 in
set_option maxRecDepth 100000 in
theorem swap_any (blk n c i j : Nat) (x y : Value) (w : World) (hi : i < n) (hj : j < n) (hn : n < 4611686018427387904)
    (ri : w.cell? ⟨blk, i, none⟩ = some x) (rj : w.cell? ⟨blk, j, none⟩ = some y) (fi : w.frozen? ⟨blk, i, none⟩ = false) (fj : w.frozen? ⟨blk, j, none⟩ = false) (hx : ∃ p, x = .pointer p) (hy : ∃ p, y = .pointer p) :
    Calls Try.prog 57 #[.slice (some ⟨blk, 0, none⟩) n c, .int .i64 (i : Int), .int .i64 (j : Int)] w fun e w' => e = .returned (.tuple #[]) ∧ ∃ k, w' = ((w.drewN k).setCell ⟨blk, i, none⟩ y).setCell ⟨blk, j, none⟩ x := by
  obtain ⟨px, rfl⟩ := hx
  obtain ⟨py, rfl⟩ := hy
  by_cases hij : i = j
  · subst hij
    obtain rfl : px = py := by have h := ri.symm.trans rj; simpa using h
    go_enter Try.func57, Try.ntmps57
    go_region
    all_goals go_wp2
    go_end0
    exact ⟨rfl, 1, rfl⟩
  · go_enter Try.func57, Try.ntmps57
    go_region
    all_goals go_wp2
    go_end0
    exact ⟨rfl, 1, rfl⟩

theorem drewN_os (w : World) (k : Nat) : (w.drewN k).os = w.os ∧ (w.drewN k).output = w.output ∧ (w.drewN k).heap = w.heap := ⟨rfl, rfl, rfl⟩

end Go.Proofs.Ytjgamgmghelhgaa.BySwap
