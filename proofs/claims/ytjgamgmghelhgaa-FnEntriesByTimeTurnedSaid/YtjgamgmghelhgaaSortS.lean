/- What sorting in place keeps: all blocks but the row's own. Conditions: none. -/
import Derived.Test.YtjgamgmghelhgaaChecked
import Derived.Below
import Derived.Lib.Hide
import Derived.WalkKit
import Derived.ProofKit
import Derived.Sort.AssemblyPlain
import Derived.Sort.Row
import Derived.Sort.WalkA
import Derived.Sort.WalkA6
import Derived.Sort.WalkB3
import Derived.Sort.WalkC
import Derived.Sort.WalkC4
import Derived.Sort.Walk13a
namespace Go.Proofs.Ytjgamgmghelhgaa.SortS
open Go Go.RowKit Go.Sort
set_option linter.unusedVariables false

/-- All that was there is kept but the row's block. -/
structure St (blk : Nat) (w w' : World) : Prop where
  os : w'.os = w.os
  tape : w'.tape = w.tape
  output : w'.output = w.output
  size : w.heap.size ≤ w'.heap.size
  block : ∀ k, k < w.heap.size → k ≠ blk → w'.heap[k]? = w.heap[k]?
theorem St.refl (blk : Nat) (w : World) : St blk w w := ⟨rfl, rfl, rfl, Nat.le_refl _, fun _ _ _ => rfl⟩
theorem St.trans {blk : Nat} {a b c : World} (h : St blk a b) (k : St blk b c) : St blk a c :=
  ⟨k.os.trans h.os, k.tape.trans h.tape, k.output.trans h.output, Nat.le_trans h.size k.size, fun i hi hb => (k.block i (Nat.lt_of_lt_of_le hi h.size) hb).trans (h.block i hi hb)⟩
theorem St.of_below {blk : Nat} {w w' : World} (h : Below w.heap.size w w') : St blk w w' := ⟨h.os, h.tape, h.output, h.size, fun k hk _ => h.block k hk⟩
theorem St.below {blk B : Nat} {w w' : World} (h : St blk w w') (hB : B ≤ blk) (hw : B ≤ w.heap.size) : Below B w w' := ⟨h.os, h.tape, h.output, h.size, fun k hk => h.block k (by omega) (by omega)⟩
theorem St.cell {blk : Nat} {w w' : World} (h : St blk w w') {p : Addr} (hp : p.block < w.heap.size) (hb : p.block ≠ blk) : w'.cell? p = w.cell? p := World.cell?_of_block (w := w) (h.block p.block hp hb)
theorem St.frozen {blk : Nat} {w w' : World} (h : St blk w w') {p : Addr} (hp : p.block < w.heap.size) (hb : p.block ≠ blk) : w'.frozen? p = w.frozen? p := World.frozen?_of_block (w := w) (h.block p.block hp hb)
theorem St.alloc {blk : Nat} {w w' : World} (h : St blk w w') (o : Obj) : St blk w (w'.alloc o) := h.trans (.of_below ((Below.refl _ _).alloc (Nat.le_refl _) o))
theorem St.drew {blk : Nat} {w w' : World} (h : St blk w w') : St blk w w'.drew := ⟨h.os, h.tape, h.output, h.size, h.block⟩
theorem St.setCell {blk : Nat} {w w' : World} (h : St blk w w') {p : Addr} (hp : p.block = blk ∨ w.heap.size ≤ p.block) (v : Value) : St blk w (w'.setCell p v) :=
  ⟨h.os, h.tape, h.output, by simpa using h.size, fun k hk hb => (Below.heap_setCell w' p v k (by omega)).trans (h.block k hk hb)⟩
section
variable {α : Type} [Inhabited α] {enc : α → Value} {blk : Nat} {w w' : World} {d : Array α}
theorem holds_below (h : Holds enc w blk 0 d) (hb : Below w.heap.size w w') (hl : blk < w.heap.size) : Holds enc w' blk 0 d := fun j hj => by
  obtain ⟨h1, h2⟩ := h j hj
  exact ⟨(hb.cell (p := ⟨blk, 0 + j, none⟩) hl).trans h1, (hb.frozen (p := ⟨blk, 0 + j, none⟩) hl).trans h2⟩
theorem holds_set (h : Holds enc w blk 0 d) {p : Addr} (hp : p.block ≠ blk) (v : Value) : Holds enc (w.setCell p v) blk 0 d := fun j hj => by
  obtain ⟨h1, h2⟩ := h j hj
  have e : (w.setCell p v).heap[blk]? = w.heap[blk]? := Below.heap_setCell w p v blk (Ne.symm hp)
  exact ⟨(World.cell?_of_block (w := w) (a := ⟨blk, 0 + j, none⟩) e).trans h1, (World.frozen?_of_block (w := w) (a := ⟨blk, 0 + j, none⟩) e).trans h2⟩
/-- A swap's two stores. -/
theorem holds_swp (h : Holds enc w blk 0 d) {i j : Nat} (hi : i < d.size) (hj : j < d.size) : Holds enc ((w.setCell ⟨blk, i, none⟩ (enc d[j]!)).setCell ⟨blk, j, none⟩ (enc d[i]!)) blk 0 (swp d i j) := fun k hk => by
  rw [size_swp] at hk
  obtain ⟨h1, h2⟩ := h k hk
  obtain ⟨i1, -⟩ := h i hi
  obtain ⟨j1, -⟩ := h j hj
  rw [Nat.zero_add] at h1 h2 i1 j1 ⊢
  refine ⟨?_, by simpa using h2⟩
  by_cases ej : k = j
  · subst ej
    rw [swp_right d i k hj]
    obtain ⟨v, hv⟩ := cell?_setCell_some (p := ⟨blk, i, none⟩) (x := enc d[k]!) j1
    exact World.cell?_setCell_same _ _ _ hv
  · rw [World.cell?_setCell_other _ _ _ _ (by intro e; injection e with _ e; exact ej e.symm)]
    by_cases ei : k = i
    · subst ei
      rw [swp_left d k j hi ej]
      exact World.cell?_setCell_same _ _ _ i1
    · rw [swp_other d i j k ei ej, World.cell?_setCell_other _ _ _ _ (by intro e; injection e with _ e; exact ei e.symm)]
      exact h1
theorem st_swp {i j : Nat} (x y : Value) : St blk w ((w.setCell ⟨blk, i, none⟩ x).setCell ⟨blk, j, none⟩ y) := ((St.refl blk w).setCell (.inl rfl) x).setCell (.inl rfl) y
end

end Go.Proofs.Ytjgamgmghelhgaa.SortS
