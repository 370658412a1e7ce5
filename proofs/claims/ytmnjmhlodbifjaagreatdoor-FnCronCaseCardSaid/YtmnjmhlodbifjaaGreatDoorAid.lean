/- Small laws on blocks behind an opaque call. Conditions: none. -/
import Derived.Test.YtmnjmhlodbifjaaGreatDoorChecked
import Derived.Test.YtmnjmhlodbifjaaGreatDoorMem
import Derived.ProofKit
import Derived.OpenShut
import Derived.Lib.Hide
import Derived.WalkSpells
import Derived.WalkSmall
import Derived.Deep.DeepCutAuto
namespace Go.Proofs.YtmnjmhlodbifjaaGreatDoor.Aid
open Go Go.RowKit Go.Proofs.YtmnjmhlodbifjaaGreatDoor.Mem
set_option linter.unusedVariables false

theorem name_calls {P : Program} {f : FuncId} {args : Array Value} {w : World} {Q : Ending → World → Prop} (h : ∀ X, X = w → Calls P f args X Q) : Calls P f args w Q := h w rfl
theorem name_world {P : Program} {c : Code} {Q : Exit → Act → World → Prop} {a : Act} {w : World} (h : ∀ X, X = w → c.wp P Q a X) : c.wp P Q a w := h w rfl
/-- A block of cells. -/
def Blk (w : World) (b : Nat) (cs : Array Value) : Prop := ∃ E, w.heap[b]? = some (.cells cs E)
theorem Blk.lt {w : World} {b : Nat} {cs : Array Value} (h : Blk w b cs) : b < w.heap.size := by
  obtain ⟨E, h⟩ := h
  exact (Array.getElem?_eq_some_iff.1 h).1
theorem Blk.cell {w : World} {b : Nat} {cs : Array Value} (h : Blk w b cs) {j : Nat} {v : Value} (hv : cs[j]? = some v) : w.cell? ⟨b, j, none⟩ = some v := by
  obtain ⟨E, h⟩ := h
  unfold World.cell?
  simp only [h]
  exact hv
theorem Blk.free {w : World} {b : Nat} {cs : Array Value} (h : Blk w b cs) (j : Nat) : w.frozen? ⟨b, j, none⟩ = false := by
  obtain ⟨E, h⟩ := h
  exact frozen_of_row _ _ _ _ _ h
theorem Blk.below {w w' : World} {b B : Nat} {cs : Array Value} (h : Blk w b cs) (hb : Below B w w') (hB : b < B) : Blk w' b cs := by
  obtain ⟨E, h⟩ := h
  exact ⟨E, (hb.block b hB).trans h⟩
theorem Blk.after {w w' : World} {b : Nat} {cs : Array Value} (h : Blk w b cs) (hb : Below w.heap.size w w') : Blk w' b cs := h.below hb h.lt
theorem Blk.new (w : World) (cs : Array Value) (E : TypeId) : Blk (w.alloc (.cells cs E)) w.heap.size cs := ⟨E, heap_alloc_new w _⟩
theorem Blk.alloc {w : World} {b : Nat} {cs : Array Value} (h : Blk w b cs) (o : Obj) : Blk (w.alloc o) b cs := by
  have hl := h.lt
  obtain ⟨E, h⟩ := h
  exact ⟨E, (Below.heap_alloc w o b hl).trans h⟩
theorem Blk.set {w : World} {b : Nat} {cs : Array Value} (h : Blk w b cs) (j : Nat) (v : Value) : Blk (w.setCell ⟨b, j, none⟩ v) b (cs.setIfInBounds j v) := by
  obtain ⟨E, h⟩ := h
  exact ⟨E, heap_setCell_same w b j cs E v h⟩
theorem Blk.other {w : World} {b : Nat} {cs : Array Value} (h : Blk w b cs) (p : Addr) (v : Value) (hp : b ≠ p.block) : Blk (w.setCell p v) b cs := by
  obtain ⟨E, h⟩ := h
  exact ⟨E, (heap_setCell_other w p b v hp).trans h⟩
theorem Blk.drew {w : World} {b : Nat} {cs : Array Value} (h : Blk w b cs) : Blk w.drew b cs := h
theorem Blk.drewN {w : World} {b : Nat} {cs : Array Value} (h : Blk w b cs) (n : Nat) : Blk (w.drewN n) b cs := by
  obtain ⟨E, h⟩ := h
  exact ⟨E, by rw [show (w.drewN n).heap = w.heap by simp]; exact h⟩
theorem allocd {W X : World} (h : Below W.heap.size W X) (o : Obj) : Below W.heap.size W (X.alloc o) := h.alloc h.size o
theorem chain {V X Y : World} (h : Below V.heap.size V X) (hb : Below X.heap.size X Y) : Below V.heap.size V Y := h.trans (hb.mono h.size)
theorem drewNd {B : Nat} {W X : World} (h : Below B W X) (n : Nat) : Below B W (X.drewN n) := ⟨h.os, h.tape, h.output, h.size, h.block⟩
theorem one_after {w w1 : World} {a : Array Value} {E : TypeId} (hb : Below (w.alloc (.cells a E)).heap.size (w.alloc (.cells a E)) w1) : Blk w1 w.heap.size a := (Blk.new w a E).after hb
theorem one_afterd {w w1 : World} {a : Array Value} {E : TypeId} (hb : Below (w.alloc (.cells a E)).drew.heap.size (w.alloc (.cells a E)).drew w1) : Blk w1 w.heap.size a := one_after (⟨hb.os, hb.tape, hb.output, hb.size, hb.block⟩ : Below (w.alloc (.cells a E)).heap.size (w.alloc (.cells a E)) w1)
theorem two_after {w w1 : World} {a b : Array Value} {E F : TypeId} (hb : Below ((w.alloc (.cells a E)).alloc (.cells b F)).heap.size ((w.alloc (.cells a E)).alloc (.cells b F)) w1) : Blk w1 w.heap.size a ∧ Blk w1 (w.heap.size + 1) b := by
  refine ⟨((Blk.new w a E).alloc _).after hb, ?_⟩
  have h := (Blk.new (w.alloc (.cells a E)) b F).after hb
  rwa [show (w.alloc (.cells a E)).heap.size = w.heap.size + 1 by simp] at h
end Go.Proofs.YtmnjmhlodbifjaaGreatDoor.Aid
