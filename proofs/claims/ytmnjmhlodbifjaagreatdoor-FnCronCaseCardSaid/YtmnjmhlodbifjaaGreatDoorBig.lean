/- Whole structs of many cells: their making, storing and loading as single steps of a walk. Conditions: none. -/
import Derived.Test.YtmnjmhlodbifjaaGreatDoorAid
import Derived.Deep.MidRow
import Derived.Laws.Tables
import Derived.Laws.Rows
import Derived.Deep.Upon
import Derived.BigFrame
namespace Go.Proofs.YtmnjmhlodbifjaaGreatDoor.Big
open Go Go.RowKit Go.Proofs.YtmnjmhlodbifjaaGreatDoor.Mem Go.Proofs.YtmnjmhlodbifjaaGreatDoor.Aid
set_option linter.unusedVariables false

def allocB (T : TypeId) : Sem Value := Instr.alloc T true (.tuple #[])
def loadB (T : TypeId) (a : Value) : Sem Value := Instr.loadAt T a
def storeB (T : TypeId) (a v : Value) : Sem Unit := Instr.storeAt T a v
def boxB (T : TypeId) (v : Value) : Sem Value := Instr.box T v
section
variable {P : Program} {T E : TypeId} {Z cs old : Array Value} {w : World} {b : Nat}
theorem allocB_run (hz : ∀ w, (zeroValue T).run P w = .ok (.agg Z) w) (w : World) : (allocB T).run P w = .ok (.pointer (some ⟨w.heap.size, 0, none⟩)) (w.alloc (.cells Z T)) := by
  unfold allocB
  simp only [Instr.alloc, Sem.run_bind, hz, Result.andThen_ok, newVar, newRow, Value.cells, run_newObj_alloc, Sem.run_pure]
theorem setRow_alloc (w : World) (Z cs : Array Value) (E : TypeId) : (w.alloc (.cells Z E)).setRow w.heap.size cs = w.alloc (.cells cs E) := by
  unfold World.setRow World.alloc
  congr 1
  apply Array.ext_getElem?
  intro i
  rw [Array.getElem?_modify]
  by_cases h : w.heap.size = i
  · subst h; simp
  · rw [if_neg h]
    rw [Array.getElem?_push, Array.getElem?_push, if_neg (Ne.symm h), if_neg (Ne.symm h)]
theorem storeB_row (hi : (P.info? T).map (·.size) = some cs.size) (ho : old.size = cs.size) (h1 : cs.all (·.oneCell') = true) (h : w.heap[b]? = some (.cells old E)) :
    (storeB T (.pointer (some ⟨b, 0, none⟩)) (.agg cs)).run P w = .ok () (w.setRow b cs) := by
  unfold storeB
  simp only [Instr.storeAt, Instr.sureAddr, Sem.run_bind, Sem.run_pure, Result.andThen_ok, run_storeVar_row w b E T old cs h hi ho h1]
theorem storeB_new (hi : (P.info? T).map (·.size) = some cs.size) (ho : Z.size = cs.size) (h1 : cs.all (·.oneCell') = true) (w : World) (E : TypeId) :
    (storeB T (.pointer (some ⟨w.heap.size, 0, none⟩)) (.agg cs)).run P (w.alloc (.cells Z E)) = .ok () (w.alloc (.cells cs E)) := by
  rw [storeB_row hi ho h1 (heap_alloc_new w _), setRow_alloc]
theorem loadB_row {d : TypeDesc} (hu : P.underlying T = some d) (hd : (match d with | .struct _ | .array _ _ => true | _ => false) = true) (hi : (P.info? T).map (·.size) = some cs.size) (h : w.heap[b]? = some (.cells cs E)) :
    (loadB T (.pointer (some ⟨b, 0, none⟩))).run P w = .ok (.agg cs) w := by
  unfold loadB
  simp only [Instr.loadAt, Instr.sureAddr, Sem.run_bind, Sem.run_pure, Result.andThen_ok, run_loadVar_row w b E T cs (0, 0) d h hu hd hi]
theorem boxB_run (w : World) (cs : Array Value) : (boxB T (.agg cs)).run P w = .ok (.pointer (some ⟨w.heap.size, 0, none⟩)) (w.alloc (.cells cs T)) := by
  unfold boxB
  simp only [Instr.box, Sem.run_bind, newVar, newRow, Value.cells, run_newObj_alloc, Sem.run_pure, Result.andThen_ok]
end
theorem blk_row {w : World} {b : Nat} {cs : Array Value} (h : Blk w b cs) (new : Array Value) : Blk (w.setRow b new) b new := by
  obtain ⟨E, h⟩ := h
  exact ⟨E, setRow_heap w b cs new E (0, 0) h⟩
theorem blk_else {w : World} {b c : Nat} {cs : Array Value} (h : Blk w c cs) (new : Array Value) (hne : c ≠ b) : Blk (w.setRow b new) c cs := by
  obtain ⟨E, h⟩ := h
  exact ⟨E, (setRow_other w b c new hne).trans h⟩
theorem below_row {B : Nat} {w w' : World} {b : Nat} (h : Below B w w') (hb : B ≤ b) (new : Array Value) : Below B w (w'.setRow b new) := by
  refine ⟨h.os, h.tape, h.output, ?_, fun k hk => ?_⟩
  · have := h.size
    simpa [World.setRow] using this
  · rw [setRow_other _ _ _ _ (by omega)]
    exact h.block k hk
section
variable {P : Program} {ops : Array Oper} {rest : List Oper} {o : Oper} {a : Act} {w : World} {Q : Exit → Act → World → Prop}
/-- A struct stored whole. -/
theorem wpList_store_blk (hg : o.guard = none) (T : TypeId) (x y : Operand) (ho : o.op = .store T x y) (b : Nat) (old cs : Array Value) (hi : (P.info? T).map (·.size) = some cs.size) (hold : old.size = cs.size) (h1 : cs.all (·.oneCell') = true)
    (hx : a.eval x = .pointer (some ⟨b, 0, none⟩)) (hy : a.eval y = .agg cs) (hb : Blk w b old)
    (h : wpList P ops Q rest (a.put o.dst undef) (w.setRow b cs)) : wpList P ops Q (o :: rest) a w := by
  obtain ⟨E, hb⟩ := hb
  exact wpList_store_row hg T x y ho b cs hx hy _ old hb hi hold h1 h
/-- A struct loaded whole. -/
theorem wpList_load_blk (hg : o.guard = none) (T : TypeId) (x : Operand) (ho : o.op = .load T x) (b : Nat) (cs : Array Value) {d : TypeDesc} (hu : P.underlying T = some d) (hd : (match d with | .struct _ | .array _ _ => true | _ => false) = true) (hi : (P.info? T).map (·.size) = some cs.size)
    (hx : a.eval x = .pointer (some ⟨b, 0, none⟩)) (hb : Blk w b cs)
    (h : wpList P ops Q rest (a.put o.dst (.agg cs)) w) : wpList P ops Q (o :: rest) a w := by
  obtain ⟨E, hb⟩ := hb
  exact wpList_load_row hg T x ho b hx _ cs (0, 0) _ hb hu hd hi h
end
/-- A struct loaded whole, where the guard says yes. -/
theorem wpList_want_blk {P : Program} {ops : Array Oper} {rest : List Oper} {o : Oper} {a : Act} {w : World} {Q : Exit → Act → World → Prop} (hw : Region.wanted o (yielded ops a.tmps) = true) (T : TypeId) (x : Operand) (ho : o.op = .load T x) (b : Nat) (cs : Array Value) {d : TypeDesc} (hu : P.underlying T = some d) (hd : (match d with | .struct _ | .array _ _ => true | _ => false) = true) (hi : (P.info? T).map (·.size) = some cs.size)
    (hx : a.eval x = .pointer (some ⟨b, 0, none⟩)) (hb : Blk w b cs)
    (h : wpList P ops Q rest (a.put o.dst (.agg cs)) w) : wpList P ops Q (o :: rest) a w := by
  obtain ⟨E, hb⟩ := hb
  exact BigFrame.wpList_want hw fun _ hK => wp_load_row T x ho b hx _ cs (0, 0) _ hb hu hd hi (hK _ _ h)
theorem results_blk_tmp {P : Program} {fn : Func} {p t : Tmp} {T : TypeId} (h : fn.results = #[.cell p T, .tmp t]) (tmps : Array Value) (w : World) (b : Nat) (cs : Array Value) {d : TypeDesc} (hu : P.underlying T = some d) (hd : (match d with | .struct _ | .array _ _ => true | _ => false) = true) (hi : (P.info? T).map (·.size) = some cs.size)
    (hp : tmps.getD p undef = .pointer (some ⟨b, 0, none⟩)) (hb : Blk w b cs) :
    (results fn tmps).run P w = .ok (.tuple #[.agg cs, tmps.getD t undef]) w := by
  have hp' : tmps[p]?.getD undef = .pointer (some ⟨b, 0, none⟩) := by simpa using hp
  obtain ⟨E, hb⟩ := hb
  simp [results, h, hp', asAddr, run_loadVar_row w b _ T cs (0, 0) _ hb hu hd hi]
theorem rowd {W X : World} {b : Nat} (h : Below W.heap.size W X) (hb : W.heap.size ≤ b) (new : Array Value) : Below W.heap.size W (X.setRow b new) := below_row h hb new
theorem blk_cells {w : World} {b c o : Nat} {cs : Array Value} (h : Blk w c cs) (hne : c ≠ b) (vs : List Value) : Blk (w.setCells b o vs) c cs := by
  obtain ⟨E, h⟩ := h
  exact ⟨E, (World.heap_setCells_other w b o vs (Array.getElem?_eq_some_iff.1 h).1 hne).trans h⟩
end Go.Proofs.YtmnjmhlodbifjaaGreatDoor.Big
