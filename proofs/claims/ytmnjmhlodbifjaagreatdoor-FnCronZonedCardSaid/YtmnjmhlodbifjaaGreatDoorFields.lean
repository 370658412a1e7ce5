/- The reference's CronFields as 384 cells: laws for its making, storing and loading. Conditions: none. -/
import Derived.Test.YtmnjmhlodbifjaaGreatDoorSet
import Derived.Deep.MidRow
import Derived.Below
namespace Go.Proofs.YtmnjmhlodbifjaaGreatDoor.Fields
open Go Go.RowKit Go.Proofs.YtmnjmhlodbifjaaGreatDoor.Set
set_option linter.unusedVariables false

/-- The sets' cells: six times a star and the values 0 to 62. -/
def fld (st : Nat → Bool) (f : Nat → Nat → Bool) (i : Nat) : Value := if i % 64 = 0 then .bool (st (i / 64)) else .bool (f (i / 64) (i % 64 - 1))
def fldArr (st : Nat → Bool) (f : Nat → Nat → Bool) : Array Value := Array.ofFn (n := 384) fun i => fld st f i.val
theorem fldArr_size (st : Nat → Bool) (f : Nat → Nat → Bool) : (fldArr st f).size = 384 := by simp [fldArr]
theorem fldArr_get (st : Nat → Bool) (f : Nat → Nat → Bool) (i : Nat) (h : i < 384) : (fldArr st f)[i]? = some (fld st f i) := by
  rw [Array.getElem?_eq_getElem (by rw [fldArr_size]; omega)]
  simp [fldArr]
theorem fldArr_one (st : Nat → Bool) (f : Nat → Nat → Bool) : (fldArr st f).all (·.oneCell') = true := by
  rw [Array.all_eq_true_iff_forall_mem]
  intro x hx
  obtain ⟨i, rfl⟩ := Array.mem_ofFn.1 hx
  unfold fld; split <;> rfl
theorem fldArr_congr {st st' : Nat → Bool} {f f' : Nat → Nat → Bool} (h : ∀ k, k < 6 → st k = st' k) (h2 : ∀ k v, k < 6 → v ≤ 62 → f k v = f' k v) : fldArr st f = fldArr st' f' := by
  apply Array.ext_getElem?
  intro i
  rcases Nat.lt_or_ge i 384 with hi | hi
  · rw [fldArr_get _ _ _ hi, fldArr_get _ _ _ hi]
    unfold fld
    rw [h _ (by omega), h2 _ _ (by omega) (by omega)]
  · rw [Array.getElem?_eq_none (by rw [fldArr_size]; omega), Array.getElem?_eq_none (by rw [fldArr_size]; omega)]

theorem below_setCells {B b o : Nat} {w w' : World} (vs : List Value) (h : Below B w w') (hb : B ≤ b) : Below B w (w'.setCells b o vs) := by
  induction vs generalizing o w' with
  | nil => exact h
  | cons v r ih => rw [World.setCells]; exact ih (h.setCell (p := ⟨b, o, none⟩) hb v)

/-- The cells of six sets in a block. -/
structure FldAt (w : World) (b : Nat) (st : Nat → Bool) (f : Nat → Nat → Bool) : Prop where
  lt : b < w.heap.size
  cells : ∀ i, i < 384 → w.cell? ⟨b, i, none⟩ = some (fld st f i)
  free : ∀ i, i < 384 → w.frozen? ⟨b, i, none⟩ = false
section
variable {w : World} {b : Nat} {st : Nat → Bool} {f : Nat → Nat → Bool}
theorem FldAt.below {w' : World} {B : Nat} (h : FldAt w b st f) (hb : Below B w w') (hB : b < B) : FldAt w' b st f :=
  ⟨Nat.lt_of_lt_of_le h.lt hb.size, fun i hi => (hb.cell (p := ⟨b, i, none⟩) hB).trans (h.cells i hi), fun i hi => (hb.frozen (p := ⟨b, i, none⟩) hB).trans (h.free i hi)⟩
theorem FldAt.star (h : FldAt w b st f) (k : Nat) (hk : k < 6) : w.cell? ⟨b, k * 64, none⟩ = some (.bool (st k)) := by
  rw [h.cells _ (by omega)]; unfold fld; rw [if_pos (by omega), show k * 64 / 64 = k by omega]
theorem FldAt.val (h : FldAt w b st f) (k v : Nat) (hk : k < 6) (hv : v ≤ 62) : w.cell? ⟨b, k * 64 + 1 + v, none⟩ = some (.bool (f k v)) := by
  rw [h.cells _ (by omega)]; unfold fld; rw [if_neg (by omega), show (k * 64 + 1 + v) / 64 = k by omega, show (k * 64 + 1 + v) % 64 - 1 = v by omega]
theorem FldAt.range (h : FldAt w b st f) : w.rangeAt b 0 (fldArr st f).toList := fun j v hv => by
  rw [Array.getElem?_toList] at hv
  have hj : j < 384 := by rw [← fldArr_size st f]; exact (Array.getElem?_eq_some_iff.1 hv).1
  rw [fldArr_get _ _ _ hj] at hv
  rw [Nat.zero_add, h.cells j hj]; exact hv
theorem FldAt.there (h : FldAt w b st f) (o n : Nat) (hn : o + n ≤ 384) : w.there b o n := fun j hj => ⟨by rw [h.cells _ (by omega)]; rfl, h.free _ (by omega)⟩
/-- The cells of one set. -/
theorem FldAt.set (h : FldAt w b st f) (k : Nat) (hk : k < 6) : w.rangeAt b (k * 64) (setArr (st k) (f k)).toList := fun j v hv => by
  rw [Array.getElem?_toList] at hv
  have hj : j < 64 := by rw [← setArr_size (st k) (f k)]; exact (Array.getElem?_eq_some_iff.1 hv).1
  cases j with
  | zero => rw [setArr_zero] at hv; rw [Nat.add_zero, h.star k hk]; exact hv
  | succ j =>
    rw [Nat.add_comm j 1, setArr_get _ _ _ (by omega)] at hv
    rw [show k * 64 + (j + 1) = k * 64 + 1 + j by omega, h.val k j hk (by omega)]; exact hv
def updK {α : Type} (g : Nat → α) (k : Nat) (x : α) : Nat → α := fun i => if i = k then x else g i
theorem FldAt.put (h : FldAt w b st f) (k : Nat) (hk : k < 6) (s : Bool) (g : Nat → Bool) : FldAt (w.setCells b (k * 64) (setArr s g).toList) b (updK st k s) (updK f k g) := by
  have hl : (setArr s g).toList.length = 64 := by simp [setArr_size]
  have hth := h.there (k * 64) 64 (by omega)
  refine ⟨?_, fun i hi => ?_, fun i hi => by rw [World.frozen?_setCells]; exact h.free i hi⟩
  · exact Nat.lt_of_lt_of_le h.lt (below_setCells (b := b) (o := k * 64) (setArr s g).toList (Below.refl 0 w) (Nat.zero_le _)).size
  · by_cases c : k * 64 ≤ i ∧ i < k * 64 + 64
    · obtain ⟨j, rfl⟩ : ∃ j, i = k * 64 + j := ⟨i - k * 64, by omega⟩
      have hr := World.rangeAt_setCells_same w b (k * 64) (setArr s g).toList (by rw [hl]; exact hth)
      have hj : j < 64 := by omega
      unfold fld
      cases j with
      | zero =>
        have := hr 0 (.bool s) (by rw [Array.getElem?_toList]; exact setArr_zero s g)
        rw [this, if_pos (by omega), show (k * 64 + 0) / 64 = k by omega]
        simp [updK]
      | succ j =>
        have := hr (j + 1) (.bool (g j)) (by rw [Array.getElem?_toList, Nat.add_comm j 1]; exact setArr_get s g j (by omega))
        rw [this, if_neg (by omega), show (k * 64 + (j + 1)) / 64 = k by omega, show (k * 64 + (j + 1)) % 64 - 1 = j by omega]
        simp [updK]
    · rw [World.cell?_setCells_out b (setArr s g).toList (k * 64) w ⟨b, i, none⟩ (fun _ _ => by rw [hl]; simp only; omega), h.cells i hi]
      unfold fld updK
      rw [if_neg (show ¬ i / 64 = k by omega), if_neg (show ¬ i / 64 = k by omega)]
theorem FldAt.new (w : World) (st : Nat → Bool) (f : Nat → Nat → Bool) : FldAt (w.alloc (.cells (fldArr st f) 57)) w.heap.size st f := by
  have hh : (w.alloc (.cells (fldArr st f) 57)).heap[w.heap.size]? = some (.cells (fldArr st f) 57 (0, 0)) := heap_alloc_new w _
  exact ⟨by simp, fun i hi => by rw [cell_of_row _ _ _ _ _ _ hh, fldArr_get _ _ _ hi], fun i hi => frozen_of_row _ _ i _ _ hh⟩
theorem FldAt.other (h : FldAt w b st f) (p : Addr) (u : Value) (hne : b ≠ p.block) : FldAt (w.setCell p u) b st f := by
  have hb : (w.setCell p u).heap[b]? = w.heap[b]? := Below.heap_setCell w p u b hne
  exact ⟨by simp [World.setCell]; exact h.lt, fun i hi => (World.cell?_of_block (w := w) (a := ⟨b, i, none⟩) hb).trans (h.cells i hi), fun i hi => (World.frozen?_of_block (w := w) (a := ⟨b, i, none⟩) hb).trans (h.free i hi)⟩
end

theorem zeroRun (w : World) : (zeroValue 57).run Tryz.prog w = .ok (.agg (fldArr (fun _ => false) fun _ _ => false)) w := by kernel_rfl
theorem sizeInfoF : (Tryz.prog.info? 57).map (·.size) = some 384 := by kernel_rfl
section
variable {ops : Array Oper} {rest : List Oper} {o : Oper} {a : Act} {w : World} {Q : Exit → Act → World → Prop}
/-- New sets without values. -/
theorem wpList_alloc_fields (hg : o.guard = none) (ho : o.op = .alloc 57)
    (h : wpList Tryz.prog ops Q rest (a.put o.dst (.pointer (some ⟨w.heap.size, 0, none⟩))) (w.alloc (.cells (fldArr (fun _ => false) fun _ _ => false) 57))) : wpList Tryz.prog ops Q (o :: rest) a w := by
  refine wpList_plain hg fun K hK => ?_
  unfold Oper.wp execOp
  simp only [ho, Instr.alloc, Sem.run_bind, zeroRun, Result.andThen_ok, newVar, newRow, Value.cells, run_newObj_alloc, Sem.run_pure]
  exact hK _ _ h
/-- Sets that are handed over, boxed. -/
theorem wpList_box_fields (hg : o.guard = none) (x : Operand) (ho : o.op = .box 57 x) (st : Nat → Bool) (f : Nat → Nat → Bool)
    (hx : a.eval x = .agg (fldArr st f))
    (h : wpList Tryz.prog ops Q rest (a.put o.dst (.pointer (some ⟨w.heap.size, 0, none⟩))) (w.alloc (.cells (fldArr st f) 57))) : wpList Tryz.prog ops Q (o :: rest) a w := by
  refine wpList_plain hg fun K hK => ?_
  unfold Oper.wp execOp
  simp only [ho, hx, Instr.box, Sem.run_bind, newVar, newRow, Value.cells, run_newObj_alloc, Sem.run_pure, Result.andThen_ok]
  exact hK _ _ h
/-- All of them loaded. -/
theorem wpList_load_fields (hg : o.guard = none) (x : Operand) (ho : o.op = .load 57 x) (b : Nat) (st : Nat → Bool) (f : Nat → Nat → Bool)
    (hx : a.eval x = .pointer (some ⟨b, 0, none⟩)) (hb : FldAt w b st f)
    (h : wpList Tryz.prog ops Q rest (a.put o.dst (.agg (fldArr st f))) w) : wpList Tryz.prog ops Q (o :: rest) a w := by
  refine wpList_load_mid hg 57 x ho b 0 hx (fldArr st f).toList _ hb.range Tryz.underlying57 rfl (by simp [fldArr_size, sizeInfoF]) ?_
  simpa using h
/-- One set stored. -/
theorem wpList_store_one (hg : o.guard = none) (x y : Operand) (ho : o.op = .store 55 x y) (b k : Nat) (hk : k < 6) (st : Nat → Bool) (f : Nat → Nat → Bool) (s : Bool) (g : Nat → Bool)
    (hx : a.eval x = .pointer (some ⟨b, k * 64, none⟩)) (hy : a.eval y = .agg (setArr s g)) (hb : FldAt w b st f)
    (h : wpList Tryz.prog ops Q rest (a.put o.dst undef) (w.setCells b (k * 64) (setArr s g).toList)) : wpList Tryz.prog ops Q (o :: rest) a w :=
  wpList_store_mid hg 55 x y ho b (k * 64) (setArr s g) hx hy (by rw [setArr_size]; exact hb.there _ _ (by omega)) (by rw [setArr_size]; exact sizeInfo) (setArr_one _ _) h
/-- One set loaded. -/
theorem wpList_load_one (hg : o.guard = none) (x : Operand) (ho : o.op = .load 55 x) (b k : Nat) (hk : k < 6) (st : Nat → Bool) (f : Nat → Nat → Bool)
    (hx : a.eval x = .pointer (some ⟨b, k * 64, none⟩)) (hb : FldAt w b st f)
    (h : wpList Tryz.prog ops Q rest (a.put o.dst (.agg (setArr (st k) (f k)))) w) : wpList Tryz.prog ops Q (o :: rest) a w := by
  refine wpList_load_mid hg 55 x ho b (k * 64) hx (setArr (st k) (f k)).toList _ (hb.set k hk) Tryz.underlying55 rfl (by simp [setArr_size, sizeInfo]) ?_
  simpa using h
end
section
variable {w : World} {b : Nat} {st : Nat → Bool} {f : Nat → Nat → Bool} {ops : Array Oper} {rest : List Oper} {o : Oper} {a : Act} {Q : Exit → Act → World → Prop}
theorem putAll (h : FldAt w b st f) (st' : Nat → Bool) (f' : Nat → Nat → Bool) : FldAt (w.setCells b 0 (fldArr st' f').toList) b st' f' := by
  have hl : (fldArr st' f').toList.length = 384 := by simp [fldArr_size]
  have hth := h.there 0 384 (by omega)
  refine ⟨?_, fun i hi => ?_, fun i hi => by rw [World.frozen?_setCells]; exact h.free i hi⟩
  · exact Nat.lt_of_lt_of_le h.lt (below_setCells (b := b) (o := 0) (fldArr st' f').toList (Below.refl 0 w) (Nat.zero_le _)).size
  · have hr := World.rangeAt_setCells_same w b 0 (fldArr st' f').toList (by rw [hl]; exact hth)
    have := hr i (fld st' f' i) (by rw [Array.getElem?_toList]; exact fldArr_get _ _ _ hi)
    rw [Nat.zero_add] at this
    exact this
theorem wpList_store_all (hg : o.guard = none) (x y : Operand) (ho : o.op = .store 57 x y) (b : Nat) (st : Nat → Bool) (f : Nat → Nat → Bool) (st' : Nat → Bool) (f' : Nat → Nat → Bool)
    (hx : a.eval x = .pointer (some ⟨b, 0, none⟩)) (hy : a.eval y = .agg (fldArr st' f')) (hb : FldAt w b st f)
    (h : wpList Tryz.prog ops Q rest (a.put o.dst undef) (w.setCells b 0 (fldArr st' f').toList)) : wpList Tryz.prog ops Q (o :: rest) a w :=
  wpList_store_mid hg 57 x y ho b 0 (fldArr st' f') hx hy (by rw [fldArr_size]; exact hb.there _ _ (by omega)) (by rw [fldArr_size]; exact sizeInfoF) (fldArr_one _ _) h
end
/-- Stands at a store. -/
theorem at_store {P : Program} {ops : Array Oper} {rest : List Oper} {o : Oper} {a : Act} {w : World} {Q : Exit → Act → World → Prop} {t : TypeId} {x y : Operand} (ho : o.op = .store t x y) (h : wpList P ops Q (o :: rest) a w) : wpList P ops Q (o :: rest) a w := h
/-- A result that is six sets. -/
theorem results_fields {fn : Func} {p : Tmp} (h : fn.results = #[.cell p 57]) (tmps : Array Value) (w : World) (b : Nat) (st : Nat → Bool) (f : Nat → Nat → Bool)
    (hp : tmps.getD p undef = .pointer (some ⟨b, 0, none⟩)) (hb : FldAt w b st f) :
    (results fn tmps).run Tryz.prog w = .ok (.agg (fldArr st f)) w := by
  have hp' : tmps[p]?.getD undef = .pointer (some ⟨b, 0, none⟩) := by simpa using hp
  have h2 := run_loadVar_mid (P := Tryz.prog) w b 0 57 (fldArr st f).toList _ hb.range Tryz.underlying57 rfl (by simp [fldArr_size, sizeInfoF])
  simp [results, h, hp', asAddr, h2]

end Go.Proofs.YtmnjmhlodbifjaaGreatDoor.Fields
