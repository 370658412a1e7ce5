/- The reference's CronMeaning as 387 cells: its making, storing and loading. Conditions: none. -/
import Derived.Test.YtmnjmhlodbifjaaGreatDoorBig
import Derived.Test.YtmnjmhlodbifjaaGreatDoorFields
namespace Go.Proofs.YtmnjmhlodbifjaaGreatDoor.Meaning
open Go Go.RowKit Go.Proofs.YtmnjmhlodbifjaaGreatDoor.Mem Go.Proofs.YtmnjmhlodbifjaaGreatDoor.Aid Go.Proofs.YtmnjmhlodbifjaaGreatDoor.Set Go.Proofs.YtmnjmhlodbifjaaGreatDoor.Fields Go.Proofs.YtmnjmhlodbifjaaGreatDoor.Big
set_option linter.unusedVariables false

/-- The cells of a meaning. -/
def meanArr (ev : Bool) (d : Int) (cs : Array Value) (utc : Bool) : Array Value := (.bool ev :: .int .i64 d :: (cs.toList ++ [.bool utc])).toArray
def noFields : Array Value := fldArr (fun _ => false) fun _ _ => false
theorem noFields_size : noFields.size = 384 := fldArr_size _ _
theorem meanArr_size (ev : Bool) (d : Int) (cs : Array Value) (utc : Bool) (h : cs.size = 384) : (meanArr ev d cs utc).size = 387 := by unfold meanArr; simp [h]
theorem meanArr_one (ev : Bool) (d : Int) (cs : Array Value) (utc : Bool) (h : cs.all (·.oneCell') = true) : (meanArr ev d cs utc).all (·.oneCell') = true := by
  rw [Array.all_eq_true_iff_forall_mem] at h ⊢
  intro x hx
  unfold meanArr at hx
  simp only [List.mem_toArray, List.mem_cons, List.mem_append, Array.mem_toList_iff, List.not_mem_nil, or_false] at hx
  rcases hx with rfl | rfl | hx | rfl
  · rfl
  · rfl
  · exact h x hx
  · rfl
theorem mean_ev (ev : Bool) (d : Int) (cs : Array Value) (utc : Bool) : (meanArr ev d cs utc)[0]? = some (.bool ev) := rfl
theorem mean_delay (ev : Bool) (d : Int) (cs : Array Value) (utc : Bool) : (meanArr ev d cs utc)[1]? = some (.int .i64 d) := rfl
theorem mean_at (ev : Bool) (d : Int) (cs : Array Value) (utc : Bool) (i : Nat) : (meanArr ev d cs utc)[2 + i]? = (cs.toList ++ [.bool utc])[i]? := by
  unfold meanArr
  rw [List.getElem?_toArray, show 2 + i = i + 1 + 1 by omega, List.getElem?_cons_succ, List.getElem?_cons_succ]
theorem mean_utc (ev : Bool) (d : Int) (cs : Array Value) (utc : Bool) (h : cs.size = 384) : (meanArr ev d cs utc)[386]? = some (.bool utc) := by
  rw [show 386 = 2 + 384 from rfl, mean_at, List.getElem?_append_right (by simp [h])]
  simp [h]
theorem mean_field (ev : Bool) (d : Int) (cs : Array Value) (utc : Bool) (h : cs.size = 384) (i : Nat) (hi : i < 384) : (meanArr ev d cs utc)[2 + i]? = cs[i]? := by
  rw [mean_at, List.getElem?_append_left (by simp [h]; omega)]
  simp
theorem mean_set_utc (ev : Bool) (d : Int) (cs : Array Value) (u v : Bool) (h : cs.size = 384) : (meanArr ev d cs u).setIfInBounds 386 (.bool v) = meanArr ev d cs v := by
  apply Array.ext_getElem?
  intro i
  rw [Array.getElem?_setIfInBounds]
  by_cases hi : 386 = i
  · subst hi
    rw [if_pos rfl, if_pos (by rw [meanArr_size _ _ _ _ h]; omega), mean_utc _ _ _ _ h]
  · rw [if_neg hi]
    rcases i with _ | _ | i
    · rfl
    · rfl
    · rw [show i + 1 + 1 = 2 + i by omega]
      by_cases h2 : i < 384
      · rw [mean_field _ _ _ _ h _ h2, mean_field _ _ _ _ h _ h2]
      · rw [Array.getElem?_eq_none (by rw [meanArr_size _ _ _ _ h]; omega), Array.getElem?_eq_none (by rw [meanArr_size _ _ _ _ h]; omega)]
theorem foldl_set (cs : List Value) : ∀ (k off : Nat) (z : Array Value) (i : Nat), ((cs.zipIdx k).foldl (fun a x => a.setIfInBounds (off + x.2) x.1) z)[i]? = if off + k ≤ i ∧ i < off + k + cs.length ∧ i < z.size then cs[i - (off + k)]? else z[i]? := by
  induction cs with
  | nil => intro k off z i; rw [if_neg (by simp; omega)]; rfl
  | cons c r ih =>
    intro k off z i
    rw [List.zipIdx_cons, List.foldl_cons, ih (k + 1) off _ i, Array.size_setIfInBounds, Array.getElem?_setIfInBounds]
    simp only [List.length_cons]
    by_cases h1 : off + k = i
    · subst h1
      rw [if_neg (by omega), if_pos rfl, Nat.sub_self]
      by_cases h2 : off + k < z.size
      · rw [if_pos h2, if_pos (by omega)]; rfl
      · rw [if_neg h2, if_neg (by omega), Array.getElem?_eq_none (by omega)]
    · rw [if_neg h1]
      by_cases h2 : off + k ≤ i ∧ i < off + k + (r.length + 1) ∧ i < z.size
      · rw [if_pos (by omega), if_pos h2]
        rw [show i - (off + k) = i - (off + (k + 1)) + 1 by omega, List.getElem?_cons_succ]
      · rw [if_neg (by omega), if_neg h2]
theorem mean_splice (ev : Bool) (d : Int) (old cs : Array Value) (utc : Bool) (ho : old.size = 384) (h : cs.size = 384) : cs.toList.zipIdx.foldl (fun a x => a.setIfInBounds (2 + x.2) x.1) (meanArr ev d old utc) = meanArr ev d cs utc := by
  apply Array.ext_getElem?
  intro i
  rw [foldl_set, meanArr_size _ _ _ _ ho]
  by_cases hc : 2 + 0 ≤ i ∧ i < 2 + 0 + cs.toList.length ∧ i < 387
  · rw [if_pos hc]
    obtain ⟨j, rfl⟩ : ∃ j, i = 2 + j := ⟨i - 2, by omega⟩
    have hl : cs.toList.length = 384 := by simp [h]
    rw [mean_field _ _ _ _ h _ (by omega), show 2 + j - (2 + 0) = j by omega]
    simp
  · rw [if_neg hc]
    have hl : cs.toList.length = 384 := by simp [h]
    rcases i with _ | _ | i
    · rfl
    · rfl
    · by_cases h2 : i = 384
      · subst h2
        rw [show 384 + 1 + 1 = 386 from rfl, mean_utc _ _ _ _ ho, mean_utc _ _ _ _ h]
      · rw [Array.getElem?_eq_none (by rw [meanArr_size _ _ _ _ ho]; omega), Array.getElem?_eq_none (by rw [meanArr_size _ _ _ _ h]; omega)]

theorem zeroRunM (w : World) : (zeroValue 59).run Tryz.prog w = .ok (.agg (meanArr false 0 noFields false)) w := by kernel_rfl
theorem sizeInfoM : (Tryz.prog.info? 59).map (·.size) = some 387 := by kernel_rfl
theorem builtZeroM : Tryz.prog.built 59 [] = some (meanArr false 0 noFields false) := by kernel_rfl
theorem built_fill (v : Value) : Tryz.prog.built 59 [(2, v)] = Instr.fill (fun i => #[(0, 1), (1, 1), (2, 384), (386, 1)][i]?) (meanArr false 0 noFields false) [(2, v)] := by kernel_rfl
theorem built_delay (d : Int) : Tryz.prog.built 59 [(0, .bool true), (1, .int .i64 d)] = some (meanArr true d noFields false) := by kernel_rfl

theorem built_fields (cs : Array Value) (h : cs.size = 384) : Tryz.prog.built 59 [(2, .agg cs)] = some (meanArr false 0 cs false) := by
  rw [built_fill]
  unfold Instr.fill
  simp only [List.getElem?_toArray, List.getElem?_cons_succ, List.getElem?_cons_zero]
  have hs : (Value.agg cs).cells.size = 384 := h
  rw [if_neg (by rw [hs, meanArr_size _ _ _ _ noFields_size]; simp)]
  unfold Instr.fill
  congr 1
  have := mean_splice false 0 noFields cs false noFields_size h
  rw [← this, ← Array.foldl_toList, Array.toList_zipIdx]
  rfl
section
variable {ops : Array Oper} {rest : List Oper} {o : Oper} {a : Act} {w : World} {Q : Exit → Act → World → Prop}
theorem wpList_alloc_mean (hg : o.guard = none) (ho : o.op = .alloc 59)
    (h : wpList Tryz.prog ops Q rest (a.put o.dst (.pointer (some ⟨w.heap.size, 0, none⟩))) (w.alloc (.cells (meanArr false 0 noFields false) 59))) : wpList Tryz.prog ops Q (o :: rest) a w := by
  refine wpList_plain hg fun K hK => ?_
  unfold Oper.wp execOp
  simp only [ho, Instr.alloc, Sem.run_bind, zeroRunM, Result.andThen_ok, newVar, newRow, Value.cells, run_newObj_alloc, Sem.run_pure]
  exact hK _ _ h
theorem wpList_build_mean (hg : o.guard = none) (ho : o.op = .build 59 #[])
    (h : wpList Tryz.prog ops Q rest (a.put o.dst (.agg (meanArr false 0 noFields false))) w) : wpList Tryz.prog ops Q (o :: rest) a w := by
  refine wpList_build hg 59 #[] ho (by simp [builtZeroM]) ?_
  simpa [builtZeroM] using h
theorem wpList_build_sets (hg : o.guard = none) (x : Operand) (ho : o.op = .build 59 #[(2, x)]) (cs : Array Value) (hx : a.eval x = .agg cs) (hs : cs.size = 384)
    (h : wpList Tryz.prog ops Q rest (a.put o.dst (.agg (meanArr false 0 cs false))) w) : wpList Tryz.prog ops Q (o :: rest) a w := by
  refine wpList_build hg 59 #[(2, x)] ho (by simp [hx, built_fields cs hs]) ?_
  simpa [hx, built_fields cs hs] using h
/-- A meaning stored whole. -/
theorem wpList_store_mean (hg : o.guard = none) (x y : Operand) (ho : o.op = .store 59 x y) (b : Nat) (old cs : Array Value) (hold : old.size = 387) (hcs : cs.size = 387) (h1 : cs.all (·.oneCell') = true)
    (hx : a.eval x = .pointer (some ⟨b, 0, none⟩)) (hy : a.eval y = .agg cs) (hb : Blk w b old)
    (h : wpList Tryz.prog ops Q rest (a.put o.dst undef) (w.setRow b cs)) : wpList Tryz.prog ops Q (o :: rest) a w := by
  obtain ⟨E, hb⟩ := hb
  exact wpList_store_row hg 59 x y ho b cs hx hy _ old hb (by rw [hcs]; exact sizeInfoM) (by rw [hold, hcs]) h1 h
/-- A meaning loaded whole. -/
theorem wpList_load_mean (hg : o.guard = none) (x : Operand) (ho : o.op = .load 59 x) (b : Nat) (cs : Array Value) (hcs : cs.size = 387)
    (hx : a.eval x = .pointer (some ⟨b, 0, none⟩)) (hb : Blk w b cs)
    (h : wpList Tryz.prog ops Q rest (a.put o.dst (.agg cs)) w) : wpList Tryz.prog ops Q (o :: rest) a w := by
  obtain ⟨E, hb⟩ := hb
  exact wpList_load_row hg 59 x ho b hx _ cs (0, 0) _ hb Tryz.underlying59 rfl (by rw [hcs]; exact sizeInfoM) h
/-- A meaning that is handed over, boxed. -/
theorem wpList_box_mean (hg : o.guard = none) (x : Operand) (ho : o.op = .box 59 x) (cs : Array Value)
    (hx : a.eval x = .agg cs)
    (h : wpList Tryz.prog ops Q rest (a.put o.dst (.pointer (some ⟨w.heap.size, 0, none⟩))) (w.alloc (.cells cs 59))) : wpList Tryz.prog ops Q (o :: rest) a w := by
  refine wpList_plain hg fun K hK => ?_
  unfold Oper.wp execOp
  simp only [ho, hx, Instr.box, Sem.run_bind, newVar, newRow, Value.cells, run_newObj_alloc, Sem.run_pure, Result.andThen_ok]
  exact hK _ _ h
end
theorem results_mean_tmp {fn : Func} {p t : Tmp} (h : fn.results = #[.cell p 59, .tmp t]) (tmps : Array Value) (w : World) (b : Nat) (cs : Array Value) (hcs : cs.size = 387)
    (hp : tmps.getD p undef = .pointer (some ⟨b, 0, none⟩)) (hb : Blk w b cs) :
    (results fn tmps).run Tryz.prog w = .ok (.tuple #[.agg cs, tmps.getD t undef]) w := by
  have hp' : tmps[p]?.getD undef = .pointer (some ⟨b, 0, none⟩) := by simpa using hp
  obtain ⟨E, hb⟩ := hb
  simp [results, h, hp', asAddr, run_loadVar_row w b _ 59 cs (0, 0) _ hb Tryz.underlying59 rfl (by rw [hcs]; exact sizeInfoM)]

end Go.Proofs.YtmnjmhlodbifjaaGreatDoor.Meaning
