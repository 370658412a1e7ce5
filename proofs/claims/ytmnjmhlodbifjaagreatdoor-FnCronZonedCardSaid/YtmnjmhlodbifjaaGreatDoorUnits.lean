/- package time's map of units. Conditions: none. -/
import Derived.Test.YtmnjmhlodbifjaaGreatDoorKind
import Derived.Test.YtmnjmhlodbifjaaGreatDoorDurPure
namespace Go.Proofs.YtmnjmhlodbifjaaGreatDoor.Units
open Go Go.RowKit Go.Proofs.YtmnjmhlodbifjaaGreatDoor.NameMap Go.Proofs.YtmnjmhlodbifjaaGreatDoor.SplitPure Go.Proofs.YtmnjmhlodbifjaaGreatDoor.DurPure
set_option linter.unusedVariables false
set_option linter.unusedSimpArgs false

def units : List (ByteArray × Nat) := [(⟨#[110, 115]⟩, 1), (⟨#[117, 115]⟩, 1000), (⟨#[194, 181, 115]⟩, 1000), (⟨#[206, 188, 115]⟩, 1000), (⟨#[109, 115]⟩, 1000000), (⟨#[115]⟩, 1000000000), (⟨#[109]⟩, 60000000000), (⟨#[104]⟩, 3600000000000)]
theorem run_insertU (w : World) (b : Nat) (l : List (ByteArray × Nat)) (s : ByteArray) (n : Nat) (h : NMapAt w b l) (hno : nlook l s = none) :
    ∃ w', (Instr.mapUpdate 202 (.map (some b)) (.string s) (.int .u64 (n : Int))).run Tryz.prog w = .ok () w' ∧ NMapAt w' b (l ++ [(s, n)]) ∧ w.grownBy w' (some b) := by
  have hf := findNow_none s l 0 0 hno
  refine ⟨{ w with heap := w.heap.setIfInBounds b (.map ((entsFrom 0 l).toArray.push ⟨.string s, .int .u64 (n : Int), l.length⟩) (l.length + 1)) }, ?_, ?_, ?_⟩
  · have hg : w.heap[b]? = some (.map (entsFrom 0 l).toArray l.length) := h
    have hr := run_find w s _ _ hf
    simp [Instr.mapUpdate, Sem.run_bind, run_underlying Tryz.underlying202, getObj, setObj, Sem.run, hg, run_check, hr]
  · unfold NMapAt
    have hlt : b < w.heap.size := (Array.getElem?_eq_some_iff.1 h).1
    rw [entsFrom_snoc]
    simp [hlt]
  · refine ⟨rfl, rfl, rfl, by simp, fun i _ hi => ?_⟩
    simp only [Array.getElem?_setIfInBounds]
    rw [if_neg (fun e => hi (by rw [e]))]
theorem zeroU (w : World) : (zeroValue 26).run Tryz.prog w = .ok (.int .u64 0) w := by kernel_rfl
theorem run_lookupU (w : World) (b : Nat) (l : List (ByteArray × Nat)) (s : ByteArray) (h : NMapAt w b l) :
    (Instr.lookup 202 (.map (some b)) (.string s) true).run Tryz.prog w = .ok (found (nlook l s)) w := by
  have hg : w.heap[b]? = some (.map (entsFrom 0 l).toArray l.length) := h
  cases hl : nlook l s with
  | none =>
    have hr := run_find w s _ _ (findNow_none s l 0 0 hl)
    simp [Instr.lookup, Sem.run_bind, run_underlying Tryz.underlying202, getObj, Sem.run, hg, run_check, hr, zeroU, found]
  | some v =>
    obtain ⟨k, hk⟩ := findNow_some s v l 0 0 hl
    have hr := run_find w s _ _ hk
    simp [Instr.lookup, Sem.run_bind, run_underlying Tryz.underlying202, getObj, Sem.run, hg, run_check, hr, found]
section
variable {ops : Array Oper} {rest : List Oper} {o : Oper} {a : Act} {w : World} {Q : Exit → Act → World → Prop}
theorem wpList_insertU (hg : o.guard = none) (m x y : Operand) (ho : o.op = .insert 202 m x y) (b : Nat) (l : List (ByteArray × Nat)) (s : ByteArray) (n : Nat)
    (hm : a.eval m = .map (some b)) (hx : a.eval x = .string s) (hy : a.eval y = .int .u64 (n : Int)) (h : NMapAt w b l) (hno : nlook l s = none)
    (hK : ∀ w', NMapAt w' b (l ++ [(s, n)]) → w.grownBy w' (some b) → wpList Tryz.prog ops Q rest (a.put o.dst undef) w') : wpList Tryz.prog ops Q (o :: rest) a w := by
  refine wpList_plain hg fun K hK' => ?_
  obtain ⟨w', hrun, h1, h2⟩ := run_insertU w b l s n h hno
  unfold Oper.wp
  simp [execOp, ho, hm, hx, hy, hrun, Result.andThen]
  exact hK' _ _ (hK w' h1 h2)
theorem wpList_lookupU (hg : o.guard = none) (m x : Operand) (ho : o.op = .lookup 202 m x true) (b : Nat) (l : List (ByteArray × Nat)) (s : ByteArray)
    (hm : a.eval m = .map (some b)) (hx : a.eval x = .string s) (h : NMapAt w b l)
    (hK : wpList Tryz.prog ops Q rest (a.put o.dst (found (nlook l s))) w) : wpList Tryz.prog ops Q (o :: rest) a w := by
  refine wpList_plain hg fun K hK' => ?_
  have hrun := run_lookupU w b l s h
  unfold Oper.wp
  simp [execOp, ho, hm, hx, hrun, Result.andThen]
  exact hK' _ _ hK
theorem wpList_makeMapU (hg : o.guard = none) (ho : o.op = .makeMap 202 none)
    (hK : wpList Tryz.prog ops Q rest (a.put o.dst (.map (some w.heap.size))) (w.alloc (.map #[] 0))) : wpList Tryz.prog ops Q (o :: rest) a w := by
  refine wpList_plain hg fun K hK' => ?_
  unfold Oper.wp
  simp [execOp, ho, Instr.makeMap, Sem.run_bind, run_underlying Tryz.underlying202, Result.andThen]
  exact hK' _ _ hK
end
set_option maxHeartbeats 2000000 in
set_option maxRecDepth 100000 in
theorem units_any (w : World) :
    Calls Tryz.prog 126 #[] w fun e w' => ∃ m, e = .returned (.map (some m)) ∧ NMapAt w' m units ∧ Below w.heap.size w w' := by
  have hm0 := Lib.hid (NMapAt.new w)
  have hb0 := Lib.hid ((Below.refl w.heap.size w).alloc (Nat.le_refl _) (.map #[] 0))
  go_enter Tryz.func126, Tryz.ntmps126
  go_wp2_with (first
    | (with_reducible refine wpList_makeMapU rfl rfl ?_)
    | (with_reducible refine wpList_insertU rfl (.tmp 1) (.const (.string ⟨#[110, 115]⟩)) (.const (.int .u64 1)) rfl _ [] ⟨#[110, 115]⟩ 1 rfl rfl rfl hm0.out rfl ?_; intro w1 hn1 hg1; (have hm1 := Lib.hid hn1); (have hb1 := Lib.hid (Names.step hm0.out (Nat.le_refl _) hb0.out hg1)); clear hn1 hg1)
    | (with_reducible refine wpList_insertU rfl (.tmp 1) (.const (.string ⟨#[117, 115]⟩)) (.const (.int .u64 1000)) rfl _ [(⟨#[110, 115]⟩, 1)] ⟨#[117, 115]⟩ 1000 rfl rfl rfl hm1.out rfl ?_; intro w2 hn2 hg2; (have hm2 := Lib.hid hn2); (have hb2 := Lib.hid (Names.step hm1.out (Nat.le_refl _) hb1.out hg2)); clear hn2 hg2)
    | (with_reducible refine wpList_insertU rfl (.tmp 1) (.const (.string ⟨#[194, 181, 115]⟩)) (.const (.int .u64 1000)) rfl _ [(⟨#[110, 115]⟩, 1), (⟨#[117, 115]⟩, 1000)] ⟨#[194, 181, 115]⟩ 1000 rfl rfl rfl hm2.out rfl ?_; intro w3 hn3 hg3; (have hm3 := Lib.hid hn3); (have hb3 := Lib.hid (Names.step hm2.out (Nat.le_refl _) hb2.out hg3)); clear hn3 hg3)
    | (with_reducible refine wpList_insertU rfl (.tmp 1) (.const (.string ⟨#[206, 188, 115]⟩)) (.const (.int .u64 1000)) rfl _ [(⟨#[110, 115]⟩, 1), (⟨#[117, 115]⟩, 1000), (⟨#[194, 181, 115]⟩, 1000)] ⟨#[206, 188, 115]⟩ 1000 rfl rfl rfl hm3.out rfl ?_; intro w4 hn4 hg4; (have hm4 := Lib.hid hn4); (have hb4 := Lib.hid (Names.step hm3.out (Nat.le_refl _) hb3.out hg4)); clear hn4 hg4)
    | (with_reducible refine wpList_insertU rfl (.tmp 1) (.const (.string ⟨#[109, 115]⟩)) (.const (.int .u64 1000000)) rfl _ [(⟨#[110, 115]⟩, 1), (⟨#[117, 115]⟩, 1000), (⟨#[194, 181, 115]⟩, 1000), (⟨#[206, 188, 115]⟩, 1000)] ⟨#[109, 115]⟩ 1000000 rfl rfl rfl hm4.out rfl ?_; intro w5 hn5 hg5; (have hm5 := Lib.hid hn5); (have hb5 := Lib.hid (Names.step hm4.out (Nat.le_refl _) hb4.out hg5)); clear hn5 hg5)
    | (with_reducible refine wpList_insertU rfl (.tmp 1) (.const (.string ⟨#[115]⟩)) (.const (.int .u64 1000000000)) rfl _ [(⟨#[110, 115]⟩, 1), (⟨#[117, 115]⟩, 1000), (⟨#[194, 181, 115]⟩, 1000), (⟨#[206, 188, 115]⟩, 1000), (⟨#[109, 115]⟩, 1000000)] ⟨#[115]⟩ 1000000000 rfl rfl rfl hm5.out rfl ?_; intro w6 hn6 hg6; (have hm6 := Lib.hid hn6); (have hb6 := Lib.hid (Names.step hm5.out (Nat.le_refl _) hb5.out hg6)); clear hn6 hg6)
    | (with_reducible refine wpList_insertU rfl (.tmp 1) (.const (.string ⟨#[109]⟩)) (.const (.int .u64 60000000000)) rfl _ [(⟨#[110, 115]⟩, 1), (⟨#[117, 115]⟩, 1000), (⟨#[194, 181, 115]⟩, 1000), (⟨#[206, 188, 115]⟩, 1000), (⟨#[109, 115]⟩, 1000000), (⟨#[115]⟩, 1000000000)] ⟨#[109]⟩ 60000000000 rfl rfl rfl hm6.out rfl ?_; intro w7 hn7 hg7; (have hm7 := Lib.hid hn7); (have hb7 := Lib.hid (Names.step hm6.out (Nat.le_refl _) hb6.out hg7)); clear hn7 hg7)
    | (with_reducible refine wpList_insertU rfl (.tmp 1) (.const (.string ⟨#[104]⟩)) (.const (.int .u64 3600000000000)) rfl _ [(⟨#[110, 115]⟩, 1), (⟨#[117, 115]⟩, 1000), (⟨#[194, 181, 115]⟩, 1000), (⟨#[206, 188, 115]⟩, 1000), (⟨#[109, 115]⟩, 1000000), (⟨#[115]⟩, 1000000000), (⟨#[109]⟩, 60000000000)] ⟨#[104]⟩ 3600000000000 rfl rfl rfl hm7.out rfl ?_; intro w8 hn8 hg8; (have hm8 := Lib.hid hn8); (have hb8 := Lib.hid (Names.step hm7.out (Nat.le_refl _) hb7.out hg8)); clear hn8 hg8))
  refine bodyPost_ret (v := .map (some w.heap.size)) ?hres rfl ?_
  case hres => simp [results, Tryz.results126, go_sem, *]
  exact ⟨_, rfl, hm8.out, hb8.out⟩

theorem beq_ofL (u t : List UInt8) : (ofL u == ofL t) = decide (u = t) := by
  have h1 : (ofL u == ofL t) = (u.toArray == t.toArray) := rfl
  rw [h1]
  by_cases h : u = t
  · subst h; simp
  · rw [decide_eq_false h]; simpa using h
/-- What the map holds is what the reference reads. -/
theorem units_look (u : List UInt8) : nlook units (ofL u) = if (unitOf u).1 = 0 then none else some (unitOf u).1 := by
  unfold units
  simp only [nlook, show (∀ l : List UInt8, (⟨l.toArray⟩ : ByteArray) = ofL l) from fun _ => rfl, beq_ofL]
  unfold unitOf
  by_cases c0 : u = [110, 115]
  · subst c0; decide
  by_cases c1 : u = [117, 115]
  · subst c1; decide
  by_cases c2 : u = [194, 181, 115]
  · subst c2; decide
  by_cases c3 : u = [206, 188, 115]
  · subst c3; decide
  by_cases c4 : u = [109, 115]
  · subst c4; decide
  by_cases c5 : u = [115]
  · subst c5; decide
  by_cases c6 : u = [109]
  · subst c6; decide
  by_cases c7 : u = [104]
  · subst c7; decide
  simp [c0, c1, c2, c3, c4, c5, c6, c7]

end Go.Proofs.YtmnjmhlodbifjaaGreatDoor.Units
