/- The reference's CronEmpty and CronNever. Conditions: none. -/
import Derived.Test.YtoekefbclkmchaaFieldsOf
import Derived.ChangeKeysEq
import Derived.BigFrame
namespace Go.Proofs.Ytoekefbclkmchaa.Never
open Go Go.RowKit Go.Proofs.Ytoekefbclkmchaa.Set Go.Proofs.Ytoekefbclkmchaa.Fields Go.Proofs.Ytoekefbclkmchaa.SetOf Go.Proofs.Ytoekefbclkmchaa.Moment Go.Proofs.Ytoekefbclkmchaa.DayM Go.Proofs.Ytoekefbclkmchaa.DayFits Go.Proofs.Ytoekefbclkmchaa.FieldsOf
set_option linter.unusedVariables false

def valArr (f : Nat → Bool) : Array Value := Array.ofFn (n := 63) fun i => Value.bool (f i.val)
theorem valArr_size (f : Nat → Bool) : (valArr f).size = 63 := by simp [valArr]
theorem valArr_get (f : Nat → Bool) (i : Nat) (h : i < 63) : (valArr f)[i]? = some (.bool (f i)) := by simp [valArr, h]
def emptyB (f : Nat → Bool) : Bool := (List.range 63).all fun i => f i == false
theorem emptyB_iff (f : Nat → Bool) : emptyB f = true ↔ ∀ i, i ≤ 62 → f i = false := by
  unfold emptyB
  rw [List.all_eq_true]
  constructor
  · intro h i hi
    have := h i (List.mem_range.2 (by omega))
    simpa using this
  · intro h i hi
    have := h i (by have := List.mem_range.1 hi; omega)
    simpa using this

theorem items_run (f g : Nat → Bool) (w : World) : ∀ is : List Nat, (∀ i ∈ is, i < 63) → (Op.eqItems 9999 4 1 (valArr f) (valArr g) is).run Try.prog w = .ok (is.all fun i => f i == g i) w := by
  intro is
  induction is with
  | nil => intro _; simp [Op.eqItems]
  | cons i is ih =>
    intro h
    have hi := h i (by simp)
    have p1 := run_part_plain (P := Try.prog) w (e := 4) (by kernel_rfl) (off := i * 1) (valArr_get f i hi ▸ (by rw [Nat.mul_one]) : (valArr f)[i * 1]? = some (.bool (f i)))
    have p2 := run_part_plain (P := Try.prog) w (e := 4) (by kernel_rfl) (off := i * 1) (valArr_get g i hi ▸ (by rw [Nat.mul_one]) : (valArr g)[i * 1]? = some (.bool (g i)))
    have p3 := run_equalIn_bool w 9998 4 (f i) (g i) (P := Try.prog) (by kernel_rfl)
    simp only [Op.eqItems, Sem.run_bind, p1, p2, Result.andThen_ok]
    rw [show (9999 : Nat) = 9998 + 1 from rfl, p3]
    simp only [Result.andThen_ok]
    cases hfg : (f i == g i)
    · simp [hfg]
    · have := ih (fun j hj => h j (by simp [hj]))
      simp [hfg] at this ⊢
      exact this

theorem cellsB : Try.prog.cellsOf 4 = 1 := by kernel_rfl
theorem equal_vals (f g : Nat → Bool) (w : World) : (Op.equalIn 10000 35 (.agg (valArr f)) (.agg (valArr g))).run Try.prog w = .ok ((List.range 63).all fun i => f i == g i) w := by
  have hi : ∃ i, Try.prog.info? 4 = some i := by
    have : (Try.prog.info? 4).isSome = true := by kernel_rfl
    exact Option.isSome_iff_exists.1 this
  obtain ⟨i, hi⟩ := hi
  rw [show (10000 : Nat) = 9999 + 1 from rfl, run_equalIn_array (P := Try.prog) w 9999 (valArr f) (valArr g) (n := 63) (e := 4) Try.underlying35 hi, cellsB]
  exact items_run f g w _ (fun i h => List.mem_range.1 h)
theorem field_zero (w : World) : (Instr.field 37 (.agg (setArr false fun _ => false)) 1).run Try.prog w = .ok (.agg (valArr fun _ => false)) w := by kernel_rfl
theorem sizeInfoV : (Try.prog.info? 35).map (·.size) = some 63 := by kernel_rfl

theorem rangeV {w : World} {b : Nat} {star : Bool} {f : Nat → Bool} (h : SetAt w b star f) : w.rangeAt b 1 (valArr f).toList := fun j v hv => by
  rw [Array.getElem?_toList] at hv
  have hj : j < 63 := by rw [← valArr_size f]; exact (Array.getElem?_eq_some_iff.1 hv).1
  rw [valArr_get _ _ hj] at hv
  rw [h.cell j (by omega)]; exact hv
/-- Stands at a load. -/
theorem at_load {P : Program} {ops : Array Oper} {rest : List Oper} {o : Oper} {a : Act} {w : World} {Q : Exit → Act → World → Prop} {t : TypeId} {x : Operand} (ho : o.op = .load t x) (h : wpList P ops Q (o :: rest) a w) : wpList P ops Q (o :: rest) a w := h
theorem wpList_load_vals {ops : Array Oper} {rest : List Oper} {o : Oper} {a : Act} {w : World} {Q : Exit → Act → World → Prop} (hg : o.guard = none) (x : Operand) (ho : o.op = .load 35 x) (b : Nat) (star : Bool) (f : Nat → Bool)
    (hx : a.eval x = .pointer (some ⟨b, 1, none⟩)) (hb : SetAt w b star f)
    (h : wpList Try.prog ops Q rest (a.put o.dst (.agg (valArr f))) w) : wpList Try.prog ops Q (o :: rest) a w := by
  refine wpList_load_mid hg 35 x ho b 1 hx (valArr f).toList _ (rangeV hb) Try.underlying35 rfl (by simp [valArr_size, sizeInfoV]) ?_
  simpa using h

set_option maxRecDepth 100000 in
theorem empty_any (star : Bool) (f : Nat → Bool) (w : World) : Calls Try.prog 53 #[.agg (setArr star f)] w fun e w' => e = .returned (.bool (emptyB f)) ∧ Below w.heap.size w w' := by
  have hf := field_zero
  obtain ⟨p, hp⟩ : ∃ p, emptyB f = p := ⟨_, rfl⟩
  have he : ∀ w : World, (Op.equalIn 10000 35 (.agg (valArr f)) (.agg (valArr fun _ => false))).run Try.prog w = .ok p w := fun w => by rw [← hp]; exact equal_vals f (fun _ => false) w
  rw [hp]
  clear hp
  have hs := SetAt.new w star f
  have hb : Below w.heap.size w (w.alloc (.cells (setArr star f) 37)) := (Below.refl _ _).alloc (Nat.le_refl _) _
  go_enter Try.func53, Try.ntmps53
  go_wp2_with (first
    | (with_reducible refine wpList_box_set rfl (.tmp 0) rfl star f rfl ?_)
    | ((with_reducible refine at_load rfl ?_); (refine wpList_load_vals rfl (.tmp 3) rfl w.heap.size star f rfl hs ?_))
    | (with_reducible refine wpList_build_set rfl rfl ?_))
  go_ret
  exact ⟨rfl, hb⟩

/-- One set loaded, wherever it is wanted. -/
theorem wpList_load_one_want {ops : Array Oper} {rest : List Oper} {o : Oper} {a : Act} {w : World} {Q : Exit → Act → World → Prop} (hw : Region.wanted o (yielded ops a.tmps) = true) (x : Operand) (ho : o.op = .load 37 x) (b k : Nat) (hk : k < 6) (st : Nat → Bool) (f : Nat → Nat → Bool)
    (hx : a.eval x = .pointer (some ⟨b, k * 64, none⟩)) (hb : FldAt w b st f)
    (h : wpList Try.prog ops Q rest (a.put o.dst (.agg (setArr (st k) (f k)))) w) : wpList Try.prog ops Q (o :: rest) a w :=
  BigFrame.wpList_want hw fun _ hK => wp_load_mid 37 x ho b (k * 64) hx (setArr (st k) (f k)).toList _ (hb.set k hk) Try.underlying37 rfl (by simp [setArr_size, sizeInfo]) (hK _ _ (by simpa using h))

/-- No second of any day. -/
def neverB (f : Nat → Nat → Bool) : Bool := emptyB (f 2) || emptyB (f 1) || emptyB (f 0)

set_option maxRecDepth 100000 in
theorem never_any (st : Nat → Bool) (f : Nat → Nat → Bool) (w : World) : Calls Try.prog 35 #[.agg (fldArr st f)] w fun e w' => e = .returned (.bool (neverB f)) ∧ Below w.heap.size w w' := by
  have hF := FldAt.new w st f
  have hb : Below w.heap.size w (w.alloc (.cells (fldArr st f) 39)) := (Below.refl _ _).alloc (Nat.le_refl _) _
  have H0 := Lib.hid (fun w1 => empty_any (st 0) (f 0) w1)
  have H1 := Lib.hid (fun w1 => empty_any (st 1) (f 1) w1)
  have H2 := Lib.hid (fun w1 => empty_any (st 2) (f 2) w1)
  have HN : Hid (neverB f = (emptyB (f 2) || emptyB (f 1) || emptyB (f 0))) := Lib.hid rfl
  generalize emptyB (f 0) = p0 at *
  generalize emptyB (f 1) = p1 at *
  generalize emptyB (f 2) = p2 at *
  have HB := Lib.hid hb
  have HF := Lib.hid hF
  clear hb hF
  cases p2 <;> cases p1 <;> cases p0
  all_goals
    go_enter Try.func35, Try.ntmps35
    go_wp2_with (first
      | (with_reducible refine wpList_box_fields rfl (.tmp 0) rfl st f rfl ?_)
      | ((go_at_call 53); (with_reducible refine (H2.out _).mono ?_); rintro e w1 ⟨rfl, hb1⟩; have hf1 := HF.out.below hb1 HF.out.lt)
      | ((go_at_call 53); (with_reducible refine (H1.out _).mono ?_); rintro e w2 ⟨rfl, hb2⟩; have hf2 := hf1.below hb2 hf1.lt)
      | ((go_at_call 53); (with_reducible refine (H0.out _).mono ?_); rintro e w3 ⟨rfl, hb3⟩)
      | ((with_reducible refine at_load rfl ?_); (refine wpList_load_one_want (by rfl) (.tmp 3) rfl w.heap.size 2 (by omega) st f rfl HF.out ?_))
      | ((with_reducible refine at_load rfl ?_); (refine wpList_load_one_want (by rfl) (.tmp 7) rfl w.heap.size 1 (by omega) st f rfl hf1 ?_))
      | ((with_reducible refine at_load rfl ?_); (refine wpList_load_one_want (by rfl) (.tmp 12) rfl w.heap.size 0 (by omega) st f rfl hf2 ?_)))
    go_ret
    first
      | exact ⟨by rw [HN.out]; rfl, HB.out.trans ((hb1.trans ((hb2.trans (hb3.mono hb2.size)).mono hb1.size)).mono HB.out.size)⟩
      | exact ⟨by rw [HN.out]; rfl, HB.out.trans ((hb1.trans (hb2.mono hb1.size)).mono HB.out.size)⟩
      | exact ⟨by rw [HN.out]; rfl, HB.out.trans (hb1.mono HB.out.size)⟩

end Go.Proofs.Ytoekefbclkmchaa.Never
