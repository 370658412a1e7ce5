/- A map from texts to numbers that a literal lays: insert and lookup. Conditions: none. -/
import Derived.Test.YtoekefbclkmchaaChecked
import Derived.Test.YtoekefbclkmchaaMem
import Derived.WalkKit
import Derived.Lib.Hide
import Derived.ProofKit
import Derived.Below
import Derived.Deep.RegionHeld3
import Derived.Deep.DeepCutAuto
namespace Go.Proofs.Ytoekefbclkmchaa.NameMap
open Go Go.RowKit
set_option linter.unusedSimpArgs false

/-- The entries of a literal. -/
def entsFrom (i : Nat) : List (ByteArray × Nat) → List MapEntry
  | [] => []
  | (s, n) :: r => ⟨.string s, .int .u64 (n : Int), i⟩ :: entsFrom (i + 1) r
def NMapAt (w : World) (b : Nat) (l : List (ByteArray × Nat)) : Prop := w.heap[b]? = some (.map (entsFrom 0 l).toArray l.length)
theorem entsFrom_length (i : Nat) (l : List (ByteArray × Nat)) : (entsFrom i l).length = l.length := by
  induction l generalizing i with
  | nil => rfl
  | cons p r ih => obtain ⟨s, n⟩ := p; simp [entsFrom, ih]
theorem entsFrom_snoc (i : Nat) (l : List (ByteArray × Nat)) (s : ByteArray) (n : Nat) : entsFrom i (l ++ [(s, n)]) = entsFrom i l ++ [⟨.string s, .int .u64 (n : Int), i + l.length⟩] := by
  induction l generalizing i with
  | nil => simp [entsFrom]
  | cons p r ih =>
    obtain ⟨t, m⟩ := p
    simp only [List.cons_append, entsFrom, ih, List.length_cons]
    rw [show i + 1 + r.length = i + (r.length + 1) by omega]

/-- The number of a name. -/
def nlook : List (ByteArray × Nat) → ByteArray → Option Nat
  | [], _ => none
  | (t, n) :: r, s => if (s == t) = true then some n else nlook r s
theorem findNow_none (s : ByteArray) : ∀ (l : List (ByteArray × Nat)) (i j : Nat), nlook l s = none → Instr.findNow .string (.string s) (entsFrom i l) j = some none
  | [], _, _, _ => rfl
  | (t, n) :: r, i, j, h => by
    cases hq : (s == t) with
    | true => simp [nlook, hq] at h
    | false =>
      simp only [nlook, hq] at h
      simp only [entsFrom, Instr.findNow, Instr.sameNow, hq]
      exact findNow_none s r _ _ (by simpa using h)
theorem findNow_some (s : ByteArray) (v : Nat) : ∀ (l : List (ByteArray × Nat)) (i j : Nat), nlook l s = some v → ∃ k, Instr.findNow .string (.string s) (entsFrom i l) j = some (some (k, .int .u64 (v : Int)))
  | [], _, _, h => by cases h
  | (t, n) :: r, i, j, h => by
    cases hq : (s == t) with
    | true =>
      simp [nlook, hq] at h
      subst h
      exact ⟨j, by simp only [entsFrom, Instr.findNow, Instr.sameNow, hq]⟩
    | false =>
      simp only [nlook, hq] at h
      obtain ⟨k, hk⟩ := findNow_some s v r (i + 1) (j + 1) (by simpa using h)
      exact ⟨k, by simp only [entsFrom, Instr.findNow, Instr.sameNow, hq]; exact hk⟩

theorem run_check_n (w : World) (empty : Bool) (m : Nat) (s : ByteArray) : (Instr.checkKey empty (m + 1) 9 (.string s)).run Try.prog w = .ok () w := by
  unfold Instr.checkKey
  simp [Sem.run_bind, run_underlying Try.underlying9]
theorem run_check (w : World) (empty : Bool) (s : ByteArray) : (Instr.checkKey empty 10000 9 (.string s)).run Try.prog w = .ok () w := run_check_n w empty 9999 s
theorem run_find (w : World) (s : ByteArray) (es : List MapEntry) (r : Option (Nat × Value)) (h : Instr.findNow .string (.string s) es 0 = some r) : (Instr.findKey 9 (.string s) es).run Try.prog w = .ok r w := by
  unfold Instr.findKey
  simp [Sem.run_bind, run_underlying Try.underlying9, h]

/-- An entry more. -/
theorem run_insert (w : World) (b : Nat) (l : List (ByteArray × Nat)) (s : ByteArray) (n : Nat) (h : NMapAt w b l) (hno : nlook l s = none) :
    ∃ w', (Instr.mapUpdate 105 (.map (some b)) (.string s) (.int .u64 (n : Int))).run Try.prog w = .ok () w' ∧ NMapAt w' b (l ++ [(s, n)]) ∧ w.grownBy w' (some b) := by
  have hf := findNow_none s l 0 0 hno
  refine ⟨{ w with heap := w.heap.setIfInBounds b (.map ((entsFrom 0 l).toArray.push ⟨.string s, .int .u64 (n : Int), l.length⟩) (l.length + 1)) }, ?_, ?_, ?_⟩
  · have hg : w.heap[b]? = some (.map (entsFrom 0 l).toArray l.length) := h
    have hr := run_find w s _ _ hf
    simp [Instr.mapUpdate, Sem.run_bind, run_underlying Try.underlying105, getObj, setObj, Sem.run, hg, run_check, hr]
  · unfold NMapAt
    have hlt : b < w.heap.size := (Array.getElem?_eq_some_iff.1 h).1
    rw [entsFrom_snoc]
    simp [hlt]
  · refine ⟨rfl, rfl, rfl, by simp, fun i _ hi => ?_⟩
    simp only [Array.getElem?_setIfInBounds]
    rw [if_neg (fun e => hi (by rw [e]))]

theorem zeroUint (w : World) : (zeroValue 104).run Try.prog w = .ok (.int .u64 0) w := by kernel_rfl
/-- What a nlook-up with ok hands back. -/
def found (r : Option Nat) : Value :=
  match r with
  | some v => .tuple #[.int .u64 (v : Int), .bool true]
  | none => .tuple #[.int .u64 0, .bool false]
theorem run_lookup (w : World) (b : Nat) (l : List (ByteArray × Nat)) (s : ByteArray) (h : NMapAt w b l) :
    (Instr.lookup 105 (.map (some b)) (.string s) true).run Try.prog w = .ok (found (nlook l s)) w := by
  have hg : w.heap[b]? = some (.map (entsFrom 0 l).toArray l.length) := h
  cases hl : nlook l s with
  | none =>
    have hr := run_find w s _ _ (findNow_none s l 0 0 hl)
    simp [Instr.lookup, Sem.run_bind, run_underlying Try.underlying105, getObj, Sem.run, hg, run_check, hr, zeroUint, found]
  | some v =>
    obtain ⟨k, hk⟩ := findNow_some s v l 0 0 hl
    have hr := run_find w s _ _ hk
    simp [Instr.lookup, Sem.run_bind, run_underlying Try.underlying105, getObj, Sem.run, hg, run_check, hr, found]

theorem NMapAt.lt {w : World} {b : Nat} {l : List (ByteArray × Nat)} (h : NMapAt w b l) : b < w.heap.size := (Array.getElem?_eq_some_iff.1 h).1
theorem NMapAt.below {w w' : World} {b B : Nat} {l : List (ByteArray × Nat)} (h : NMapAt w b l) (hb : Below B w w') (hB : b < B) : NMapAt w' b l := (hb.block b hB).trans h
theorem NMapAt.new (w : World) : NMapAt (w.alloc (.map #[] 0)) w.heap.size [] := heap_alloc_new w _

section
variable {ops : Array Oper} {rest : List Oper} {o : Oper} {a : Act} {w : World} {Q : Exit → Act → World → Prop}
theorem wpList_insert (hg : o.guard = none) (m x y : Operand) (ho : o.op = .insert 105 m x y) (b : Nat) (l : List (ByteArray × Nat)) (s : ByteArray) (n : Nat)
    (hm : a.eval m = .map (some b)) (hx : a.eval x = .string s) (hy : a.eval y = .int .u64 (n : Int)) (h : NMapAt w b l) (hno : nlook l s = none)
    (hK : ∀ w', NMapAt w' b (l ++ [(s, n)]) → w.grownBy w' (some b) → wpList Try.prog ops Q rest (a.put o.dst undef) w') : wpList Try.prog ops Q (o :: rest) a w := by
  refine wpList_plain hg fun K hK' => ?_
  obtain ⟨w', hrun, h1, h2⟩ := run_insert w b l s n h hno
  unfold Oper.wp
  simp [execOp, ho, hm, hx, hy, hrun, Result.andThen]
  exact hK' _ _ (hK w' h1 h2)
theorem wpList_lookup (hg : o.guard = none) (m x : Operand) (ho : o.op = .lookup 105 m x true) (b : Nat) (l : List (ByteArray × Nat)) (s : ByteArray)
    (hm : a.eval m = .map (some b)) (hx : a.eval x = .string s) (h : NMapAt w b l)
    (hK : wpList Try.prog ops Q rest (a.put o.dst (found (nlook l s))) w) : wpList Try.prog ops Q (o :: rest) a w := by
  refine wpList_plain hg fun K hK' => ?_
  have hrun := run_lookup w b l s h
  unfold Oper.wp
  simp [execOp, ho, hm, hx, hrun, Result.andThen]
  exact hK' _ _ hK
theorem wpList_makeMap (hg : o.guard = none) (ho : o.op = .makeMap 105 none)
    (hK : wpList Try.prog ops Q rest (a.put o.dst (.map (some w.heap.size))) (w.alloc (.map #[] 0))) : wpList Try.prog ops Q (o :: rest) a w := by
  refine wpList_plain hg fun K hK' => ?_
  unfold Oper.wp
  simp [execOp, ho, Instr.makeMap, Sem.run_bind, run_underlying Try.underlying105, Result.andThen]
  exact hK' _ _ hK
end

end Go.Proofs.Ytoekefbclkmchaa.NameMap
