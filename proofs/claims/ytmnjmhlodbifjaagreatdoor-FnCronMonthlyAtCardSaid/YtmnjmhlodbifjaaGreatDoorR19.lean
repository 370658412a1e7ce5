/- package time's map of units. Conditions: none. · What the reading of a duration keeps from term to term, as a plain law. Conditions: none. -/
import Derived.Test.YtmnjmhlodbifjaaGreatDoorR10
import Derived.Test.YtmnjmhlodbifjaaGreatDoorR17
import Derived.Test.YtmnjmhlodbifjaaGreatDoorR18
import Derived.Test.YtmnjmhlodbifjaaGreatDoorR14

namespace Go.Proofs.YtmnjmhlodbifjaaGreatDoor.Units
open Go Go.RowKit Go.Proofs.YtmnjmhlodbifjaaGreatDoor.NameMap Go.Proofs.YtmnjmhlodbifjaaGreatDoor.SplitPure Go.Proofs.YtmnjmhlodbifjaaGreatDoor.DurPure
set_option linter.unusedVariables false
set_option linter.unusedSimpArgs false
def units : List (ByteArray × Nat) := [(⟨#[110, 115]⟩, 1), (⟨#[117, 115]⟩, 1000), (⟨#[194, 181, 115]⟩, 1000), (⟨#[206, 188, 115]⟩, 1000), (⟨#[109, 115]⟩, 1000000), (⟨#[115]⟩, 1000000000), (⟨#[109]⟩, 60000000000), (⟨#[104]⟩, 3600000000000)]
theorem run_insertU (w : World) (b : Nat) (l : List (ByteArray × Nat)) (s : ByteArray) (n : Nat) (h : NMapAt w b l) (hno : nlook l s = none) :
    ∃ w', (Instr.mapUpdate 202 (.map (some b)) (.string s) (.int .u64 (n : Int))).run Tryz.prog w = .ok () w' ∧ NMapAt w' b (l ++ [(s, n)]) ∧ w.grownBy w' (some b) := by
  have hf := findNow_none s l 0 0 hno
  refine ⟨{ w with heap := w.heap.setIfInBounds b (.map ((entsFrom 0 l).toArray.push ⟨.string s, .int .u64 (n : Int), l.length⟩) (l.length + 1)) }, ?_, ?_, ?_⟩
  · have hg : w.heap[b]? = some (.map (entsFrom 0 l).toArray l.length) := h
    have hr := run_find w s _ _ hf
    simp [Instr.mapUpdate, Sem.run_bind, run_underlying Tryz.underlying202, getObj, setObj, Sem.run, hg, run_check, hr]
  · unfold NMapAt
    have hlt : b < w.heap.size := (Array.getElem?_eq_some_iff.1 h).1
    rw [entsFrom_snoc]
    simp [hlt]
  · refine ⟨rfl, rfl, rfl, by simp, fun i _ hi => ?_⟩
    simp only [Array.getElem?_setIfInBounds]
    rw [if_neg (fun e => hi (by rw [e]))]
theorem zeroU (w : World) : (zeroValue 26).run Tryz.prog w = .ok (.int .u64 0) w := by kernel_rfl
theorem run_lookupU (w : World) (b : Nat) (l : List (ByteArray × Nat)) (s : ByteArray) (h : NMapAt w b l) :
    (Instr.lookup 202 (.map (some b)) (.string s) true).run Tryz.prog w = .ok (found (nlook l s)) w := by
  have hg : w.heap[b]? = some (.map (entsFrom 0 l).toArray l.length) := h
  cases hl : nlook l s with
  | none =>
    have hr := run_find w s _ _ (findNow_none s l 0 0 hl)
    simp [Instr.lookup, Sem.run_bind, run_underlying Tryz.underlying202, getObj, Sem.run, hg, run_check, hr, zeroU, found]
  | some v =>
    obtain ⟨k, hk⟩ := findNow_some s v l 0 0 hl
    have hr := run_find w s _ _ hk
    simp [Instr.lookup, Sem.run_bind, run_underlying Tryz.underlying202, getObj, Sem.run, hg, run_check, hr, found]
section
variable {ops : Array Oper} {rest : List Oper} {o : Oper} {a : Act} {w : World} {Q : Exit → Act → World → Prop}
theorem wpList_insertU (hg : o.guard = none) (m x y : Operand) (ho : o.op = .insert 202 m x y) (b : Nat) (l : List (ByteArray × Nat)) (s : ByteArray) (n : Nat)
    (hm : a.eval m = .map (some b)) (hx : a.eval x = .string s) (hy : a.eval y = .int .u64 (n : Int)) (h : NMapAt w b l) (hno : nlook l s = none)
    (hK : ∀ w', NMapAt w' b (l ++ [(s, n)]) → w.grownBy w' (some b) → wpList Tryz.prog ops Q rest (a.put o.dst undef) w') : wpList Tryz.prog ops Q (o :: rest) a w := by
  refine wpList_plain hg fun K hK' => ?_
  obtain ⟨w', hrun, h1, h2⟩ := run_insertU w b l s n h hno
  unfold Oper.wp
  simp [execOp, ho, hm, hx, hy, hrun, Result.andThen]
  exact hK' _ _ (hK w' h1 h2)
theorem wpList_lookupU (hg : o.guard = none) (m x : Operand) (ho : o.op = .lookup 202 m x true) (b : Nat) (l : List (ByteArray × Nat)) (s : ByteArray)
    (hm : a.eval m = .map (some b)) (hx : a.eval x = .string s) (h : NMapAt w b l)
    (hK : wpList Tryz.prog ops Q rest (a.put o.dst (found (nlook l s))) w) : wpList Tryz.prog ops Q (o :: rest) a w := by
  refine wpList_plain hg fun K hK' => ?_
  have hrun := run_lookupU w b l s h
  unfold Oper.wp
  simp [execOp, ho, hm, hx, hrun, Result.andThen]
  exact hK' _ _ hK
theorem wpList_makeMapU (hg : o.guard = none) (ho : o.op = .makeMap 202 none)
    (hK : wpList Tryz.prog ops Q rest (a.put o.dst (.map (some w.heap.size))) (w.alloc (.map #[] 0))) : wpList Tryz.prog ops Q (o :: rest) a w := by
  refine wpList_plain hg fun K hK' => ?_
  unfold Oper.wp
  simp [execOp, ho, Instr.makeMap, Sem.run_bind, run_underlying Tryz.underlying202, Result.andThen]
  exact hK' _ _ hK
end
set_option maxHeartbeats 2000000 in
set_option maxRecDepth 100000 in
theorem units_any (w : World) :
    Calls Tryz.prog 126 #[] w fun e w' => ∃ m, e = .returned (.map (some m)) ∧ NMapAt w' m units ∧ Below w.heap.size w w' := by
  have hm0 := Lib.hid (NMapAt.new w)
  have hb0 := Lib.hid ((Below.refl w.heap.size w).alloc (Nat.le_refl _) (.map #[] 0))
  go_enter Tryz.func126, Tryz.ntmps126
  go_wp2_with (first
    | (with_reducible refine wpList_makeMapU rfl rfl ?_)
    | (with_reducible refine wpList_insertU rfl (.tmp 1) (.const (.string ⟨#[110, 115]⟩)) (.const (.int .u64 1)) rfl _ [] ⟨#[110, 115]⟩ 1 rfl rfl rfl hm0.out rfl ?_; intro w1 hn1 hg1; (have hm1 := Lib.hid hn1); (have hb1 := Lib.hid (Names.step hm0.out (Nat.le_refl _) hb0.out hg1)); clear hn1 hg1)
    | (with_reducible refine wpList_insertU rfl (.tmp 1) (.const (.string ⟨#[117, 115]⟩)) (.const (.int .u64 1000)) rfl _ [(⟨#[110, 115]⟩, 1)] ⟨#[117, 115]⟩ 1000 rfl rfl rfl hm1.out rfl ?_; intro w2 hn2 hg2; (have hm2 := Lib.hid hn2); (have hb2 := Lib.hid (Names.step hm1.out (Nat.le_refl _) hb1.out hg2)); clear hn2 hg2)
    | (with_reducible refine wpList_insertU rfl (.tmp 1) (.const (.string ⟨#[194, 181, 115]⟩)) (.const (.int .u64 1000)) rfl _ [(⟨#[110, 115]⟩, 1), (⟨#[117, 115]⟩, 1000)] ⟨#[194, 181, 115]⟩ 1000 rfl rfl rfl hm2.out rfl ?_; intro w3 hn3 hg3; (have hm3 := Lib.hid hn3); (have hb3 := Lib.hid (Names.step hm2.out (Nat.le_refl _) hb2.out hg3)); clear hn3 hg3)
    | (with_reducible refine wpList_insertU rfl (.tmp 1) (.const (.string ⟨#[206, 188, 115]⟩)) (.const (.int .u64 1000)) rfl _ [(⟨#[110, 115]⟩, 1), (⟨#[117, 115]⟩, 1000), (⟨#[194, 181, 115]⟩, 1000)] ⟨#[206, 188, 115]⟩ 1000 rfl rfl rfl hm3.out rfl ?_; intro w4 hn4 hg4; (have hm4 := Lib.hid hn4); (have hb4 := Lib.hid (Names.step hm3.out (Nat.le_refl _) hb3.out hg4)); clear hn4 hg4)
    | (with_reducible refine wpList_insertU rfl (.tmp 1) (.const (.string ⟨#[109, 115]⟩)) (.const (.int .u64 1000000)) rfl _ [(⟨#[110, 115]⟩, 1), (⟨#[117, 115]⟩, 1000), (⟨#[194, 181, 115]⟩, 1000), (⟨#[206, 188, 115]⟩, 1000)] ⟨#[109, 115]⟩ 1000000 rfl rfl rfl hm4.out rfl ?_; intro w5 hn5 hg5; (have hm5 := Lib.hid hn5); (have hb5 := Lib.hid (Names.step hm4.out (Nat.le_refl _) hb4.out hg5)); clear hn5 hg5)
    | (with_reducible refine wpList_insertU rfl (.tmp 1) (.const (.string ⟨#[115]⟩)) (.const (.int .u64 1000000000)) rfl _ [(⟨#[110, 115]⟩, 1), (⟨#[117, 115]⟩, 1000), (⟨#[194, 181, 115]⟩, 1000), (⟨#[206, 188, 115]⟩, 1000), (⟨#[109, 115]⟩, 1000000)] ⟨#[115]⟩ 1000000000 rfl rfl rfl hm5.out rfl ?_; intro w6 hn6 hg6; (have hm6 := Lib.hid hn6); (have hb6 := Lib.hid (Names.step hm5.out (Nat.le_refl _) hb5.out hg6)); clear hn6 hg6)
    | (with_reducible refine wpList_insertU rfl (.tmp 1) (.const (.string ⟨#[109]⟩)) (.const (.int .u64 60000000000)) rfl _ [(⟨#[110, 115]⟩, 1), (⟨#[117, 115]⟩, 1000), (⟨#[194, 181, 115]⟩, 1000), (⟨#[206, 188, 115]⟩, 1000), (⟨#[109, 115]⟩, 1000000), (⟨#[115]⟩, 1000000000)] ⟨#[109]⟩ 60000000000 rfl rfl rfl hm6.out rfl ?_; intro w7 hn7 hg7; (have hm7 := Lib.hid hn7); (have hb7 := Lib.hid (Names.step hm6.out (Nat.le_refl _) hb6.out hg7)); clear hn7 hg7)
    | (with_reducible refine wpList_insertU rfl (.tmp 1) (.const (.string ⟨#[104]⟩)) (.const (.int .u64 3600000000000)) rfl _ [(⟨#[110, 115]⟩, 1), (⟨#[117, 115]⟩, 1000), (⟨#[194, 181, 115]⟩, 1000), (⟨#[206, 188, 115]⟩, 1000), (⟨#[109, 115]⟩, 1000000), (⟨#[115]⟩, 1000000000), (⟨#[109]⟩, 60000000000)] ⟨#[104]⟩ 3600000000000 rfl rfl rfl hm7.out rfl ?_; intro w8 hn8 hg8; (have hm8 := Lib.hid hn8); (have hb8 := Lib.hid (Names.step hm7.out (Nat.le_refl _) hb7.out hg8)); clear hn8 hg8))
  refine bodyPost_ret (v := .map (some w.heap.size)) ?hres rfl ?_
  case hres => simp [results, Tryz.results126, go_sem, *]
  exact ⟨_, rfl, hm8.out, hb8.out⟩
theorem beq_ofL (u t : List UInt8) : (ofL u == ofL t) = decide (u = t) := by
  have h1 : (ofL u == ofL t) = (u.toArray == t.toArray) := rfl
  rw [h1]
  by_cases h : u = t
  · subst h; simp
  · rw [decide_eq_false h]; simpa using h
theorem units_look (u : List UInt8) : nlook units (ofL u) = if (unitOf u).1 = 0 then none else some (unitOf u).1 := by
  unfold units
  simp only [nlook, show (∀ l : List UInt8, (⟨l.toArray⟩ : ByteArray) = ofL l) from fun _ => rfl, beq_ofL]
  unfold unitOf
  by_cases c0 : u = [110, 115]
  · subst c0; decide
  by_cases c1 : u = [117, 115]
  · subst c1; decide
  by_cases c2 : u = [194, 181, 115]
  · subst c2; decide
  by_cases c3 : u = [206, 188, 115]
  · subst c3; decide
  by_cases c4 : u = [109, 115]
  · subst c4; decide
  by_cases c5 : u = [115]
  · subst c5; decide
  by_cases c6 : u = [109]
  · subst c6; decide
  by_cases c7 : u = [104]
  · subst c7; decide
  simp [c0, c1, c2, c3, c4, c5, c6, c7]
end Go.Proofs.YtmnjmhlodbifjaaGreatDoor.Units
namespace Go.Proofs.YtmnjmhlodbifjaaGreatDoor.DurKept
open Go Go.Proofs.YtmnjmhlodbifjaaGreatDoor.NumPure Go.Proofs.YtmnjmhlodbifjaaGreatDoor.Float Go.Proofs.YtmnjmhlodbifjaaGreatDoor.DurPure Go.Proofs.YtmnjmhlodbifjaaGreatDoor.TrimSpec
set_option linter.unusedVariables false
theorem not_fine {n : Nat} {l : List UInt8} {sum : Nat} {fine : Bool} {R : Option (Option Nat)} (h : durGo n l sum fine = R) (h0 : l ≠ []) (hn : l.length ≤ n) (hx : termBad l = true ∨ (fine && termOk l && decide (sum + termNum l ≤ 4611686018427387904)) = false) : ∀ x, R ≠ some (some x) := by
  intro x
  obtain ⟨m, rfl⟩ : ∃ m, n = m + 1 := ⟨n - 1, by
    have : 0 < l.length := List.length_pos_iff.2 h0
    omega⟩
  rw [← h]
  cases hb : termBad l with
  | true => rw [dur_bad h0 hb]; simp
  | false =>
    rcases hx with hx | hx
    · rw [hb] at hx; cases hx
    · rw [dur_open h0 hb hx]
      exact dur_false _ _ _ _
theorem ne_nil {t : ByteArray} (h0 : 0 < t.size) : t.data.toList ≠ [] := fun e => by
  have h : t.data.toList.length = 0 := by rw [e]; rfl
  rw [← Lib.size_eq] at h
  omega
def Kept (R : Option (Option Nat)) (t : ByteArray) (d : Nat) : Prop := ∃ (sum n : Nat) (fine : Bool), t.data.toList.length ≤ n ∧ durGo n t.data.toList sum fine = R ∧ (fine = true → d = sum ∧ sum ≤ 4611686018427387904)
theorem Kept.bad {R : Option (Option Nat)} {t : ByteArray} {d : Nat} (h : Kept R t d) (h0 : 0 < t.size) (hb : termBad t.data.toList = true) : ∀ x, R ≠ some (some x) := by
  obtain ⟨sum, n, fine, hn, h1, _⟩ := h
  exact not_fine h1 (ne_nil h0) hn (.inl hb)
theorem Kept.nok {R : Option (Option Nat)} {t : ByteArray} {d : Nat} (h : Kept R t d) (h0 : 0 < t.size) (hb : termOk t.data.toList = false) : ∀ x, R ≠ some (some x) := by
  obtain ⟨sum, n, fine, hn, h1, _⟩ := h
  exact not_fine h1 (ne_nil h0) hn (.inr (by rw [hb]; simp))
theorem unit_le (u : List UInt8) : (unitOf u).1 ≤ 3600000000000 := by
  have h := unit_cases u
  simp only [List.mem_cons, List.not_mem_nil, or_false] at h
  rcases h with h | h | h | h | h | h | h <;> rw [h] <;> decide
theorem most_le (l : List UInt8) : most l ≤ 11 := by
  have h := unit_cases (unitName l)
  unfold most
  simp only [List.mem_cons, List.not_mem_nil, or_false] at h
  rcases h with h | h | h | h | h | h | h <;> rw [h] <;> decide
theorem fpart_dig (l : List UInt8) : ∀ c ∈ fpart l, isDig c = true := by
  intro c hc
  unfold fpart at hc
  cases hq : l.dropWhile isDig with
  | nil => rw [hq] at hc; simp [frac] at hc
  | cons a r =>
    rw [hq] at hc
    by_cases ha : a = 46
    · simp only [frac, if_pos ha] at hc
      exact List.all_eq_true.1 (List.all_takeWhile) c hc
    · simp only [frac, if_neg ha] at hc
      cases hc
theorem ok_parts {l : List UInt8} (h : termOk l = true) : (fpart l).length ≤ most l ∧ numOf (whole l) ≤ 4611686018427387904 / unitN l - 1 := by
  unfold termOk at h
  simp only [Bool.and_eq_true, decide_eq_true_eq] at h
  exact ⟨h.1.2, h.2⟩
theorem unit_pos {l : List UInt8} (hb : termBad l = false) : 0 < unitN l := by
  unfold termBad at hb
  simp only [Bool.or_eq_false_iff, beq_eq_false_iff_ne] at hb
  omega
theorem part_le (l : List UInt8) : numOf (fpart l) * (unitN l / 10 ^ (fpart l).length) ≤ unitN l := by
  have h1 := val_lt (fpart l) (fpart_dig l)
  have h2 : 10 ^ (fpart l).length * (unitN l / 10 ^ (fpart l).length) ≤ unitN l := Nat.mul_div_le _ _
  exact Nat.le_trans (Nat.mul_le_mul_right _ (Nat.le_of_lt h1)) h2
theorem whole_le {l : List UInt8} (hb : termBad l = false) (ho : termOk l = true) : numOf (whole l) * unitN l + unitN l ≤ 4611686018427387904 := by
  have h1 := unit_pos hb
  have h2 := (ok_parts ho).2
  have h3 : unitN l ≤ 3600000000000 := unit_le _
  have h4 : 1 ≤ 4611686018427387904 / unitN l := by
    rw [Nat.le_div_iff_mul_le h1]; omega
  have h5 : numOf (whole l) + 1 ≤ 4611686018427387904 / unitN l := by omega
  have h6 := (Nat.le_div_iff_mul_le h1).1 h5
  rw [Nat.add_mul, Nat.one_mul] at h6
  exact h6
theorem num_le {l : List UInt8} (hb : termBad l = false) (ho : termOk l = true) : termNum l ≤ 4611686018427387904 := by
  have h1 := whole_le hb ho
  have h2 := part_le l
  unfold termNum
  omega
theorem nok_of_gt {l : List UInt8} (hb : termBad l = false) (h : 9223372036854775808 / unitN l < numOf (whole l)) : termOk l = false := by
  rw [Bool.eq_false_iff]
  intro ho
  have h2 := (ok_parts ho).2
  have h3 : 4611686018427387904 / unitN l ≤ 9223372036854775808 / unitN l := Nat.div_le_div_right (by decide)
  generalize 4611686018427387904 / unitN l = a at h2 h3
  generalize 9223372036854775808 / unitN l = b at h h3
  omega
theorem Kept.next {R : Option (Option Nat)} {t t' : ByteArray} {d v : Nat} (h : Kept R t d) (h0 : 0 < t.size) (hb : termBad t.data.toList = false) (hd : d ≤ 9223372036854775808) (hv : v ≤ 9223372036854775808)
    (hok : termOk t.data.toList = true → v = termNum t.data.toList) (ht : t'.data.toList = tailOf t.data.toList) :
    ((d + v) % 18446744073709551616 ≤ 9223372036854775808 → Kept R t' ((d + v) % 18446744073709551616)) ∧ (9223372036854775808 < (d + v) % 18446744073709551616 → ∀ x, R ≠ some (some x)) := by
  obtain ⟨sum, n, fine, hn, h1, hf⟩ := h
  have h00 := ne_nil h0
  have hlt := rest_lt _ hb
  obtain ⟨m, rfl⟩ : ∃ m, n = m + 1 := ⟨n - 1, by
    have : 0 < t.data.toList.length := List.length_pos_iff.2 h00
    omega⟩
  cases hc : (fine && termOk t.data.toList && decide (sum + termNum t.data.toList ≤ 4611686018427387904)) with
  | true =>
    have h2 := dur_step h00 hn hb hc
    simp only [Bool.and_eq_true, decide_eq_true_eq] at hc
    obtain ⟨⟨hfi, ho⟩, hs⟩ := hc
    obtain ⟨rfl, hs2⟩ := hf hfi
    have e := hok ho
    have e2 : (d + v) % 18446744073709551616 = d + termNum t.data.toList := by rw [e]; exact Nat.mod_eq_of_lt (by omega)
    rw [e2]
    refine ⟨fun _ => ⟨d + termNum t.data.toList, m, true, by rw [ht]; omega, by rw [ht, ← h2, h1], fun _ => ⟨rfl, hs⟩⟩, fun hx => by omega⟩
  | false =>
    have h2 := dur_open (n := m) (sum := sum) (fine := fine) h00 hb hc
    refine ⟨fun _ => ⟨0, m, false, by rw [ht]; omega, by rw [ht, ← h2, h1], fun hx => by cases hx⟩, fun _ => not_fine h1 h00 hn (.inr hc)⟩
theorem bad_of_first {l : List UInt8} {c : UInt8} {r : List UInt8} (hl : l = c :: r) (hc : isNum c = false) : termBad l = true := by
  subst hl
  unfold isNum at hc
  simp only [Bool.or_eq_false_iff] at hc
  have h1 : (c :: r).takeWhile isDig = [] := by simp [List.takeWhile, hc.1]
  have h2 : (c :: r).dropWhile isDig = c :: r := by simp [List.dropWhile, hc.1]
  have h3 : ¬ c = 46 := by simpa using hc.2
  unfold termBad whole fpart
  rw [h1, h2]
  simp [frac, h3]
theorem span_num {l : List UInt8} {t : ByteArray} {k : Nat} (ht : t.data.toList = behind l) (hk : k ≤ t.size) (h : ∀ j, j < k → isNum (t.data.toList.getD j 0) = false) (he : ∀ h : k < t.size, isNum t[k] = true) : unitName l = t.data.toList.take k ∧ tailOf l = t.data.toList.drop k := by
  unfold unitName tailOf
  rw [← ht]
  refine span_at (p := fun c => !isNum c) (by simpa using hk) (fun j hj => by rw [h j hj]; rfl) (fun hlt => ?_)
  have hlt : k < t.size := by simpa using hlt
  rw [Words.getD_at t k hlt, he hlt]
  rfl
theorem snoc_num {t : ByteArray} {k : Nat} (hk : k < t.size) (hd : isNum t[k] = false) (h : ∀ j, j < k → isNum (t.data.toList.getD j 0) = false) : ∀ j, j < k + 1 → isNum (t.data.toList.getD j 0) = false := by
  intro j hj
  by_cases hjk : j = k
  · subst hjk; rw [Words.getD_at t j hk]; exact hd
  · exact h j (by omega)
theorem bad_of_name {l : List UInt8} (h : unitName l = []) : termBad l = true := by
  unfold termBad unitN
  rw [h]
  simp [unitOf]
theorem bad_of_unit {l : List UInt8} (h : unitN l = 0) : termBad l = true := by
  unfold termBad
  rw [h]
  simp
theorem not_bad {l : List UInt8} (h : (whole l).length + (fpart l).length ≠ 0) (hn : unitN l ≠ 0) : termBad l = false := by
  unfold termBad
  rw [decide_eq_false h]
  simpa using hn
end Go.Proofs.YtmnjmhlodbifjaaGreatDoor.DurKept
