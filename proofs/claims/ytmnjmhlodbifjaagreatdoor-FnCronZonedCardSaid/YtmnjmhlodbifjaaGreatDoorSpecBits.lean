/- The reference's CronUnion and CronBits: over the 63 cells of a set. Conditions: none. · The reference's CronBits. Conditions: none. -/
import Derived.Test.YtmnjmhlodbifjaaGreatDoorSet
import Derived.Test.YtmnjmhlodbifjaaGreatDoorGetBits
import Derived.Test.YtmnjmhlodbifjaaGreatDoorRange
import Derived.Test.YtmnjmhlodbifjaaGreatDoorSpecItem
import Derived.Deep.MidRow
import Derived.BigFrame

namespace Go.Proofs.YtmnjmhlodbifjaaGreatDoor.Union
open Go Go.RowKit Go.Proofs.YtmnjmhlodbifjaaGreatDoor.Set Go.Proofs.YtmnjmhlodbifjaaGreatDoor.Bits Go.Proofs.YtmnjmhlodbifjaaGreatDoor.Range Go.Proofs.YtmnjmhlodbifjaaGreatDoor.SpecItem

/-- The values of a set, as a row. -/
def inArr (f : Nat → Bool) : List Value := (List.range 63).map fun i => Value.bool (f i)
theorem inArr_length (f : Nat → Bool) : (inArr f).length = 63 := by unfold inArr; rw [List.length_map, List.length_range]
theorem inArr_get (f : Nat → Bool) (k : Nat) (h : k < 63) : (inArr f)[k]? = some (.bool (f k)) := by
  unfold inArr; rw [List.getElem?_map, List.getElem?_range h]; rfl
theorem SetAt.range {w : World} {b : Nat} {star : Bool} {f : Nat → Bool} (h : SetAt w b star f) : w.rangeAt b 1 (inArr f) := by
  intro j v hj
  have hlt : j < 63 := by have := (List.getElem?_eq_some_iff.1 hj).1; rwa [inArr_length] at this
  rw [inArr_get f j hlt] at hj
  cases hj
  exact h.cell j (by omega)

theorem sizeIn : (Tryz.prog.info? 53).map (·.size) = some 63 := by kernel_rfl
theorem sizeBool : (Tryz.prog.info? 4).map (·.size) = some 1 := by kernel_rfl

theorem run_index_in (w : World) (f : Nat → Bool) (k : Nat) (h : k < 63) : (Instr.index 53 (.agg (inArr f).toArray) (.int .i64 (k : Int))).run Tryz.prog w = .ok (.bool (f k)) w := by
  obtain ⟨i, hi, hs⟩ : ∃ i, Tryz.prog.info? 4 = some i ∧ i.size = 1 := by
    have h1 := sizeBool
    cases hq : Tryz.prog.info? 4 with
    | none => rw [hq] at h1; cases h1
    | some i => rw [hq] at h1; exact ⟨i, rfl, by simpa using h1⟩
  have hg := inArr_get f k h
  have hk : (0 : Int) ≤ (k : Int) ∧ (k : Int) < 63 := by omega
  simp [Instr.index, Sem.run_bind, asIntOf, run_underlying Tryz.underlying53, run_underlying Tryz.underlying4, part, isAgg, sizeOf, typeInfo, hi, hs, hg, h]

section
variable {ops : Array Oper} {rest : List Oper} {o : Oper} {a : Act} {w : World} {Q : Exit → Act → World → Prop}
/-- The values of a set, loaded. -/
theorem wpList_load_in (hg : o.guard = none) (x : Operand) (ho : o.op = .load 53 x) (b : Nat) (star : Bool) (f : Nat → Bool)
    (hx : a.eval x = .pointer (some ⟨b, 1, none⟩)) (hb : SetAt w b star f)
    (h : wpList Tryz.prog ops Q rest (a.put o.dst (.agg (inArr f).toArray)) w) : wpList Tryz.prog ops Q (o :: rest) a w :=
  wpList_load_mid hg 53 x ho b 1 hx (inArr f) _ (SetAt.range hb) Tryz.underlying53 rfl (by rw [inArr_length]; exact sizeIn) h

/-- One of them. -/
theorem wpList_index_in (hg : o.guard = none) (x y : Operand) (ho : o.op = .index 53 x y) (f : Nat → Bool) (k : Nat)
    (hx : a.eval x = .agg (inArr f).toArray) (hy : a.eval y = .int .i64 (k : Int)) (hk : k < 63)
    (h : wpList Tryz.prog ops Q rest (a.put o.dst (.bool (f k))) w) : wpList Tryz.prog ops Q (o :: rest) a w := by
  refine wpList_plain hg fun K hK => ?_
  unfold Oper.wp execOp
  simp only [ho, hx, hy, Sem.run_bind, run_index_in w f k hk, Result.andThen_ok, Sem.run_pure]
  exact hK _ _ h
end

/-- The world behind the two boxes and the result's block. -/
theorem three (w : World) (sa sb : Bool) (fa fb : Nat → Bool) :
    SetAt (((w.alloc (.cells (setArr sa fa) 55)).alloc (.cells (setArr sb fb) 55)).alloc (.cells (setArr false fun _ => false) 55)) w.heap.size sa fa ∧
    SetAt (((w.alloc (.cells (setArr sa fa) 55)).alloc (.cells (setArr sb fb) 55)).alloc (.cells (setArr false fun _ => false) 55)) (w.heap.size + 1) sb fb ∧
    SetAt (((w.alloc (.cells (setArr sa fa) 55)).alloc (.cells (setArr sb fb) 55)).alloc (.cells (setArr false fun _ => false) 55)) (w.heap.size + 1 + 1) false (fun _ => false) ∧
    Below w.heap.size w (((w.alloc (.cells (setArr sa fa) 55)).alloc (.cells (setArr sb fb) 55)).alloc (.cells (setArr false fun _ => false) 55)) := by
  have h1 := SetAt.new w sa fa
  have b1 : Below w.heap.size w (w.alloc (.cells (setArr sa fa) 55)) := (Below.refl _ _).alloc (Nat.le_refl _) _
  have s1 : (w.alloc (.cells (setArr sa fa) 55)).heap.size = w.heap.size + 1 := by simp
  generalize w.alloc (.cells (setArr sa fa) 55) = w1 at h1 b1 s1 ⊢
  have h2 := SetAt.new w1 sb fb
  have b2 : Below w1.heap.size w1 (w1.alloc (.cells (setArr sb fb) 55)) := (Below.refl _ _).alloc (Nat.le_refl _) _
  have s2 : (w1.alloc (.cells (setArr sb fb) 55)).heap.size = w1.heap.size + 1 := by simp
  generalize w1.alloc (.cells (setArr sb fb) 55) = w2 at h2 b2 s2 ⊢
  have h3 := SetAt.new w2 false (fun _ => false)
  have b3 : Below w2.heap.size w2 (w2.alloc (.cells (setArr false fun _ => false) 55)) := (Below.refl _ _).alloc (Nat.le_refl _) _
  generalize w2.alloc (.cells (setArr false fun _ => false) 55) = w3 at h3 b3 ⊢
  refine ⟨(h1.below b2 (by omega)).below b3 (by omega), ?_, ?_, b1.trans ((b2.mono (by omega)).trans (b3.mono (by omega)))⟩
  · rw [← s1]; exact h2.below b3 (by omega)
  · rw [← s1, ← s2]; exact h3

/-- What stands after k values. -/
def mix (fa fb : Nat → Bool) (k : Nat) (i : Nat) : Bool := fa i || (decide (i < k) && fb i)
theorem mix_zero (fa fb : Nat → Bool) : mix fa fb 0 = fa := by funext i; simp [mix]
theorem mix_at (fa fb : Nat → Bool) (k : Nat) : mix fa fb k k = fa k := by simp [mix]
theorem mix_next (fa fb : Nat → Bool) (k : Nat) : upd (mix fa fb k) k (fa k || fb k) = mix fa fb (k + 1) := by
  funext i
  unfold upd mix
  by_cases h : i = k
  · subst h; simp
  · rw [if_neg h]
    have : decide (i < k) = decide (i < k + 1) := by rw [decide_eq_decide]; omega
    rw [this]
theorem mix_end (star : Bool) (fa fb : Nat → Bool) : setArr star (mix fa fb 63) = setArr star fun i => fa i || fb i := by
  refine setArr_congr fun i hi => ?_
  unfold mix
  rw [decide_eq_true (by omega), Bool.true_and]

def union (a b : CSet) : CSet := (a.1 || b.1, fun i => a.2 i || b.2 i)

set_option maxHeartbeats 2000000 in
set_option maxRecDepth 100000 in
theorem union_any (sa sb : Bool) (fa fb : Nat → Bool) (w : World) :
    Calls Tryz.prog 142 #[.agg (setArr sa fa), .agg (setArr sb fb)] w fun e w' => e = .returned (.agg (setArr (sa || sb) fun i => fa i || fb i)) ∧ Below w.heap.size w w' := by
  have HT := Lib.hid (three w sa sb fa fb)
  go_enter Tryz.func142, Tryz.ntmps142
  go_wp2_with (first
    | (with_reducible refine wpList_box_set rfl (.tmp 0) rfl sa fa rfl ?_)
    | (with_reducible refine wpList_box_set rfl (.tmp 1) rfl sb fb rfl ?_)
    | (with_reducible refine wpList_alloc_set rfl rfl ?_)
    | (with_reducible refine wpList_load_in rfl (.tmp 7) rfl (w.heap.size + 1) sb fb rfl (by exact HT.out.2.1) ?_))
  go_loopw [5, 6, 9] (fun _ _ v wr => ∃ k : Nat, v = .int .i64 (k : Int) ∧ k ≤ 63 ∧ Hid (SetAt wr w.heap.size sa (mix fa fb k)) ∧ Hid (SetAt wr (w.heap.size + 1) sb fb) ∧ Hid (SetAt wr (w.heap.size + 1 + 1) false (fun _ => false)) ∧ Hid (Below w.heap.size w wr)) (fun _ _ v _ => 63 - (intOf v).toNat)
  case atStart => exact ⟨0, rfl, Nat.zero_le _, Lib.hid (by rw [mix_zero]; exact HT.out.1), Lib.hid HT.out.2.1, Lib.hid HT.out.2.2.1, Lib.hid HT.out.2.2.2⟩
  case round =>
    obtain ⟨k, rfl, hk, hs1, hs2, hs3, hs4⟩ := hrel
    clear HT
    by_cases hlt : k < 63
    · have hkc := hs1.out.cell k (by omega)
      rw [mix_at] at hkc
      have hkf := hs1.out.free (1 + k)
      have HN1 : Hid (∀ x, x = (fa k || fb k) → SetAt (wr.setCell ⟨w.heap.size, 1 + k, none⟩ (.bool x)) w.heap.size sa (mix fa fb (k + 1))) := Lib.hid (by
        rintro x rfl
        rw [← mix_next fa fb k]
        exact hs1.out.put k (by omega) _)
      have HN2 : Hid (∀ x, SetAt (wr.setCell ⟨w.heap.size, 1 + k, none⟩ (.bool x)) (w.heap.size + 1) sb fb ∧ SetAt (wr.setCell ⟨w.heap.size, 1 + k, none⟩ (.bool x)) (w.heap.size + 1 + 1) false (fun _ => false) ∧ Below w.heap.size w (wr.setCell ⟨w.heap.size, 1 + k, none⟩ (.bool x))) :=
        Lib.hid (fun x => ⟨hs2.out.other _ _ (by show w.heap.size + 1 ≠ w.heap.size; omega), hs3.out.other _ _ (by show w.heap.size + 1 + 1 ≠ w.heap.size; omega), hs4.out.setCell (Nat.le_refl _) _⟩)
      cases ha : fa k with
      | true =>
        rw [ha] at hkc HN1
        clear ha
        go_wp2_with (with_reducible refine wpList_index_in rfl (.tmp 8) (.tmp 9) rfl fb k rfl rfl (by omega) ?_)
        go_roundw
        case rel => exact ⟨k + 1, by go_num, by omega, Lib.hid (HN1.out _ rfl), Lib.hid (HN2.out _).1, Lib.hid (HN2.out _).2.1, Lib.hid (HN2.out _).2.2⟩
        case measure => simp [intOf]; omega
      | false =>
        rw [ha] at hkc HN1
        clear ha
        go_wp2_with (with_reducible refine wpList_index_in rfl (.tmp 8) (.tmp 9) rfl fb k rfl rfl (by omega) ?_)
        go_roundw
        case rel => exact ⟨k + 1, by go_num, by omega, Lib.hid (HN1.out _ rfl), Lib.hid (HN2.out _).1, Lib.hid (HN2.out _).2.1, Lib.hid (HN2.out _).2.2⟩
        case measure => simp [intOf]; omega
    · have hke : k = 63 := by omega
      subst hke
      have HEND : Hid (SetAt wr w.heap.size sa (fun i => fa i || fb i)) := Lib.hid (by have := hs1.out; unfold SetAt at this ⊢; rw [mix_end] at this; exact this)
      have hcs := HEND.out.star
      have hcf := HEND.out.free 0
      have hcb := hs2.out.star
      have HFIN : Hid (∀ x, SetAt (wr.setCell ⟨w.heap.size, 0, none⟩ (.bool x)) w.heap.size x (fun i => fa i || fb i) ∧ SetAt (wr.setCell ⟨w.heap.size, 0, none⟩ (.bool x)) (w.heap.size + 1 + 1) false (fun _ => false) ∧ Below w.heap.size w (wr.setCell ⟨w.heap.size, 0, none⟩ (.bool x))) :=
        Lib.hid (fun x => ⟨HEND.out.putStar x, hs3.out.other _ _ (by show w.heap.size + 1 + 1 ≠ w.heap.size; omega), hs4.out.setCell (Nat.le_refl _) _⟩)
      clear hs1 hs2 hs3
      cases sa with
      | true =>
        go_wp2_with (first
          | (with_reducible refine wpList_load_set rfl (.tmp 2) rfl w.heap.size true (fun i => fa i || fb i) rfl (by exact (HFIN.out true).1) ?_)
          | (with_reducible refine wpList_store_set rfl (.tmp 4) (.tmp 31) rfl (w.heap.size + 1 + 1) false true (fun _ => false) (fun i => fa i || fb i) rfl rfl (by exact (HFIN.out true).2.1) ?_))
        refine bodyPost_ret (results_set rfl _ _ (w.heap.size + 1 + 1) true (fun i => fa i || fb i) rfl (setRow_at (HFIN.out true).2.1)) rfl ?_
        exact ⟨rfl, below_setRow (HFIN.out true).2.2 (by omega) _⟩
      | false =>
        go_wp2_with (first
          | (with_reducible refine wpList_load_set rfl (.tmp 2) rfl w.heap.size sb (fun i => fa i || fb i) rfl (by exact (HFIN.out sb).1) ?_)
          | (with_reducible refine wpList_store_set rfl (.tmp 4) (.tmp 31) rfl (w.heap.size + 1 + 1) false sb (fun _ => false) (fun i => fa i || fb i) rfl rfl (by exact (HFIN.out sb).2.1) ?_))
        refine bodyPost_ret (results_set rfl _ _ (w.heap.size + 1 + 1) sb (fun i => fa i || fb i) rfl (setRow_at (HFIN.out sb).2.1)) rfl ?_
        exact ⟨rfl, below_setRow (HFIN.out sb).2.2 (by omega) _⟩

end Go.Proofs.YtmnjmhlodbifjaaGreatDoor.Union

namespace Go.Proofs.YtmnjmhlodbifjaaGreatDoor.SpecBits
open Go Go.RowKit Go.Proofs.YtmnjmhlodbifjaaGreatDoor.Set Go.Proofs.YtmnjmhlodbifjaaGreatDoor.Bits Go.Proofs.YtmnjmhlodbifjaaGreatDoor.Range Go.Proofs.YtmnjmhlodbifjaaGreatDoor.SpecItem Go.Proofs.YtmnjmhlodbifjaaGreatDoor.Union
set_option linter.unusedVariables false

/-- The number of a set. -/
def numOf (star : Bool) (f : Nat → Bool) : Int := bset fun i => (decide (i < 63) && f i) || (star && decide (i = 63))
theorem numOf_marked (star : Bool) (f : Nat → Bool) (h : f 63 = false) : numOf star f = marked f star := by
  unfold numOf marked
  refine bset_congr fun i hi => ?_
  by_cases h2 : i = 63
  · subst h2; simp [h]
  · rw [decide_eq_true (by omega), Bool.true_and]

def low (f : Nat → Bool) (k : Nat) (i : Nat) : Bool := decide (i < k) && f i
theorem low_zero (f : Nat → Bool) : bset (low f 0) = 0 := by rw [zero_eq]; exact bset_congr fun i _ => by simp [low]
theorem low_next (f : Nat → Bool) (k : Nat) (h : f k = true) : Go.bits .or .u64 (bset (low f k)) (IntKind.u64.wrap (2 ^ k)) = bset (low f (k + 1)) := by
  rw [wrap_pow, bits_or]
  refine bset_congr fun i _ => ?_
  unfold low
  by_cases hi : i = k
  · subst hi; simp [h]
  · have : decide (i < k) = decide (i < k + 1) := by rw [decide_eq_decide]; omega
    rw [this]; simp [hi]
theorem low_skip (f : Nat → Bool) (k : Nat) (h : f k = false) : bset (low f k) = bset (low f (k + 1)) := by
  refine bset_congr fun i _ => ?_
  unfold low
  by_cases hi : i = k
  · subst hi; simp [h]
  · have : decide (i < k) = decide (i < k + 1) := by rw [decide_eq_decide]; omega
    rw [this]
theorem low_end (f : Nat → Bool) : bset (low f 63) = numOf false f := by unfold numOf low; exact bset_congr fun i _ => by simp
theorem low_star (f : Nat → Bool) : Go.bits .or .u64 (bset (low f 63)) 9223372036854775808 = numOf true f := by
  rw [show (9223372036854775808 : Int) = starBit true from rfl, or_starBit]
  unfold numOf marked low
  rfl

set_option maxHeartbeats 2000000 in
set_option maxRecDepth 100000 in
theorem specBits_any (star : Bool) (f : Nat → Bool) (w : World) :
    Calls Tryz.prog 86 #[.agg (setArr star f)] w fun e w' => e = .returned (.int .u64 (numOf star f)) ∧ Below w.heap.size w w' := by
  have hS := Lib.hid (SetAt.new w star f)
  have hB : Hid (Below w.heap.size w (w.alloc (.cells (setArr star f) 55))) := Lib.hid ((Below.refl _ _).alloc (Nat.le_refl _) _)
  have hcs := hS.out.star
  go_enter Tryz.func86, Tryz.ntmps86
  go_wp2_with (first
    | (with_reducible refine wpList_box_set rfl (.tmp 0) rfl star f rfl ?_)
    | (with_reducible refine wpList_load_in rfl (.tmp 6) rfl w.heap.size star f rfl (by exact hS.out) ?_))
  go_loop [3, 4, 5, 8] (fun acc _ _ v => ∃ k : Nat, v = .int .i64 (k : Int) ∧ k ≤ 63 ∧ acc = .int .u64 (bset (low f k))) (fun _ _ _ v => 63 - (intOf v).toNat)
  case atStart => exact ⟨0, rfl, Nat.zero_le _, by rw [low_zero]⟩
  case round =>
    obtain ⟨k, rfl, hk, rfl⟩ := hrel
    by_cases hlt : k < 63
    · cases hf : f k with
      | true =>
        have HN := Lib.hid (low_next f k hf)
        go_wp2_with (with_reducible refine wpList_index_in rfl (.tmp 7) (.tmp 8) rfl f k rfl rfl (by omega) ?_)
        go_round
        case rel => exact ⟨k + 1, by go_num, by omega, by rw [← HN.out]⟩
        case measure => simp [intOf]; omega
      | false =>
        have HN := Lib.hid (low_skip f k hf)
        go_wp2_with (with_reducible refine wpList_index_in rfl (.tmp 7) (.tmp 8) rfl f k rfl rfl (by omega) ?_)
        go_round
        case rel => exact ⟨k + 1, by go_num, by omega, by rw [← HN.out]⟩
        case measure => simp [intOf]; omega
    · have hke : k = 63 := by omega
      subst hke
      cases star with
      | true =>
        go_wp2
        go_ret
        exact ⟨by rw [← low_star]; rfl, hB.out⟩
      | false =>
        go_wp2
        go_ret
        exact ⟨by rw [← low_end]; rfl, hB.out⟩

/-- A set loaded whole, where the guard says yes. -/
theorem wpList_load_want {ops : Array Oper} {rest : List Oper} {o : Oper} {a : Act} {w : World} {Q : Exit → Act → World → Prop} (hw : Region.wanted o (yielded ops a.tmps) = true)
    (x : Operand) (ho : o.op = .load 55 x) (b : Nat) (star : Bool) (f : Nat → Bool)
    (hx : a.eval x = .pointer (some ⟨b, 0, none⟩)) (hb : SetAt w b star f)
    (h : wpList Tryz.prog ops Q rest (a.put o.dst (.agg (setArr star f))) w) : wpList Tryz.prog ops Q (o :: rest) a w :=
  BigFrame.wpList_want hw fun _ hK => wp_load_row 55 x ho b hx _ (setArr star f) (0, 0) _ hb Tryz.underlying55 rfl (by rw [setArr_size]; exact sizeInfo) (hK _ _ h)

end Go.Proofs.YtmnjmhlodbifjaaGreatDoor.SpecBits
