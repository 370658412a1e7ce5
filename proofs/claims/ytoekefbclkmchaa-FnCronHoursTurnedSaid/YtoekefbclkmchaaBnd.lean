/- cron's bounds of all six fields and what a star means. Conditions: none. -/
import Derived.Test.YtoekefbclkmchaaNameMapS
import Derived.Test.YtoekefbclkmchaaGetBits
namespace Go.Proofs.Ytoekefbclkmchaa.Bnd
open Go Go.RowKit Go.Proofs.Ytoekefbclkmchaa.NameMap Go.Proofs.Ytoekefbclkmchaa.Bits Go.Proofs.Ytoekefbclkmchaa.GetBits
set_option linter.unusedVariables false

/-- A boxed bounds. -/
def Box (w : World) (b : Nat) (x y z : Value) : Prop := b < w.heap.size ∧ w.cell? ⟨b, 0, none⟩ = some x ∧ w.cell? ⟨b, 1, none⟩ = some y ∧ w.cell? ⟨b, 2, none⟩ = some z
theorem Box.below {w w' : World} {b : Nat} {x y z : Value} (h : Box w b x y z) (hb : Below w.heap.size w w') : Box w' b x y z :=
  ⟨Nat.lt_of_lt_of_le h.1 hb.size, (hb.cell (p := ⟨b, 0, none⟩) h.1).trans h.2.1, (hb.cell (p := ⟨b, 1, none⟩) h.1).trans h.2.2.1, (hb.cell (p := ⟨b, 2, none⟩) h.1).trans h.2.2.2⟩
theorem box_new (w : World) (E : TypeId) (x y z : Value) : Box (w.alloc (.cells #[x, y, z] E)) w.heap.size x y z := by
  have hh : (w.alloc (.cells #[x, y, z] E)).heap[w.heap.size]? = some (.cells #[x, y, z] E) := heap_alloc_new w _
  refine ⟨by simp, ?_, ?_, ?_⟩ <;> (unfold World.cell?; simp only [hh]; rfl)

def dayNames : List (ByteArray × Nat) := [(⟨#[115, 117, 110]⟩, 0), (⟨#[109, 111, 110]⟩, 1), (⟨#[116, 117, 101]⟩, 2), (⟨#[119, 101, 100]⟩, 3), (⟨#[116, 104, 117]⟩, 4), (⟨#[102, 114, 105]⟩, 5), (⟨#[115, 97, 116]⟩, 6)]
def monthNames : List (ByteArray × Nat) := [(⟨#[106, 97, 110]⟩, 1), (⟨#[102, 101, 98]⟩, 2), (⟨#[109, 97, 114]⟩, 3), (⟨#[97, 112, 114]⟩, 4), (⟨#[109, 97, 121]⟩, 5), (⟨#[106, 117, 110]⟩, 6), (⟨#[106, 117, 108]⟩, 7), (⟨#[97, 117, 103]⟩, 8), (⟨#[115, 101, 112]⟩, 9), (⟨#[111, 99, 116]⟩, 10), (⟨#[110, 111, 118]⟩, 11), (⟨#[100, 101, 99]⟩, 12)]

theorem step {B : Nat} {wA w w' : World} {l : List (ByteArray × Nat)} {b : Nat} (hm : NMapAt w b l) (hB : B ≤ b) (h : Below B wA w) (hg : w.grownBy w' (some b)) : Below B wA w' :=
  h.grown hg (Nat.le_of_lt (Nat.lt_of_le_of_lt hB hm.lt)) (fun j hj => by cases hj; exact hB)

/-- Behind the making of the map. -/
theorem start (w : World) :
    NMapAt ((w.alloc (.cells #[.int .u64 0, .int .u64 0, .map none] 107)).alloc (.map #[] 0)) (w.alloc (.cells #[.int .u64 0, .int .u64 0, .map none] 107)).heap.size [] ∧
    (((w.alloc (.cells #[.int .u64 0, .int .u64 0, .map none] 107)).alloc (.map #[] 0)).cell? ⟨w.heap.size, 0, none⟩ = some (.int .u64 0) ∧ ((w.alloc (.cells #[.int .u64 0, .int .u64 0, .map none] 107)).alloc (.map #[] 0)).cell? ⟨w.heap.size, 1, none⟩ = some (.int .u64 0) ∧ ((w.alloc (.cells #[.int .u64 0, .int .u64 0, .map none] 107)).alloc (.map #[] 0)).cell? ⟨w.heap.size, 2, none⟩ = some (.map none)) ∧
    Below w.heap.size w ((w.alloc (.cells #[.int .u64 0, .int .u64 0, .map none] 107)).alloc (.map #[] 0)) ∧
    ∀ j, ((w.alloc (.cells #[.int .u64 0, .int .u64 0, .map none] 107)).alloc (.map #[] 0)).frozen? ⟨w.heap.size, j, none⟩ = false := by
  have h1 := box_new w 107 (.int .u64 0) (.int .u64 0) (.map none)
  have h2 : w.heap.size < (w.alloc (.cells #[.int .u64 0, .int .u64 0, .map none] 107)).heap.size := by simp
  have h3 : ∀ j, (w.alloc (.cells #[.int .u64 0, .int .u64 0, .map none] 107)).frozen? ⟨w.heap.size, j, none⟩ = false := fun j => frozen_of_row _ _ _ _ _ (heap_alloc_new w _)
  have h4 : Below w.heap.size w (w.alloc (.cells #[.int .u64 0, .int .u64 0, .map none] 107)) := (Below.refl _ _).alloc (Nat.le_refl _) _
  have h5 : (w.alloc (.cells #[.int .u64 0, .int .u64 0, .map none] 107)).heap.size = w.heap.size + 1 := by simp
  generalize w.alloc (.cells #[.int .u64 0, .int .u64 0, .map none] 107) = w1 at h1 h2 h3 h4 h5 ⊢
  have hb : Below w1.heap.size w1 (w1.alloc (.map #[] 0)) := (Below.refl _ _).alloc (Nat.le_refl _) _
  refine ⟨NMapAt.new w1, (h1.below hb).2, h4.trans (hb.mono (by omega)), fun j => ?_⟩
  rw [hb.frozen (p := ⟨w.heap.size, j, none⟩) h2]
  exact h3 j
theorem keep3 {w : World} {B : Nat} {l : List (ByteArray × Nat)} {j1 j2 j3 : Nat} {x y z : Value} (h : NMapAt w (B + 1) l) : NMapAt (((w.setCell ⟨B, j1, none⟩ x).setCell ⟨B, j2, none⟩ y).setCell ⟨B, j3, none⟩ z) (B + 1) l := by
  unfold NMapAt at *
  rw [heap_setCell_other _ _ _ _ (by show B + 1 ≠ B; omega), heap_setCell_other _ _ _ _ (by show B + 1 ≠ B; omega), heap_setCell_other _ _ _ _ (by show B + 1 ≠ B; omega)]
  exact h

set_option maxHeartbeats 2000000 in
set_option maxRecDepth 100000 in
theorem dow_any (w : World) :
    Calls Try.prog 80 #[] w fun e w' => ∃ m, e = .returned (.agg #[.int .u64 0, .int .u64 6, .map (some m)]) ∧ NMapAt w' m dayNames ∧ w.heap.size ≤ m ∧ Below w.heap.size w w' := by
  have HS := Lib.hid (start w)
  have hm0 := Lib.hid HS.out.1
  have hb0 := Lib.hid (Below.refl (w.heap.size + 1) ((w.alloc (.cells #[.int .u64 0, .int .u64 0, .map none] 107)).alloc (.map #[] 0)))
  go_enter Try.func80, Try.ntmps80
  go_wp2_with (first
    | (with_reducible refine wpList_makeMap rfl rfl ?_)
    | (with_reducible refine wpList_insert rfl (.tmp 1) (.const (.string ⟨#[115, 117, 110]⟩)) (.const (.int .u64 0)) rfl _ [] ⟨#[115, 117, 110]⟩ 0 rfl rfl rfl hm0.out rfl ?_; intro w1 hn1 hg1; (have hm1 := Lib.hid hn1); (have hb1 := Lib.hid (step hm0.out (by simp) hb0.out hg1)); clear hn1 hg1)
    | (with_reducible refine wpList_insert rfl (.tmp 1) (.const (.string ⟨#[109, 111, 110]⟩)) (.const (.int .u64 1)) rfl _ [(⟨#[115, 117, 110]⟩, 0)] ⟨#[109, 111, 110]⟩ 1 rfl rfl rfl hm1.out rfl ?_; intro w2 hn2 hg2; (have hm2 := Lib.hid hn2); (have hb2 := Lib.hid (step hm1.out (by simp) hb1.out hg2)); clear hn2 hg2)
    | (with_reducible refine wpList_insert rfl (.tmp 1) (.const (.string ⟨#[116, 117, 101]⟩)) (.const (.int .u64 2)) rfl _ [(⟨#[115, 117, 110]⟩, 0), (⟨#[109, 111, 110]⟩, 1)] ⟨#[116, 117, 101]⟩ 2 rfl rfl rfl hm2.out rfl ?_; intro w3 hn3 hg3; (have hm3 := Lib.hid hn3); (have hb3 := Lib.hid (step hm2.out (by simp) hb2.out hg3)); clear hn3 hg3)
    | (with_reducible refine wpList_insert rfl (.tmp 1) (.const (.string ⟨#[119, 101, 100]⟩)) (.const (.int .u64 3)) rfl _ [(⟨#[115, 117, 110]⟩, 0), (⟨#[109, 111, 110]⟩, 1), (⟨#[116, 117, 101]⟩, 2)] ⟨#[119, 101, 100]⟩ 3 rfl rfl rfl hm3.out rfl ?_; intro w4 hn4 hg4; (have hm4 := Lib.hid hn4); (have hb4 := Lib.hid (step hm3.out (by simp) hb3.out hg4)); clear hn4 hg4)
    | (with_reducible refine wpList_insert rfl (.tmp 1) (.const (.string ⟨#[116, 104, 117]⟩)) (.const (.int .u64 4)) rfl _ [(⟨#[115, 117, 110]⟩, 0), (⟨#[109, 111, 110]⟩, 1), (⟨#[116, 117, 101]⟩, 2), (⟨#[119, 101, 100]⟩, 3)] ⟨#[116, 104, 117]⟩ 4 rfl rfl rfl hm4.out rfl ?_; intro w5 hn5 hg5; (have hm5 := Lib.hid hn5); (have hb5 := Lib.hid (step hm4.out (by simp) hb4.out hg5)); clear hn5 hg5)
    | (with_reducible refine wpList_insert rfl (.tmp 1) (.const (.string ⟨#[102, 114, 105]⟩)) (.const (.int .u64 5)) rfl _ [(⟨#[115, 117, 110]⟩, 0), (⟨#[109, 111, 110]⟩, 1), (⟨#[116, 117, 101]⟩, 2), (⟨#[119, 101, 100]⟩, 3), (⟨#[116, 104, 117]⟩, 4)] ⟨#[102, 114, 105]⟩ 5 rfl rfl rfl hm5.out rfl ?_; intro w6 hn6 hg6; (have hm6 := Lib.hid hn6); (have hb6 := Lib.hid (step hm5.out (by simp) hb5.out hg6)); clear hn6 hg6)
    | (with_reducible refine wpList_insert rfl (.tmp 1) (.const (.string ⟨#[115, 97, 116]⟩)) (.const (.int .u64 6)) rfl _ [(⟨#[115, 117, 110]⟩, 0), (⟨#[109, 111, 110]⟩, 1), (⟨#[116, 117, 101]⟩, 2), (⟨#[119, 101, 100]⟩, 3), (⟨#[116, 104, 117]⟩, 4), (⟨#[102, 114, 105]⟩, 5)] ⟨#[115, 97, 116]⟩ 6 rfl rfl rfl hm6.out rfl ?_; intro w7 hn7 hg7; (have hm7 := Lib.hid hn7); (have hb7 := Lib.hid (step hm6.out (by simp) hb6.out hg7)); clear hn7 hg7; (have hc0 := (hb7.out.cell (p := ⟨w.heap.size, 0, none⟩) (Nat.lt_succ_self _)).trans HS.out.2.1.1); (have hc1 := (hb7.out.cell (p := ⟨w.heap.size, 1, none⟩) (Nat.lt_succ_self _)).trans HS.out.2.1.2.1); (have hc2 := (hb7.out.cell (p := ⟨w.heap.size, 2, none⟩) (Nat.lt_succ_self _)).trans HS.out.2.1.2.2); (have hf0 := (hb7.out.frozen (p := ⟨w.heap.size, 0, none⟩) (Nat.lt_succ_self _)).trans (HS.out.2.2.2 0)); (have hf1 := (hb7.out.frozen (p := ⟨w.heap.size, 1, none⟩) (Nat.lt_succ_self _)).trans (HS.out.2.2.2 1)); (have hf2 := (hb7.out.frozen (p := ⟨w.heap.size, 2, none⟩) (Nat.lt_succ_self _)).trans (HS.out.2.2.2 2))))
  refine bodyPost_ret (v := .agg #[.int .u64 0, .int .u64 6, .map (some (w.heap.size + 1))]) ?hres rfl ?_
  case hres => simp [results, Try.results80, go_sem, *]
  exact ⟨_, rfl, keep3 (B := w.heap.size) (by have h := hm7.out; rw [show (w.alloc (.cells #[.int .u64 0, .int .u64 0, .map none] 107)).heap.size = w.heap.size + 1 by simp] at h; exact h), Nat.le_succ _, (((HS.out.2.2.1.trans (hb7.out.mono (by omega))).setCell (Nat.le_refl _) _).setCell (Nat.le_refl _) _).setCell (Nat.le_refl _) _⟩

set_option maxHeartbeats 2000000 in
set_option maxRecDepth 100000 in
theorem months_any (w : World) :
    Calls Try.prog 79 #[] w fun e w' => ∃ m, e = .returned (.agg #[.int .u64 1, .int .u64 12, .map (some m)]) ∧ NMapAt w' m monthNames ∧ w.heap.size ≤ m ∧ Below w.heap.size w w' := by
  have HS := Lib.hid (start w)
  have hm0 := Lib.hid HS.out.1
  have hb0 := Lib.hid (Below.refl (w.heap.size + 1) ((w.alloc (.cells #[.int .u64 0, .int .u64 0, .map none] 107)).alloc (.map #[] 0)))
  go_enter Try.func79, Try.ntmps79
  go_wp2_with (first
    | (with_reducible refine wpList_makeMap rfl rfl ?_)
    | (with_reducible refine wpList_insert rfl (.tmp 1) (.const (.string ⟨#[106, 97, 110]⟩)) (.const (.int .u64 1)) rfl _ [] ⟨#[106, 97, 110]⟩ 1 rfl rfl rfl hm0.out rfl ?_; intro w1 hn1 hg1; (have hm1 := Lib.hid hn1); (have hb1 := Lib.hid (step hm0.out (by simp) hb0.out hg1)); clear hn1 hg1)
    | (with_reducible refine wpList_insert rfl (.tmp 1) (.const (.string ⟨#[102, 101, 98]⟩)) (.const (.int .u64 2)) rfl _ [(⟨#[106, 97, 110]⟩, 1)] ⟨#[102, 101, 98]⟩ 2 rfl rfl rfl hm1.out rfl ?_; intro w2 hn2 hg2; (have hm2 := Lib.hid hn2); (have hb2 := Lib.hid (step hm1.out (by simp) hb1.out hg2)); clear hn2 hg2)
    | (with_reducible refine wpList_insert rfl (.tmp 1) (.const (.string ⟨#[109, 97, 114]⟩)) (.const (.int .u64 3)) rfl _ [(⟨#[106, 97, 110]⟩, 1), (⟨#[102, 101, 98]⟩, 2)] ⟨#[109, 97, 114]⟩ 3 rfl rfl rfl hm2.out rfl ?_; intro w3 hn3 hg3; (have hm3 := Lib.hid hn3); (have hb3 := Lib.hid (step hm2.out (by simp) hb2.out hg3)); clear hn3 hg3)
    | (with_reducible refine wpList_insert rfl (.tmp 1) (.const (.string ⟨#[97, 112, 114]⟩)) (.const (.int .u64 4)) rfl _ [(⟨#[106, 97, 110]⟩, 1), (⟨#[102, 101, 98]⟩, 2), (⟨#[109, 97, 114]⟩, 3)] ⟨#[97, 112, 114]⟩ 4 rfl rfl rfl hm3.out rfl ?_; intro w4 hn4 hg4; (have hm4 := Lib.hid hn4); (have hb4 := Lib.hid (step hm3.out (by simp) hb3.out hg4)); clear hn4 hg4)
    | (with_reducible refine wpList_insert rfl (.tmp 1) (.const (.string ⟨#[109, 97, 121]⟩)) (.const (.int .u64 5)) rfl _ [(⟨#[106, 97, 110]⟩, 1), (⟨#[102, 101, 98]⟩, 2), (⟨#[109, 97, 114]⟩, 3), (⟨#[97, 112, 114]⟩, 4)] ⟨#[109, 97, 121]⟩ 5 rfl rfl rfl hm4.out rfl ?_; intro w5 hn5 hg5; (have hm5 := Lib.hid hn5); (have hb5 := Lib.hid (step hm4.out (by simp) hb4.out hg5)); clear hn5 hg5)
    | (with_reducible refine wpList_insert rfl (.tmp 1) (.const (.string ⟨#[106, 117, 110]⟩)) (.const (.int .u64 6)) rfl _ [(⟨#[106, 97, 110]⟩, 1), (⟨#[102, 101, 98]⟩, 2), (⟨#[109, 97, 114]⟩, 3), (⟨#[97, 112, 114]⟩, 4), (⟨#[109, 97, 121]⟩, 5)] ⟨#[106, 117, 110]⟩ 6 rfl rfl rfl hm5.out rfl ?_; intro w6 hn6 hg6; (have hm6 := Lib.hid hn6); (have hb6 := Lib.hid (step hm5.out (by simp) hb5.out hg6)); clear hn6 hg6)
    | (with_reducible refine wpList_insert rfl (.tmp 1) (.const (.string ⟨#[106, 117, 108]⟩)) (.const (.int .u64 7)) rfl _ [(⟨#[106, 97, 110]⟩, 1), (⟨#[102, 101, 98]⟩, 2), (⟨#[109, 97, 114]⟩, 3), (⟨#[97, 112, 114]⟩, 4), (⟨#[109, 97, 121]⟩, 5), (⟨#[106, 117, 110]⟩, 6)] ⟨#[106, 117, 108]⟩ 7 rfl rfl rfl hm6.out rfl ?_; intro w7 hn7 hg7; (have hm7 := Lib.hid hn7); (have hb7 := Lib.hid (step hm6.out (by simp) hb6.out hg7)); clear hn7 hg7)
    | (with_reducible refine wpList_insert rfl (.tmp 1) (.const (.string ⟨#[97, 117, 103]⟩)) (.const (.int .u64 8)) rfl _ [(⟨#[106, 97, 110]⟩, 1), (⟨#[102, 101, 98]⟩, 2), (⟨#[109, 97, 114]⟩, 3), (⟨#[97, 112, 114]⟩, 4), (⟨#[109, 97, 121]⟩, 5), (⟨#[106, 117, 110]⟩, 6), (⟨#[106, 117, 108]⟩, 7)] ⟨#[97, 117, 103]⟩ 8 rfl rfl rfl hm7.out rfl ?_; intro w8 hn8 hg8; (have hm8 := Lib.hid hn8); (have hb8 := Lib.hid (step hm7.out (by simp) hb7.out hg8)); clear hn8 hg8)
    | (with_reducible refine wpList_insert rfl (.tmp 1) (.const (.string ⟨#[115, 101, 112]⟩)) (.const (.int .u64 9)) rfl _ [(⟨#[106, 97, 110]⟩, 1), (⟨#[102, 101, 98]⟩, 2), (⟨#[109, 97, 114]⟩, 3), (⟨#[97, 112, 114]⟩, 4), (⟨#[109, 97, 121]⟩, 5), (⟨#[106, 117, 110]⟩, 6), (⟨#[106, 117, 108]⟩, 7), (⟨#[97, 117, 103]⟩, 8)] ⟨#[115, 101, 112]⟩ 9 rfl rfl rfl hm8.out rfl ?_; intro w9 hn9 hg9; (have hm9 := Lib.hid hn9); (have hb9 := Lib.hid (step hm8.out (by simp) hb8.out hg9)); clear hn9 hg9)
    | (with_reducible refine wpList_insert rfl (.tmp 1) (.const (.string ⟨#[111, 99, 116]⟩)) (.const (.int .u64 10)) rfl _ [(⟨#[106, 97, 110]⟩, 1), (⟨#[102, 101, 98]⟩, 2), (⟨#[109, 97, 114]⟩, 3), (⟨#[97, 112, 114]⟩, 4), (⟨#[109, 97, 121]⟩, 5), (⟨#[106, 117, 110]⟩, 6), (⟨#[106, 117, 108]⟩, 7), (⟨#[97, 117, 103]⟩, 8), (⟨#[115, 101, 112]⟩, 9)] ⟨#[111, 99, 116]⟩ 10 rfl rfl rfl hm9.out rfl ?_; intro w10 hn10 hg10; (have hm10 := Lib.hid hn10); (have hb10 := Lib.hid (step hm9.out (by simp) hb9.out hg10)); clear hn10 hg10)
    | (with_reducible refine wpList_insert rfl (.tmp 1) (.const (.string ⟨#[110, 111, 118]⟩)) (.const (.int .u64 11)) rfl _ [(⟨#[106, 97, 110]⟩, 1), (⟨#[102, 101, 98]⟩, 2), (⟨#[109, 97, 114]⟩, 3), (⟨#[97, 112, 114]⟩, 4), (⟨#[109, 97, 121]⟩, 5), (⟨#[106, 117, 110]⟩, 6), (⟨#[106, 117, 108]⟩, 7), (⟨#[97, 117, 103]⟩, 8), (⟨#[115, 101, 112]⟩, 9), (⟨#[111, 99, 116]⟩, 10)] ⟨#[110, 111, 118]⟩ 11 rfl rfl rfl hm10.out rfl ?_; intro w11 hn11 hg11; (have hm11 := Lib.hid hn11); (have hb11 := Lib.hid (step hm10.out (by simp) hb10.out hg11)); clear hn11 hg11)
    | (with_reducible refine wpList_insert rfl (.tmp 1) (.const (.string ⟨#[100, 101, 99]⟩)) (.const (.int .u64 12)) rfl _ [(⟨#[106, 97, 110]⟩, 1), (⟨#[102, 101, 98]⟩, 2), (⟨#[109, 97, 114]⟩, 3), (⟨#[97, 112, 114]⟩, 4), (⟨#[109, 97, 121]⟩, 5), (⟨#[106, 117, 110]⟩, 6), (⟨#[106, 117, 108]⟩, 7), (⟨#[97, 117, 103]⟩, 8), (⟨#[115, 101, 112]⟩, 9), (⟨#[111, 99, 116]⟩, 10), (⟨#[110, 111, 118]⟩, 11)] ⟨#[100, 101, 99]⟩ 12 rfl rfl rfl hm11.out rfl ?_; intro w12 hn12 hg12; (have hm12 := Lib.hid hn12); (have hb12 := Lib.hid (step hm11.out (by simp) hb11.out hg12)); clear hn12 hg12; (have hc0 := (hb12.out.cell (p := ⟨w.heap.size, 0, none⟩) (Nat.lt_succ_self _)).trans HS.out.2.1.1); (have hc1 := (hb12.out.cell (p := ⟨w.heap.size, 1, none⟩) (Nat.lt_succ_self _)).trans HS.out.2.1.2.1); (have hc2 := (hb12.out.cell (p := ⟨w.heap.size, 2, none⟩) (Nat.lt_succ_self _)).trans HS.out.2.1.2.2); (have hf0 := (hb12.out.frozen (p := ⟨w.heap.size, 0, none⟩) (Nat.lt_succ_self _)).trans (HS.out.2.2.2 0)); (have hf1 := (hb12.out.frozen (p := ⟨w.heap.size, 1, none⟩) (Nat.lt_succ_self _)).trans (HS.out.2.2.2 1)); (have hf2 := (hb12.out.frozen (p := ⟨w.heap.size, 2, none⟩) (Nat.lt_succ_self _)).trans (HS.out.2.2.2 2))))
  refine bodyPost_ret (v := .agg #[.int .u64 1, .int .u64 12, .map (some (w.heap.size + 1))]) ?hres rfl ?_
  case hres => simp [results, Try.results79, go_sem, *]
  exact ⟨_, rfl, keep3 (B := w.heap.size) (by have h := hm12.out; rw [show (w.alloc (.cells #[.int .u64 0, .int .u64 0, .map none] 107)).heap.size = w.heap.size + 1 by simp] at h; exact h), Nat.le_succ _, (((HS.out.2.2.1.trans (hb12.out.mono (by omega))).setCell (Nat.le_refl _) _).setCell (Nat.le_refl _) _).setCell (Nat.le_refl _) _⟩

/-- The bounds of a field without names. -/
def lowOf (kind : Nat) : Nat := if kind = 3 ∨ kind = 4 then 1 else 0
def highOf (kind : Nat) : Nat := match kind with
  | 2 => 23
  | 3 => 31
  | 4 => 12
  | 5 => 6
  | _ => 59

theorem box_free (w : World) {w1 : World} (E : TypeId) (x y z : Value) (hb : Below (w.alloc (.cells #[x, y, z] E)).heap.size (w.alloc (.cells #[x, y, z] E)) w1) (j : Nat) : w1.frozen? ⟨w.heap.size, j, none⟩ = false := by
  rw [hb.frozen (p := ⟨w.heap.size, j, none⟩) (by simp)]
  exact frozen_of_row _ _ _ _ _ (heap_alloc_new w _)

theorem seconds_any (w : World) :
    Calls Try.prog 75 #[] w fun e w' => e = .returned (.agg #[.int .u64 0, .int .u64 59, .map none]) ∧ Below w.heap.size w w' := by
  go_enter Try.func75, Try.ntmps75
  go_wp2
  exact bodyPost_ret (v := .agg #[.int .u64 0, .int .u64 59, .map none]) (by simp [results, Try.results75, go_sem]) rfl ⟨rfl, (Below.refl _ _).alloc (Nat.le_refl _) _⟩

theorem minutes_any (w : World) :
    Calls Try.prog 76 #[] w fun e w' => e = .returned (.agg #[.int .u64 0, .int .u64 59, .map none]) ∧ Below w.heap.size w w' := by
  go_enter Try.func76, Try.ntmps76
  go_wp2
  exact bodyPost_ret (v := .agg #[.int .u64 0, .int .u64 59, .map none]) (by simp [results, Try.results76, go_sem]) rfl ⟨rfl, (Below.refl _ _).alloc (Nat.le_refl _) _⟩

theorem hours_any (w : World) :
    Calls Try.prog 77 #[] w fun e w' => e = .returned (.agg #[.int .u64 0, .int .u64 23, .map none]) ∧ Below w.heap.size w w' := by
  go_enter Try.func77, Try.ntmps77
  go_wp2
  exact bodyPost_ret (v := .agg #[.int .u64 0, .int .u64 23, .map none]) (by simp [results, Try.results77, go_sem]) rfl ⟨rfl, (Below.refl _ _).alloc (Nat.le_refl _) _⟩

theorem dom_any (w : World) :
    Calls Try.prog 78 #[] w fun e w' => e = .returned (.agg #[.int .u64 1, .int .u64 31, .map none]) ∧ Below w.heap.size w w' := by
  go_enter Try.func78, Try.ntmps78
  go_wp2
  exact bodyPost_ret (v := .agg #[.int .u64 1, .int .u64 31, .map none]) (by simp [results, Try.results78, go_sem]) rfl ⟨rfl, (Below.refl _ _).alloc (Nat.le_refl _) _⟩

theorem bounds_any (kind : Nat) (w : World) (hk : kind ≤ 3) :
    Calls Try.prog 64 #[.int .i64 (kind : Int)] w fun e w' => e = .returned (.agg #[.int .u64 (lowOf kind : Int), .int .u64 (highOf kind : Int), .map none]) ∧ Below w.heap.size w w' := by
  have h : kind = 0 ∨ kind = 1 ∨ kind = 2 ∨ kind = 3 := by omega
  rcases h with rfl | rfl | rfl | rfl
  · go_enter Try.func64, Try.ntmps64
    go_wp2_with (go_at_call 75; refine (seconds_any _).mono ?_; rintro e w1 ⟨rfl, hb⟩; (have hbx := (box_new w 107 (.int .u64 0) (.int .u64 0) (.map none)).below hb); (have hc0 := hbx.2.1); (have hc1 := hbx.2.2.1); (have hc2 := hbx.2.2.2); (have hf0 := box_free w 107 (.int .u64 0) (.int .u64 0) (.map none) hb 0); (have hf1 := box_free w 107 (.int .u64 0) (.int .u64 0) (.map none) hb 1); (have hf2 := box_free w 107 (.int .u64 0) (.int .u64 0) (.map none) hb 2))
    have hbw : Below w.heap.size w w1 := ((Below.refl _ _).alloc (Nat.le_refl _) _).trans (hb.mono (by simp))
    exact bodyPost_ret (v := .agg #[.int .u64 0, .int .u64 59, .map none]) (by simp [results, Try.results64, go_sem, *]) rfl ⟨rfl, ((hbw.setCell (Nat.le_refl _) _).setCell (Nat.le_refl _) _).setCell (Nat.le_refl _) _⟩
  · go_enter Try.func64, Try.ntmps64
    go_wp2_with (go_at_call 76; refine (minutes_any _).mono ?_; rintro e w1 ⟨rfl, hb⟩; (have hbx := (box_new w 107 (.int .u64 0) (.int .u64 0) (.map none)).below hb); (have hc0 := hbx.2.1); (have hc1 := hbx.2.2.1); (have hc2 := hbx.2.2.2); (have hf0 := box_free w 107 (.int .u64 0) (.int .u64 0) (.map none) hb 0); (have hf1 := box_free w 107 (.int .u64 0) (.int .u64 0) (.map none) hb 1); (have hf2 := box_free w 107 (.int .u64 0) (.int .u64 0) (.map none) hb 2))
    have hbw : Below w.heap.size w w1 := ((Below.refl _ _).alloc (Nat.le_refl _) _).trans (hb.mono (by simp))
    exact bodyPost_ret (v := .agg #[.int .u64 0, .int .u64 59, .map none]) (by simp [results, Try.results64, go_sem, *]) rfl ⟨rfl, ((hbw.setCell (Nat.le_refl _) _).setCell (Nat.le_refl _) _).setCell (Nat.le_refl _) _⟩
  · go_enter Try.func64, Try.ntmps64
    go_wp2_with (go_at_call 77; refine (hours_any _).mono ?_; rintro e w1 ⟨rfl, hb⟩; (have hbx := (box_new w 107 (.int .u64 0) (.int .u64 0) (.map none)).below hb); (have hc0 := hbx.2.1); (have hc1 := hbx.2.2.1); (have hc2 := hbx.2.2.2); (have hf0 := box_free w 107 (.int .u64 0) (.int .u64 0) (.map none) hb 0); (have hf1 := box_free w 107 (.int .u64 0) (.int .u64 0) (.map none) hb 1); (have hf2 := box_free w 107 (.int .u64 0) (.int .u64 0) (.map none) hb 2))
    have hbw : Below w.heap.size w w1 := ((Below.refl _ _).alloc (Nat.le_refl _) _).trans (hb.mono (by simp))
    exact bodyPost_ret (v := .agg #[.int .u64 0, .int .u64 23, .map none]) (by simp [results, Try.results64, go_sem, *]) rfl ⟨rfl, ((hbw.setCell (Nat.le_refl _) _).setCell (Nat.le_refl _) _).setCell (Nat.le_refl _) _⟩
  · go_enter Try.func64, Try.ntmps64
    go_wp2_with (go_at_call 78; refine (dom_any _).mono ?_; rintro e w1 ⟨rfl, hb⟩; (have hbx := (box_new w 107 (.int .u64 0) (.int .u64 0) (.map none)).below hb); (have hc0 := hbx.2.1); (have hc1 := hbx.2.2.1); (have hc2 := hbx.2.2.2); (have hf0 := box_free w 107 (.int .u64 0) (.int .u64 0) (.map none) hb 0); (have hf1 := box_free w 107 (.int .u64 0) (.int .u64 0) (.map none) hb 1); (have hf2 := box_free w 107 (.int .u64 0) (.int .u64 0) (.map none) hb 2))
    have hbw : Below w.heap.size w w1 := ((Below.refl _ _).alloc (Nat.le_refl _) _).trans (hb.mono (by simp))
    exact bodyPost_ret (v := .agg #[.int .u64 1, .int .u64 31, .map none]) (by simp [results, Try.results64, go_sem, *]) rfl ⟨rfl, ((hbw.setCell (Nat.le_refl _) _).setCell (Nat.le_refl _) _).setCell (Nat.le_refl _) _⟩


theorem keepMap {w : World} {b m : Nat} {l : List (ByteArray × Nat)} {j1 j2 j3 : Nat} {x y z : Value} (h : NMapAt w m l) (hne : m ≠ b) : NMapAt (((w.setCell ⟨b, j1, none⟩ x).setCell ⟨b, j2, none⟩ y).setCell ⟨b, j3, none⟩ z) m l := by
  unfold NMapAt at *
  rw [heap_setCell_other _ _ _ _ (by show m ≠ b; exact hne), heap_setCell_other _ _ _ _ (by show m ≠ b; exact hne), heap_setCell_other _ _ _ _ (by show m ≠ b; exact hne)]
  exact h

set_option maxHeartbeats 1000000 in
theorem months_bounds (w : World) :
    Calls Try.prog 64 #[.int .i64 4] w fun e w' => (∃ m, e = .returned (.agg #[.int .u64 1, .int .u64 12, .map (some m)]) ∧ NMapAt w' m monthNames) ∧ Below w.heap.size w w' := by
  go_enter Try.func64, Try.ntmps64
  go_wp2_with (go_at_call 79; refine (months_any _).mono ?_; rintro e w1 ⟨m, rfl, hmap, hge, hb⟩; (have hbx := (box_new w 107 (.int .u64 0) (.int .u64 0) (.map none)).below hb); (have hc0 := hbx.2.1); (have hc1 := hbx.2.2.1); (have hc2 := hbx.2.2.2); (have hf0 := box_free w 107 (.int .u64 0) (.int .u64 0) (.map none) hb 0); (have hf1 := box_free w 107 (.int .u64 0) (.int .u64 0) (.map none) hb 1); (have hf2 := box_free w 107 (.int .u64 0) (.int .u64 0) (.map none) hb 2))
  have hbw : Below w.heap.size w w1 := ((Below.refl _ _).alloc (Nat.le_refl _) _).trans (hb.mono (by simp))
  have hne : m ≠ w.heap.size := by simp at hge; omega
  refine bodyPost_ret (v := .agg #[.int .u64 1, .int .u64 12, .map (some m)]) ?hres rfl ?_
  case hres => simp [results, Try.results64, go_sem, *]
  exact ⟨⟨m, rfl, keepMap hmap hne⟩, ((hbw.setCell (Nat.le_refl _) _).setCell (Nat.le_refl _) _).setCell (Nat.le_refl _) _⟩

set_option maxHeartbeats 1000000 in
theorem days_bounds (w : World) :
    Calls Try.prog 64 #[.int .i64 5] w fun e w' => (∃ m, e = .returned (.agg #[.int .u64 0, .int .u64 6, .map (some m)]) ∧ NMapAt w' m dayNames) ∧ Below w.heap.size w w' := by
  go_enter Try.func64, Try.ntmps64
  go_wp2_with (go_at_call 80; refine (dow_any _).mono ?_; rintro e w1 ⟨m, rfl, hmap, hge, hb⟩; (have hbx := (box_new w 107 (.int .u64 0) (.int .u64 0) (.map none)).below hb); (have hc0 := hbx.2.1); (have hc1 := hbx.2.2.1); (have hc2 := hbx.2.2.2); (have hf0 := box_free w 107 (.int .u64 0) (.int .u64 0) (.map none) hb 0); (have hf1 := box_free w 107 (.int .u64 0) (.int .u64 0) (.map none) hb 1); (have hf2 := box_free w 107 (.int .u64 0) (.int .u64 0) (.map none) hb 2))
  have hbw : Below w.heap.size w w1 := ((Below.refl _ _).alloc (Nat.le_refl _) _).trans (hb.mono (by simp))
  have hne : m ≠ w.heap.size := by simp at hge; omega
  refine bodyPost_ret (v := .agg #[.int .u64 0, .int .u64 6, .map (some m)]) ?hres rfl ?_
  case hres => simp [results, Try.results64, go_sem, *]
  exact ⟨⟨m, rfl, keepMap hmap hne⟩, ((hbw.setCell (Nat.le_refl _) _).setCell (Nat.le_refl _) _).setCell (Nat.le_refl _) _⟩


theorem bounds6 (kind : Nat) (w : World) (hk : kind ≤ 5) :
    Calls Try.prog 64 #[.int .i64 (kind : Int)] w fun e w' => (∃ m, e = .returned (.agg #[.int .u64 (lowOf kind : Int), .int .u64 (highOf kind : Int), m])) ∧ Below w.heap.size w w' := by
  by_cases h4 : kind = 4
  · subst h4
    refine (months_bounds w).mono ?_
    rintro e w' ⟨⟨m, rfl, hm⟩, hb⟩
    exact ⟨⟨_, rfl⟩, hb⟩
  · by_cases h5 : kind = 5
    · subst h5
      refine (days_bounds w).mono ?_
      rintro e w' ⟨⟨m, rfl, hm⟩, hb⟩
      exact ⟨⟨_, rfl⟩, hb⟩
    · refine (bounds_any kind w (by omega)).mono ?_
      rintro e w' ⟨rfl, hb⟩
      exact ⟨⟨_, rfl⟩, hb⟩

theorem low_high6 (kind : Nat) (hk : kind ≤ 5) : lowOf kind ≤ highOf kind ∧ highOf kind ≤ 62 := by
  have : kind = 0 ∨ kind = 1 ∨ kind = 2 ∨ kind = 3 ∨ kind = 4 ∨ kind = 5 := by omega
  rcases this with rfl | rfl | rfl | rfl | rfl | rfl <;> decide

/-- What a star means: the values of the field, and the mark. -/
def starSet (kind : Nat) : Int := bset fun i => inRange (lowOf kind) (highOf kind) 1 i || decide (i = 63)
theorem or_mark (p : Nat → Bool) : Go.bits .or .u64 (bset p) 9223372036854775808 = bset fun i => p i || decide (i = 63) := by
  rw [show (9223372036854775808 : Int) = IntKind.u64.wrap (2 ^ 63) by decide, wrap_pow, bits_or]

theorem all_any (lo hi : Nat) (m : Value) (w : World) (h : lo ≤ hi) (h2 : hi ≤ 62) :
    Calls Try.prog 63 #[.agg #[.int .u64 (lo : Int), .int .u64 (hi : Int), m]] w fun e w' => e = .returned (.int .u64 (bset fun i => inRange lo hi 1 i || decide (i = 63))) ∧ Below w.heap.size w w' := by
  have HB := Lib.hid (box_new w 107 (.int .u64 (lo : Int)) (.int .u64 (hi : Int)) m)
  have hc0 := HB.out.2.1
  have hc1 := HB.out.2.2.1
  go_enter Try.func63, Try.ntmps63
  go_wp2_with (go_at_call 74; refine (getBits_any lo hi 1 _ (by omega) (by omega) (by omega) (by omega) (by omega)).mono ?_; rintro e w1 ⟨rfl, rfl⟩)
  go_ret
  refine ⟨?_, (Below.refl _ _).alloc (Nat.le_refl _) _⟩
  simp only [or_mark]
  rfl

theorem zzAll_any (kind : Nat) (w : World) (hk : kind ≤ 5) :
    Calls Try.prog 46 #[.int .i64 (kind : Int)] w fun e w' => e = .returned (.int .u64 (starSet kind)) ∧ Below w.heap.size w w' := by
  have HL := Lib.hid (low_high6 kind hk)
  go_enter Try.func46, Try.ntmps46
  go_wp2_with (first
    | (go_at_call 64; refine (bounds6 kind _ hk).mono ?_; rintro e w1 ⟨⟨m, rfl⟩, hb1⟩)
    | (go_at_call 63; refine (all_any _ _ _ _ HL.out.1 HL.out.2).mono ?_; rintro e w2 ⟨rfl, hb2⟩))
  go_ret
  exact ⟨rfl, hb1.trans (hb2.mono hb1.size)⟩

theorem cronAll_any (kind : Nat) (w : World) (hk : kind ≤ 5) :
    Calls Try.prog 19 #[.int .i64 (kind : Int)] w fun e w' => e = .returned (.int .u64 (starSet kind)) ∧ Below w.heap.size w w' := by
  go_enter Try.func19, Try.ntmps19
  go_wp2_with (go_at_call 46; refine (zzAll_any kind _ hk).mono ?_; rintro e w1 ⟨rfl, hb1⟩)
  go_ret
  exact ⟨rfl, hb1⟩

end Go.Proofs.Ytoekefbclkmchaa.Bnd
