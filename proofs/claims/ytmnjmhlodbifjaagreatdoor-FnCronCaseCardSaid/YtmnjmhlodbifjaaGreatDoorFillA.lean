/- Small contracts under normalizeFields and CronFill. Conditions: none. -/
import Derived.Test.YtmnjmhlodbifjaaGreatDoorChecked
import Derived.Test.YtmnjmhlodbifjaaGreatDoorMem
import Derived.Test.YtmnjmhlodbifjaaGreatDoorFillPure
import Derived.ProofKit
import Derived.OpenShut
import Derived.Lib.Hide
import Derived.WalkSpells
import Derived.Laws.CopyOwn
import Derived.Deep.OwnRows
import Derived.Deep.DeepCutAuto
namespace Go.Proofs.YtmnjmhlodbifjaaGreatDoor.FillA
open Go Go.RowKit Go.Proofs.YtmnjmhlodbifjaaGreatDoor.Mem Go.Proofs.YtmnjmhlodbifjaaGreatDoor.FillPure

/-- Six texts in a block. -/
def strArr (f : Nat → ByteArray) : Array Value := Array.ofFn (n := 6) fun i => Value.string (f i.val)
def RowAt (w : World) (b : Nat) (f : Nat → ByteArray) : Prop := w.heap[b]? = some (.cells (strArr f) 9 (0, 0))
theorem strArr_size (f : Nat → ByteArray) : (strArr f).size = 6 := by simp [strArr]
theorem strArr_get (f : Nat → ByteArray) (v : Nat) (h : v < 6) : (strArr f)[v]? = some (.string (f v)) := by
  rw [Array.getElem?_eq_getElem (by rw [strArr_size]; omega)]
  simp [strArr]
theorem RowAt.lt {w : World} {b : Nat} {f : Nat → ByteArray} (h : RowAt w b f) : b < w.heap.size := (Array.getElem?_eq_some_iff.1 h).1
theorem RowAt.below {w w' : World} {b : Nat} {f : Nat → ByteArray} {B : Nat} (h : RowAt w b f) (hb : Below B w w') (hB : b < B) : RowAt w' b f := (hb.block b hB).trans h
theorem RowAt.cell {w : World} {b : Nat} {f : Nat → ByteArray} (h : RowAt w b f) (v : Nat) (hv : v < 6) : w.cell? ⟨b, v, none⟩ = some (.string (f v)) := by
  rw [cell_of_row w b _ _ _ _ h, strArr_get _ _ hv]
theorem RowAt.free {w : World} {b : Nat} {f : Nat → ByteArray} (h : RowAt w b f) (j : Nat) : w.frozen? ⟨b, j, none⟩ = false := frozen_of_row w b j _ _ h
def upd (f : Nat → ByteArray) (v : Nat) (x : ByteArray) : Nat → ByteArray := fun i => if i = v then x else f i
theorem RowAt.put {w : World} {b : Nat} {f : Nat → ByteArray} (h : RowAt w b f) (v : Nat) (hv : v < 6) (x : ByteArray) : RowAt (w.setCell ⟨b, v, none⟩ (.string x)) b (upd f v x) := by
  unfold RowAt
  rw [heap_setCell_same w b v _ _ _ h]
  congr 2
  apply Array.ext_getElem?
  intro i
  rw [Array.getElem?_setIfInBounds]
  by_cases hi : v = i
  · subst hi
    rw [if_pos rfl, if_pos (by rw [strArr_size]; omega), strArr_get _ _ hv]
    simp [upd]
  · rw [if_neg hi]
    rcases Nat.lt_or_ge i 6 with h2 | h2
    · rw [strArr_get _ _ h2, strArr_get _ _ h2]; simp [upd]; intro e; omega
    · rw [Array.getElem?_eq_none (by rw [strArr_size]; omega), Array.getElem?_eq_none (by rw [strArr_size]; omega)]
theorem RowAt.other {w : World} {b : Nat} {f : Nat → ByteArray} (h : RowAt w b f) (p : Addr) (u : Value) (hne : b ≠ p.block) : RowAt (w.setCell p u) b f := by
  unfold RowAt
  rw [heap_setCell_other w p b u hne]; exact h
theorem RowAt.congr {w : World} {b : Nat} {f g : Nat → ByteArray} (h : RowAt w b f) (hfg : ∀ j, j < 6 → f j = g j) : RowAt w b g := by
  unfold RowAt at *
  rw [h]
  unfold strArr
  congr 3
  funext i
  rw [hfg i.val i.isLt]

theorem RowAt.new (w : World) (f : Nat → ByteArray) : RowAt (w.alloc (.cells (strArr f) 9)) w.heap.size f := heap_alloc_new w _
theorem infoStr : (Tryz.prog.info? 9).map (fun i => (i.zero, i.size, i.bytes)) = some (some (.string ⟨#[]⟩), 1, 16) := by kernel_rfl
theorem made6 : madeCells #[.string ⟨#[]⟩] 6 = strArr (fun _ => ⟨#[]⟩) := by
  apply Array.ext
  · simp [madeCells, strArr]
  · intro i h1 h2
    simp [madeCells, strArr, Nat.mod_one]
/-- make([]string, 6). -/
theorem wpList_make6 {ops : Array Oper} {rest : List Oper} {o : Oper} {a : Act} {w : World} {Q : Exit → Act → World → Prop} (hg : o.guard = none) (l c : Operand) (ho : o.op = .makeSlice 114 l c)
    (hl : a.eval l = .int .i64 6) (hc : a.eval c = .int .i64 6)
    (h : wpList Tryz.prog ops Q rest (a.put o.dst (.slice (some ⟨w.heap.size, 0, none⟩) 6 6)) (w.alloc (.cells (strArr fun _ => ⟨#[]⟩) 9))) : wpList Tryz.prog ops Q (o :: rest) a w := by
  obtain ⟨i, hi, hz, hs, hb⟩ := info_parts infoStr
  exact wpList_make_row w hg l c 114 ho 9 i (.string ⟨#[]⟩) Tryz.underlying114 hi hz hs rfl .i64 .i64 6 hl hc (by rw [hb]; decide) (by decide) (by rw [made6]; exact h)

/-- The texts behind a slice. -/
def Texts (w : World) (oa : Option Addr) (fs : List ByteArray) : Prop := ∀ (i : Nat) s, fs[i]? = some s → ∃ a, oa = some a ∧ w.cell? (a.add i) = some (.string s)
theorem Texts.below {w w' : World} {oa : Option Addr} {fs : List ByteArray} (h : Texts w oa fs) (hb : Below w.heap.size w w') : Texts w' oa fs := fun i s hs => by
  obtain ⟨a, ha, hc⟩ := h i s hs
  exact ⟨a, ha, (hb.cell (World.block_lt_of_cell? w _ hc)).trans hc⟩

theorem Texts.cell {w : World} {a : Addr} {fs : List ByteArray} (h : Texts w (some a) fs) {i : Nat} {s : ByteArray} (hs : fs[i]? = some s) : w.cell? (a.add i) = some (.string s) := by
  obtain ⟨b, hb, hc⟩ := h i s hs
  cases hb; exact hc

def strs (fs : List ByteArray) : List Value := fs.map Value.string

theorem places_any (w : World) :
    Calls Tryz.prog 96 #[] w fun e w' => ∃ g, e = .returned (.slice (some ⟨g, 0, none⟩) 6 6) ∧ w.heap.size ≤ g ∧ g < w'.heap.size ∧ (∀ k, k < 6 → w'.cell? ⟨g, k, none⟩ = some (.int .i64 (place k : Int))) ∧ Below w.heap.size w w' := by
  go_enter Tryz.func96, Tryz.ntmps96
  go_wp2
  go_ret
  refine ⟨_, rfl, Nat.le_refl _, ?_, fun k hk => ?_, (Below.refl _ _).alloc (Nat.le_refl _) _⟩
  · simp
  · have hk' : k = 0 ∨ k = 1 ∨ k = 2 ∨ k = 3 ∨ k = 4 ∨ k = 5 := by omega
    unfold World.cell?
    simp only [heap_alloc_new]
    rcases hk' with rfl | rfl | rfl | rfl | rfl | rfl <;> rfl

theorem defaults_any (w : World) :
    Calls Tryz.prog 97 #[] w fun e w' => ∃ g, e = .returned (.slice (some ⟨g, 0, none⟩) 6 6) ∧ w.heap.size ≤ g ∧ g < w'.heap.size ∧ (∀ k, k < 6 → w'.cell? ⟨g, k, none⟩ = some (.string (dflt k))) ∧ Below w.heap.size w w' := by
  go_enter Tryz.func97, Tryz.ntmps97
  go_wp2
  go_ret
  refine ⟨_, rfl, Nat.le_refl _, ?_, fun k hk => ?_, (Below.refl _ _).alloc (Nat.le_refl _) _⟩
  · simp
  · have hk' : k = 0 ∨ k = 1 ∨ k = 2 ∨ k = 3 ∨ k = 4 ∨ k = 5 := by omega
    unfold World.cell?
    simp only [heap_alloc_new]
    rcases hk' with rfl | rfl | rfl | rfl | rfl | rfl <;> rfl

theorem takes_any (o : Int) (k : Nat) (w : World) (hk : k < 6) :
    Calls Tryz.prog 113 #[.int .i64 o, .int .i64 (k : Int)] w fun e w' => e = .returned (.bool (takes o k)) ∧ Below w.heap.size w w' := by
  have hk' : k = 0 ∨ k = 1 ∨ k = 2 ∨ k = 3 ∨ k = 4 ∨ k = 5 := by omega
  rcases hk' with rfl | rfl | rfl | rfl | rfl | rfl
  all_goals
    go_enter Tryz.func113, Tryz.ntmps113
    go_wp2
    go_ret
    exact ⟨rfl, (Below.refl _ _).alloc (Nat.le_refl _) _⟩

theorem dflt_any (k : Nat) (w : World) :
    Calls Tryz.prog 115 #[.int .i64 (k : Int)] w fun e w' => e = .returned (.string (dflt k)) ∧ w = w' := by
  by_cases h : k ≤ 2
  · have hd : dflt k = ⟨#[48]⟩ := if_pos h
    rw [hd]
    go_enter Tryz.func115, Tryz.ntmps115
    go_wp2
    go_ret
    exact ⟨rfl, rfl⟩
  · have hd : dflt k = ⟨#[42]⟩ := if_neg h
    rw [hd]
    go_enter Tryz.func115, Tryz.ntmps115
    go_wp2
    go_ret
    exact ⟨rfl, rfl⟩

theorem two_any (o : Int) (w : World) (h1 : (Go.bits .and .i64 o 2 != 0) = sec o) (h2 : (Go.bits .and .i64 o 128 != 0) = dow o) :
    Calls Tryz.prog 26 #[.int .i64 o] w fun e w' => e = .returned (.bool (sec o && dow o)) ∧ w = w' := by
  cases hs : sec o with
  | true =>
    rw [hs] at h1
    go_enter Tryz.func26, Tryz.ntmps26
    go_wp2
    go_ret
    exact ⟨by rw [Bool.true_and, ← h2]; rfl, rfl⟩
  | false =>
    rw [hs] at h1
    go_enter Tryz.func26, Tryz.ntmps26
    go_wp2
    go_ret
    exact ⟨by simp, rfl⟩

/-- The kind that may be left away. -/
def mayOf (o : Int) : Int := if sec o then 0 else if dow o then 5 else -1
theorem may_any (o : Int) (w : World) (h1 : (Go.bits .and .i64 o 2 != 0) = sec o) (h2 : (Go.bits .and .i64 o 128 != 0) = dow o) :
    Calls Tryz.prog 114 #[.int .i64 o] w fun e w' => e = .returned (.int .i64 (mayOf o)) ∧ w = w' := by
  unfold mayOf
  cases hs : sec o with
  | true =>
    rw [hs] at h1
    go_enter Tryz.func114, Tryz.ntmps114
    go_wp2
    go_ret
    exact ⟨rfl, rfl⟩
  | false =>
    rw [hs] at h1
    cases hd : dow o with
    | true =>
      rw [hd] at h2
      go_enter Tryz.func114, Tryz.ntmps114
      go_wp2
      go_ret
      exact ⟨rfl, rfl⟩
    | false =>
      rw [hd] at h2
      go_enter Tryz.func114, Tryz.ntmps114
      go_wp2
      go_ret
      exact ⟨rfl, rfl⟩

end Go.Proofs.YtmnjmhlodbifjaaGreatDoor.FillA
