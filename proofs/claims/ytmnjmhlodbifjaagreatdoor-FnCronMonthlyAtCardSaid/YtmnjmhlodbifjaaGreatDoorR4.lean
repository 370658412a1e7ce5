/- Small contracts under normalizeFields and CronFill. Conditions: none. · The reference's CronFill. Conditions: options below 512. · cron's normalizeFields. Conditions: options below 512, up to 65536 texts in an owned row, or none. -/
import Derived.Test.YtmnjmhlodbifjaaGreatDoorChecked
import Derived.Test.YtmnjmhlodbifjaaGreatDoorR2
import Derived.Test.YtmnjmhlodbifjaaGreatDoorR3
import Derived.ProofKit
import Derived.OpenShut
import Derived.Lib.Hide
import Derived.WalkSpells
import Derived.Laws.CopyOwn
import Derived.Deep.OwnRows
import Derived.Deep.DeepCutAuto
import Derived.Laws.AppendOwnNone

namespace Go.Proofs.YtmnjmhlodbifjaaGreatDoor.FillA
open Go Go.RowKit Go.Proofs.YtmnjmhlodbifjaaGreatDoor.Mem Go.Proofs.YtmnjmhlodbifjaaGreatDoor.FillPure
def strArr (f : Nat → ByteArray) : Array Value := Array.ofFn (n := 6) fun i => Value.string (f i.val)
def RowAt (w : World) (b : Nat) (f : Nat → ByteArray) : Prop := w.heap[b]? = some (.cells (strArr f) 9 (0, 0))
theorem strArr_size (f : Nat → ByteArray) : (strArr f).size = 6 := by simp [strArr]
theorem strArr_get (f : Nat → ByteArray) (v : Nat) (h : v < 6) : (strArr f)[v]? = some (.string (f v)) := by
  rw [Array.getElem?_eq_getElem (by rw [strArr_size]; omega)]
  simp [strArr]
theorem RowAt.lt {w : World} {b : Nat} {f : Nat → ByteArray} (h : RowAt w b f) : b < w.heap.size := (Array.getElem?_eq_some_iff.1 h).1
theorem RowAt.below {w w' : World} {b : Nat} {f : Nat → ByteArray} {B : Nat} (h : RowAt w b f) (hb : Below B w w') (hB : b < B) : RowAt w' b f := (hb.block b hB).trans h
theorem RowAt.cell {w : World} {b : Nat} {f : Nat → ByteArray} (h : RowAt w b f) (v : Nat) (hv : v < 6) : w.cell? ⟨b, v, none⟩ = some (.string (f v)) := by
  rw [cell_of_row w b _ _ _ _ h, strArr_get _ _ hv]
theorem RowAt.free {w : World} {b : Nat} {f : Nat → ByteArray} (h : RowAt w b f) (j : Nat) : w.frozen? ⟨b, j, none⟩ = false := frozen_of_row w b j _ _ h
def upd (f : Nat → ByteArray) (v : Nat) (x : ByteArray) : Nat → ByteArray := fun i => if i = v then x else f i
theorem RowAt.put {w : World} {b : Nat} {f : Nat → ByteArray} (h : RowAt w b f) (v : Nat) (hv : v < 6) (x : ByteArray) : RowAt (w.setCell ⟨b, v, none⟩ (.string x)) b (upd f v x) := by
  unfold RowAt
  rw [heap_setCell_same w b v _ _ _ h]
  congr 2
  apply Array.ext_getElem?
  intro i
  rw [Array.getElem?_setIfInBounds]
  by_cases hi : v = i
  · subst hi
    rw [if_pos rfl, if_pos (by rw [strArr_size]; omega), strArr_get _ _ hv]
    simp [upd]
  · rw [if_neg hi]
    rcases Nat.lt_or_ge i 6 with h2 | h2
    · rw [strArr_get _ _ h2, strArr_get _ _ h2]; simp [upd]; intro e; omega
    · rw [Array.getElem?_eq_none (by rw [strArr_size]; omega), Array.getElem?_eq_none (by rw [strArr_size]; omega)]
theorem RowAt.other {w : World} {b : Nat} {f : Nat → ByteArray} (h : RowAt w b f) (p : Addr) (u : Value) (hne : b ≠ p.block) : RowAt (w.setCell p u) b f := by
  unfold RowAt
  rw [heap_setCell_other w p b u hne]; exact h
theorem RowAt.congr {w : World} {b : Nat} {f g : Nat → ByteArray} (h : RowAt w b f) (hfg : ∀ j, j < 6 → f j = g j) : RowAt w b g := by
  unfold RowAt at *
  rw [h]
  unfold strArr
  congr 3
  funext i
  rw [hfg i.val i.isLt]
theorem RowAt.new (w : World) (f : Nat → ByteArray) : RowAt (w.alloc (.cells (strArr f) 9)) w.heap.size f := heap_alloc_new w _
theorem infoStr : (Tryz.prog.info? 9).map (fun i => (i.zero, i.size, i.bytes)) = some (some (.string ⟨#[]⟩), 1, 16) := by kernel_rfl
theorem made6 : madeCells #[.string ⟨#[]⟩] 6 = strArr (fun _ => ⟨#[]⟩) := by
  apply Array.ext
  · simp [madeCells, strArr]
  · intro i h1 h2
    simp [madeCells, strArr, Nat.mod_one]
theorem wpList_make6 {ops : Array Oper} {rest : List Oper} {o : Oper} {a : Act} {w : World} {Q : Exit → Act → World → Prop} (hg : o.guard = none) (l c : Operand) (ho : o.op = .makeSlice 114 l c)
    (hl : a.eval l = .int .i64 6) (hc : a.eval c = .int .i64 6)
    (h : wpList Tryz.prog ops Q rest (a.put o.dst (.slice (some ⟨w.heap.size, 0, none⟩) 6 6)) (w.alloc (.cells (strArr fun _ => ⟨#[]⟩) 9))) : wpList Tryz.prog ops Q (o :: rest) a w := by
  obtain ⟨i, hi, hz, hs, hb⟩ := info_parts infoStr
  exact wpList_make_row w hg l c 114 ho 9 i (.string ⟨#[]⟩) Tryz.underlying114 hi hz hs rfl .i64 .i64 6 hl hc (by rw [hb]; decide) (by decide) (by rw [made6]; exact h)
def Texts (w : World) (oa : Option Addr) (fs : List ByteArray) : Prop := ∀ (i : Nat) s, fs[i]? = some s → ∃ a, oa = some a ∧ w.cell? (a.add i) = some (.string s)
theorem Texts.below {w w' : World} {oa : Option Addr} {fs : List ByteArray} (h : Texts w oa fs) (hb : Below w.heap.size w w') : Texts w' oa fs := fun i s hs => by
  obtain ⟨a, ha, hc⟩ := h i s hs
  exact ⟨a, ha, (hb.cell (World.block_lt_of_cell? w _ hc)).trans hc⟩
theorem Texts.cell {w : World} {a : Addr} {fs : List ByteArray} (h : Texts w (some a) fs) {i : Nat} {s : ByteArray} (hs : fs[i]? = some s) : w.cell? (a.add i) = some (.string s) := by
  obtain ⟨b, hb, hc⟩ := h i s hs
  cases hb; exact hc
def strs (fs : List ByteArray) : List Value := fs.map Value.string
theorem places_any (w : World) :
    Calls Tryz.prog 96 #[] w fun e w' => ∃ g, e = .returned (.slice (some ⟨g, 0, none⟩) 6 6) ∧ w.heap.size ≤ g ∧ g < w'.heap.size ∧ (∀ k, k < 6 → w'.cell? ⟨g, k, none⟩ = some (.int .i64 (place k : Int))) ∧ Below w.heap.size w w' := by
  go_enter Tryz.func96, Tryz.ntmps96
  go_wp2
  go_ret
  refine ⟨_, rfl, Nat.le_refl _, ?_, fun k hk => ?_, (Below.refl _ _).alloc (Nat.le_refl _) _⟩
  · simp
  · have hk' : k = 0 ∨ k = 1 ∨ k = 2 ∨ k = 3 ∨ k = 4 ∨ k = 5 := by omega
    unfold World.cell?
    simp only [heap_alloc_new]
    rcases hk' with rfl | rfl | rfl | rfl | rfl | rfl <;> rfl
theorem defaults_any (w : World) :
    Calls Tryz.prog 97 #[] w fun e w' => ∃ g, e = .returned (.slice (some ⟨g, 0, none⟩) 6 6) ∧ w.heap.size ≤ g ∧ g < w'.heap.size ∧ (∀ k, k < 6 → w'.cell? ⟨g, k, none⟩ = some (.string (dflt k))) ∧ Below w.heap.size w w' := by
  go_enter Tryz.func97, Tryz.ntmps97
  go_wp2
  go_ret
  refine ⟨_, rfl, Nat.le_refl _, ?_, fun k hk => ?_, (Below.refl _ _).alloc (Nat.le_refl _) _⟩
  · simp
  · have hk' : k = 0 ∨ k = 1 ∨ k = 2 ∨ k = 3 ∨ k = 4 ∨ k = 5 := by omega
    unfold World.cell?
    simp only [heap_alloc_new]
    rcases hk' with rfl | rfl | rfl | rfl | rfl | rfl <;> rfl
end Go.Proofs.YtmnjmhlodbifjaaGreatDoor.FillA
namespace Go.Proofs.YtmnjmhlodbifjaaGreatDoor.FillSpec
open Go Go.RowKit Go.Proofs.YtmnjmhlodbifjaaGreatDoor.Mem Go.Proofs.YtmnjmhlodbifjaaGreatDoor.FillPure Go.Proofs.YtmnjmhlodbifjaaGreatDoor.FillA
set_option linter.unusedVariables false
end Go.Proofs.YtmnjmhlodbifjaaGreatDoor.FillSpec
namespace Go.Proofs.YtmnjmhlodbifjaaGreatDoor.Norm
open Go Go.RowKit Go.Proofs.YtmnjmhlodbifjaaGreatDoor.Mem Go.Proofs.YtmnjmhlodbifjaaGreatDoor.FillPure Go.Proofs.YtmnjmhlodbifjaaGreatDoor.FillA Go.Proofs.YtmnjmhlodbifjaaGreatDoor.FillSpec
set_option linter.unusedVariables false
theorem errorsNew_any (s : ByteArray) (w : World) :
    Calls Tryz.prog 53 #[.string s] w fun e w' => (∃ T p, e = .returned (.iface T p)) ∧ Below w.heap.size w w' := by
  go_enter Tryz.func53, Tryz.ntmps53
  go_wp2
  go_ret
  exact ⟨⟨_, _, rfl⟩, (Below.refl _ _).alloc (Nat.le_refl _) _⟩
def NormRes (r : Option (List ByteArray)) (B : Nat) (e : Ending) (w' : World) : Prop :=
  match r with
  | some L => ∃ g, e = .returned (.tuple #[.slice (some ⟨g, 0, none⟩) 6 6, .nilIface]) ∧ B ≤ g ∧ RowAt w' g (fun k => L.getD k ⟨#[]⟩)
  | none => ∃ T p, e = .returned (.tuple #[.slice none 0 0, .iface T p])
def opt1 (o : Int) : Int := if sec o then Go.bits .or .i64 o 1 else o
def num1 (o : Int) : Nat := if sec o then 1 else 0
def num2 (o : Int) : Nat := num1 o + if dow o then 1 else 0
theorem texts_of {w : World} {B g n cap : Nat} {fs : List ByteArray} (h : w.ownsRow B 9 1 (.slice (some ⟨g, 0, none⟩) n cap) n (strs fs)) : Texts w (some ⟨g, 0, none⟩) fs := by
  intro i s hs
  exact ⟨_, rfl, World.ownsRow.cells h (g := g) rfl i (.string s) (by simp [strs, hs])⟩
theorem owned_shape {w : World} {B n : Nat} {v : Value} {xs : List Value} (h : w.ownsRow B 9 1 v n xs) (hn : 0 < n) : ∃ g cap, v = .slice (some ⟨g, 0, none⟩) n cap ∧ g < w.heap.size := by
  rcases h.2 with ⟨_, h0⟩ | ⟨g, cap, cur, rfl, hb, hg, hle, hm, hcur, htake⟩
  · omega
  · exact ⟨g, cap, rfl, (Array.getElem?_eq_some_iff.1 hg).1⟩
theorem owns_below {w w' : World} {B g n cap : Nat} {xs : List Value} (h : w.ownsRow B 9 1 (.slice (some ⟨g, 0, none⟩) n cap) n xs) (hb : Below w.heap.size w w') : w'.ownsRow B 9 1 (.slice (some ⟨g, 0, none⟩) n cap) n xs := by
  refine ⟨h.1, ?_⟩
  rcases h.2 with ⟨h0, _⟩ | ⟨g', cap', cur, he, hb', hg, hle, hm, hcur, htake⟩
  · cases h0
  · exact .inr ⟨g', cap', cur, he, hb', (hb.block g' (Array.getElem?_eq_some_iff.1 hg).1).trans hg, hle, hm, hcur, htake⟩
theorem one_owned (w : World) (B : Nat) (x : ByteArray) (hB : B ≤ w.heap.size) : (w.alloc (.cells #[.string x] 9)).ownsRow B 9 1 (.slice (some ⟨w.heap.size, 0, none⟩) 1 1) 1 [.string x] :=
  ⟨rfl, .inr ⟨_, 1, _, rfl, hB, heap_alloc_new w _, Nat.le_refl _, by unfold maxLen; omega, rfl, rfl⟩⟩
theorem one_cell (w : World) (e : TypeId) (a : Value) : ∀ j u, [a][j]? = some u → (w.alloc (.cells #[a] e)).cell? ((⟨w.heap.size, 0, none⟩ : Addr).add j) = some u := by
  intro j u h
  have hh : (w.alloc (.cells #[a] e)).heap[w.heap.size]? = some (.cells #[a] e) := heap_alloc_new w _
  match j, h with
  | 0, h => simp at h; subst h; unfold World.cell?; simp only [Addr.add_lit, hh]; rfl
  | n + 1, h => simp at h
theorem strs_one (fs : List ByteArray) : ∀ u ∈ strs fs, u.oneCell' = true := by
  intro u hu
  obtain ⟨s, _, rfl⟩ := List.mem_map.1 hu
  rfl
theorem num2_zero {o : Int} (h : num2 o = 0) : sec o = false ∧ dow o = false := by
  unfold num2 num1 at h
  cases hs : sec o <;> cases hd : dow o <;> simp [hs, hd] at h ⊢
theorem num2_one {o : Int} (h : num2 o = 1) : (sec o = true ∧ dow o = false) ∨ (sec o = false ∧ dow o = true) := by
  unfold num2 num1 at h
  cases hs : sec o <;> cases hd : dow o <;> simp [hs, hd] at h ⊢
theorem fill_full {o : Int} {fs : List ByteArray} (hb : (sec o && dow o) = false) (h : fs.length = cnt (takes o) 6) : fillOf o fs = some (filled (takes o) fs) := by
  unfold fillOf missOf
  rw [hb, if_neg (by simp), if_pos h, Option.map_some]
  congr 1
  refine filled_congr fun k hk => ?_
  unfold without
  rw [decide_eq_true (by omega), Bool.and_true]
theorem fill_last {o : Int} {fs : List ByteArray} (hb : (sec o && dow o) = false) (hd : dow o = true) (ht : takes o 5 = true) (h : fs.length + 1 = cnt (takes o) 6) : fillOf o fs = some (filled (takes o) (fs ++ [⟨#[42]⟩])) := by
  have hs : sec o = false := by rw [hd, Bool.and_true] at hb; exact hb
  unfold fillOf missOf
  rw [hb, if_neg (by simp), if_neg (by omega), if_neg (by simp [hs]), if_pos ⟨hd, h⟩, Option.map_some]
  congr 1
  refine (filled_last (fun k hk => ?_) ht ?_ h).symm
  · unfold without; rw [decide_eq_true (by omega), Bool.and_true]
  · unfold without; simp
theorem fill_first {o : Int} {fs : List ByteArray} (hb : (sec o && dow o) = false) (hs : sec o = true) (ht : takes o 0 = true) (h : fs.length + 1 = cnt (takes o) 6) : fillOf o fs = some (filled (takes o) (⟨#[48]⟩ :: fs)) := by
  unfold fillOf missOf
  rw [hb, if_neg (by simp), if_neg (by omega), if_pos ⟨hs, h⟩, Option.map_some]
  congr 1
  refine (filled_first (fun k hk _ => ?_) ht ?_).symm
  · unfold without; rw [decide_eq_true (by omega), Bool.and_true]
  · unfold without; simp
theorem fill_none {o : Int} {fs : List ByteArray} (h : fs.length + num2 o < cnt (takes o) 6 ∨ cnt (takes o) 6 < fs.length) : fillOf o fs = none := by
  unfold fillOf missOf
  cases hb : (sec o && dow o) with
  | true => rfl
  | false =>
    have hn : num2 o ≤ 2 := by unfold num2 num1; split <;> split <;> omega
    rw [if_neg (by simp), if_neg (by omega), if_neg, if_neg]
    · rfl
    · rintro ⟨hd, e⟩
      have : num2 o = 0 ∨ 1 ≤ num2 o := by omega
      rcases this with h0 | h1
      · have := (num2_zero h0).2; rw [hd] at this; cases this
      · omega
    · rintro ⟨hd, e⟩
      have : num2 o = 0 ∨ 1 ≤ num2 o := by omega
      rcases this with h0 | h1
      · have := (num2_zero h0).1; rw [hd] at this; cases this
      · omega
theorem more_eq (o : Int) : more o = if dow o then Go.bits .or .i64 (opt1 o) 64 else opt1 o := rfl
theorem cell_other {w : World} {b j : Nat} (p : Addr) (u : Value) (h : b ≠ p.block) : (w.setCell p u).cell? ⟨b, j, none⟩ = w.cell? ⟨b, j, none⟩ := by
  unfold World.cell?
  rw [show (w.setCell p u).heap[b]? = w.heap[b]? from heap_setCell_other w p b u h]
theorem add0 (g n : Nat) : (⟨g, 0, none⟩ : Addr).add n = ⟨g, n, none⟩ := by unfold Addr.add; split <;> simp_all
def defs : List Value := [.string (dflt 0), .string (dflt 1), .string (dflt 2), .string (dflt 3), .string (dflt 4), .string (dflt 5)]
theorem copied : (((strArr fun _ => ⟨#[]⟩).toList.take 0 ++ (defs ++ (strArr fun _ => ⟨#[]⟩).toList.drop (0 + defs.length))).toArray) = strArr dflt := by
  apply Array.ext
  · simp [strArr, defs]
  · intro i h1 h2
    have h6 : i < 6 := by rw [strArr_size] at h2; exact h2
    have hi : i = 0 ∨ i = 1 ∨ i = 2 ∨ i = 3 ∨ i = 4 ∨ i = 5 := by omega
    rcases hi with rfl | rfl | rfl | rfl | rfl | rfl <;> simp [strArr, defs]
theorem defs_at (w : World) (gd : Nat) (h : ∀ k, k < 6 → w.cell? ⟨gd, k, none⟩ = some (.string (dflt k))) : ∀ j v, defs[j]? = some v → w.cell? ((⟨gd, 0, none⟩ : Addr).add j) = some v := by
  intro j v hj
  have h6 : j < 6 := (List.getElem?_eq_some_iff.1 hj).1
  have e : ((⟨gd, 0, none⟩ : Addr).add j) = ⟨gd, j, none⟩ := by unfold Addr.add; split <;> simp_all
  rw [e, h j h6]
  have hi : j = 0 ∨ j = 1 ∨ j = 2 ∨ j = 3 ∨ j = 4 ∨ j = 5 := by omega
  rcases hi with rfl | rfl | rfl | rfl | rfl | rfl <;> simpa [defs] using hj
theorem wpList_copy6 {ops : Array Oper} {rest : List Oper} {o : Oper} {a : Act} {w : World} {Q : Exit → Act → World → Prop} (hg : o.guard = none) (d s : Operand)
    (ho : o.op = .call { callee := .builtin .copy, args := #[d, s], argTypes := #[114, 114] }) (g gd : Nat) (hd : a.eval d = .slice (some ⟨g, 0, none⟩) 6 6) (hs : a.eval s = .slice (some ⟨gd, 0, none⟩) 6 6)
    (hr : RowAt w g fun _ => ⟨#[]⟩) (hc : ∀ k, k < 6 → w.cell? ⟨gd, k, none⟩ = some (.string (dflt k)))
    (h : wpList Tryz.prog ops Q rest (a.put o.dst (goInt 6)) (w.setRow g (strArr dflt))) : wpList Tryz.prog ops Q (o :: rest) a w := by
  obtain ⟨i, hi, hz, hsz, hb⟩ := info_parts infoStr
  refine wpList_copy_own hg d s 114 114 ho 9 Tryz.underlying114 (by rw [hi]; simp [hsz]) g 0 6 6 ⟨gd, 0, none⟩ 6 6 hd hs (strArr fun _ => ⟨#[]⟩) 9 hr defs rfl (defs_at w gd hc) (by rw [strArr_size]; decide) (by intro v hv; simp [defs] at hv; rcases hv with rfl | rfl | rfl | rfl | rfl | rfl <;> rfl) ?_
  rw [copied]
  exact h
def overD (t : Nat → Bool) (fs : List ByteArray) (k j : Nat) : ByteArray := if j < k then at' t fs j else dflt j
theorem overD_next (t : Nat → Bool) (fs : List ByteArray) (k : Nat) : upd (overD t fs k) k (at' t fs k) = overD t fs (k + 1) := by
  funext j
  unfold upd overD
  by_cases h : j = k
  · subst h; simp
  · rw [if_neg h]
    by_cases h2 : j < k
    · rw [if_pos h2, if_pos (by omega)]
    · rw [if_neg h2, if_neg (by omega)]
theorem overD_skip (t : Nat → Bool) (fs : List ByteArray) (k : Nat) (h : t k = false) : overD t fs k = overD t fs (k + 1) := by
  funext j
  unfold overD
  by_cases h2 : j < k
  · rw [if_pos h2, if_pos (by omega)]
  · rw [if_neg h2]
    by_cases h3 : j = k
    · subst h3; rw [if_pos (by omega)]; unfold at'; rw [h]; rfl
    · rw [if_neg (by omega)]
theorem after_copy {B : Nat} {w0 w3 w4 w5 : World} (hB : B ≤ w0.heap.size) (h3 : Below B w0 w3) (h4 : Below w3.heap.size w3 w4)
    (h5 : Below (w4.alloc (.cells (strArr fun _ => ⟨#[]⟩) 9)).heap.size (w4.alloc (.cells (strArr fun _ => ⟨#[]⟩) 9)) w5) :
    RowAt w5 w4.heap.size (fun _ => ⟨#[]⟩) ∧ RowAt (w5.setRow w4.heap.size (strArr dflt)) w4.heap.size dflt ∧ Below w3.heap.size w3 (w5.setRow w4.heap.size (strArr dflt)) := by
  have hr := (RowAt.new w4 fun _ => ⟨#[]⟩).below h5 (by simp)
  refine ⟨hr, setRow_heap w5 w4.heap.size _ _ _ (0, 0) hr, below_setRow ((h4.alloc h4.size _).trans (h5.mono (by have := h4.size; simp; omega))) h4.size _⟩
structure Near (g : Nat) (w w' : World) : Prop where
  size : w.heap.size ≤ w'.heap.size
  block : ∀ k, k < w.heap.size → k ≠ g → w'.heap[k]? = w.heap[k]?
theorem near {g : Nat} {w w' : World} (h : Below w.heap.size w w') : Near g w w' := ⟨h.size, fun k hk _ => h.block k hk⟩
theorem Near.then {g : Nat} {a b c : World} (h : Near g a b) (k : Below b.heap.size b c) : Near g a c :=
  ⟨Nat.le_trans h.size k.size, fun i hi hg => (k.block i (Nat.lt_of_lt_of_le hi h.size)).trans (h.block i hi hg)⟩
theorem near_grown {g : Nat} {w0 w2 w3 : World} {row : Option Nat} (h : Below w0.heap.size w0 w2) (hg : w2.grownBy w3 row) (hr : ∀ k, row = some k → k = g ∨ w0.heap.size ≤ k) : Near g w0 w3 :=
  ⟨Nat.le_trans h.size hg.size, fun k hk hne => (hg.block k (Nat.lt_of_lt_of_le hk h.size) (fun e => by
    rcases hr k e.symm with h1 | h1
    · exact hne h1
    · omega)).trans (h.block k hk)⟩
theorem Near.cell {g : Nat} {w w' : World} (h : Near g w w') {b j : Nat} (hb : b < w.heap.size) (hg : b ≠ g) : w'.cell? ⟨b, j, none⟩ = w.cell? ⟨b, j, none⟩ := World.cell?_of_block (w := w) (h.block b hb hg)
theorem texts_nil (w : World) : Texts w none [] := fun i s h => by simp at h
set_option maxHeartbeats 2000000 in
set_option maxRecDepth 100000 in
theorem norm_near (o : Int) (B g cap : Nat) (fs : List ByteArray) (w : World) (hm : fs.length ≤ 65536) (hown : w.ownsRow B 9 1 (.slice (some ⟨g, 0, none⟩) fs.length cap) fs.length (strs fs)) (hB : B ≤ w.heap.size)
    (hs1 : sec (more o) = sec o) (hd1 : dow (more o) = dow o) (hd2 : dow (opt1 o) = dow o) (hht : ∀ k, k < 6 → hit (more o) k = takes o k)
    (hsec : sec o = true → takes o 0 = true) (hdow : dow o = true → takes o 5 = true) :
    Calls Tryz.prog 60 #[.slice (some ⟨g, 0, none⟩) fs.length cap, .int .i64 o] w fun e w' => NormRes (fillOf o fs) B e w' ∧ Below B w w' ∧ Near g w w' := by
  have hT6 := cnt_le (takes o) 6
  have HOWN := Lib.hid hown
  have hgw : g < w.heap.size := by
    rcases hown.2 with ⟨h0, _⟩ | ⟨g', cap', cur, he, hb, hg, hle, hm, hcur, htake⟩
    · cases h0
    · cases he; exact (Array.getElem?_eq_some_iff.1 hg).1
  clear hown
  go_enter Tryz.func60, Tryz.ntmps60
  go_upto_if 18 with fail
  go_cut [1, 6] (fun s1 s6 wx => s1 = .int .i64 (opt1 o) ∧ s6 = .int .i64 (num1 o : Int) ∧ wx = w)
  case first =>
    have hq : decide (0 < Go.bits .and .i64 o 2) = sec o := rfl
    cases hs : sec o with
    | true =>
      rw [hs] at hq
      have hq := of_decide_eq_true hq
      have e1 : Hid (opt1 o = Go.bits .or .i64 o 1 ∧ num1 o = 1) := Lib.hid ⟨by unfold opt1; rw [hs]; rfl, by unfold num1; rw [hs]; rfl⟩
      clear hs
      go_wp2
      go_meet
      case rel => exact ⟨by rw [e1.out.1], by rw [e1.out.2]; rfl, rfl⟩
    | false =>
      rw [hs] at hq
      have hq := of_decide_eq_false hq
      have e1 : Hid (opt1 o = o ∧ num1 o = 0) := Lib.hid ⟨by unfold opt1; rw [hs]; rfl, by unfold num1; rw [hs]; rfl⟩
      clear hs
      go_wp2
      go_meet
      case rel => exact ⟨by rw [e1.out.1], by rw [e1.out.2]; rfl, rfl⟩
  case rest =>
    obtain ⟨rfl, rfl, rfl⟩ := hcut
    have hn1 : num1 o ≤ 1 := by unfold num1; split <;> omega
    go_upto_if 25 with fail
    go_cut [1, 6] (fun s1 s6 wx => s1 = .int .i64 (more o) ∧ s6 = .int .i64 (num2 o : Int) ∧ wx = wc)
    case first =>
      have hq : decide (0 < Go.bits .and .i64 (opt1 o) 128) = dow o := hd2
      cases hs : dow o with
      | true =>
        rw [hs] at hq
        have hq := of_decide_eq_true hq
        have e1 : Hid (more o = Go.bits .or .i64 (opt1 o) 64 ∧ num2 o = num1 o + 1) := Lib.hid ⟨by rw [more_eq, hs]; rfl, by unfold num2; rw [hs]; rfl⟩
        clear hs
        go_wp2
        go_meet
        case rel => exact ⟨by rw [e1.out.1], by rw [e1.out.2]; go_num, rfl⟩
      | false =>
        rw [hs] at hq
        have hq := of_decide_eq_false hq
        have e1 : Hid (more o = opt1 o ∧ num2 o = num1 o) := Lib.hid ⟨by rw [more_eq, hs]; rfl, by unfold num2; rw [hs]; rfl⟩
        clear hs
        go_wp2
        go_meet
        case rel => exact ⟨by rw [e1.out.1], by rw [e1.out.2], rfl⟩
    case rest =>
      obtain ⟨rfl, rfl, rfl⟩ := hcut
      obtain ⟨w0, rfl⟩ : ∃ w0, w0 = wc := ⟨_, rfl⟩
      have hn2 : num2 o ≤ 2 := by unfold num2; split <;> omega
      have hfw : missOf o fs.length = if sec o && dow o then none else if fs.length = cnt (takes o) 6 then some 6 else if sec o = true ∧ fs.length + 1 = cnt (takes o) 6 then some 0 else if dow o = true ∧ fs.length + 1 = cnt (takes o) 6 then some 5 else none := rfl
      have HFW := Lib.hid hfw
      clear hfw
      by_cases hbig : 1 < num2 o
      · have HR : Hid (fillOf o fs = none) := Lib.hid (by
          have h : (sec o && dow o) = true := by
            unfold num2 num1 at hbig
            cases hs : sec o <;> cases hd : dow o <;> simp [hs, hd] at hbig ⊢
          unfold fillOf missOf; rw [if_pos h]; rfl)
        clear hs1 hd1 hd2 hht hsec hdow
        go_wp2_with (go_at_call 53; refine (errorsNew_any _ _).mono ?_; rintro e w1 ⟨⟨T, p, rfl⟩, hb1⟩)
        go_ret2
        exact ⟨by rw [HR.out]; exact ⟨_, _, rfl⟩, hb1.mono hB, near hb1⟩
      · have hnb : (sec o && dow o) = false := by
          unfold num2 num1 at hbig
          cases hs : sec o <;> cases hd : dow o <;> simp [hs, hd] at hbig ⊢
        have HNB := Lib.hid hnb
        clear hnb
        go_wp2_with (go_at_call 96; refine (places_any _).mono ?_; rintro e w1 ⟨gp, rfl, hgp, hgp2, hcp, hbp⟩; (have HCP := Lib.hid hcp); (have HBP := Lib.hid (hbp.mono hB)); (have HBP2 := Lib.hid hbp); clear hcp)
        go_loop [7, 9, 35] (fun c _ v => ∃ k : Nat, v = .int .i64 (k : Int) ∧ k ≤ 6 ∧ c = .int .i64 (cnt (takes o) k : Int)) (fun _ _ v => 6 - (intOf v).toNat)
        case atStart => exact ⟨0, rfl, Nat.zero_le _, rfl⟩
        case round =>
          obtain ⟨k, rfl, hk, rfl⟩ := hrel
          have hck := cnt_le (takes o) k
          by_cases hlt : k < 6
          · have hkc := HCP.out k hlt
            have hli : (k : Int) < 6 := by omega
            have hqq : hit (more o) k = takes o k := hht k hlt
            unfold hit at hqq
            cases htk : takes o k with
            | true =>
              rw [htk] at hqq
              have hq := of_decide_eq_true hqq
              have hcs : cnt (takes o) (k + 1) = cnt (takes o) k + 1 := by rw [cnt_succ, if_pos htk]
              clear htk hqq
              go_wp2
              go_round
              case rel => exact ⟨k + 1, by go_num, by omega, by rw [hcs]; go_num⟩
              case measure => simp [intOf]; omega
            | false =>
              rw [htk] at hqq
              have hq := of_decide_eq_false hqq
              have hcs : cnt (takes o) (k + 1) = cnt (takes o) k := by rw [cnt_succ, htk]; rfl
              clear htk hqq
              go_wp2
              go_round
              case rel => exact ⟨k + 1, by go_num, by omega, by rw [hcs]⟩
              case measure => simp [intOf]; omega
          · have hk6 : k = 6 := by omega
            subst hk6
            obtain ⟨T, hT⟩ : ∃ T, cnt (takes o) 6 = T := ⟨_, rfl⟩
            have HT := Lib.hid hT
            by_cases hbad : fs.length + num2 o < cnt (takes o) 6 ∨ cnt (takes o) 6 < fs.length
            · have HR := Lib.hid (fill_none hbad)
              rw [hT] at hbad hT6 ⊢
              obtain ⟨p, hp⟩ : ∃ p, num2 o = p := ⟨_, rfl⟩
              rw [hp] at hbad hn2 ⊢
              clear hs1 hd1 hd2 hht hsec hdow hT hp
              by_cases hp0 : p = 0
              · have hqe : ((T : Int) - (p : Int) == (T : Int)) = true := by rw [beq_iff_eq]; omega
                by_cases hlo : fs.length + p < T
                · clear hbad
                  go_wp2_with (go_at_call 53; refine (errorsNew_any _ _).mono ?_; rintro e w2 ⟨⟨T, p, rfl⟩, hb1⟩)
                  go_ret2
                  exact ⟨by rw [HR.out]; exact ⟨_, _, rfl⟩, HBP.out.trans (hb1.mono (Nat.le_trans hB HBP.out.size)), near (HBP2.out.trans (hb1.mono HBP2.out.size))⟩
                · have hhi : T < fs.length := by omega
                  clear hbad
                  go_wp2_with (go_at_call 53; refine (errorsNew_any _ _).mono ?_; rintro e w2 ⟨⟨T, p, rfl⟩, hb1⟩)
                  go_ret2
                  exact ⟨by rw [HR.out]; exact ⟨_, _, rfl⟩, HBP.out.trans (hb1.mono (Nat.le_trans hB HBP.out.size)), near (HBP2.out.trans (hb1.mono HBP2.out.size))⟩
              · have hqe : ((T : Int) - (p : Int) == (T : Int)) = false := by rw [beq_eq_false_iff_ne]; omega
                by_cases hlo : fs.length + p < T
                · clear hbad
                  go_wp2_with (go_at_call 53; refine (errorsNew_any _ _).mono ?_; rintro e w2 ⟨⟨T, p, rfl⟩, hb1⟩)
                  go_ret2
                  exact ⟨by rw [HR.out]; exact ⟨_, _, rfl⟩, HBP.out.trans (hb1.mono (Nat.le_trans hB HBP.out.size)), near (HBP2.out.trans (hb1.mono HBP2.out.size))⟩
                · have hhi : T < fs.length := by omega
                  clear hbad
                  go_wp2_with (go_at_call 53; refine (errorsNew_any _ _).mono ?_; rintro e w2 ⟨⟨T, p, rfl⟩, hb1⟩)
                  go_ret2
                  exact ⟨by rw [HR.out]; exact ⟨_, _, rfl⟩, HBP.out.trans (hb1.mono (Nat.le_trans hB HBP.out.size)), near (HBP2.out.trans (hb1.mono HBP2.out.size))⟩
            · rw [hT] at hbad hT6 hck ⊢
              obtain ⟨p, hp⟩ : ∃ p, num2 o = p := ⟨_, rfl⟩
              have HP := Lib.hid hp
              rw [hp] at hbad hbig hn2 ⊢
              have c1 : ¬ fs.length + p < T := fun h => hbad (.inl h)
              have c2 : ¬ T < fs.length := fun h => hbad (.inr h)
              clear hbad hT hp
              go_upto_region 23 with fail
              go_cut [72] (fun t wx => t = .bool (decide (p = 1 ∧ fs.length + 1 = T)) ∧ wx = w1)
              case first =>
                by_cases hp0 : p = 0
                · have e1 : Hid (decide (p = 1 ∧ fs.length + 1 = T) = false) := Lib.hid (decide_eq_false (by omega))
                  subst hp0
                  go_wp2
                  go_meet
                  case rel => exact ⟨by rw [e1.out], rfl⟩
                · by_cases hl : fs.length + 1 = T
                  · have e1 : Hid (decide (p = 1 ∧ fs.length + 1 = T) = true) := Lib.hid (decide_eq_true (by omega))
                    have hq : ((fs.length : Int) == (T : Int) - (p : Int)) = true := by rw [beq_iff_eq]; omega
                    have hq2 : (T : Int) - (p : Int) < (T : Int) := by omega
                    go_wp2
                    go_meet
                    case rel => exact ⟨by rw [e1.out], rfl⟩
                  · have e1 : Hid (decide (p = 1 ∧ fs.length + 1 = T) = false) := Lib.hid (decide_eq_false (by omega))
                    have hq : ((fs.length : Int) == (T : Int) - (p : Int)) = false := by rw [beq_eq_false_iff_ne]; omega
                    have hq2 : (T : Int) - (p : Int) < (T : Int) := by omega
                    go_wp2
                    go_meet
                    case rel => exact ⟨by rw [e1.out], rfl⟩
              case rest =>
                obtain ⟨rfl, rfl⟩ := hcut
                obtain ⟨w1, rfl⟩ : ∃ w1, w1 = wc := ⟨_, rfl⟩
                go_upto_if 72 with fail
                have HOWN1 := Lib.hid (owns_below HOWN.out HBP2.out)
                have hB1 : B ≤ w1.heap.size := Nat.le_trans hB HBP2.out.size
                have hgw1 : g < w1.heap.size := Nat.lt_of_lt_of_le hgw HBP2.out.size
                go_cut [0] (fun v wx => Hid (∃ (fs' : List ByteArray) (g' cap' : Nat), v = .slice (some ⟨g', 0, none⟩) fs'.length cap' ∧ fs'.length = T ∧ Texts wx (some ⟨g', 0, none⟩) fs' ∧ Below B w0 wx ∧ Near g w0 wx ∧ fillOf o fs = some (filled (takes o) fs')))
                case first =>
                  by_cases hb : p = 1 ∧ fs.length + 1 = T
                  · have e1 : decide (p = 1 ∧ fs.length + 1 = T) = true := decide_eq_true hb
                    rw [e1]
                    have hlen : fs.length + 1 = cnt (takes o) 6 := by rw [HT.out]; exact hb.2
                    have hsd := num2_one (by rw [HP.out]; exact hb.1)
                    have hlT := hb.2
                    obtain ⟨i0, hi, hz0, hz1, hz2⟩ := info_parts infoStr
                    clear e1 hb
                    cases hd : dow o with
                    | true =>
                      have HF := Lib.hid (fill_last HNB.out hd (hdow hd) hlen)
                      have hq : 0 < Go.bits .and .i64 (more o) 128 := of_decide_eq_true (show dow (more o) = true by rw [hd1]; exact hd)
                      clear hd hsd hlen hs1 hd1 hd2 hht hsec hdow
                      go_wp2_with (first
                        | (go_at_call 97; refine (defaults_any _).mono ?_; rintro e w2 ⟨gd, rfl, hgd, hgd2, hcd, hbd⟩; (have hcd5 := hcd 5 (by omega)); (have HOWN2 := Lib.hid (owns_below HOWN1.out hbd)); (have hB2 : B ≤ w2.heap.size := Nat.le_trans hB1 hbd.size))
                        | (at_builtin; refine wpList_append_own _ rfl (.tmp 78) (.tmp 82) 114 rfl B 9 i0 (.string ⟨#[]⟩) 1 16 Tryz.underlying114 hi hz0 hz1 hz2 rfl (by decide) _ _ _ rfl (HOWN2.out.alloc _) ⟨w2.heap.size, 0, none⟩ 1 1 [.string (dflt 5)] rfl rfl (one_cell _ _ _) (by simp [Value.oneCell']) (by unfold maxLen; omega) (by omega) (by simp; omega) ?_; intro v' w3 hown3 hgrow3 _))
                      have hb3 : Below B w0 w3 := ((HBP.out.trans (hbd.mono hB1)).alloc hB2 _).grown hgrow3 (by simp; omega) (fun j hj => (HOWN2.out.lt j hj).1)
                      have hnr : Near g w0 w3 := (near_grown (HBP2.out.trans ((hbd.mono HBP2.out.size).trans (((Below.refl _ w2).alloc (Nat.le_refl _) _).mono (Nat.le_trans HBP2.out.size hbd.size)))) hgrow3 (fun k hk => .inl (by cases hk; rfl)))
                      have e3 : strs fs ++ [Value.string (dflt 5)] = strs (fs ++ [⟨#[42]⟩]) := by simp [strs, dflt]
                      rw [e3] at hown3
                      obtain ⟨g3, cap3, rfl, hg3⟩ := owned_shape hown3 (by omega)
                      have HT3 := Lib.hid (texts_of hown3)
                      clear hown3 hgrow3
                      go_meet
                      case rel => exact Lib.hid ⟨fs ++ [⟨#[42]⟩], g3, cap3, by simp, by simp; omega, HT3.out, hb3, hnr, HF.out⟩
                    | false =>
                      have hs : sec o = true := by
                        rcases hsd with h | h
                        · exact h.1
                        · rw [hd] at h; cases h.2
                      have HF := Lib.hid (fill_first HNB.out hs (hsec hs) hlen)
                      have hq : ¬ 0 < Go.bits .and .i64 (more o) 128 := of_decide_eq_false (show dow (more o) = false by rw [hd1]; exact hd)
                      have hq2 : 0 < Go.bits .and .i64 (more o) 2 := of_decide_eq_true (show sec (more o) = true by rw [hs1]; exact hs)
                      clear hd hs hsd hlen hs1 hd1 hd2 hht hsec hdow
                      go_wp2_with (first
                        | (go_at_call 97; refine (defaults_any _).mono ?_; rintro e w2 ⟨gd, rfl, hgd, hgd2, hcd, hbd⟩; (have hcd0 := hcd 0 (by omega)); (have HOWN2 := Lib.hid (owns_below HOWN1.out hbd)); (have hB2 : B ≤ w2.heap.size := Nat.le_trans hB1 hbd.size))
                        | (at_builtin; refine wpList_append_own _ rfl (.tmp 91) (.tmp 92) 114 rfl B 9 i0 (.string ⟨#[]⟩) 1 16 Tryz.underlying114 hi hz0 hz1 hz2 rfl (by decide) _ _ _ rfl (one_owned w2 B (dflt 0) hB2) ⟨g, 0, none⟩ fs.length cap (strs fs) rfl (by simp [strs]) (fun j u hu => World.ownsRow.cells (HOWN2.out.alloc _) (g := g) rfl j u hu) (strs_one fs) (by unfold maxLen; omega) (by omega) (by simp; omega) ?_; intro v' w3 hown3 hgrow3 _))
                      have hb3 : Below B w0 w3 := ((HBP.out.trans (hbd.mono hB1)).alloc hB2 _).grown hgrow3 (by simp; omega) (fun j hj => ((one_owned w2 B (dflt 0) hB2).lt j hj).1)
                      have hnr : Near g w0 w3 := (near_grown (HBP2.out.trans ((hbd.mono HBP2.out.size).trans (((Below.refl _ w2).alloc (Nat.le_refl _) _).mono (Nat.le_trans HBP2.out.size hbd.size)))) hgrow3 (fun k hk => .inr (by cases hk; exact Nat.le_trans HBP2.out.size hbd.size)))
                      have e3 : [Value.string (dflt 0)] ++ strs fs = strs (⟨#[48]⟩ :: fs) := by simp [strs, dflt]
                      rw [e3] at hown3
                      obtain ⟨g3, cap3, rfl, hg3⟩ := owned_shape hown3 (by omega)
                      have HT3 := Lib.hid (texts_of hown3)
                      clear hown3 hgrow3
                      go_meet
                      case rel => exact Lib.hid ⟨⟨#[48]⟩ :: fs, g3, cap3, by simp; omega, by simp; omega, HT3.out, hb3, hnr, HF.out⟩
                  · have e1 : decide (p = 1 ∧ fs.length + 1 = T) = false := decide_eq_false hb
                    rw [e1]
                    have HlT : Hid (fs.length = T) := Lib.hid (by omega)
                    have HF := Lib.hid (fill_full HNB.out (by rw [HT.out]; exact HlT.out))
                    clear e1 hb
                    go_wp2
                    go_meet
                    case rel => exact Lib.hid ⟨fs, g, cap, rfl, HlT.out, texts_of HOWN1.out, HBP.out, near HBP2.out, HF.out⟩
                case rest =>
                  obtain ⟨fs', g', cap', rfl, hfl, hTx, hbel, hnr, hFo⟩ := hcut.out
                  have HNR := Lib.hid hnr
                  obtain ⟨w3, rfl⟩ : ∃ w3, w3 = wc := ⟨_, rfl⟩
                  have HTX := Lib.hid hTx
                  have HB3 := Lib.hid hbel
                  have HFO := Lib.hid hFo
                  have HFL := Lib.hid hfl
                  have hB3 : B ≤ w3.heap.size := Nat.le_trans hB hbel.size
                  clear hcut hTx hbel hFo hfl hnr hsec hdow hs1 hd1 hd2 hB1
                  go_wp2_with (first
                    | (go_at_call 96; (have hx := HCOPY.out); refine (places_any _).mono ?_; rintro e w7 ⟨gq, rfl, hgq, hgq2, hcq, hbq⟩; clear hx)
                    | (go_at_call 96; refine (places_any _).mono ?_; rintro e w4 ⟨gy, rfl, hgy, hgy2, hcy, hby⟩; (have HB4 := Lib.hid hby); clear hcy)
                    | (with_reducible refine wpList_make6 rfl (.tmp 95) (.tmp 95) rfl rfl rfl ?_)
                    | (go_at_call 97; refine (defaults_any _).mono ?_; rintro e w5 ⟨gd, rfl, hgd, hgd2, hcd, hbd⟩; (have HCOPY := Lib.hid (after_copy hB HB3.out HB4.out hbd)); (have HCD := Lib.hid hcd); clear hcd)
                    | (with_reducible refine wpList_copy6 rfl (.tmp 97) (.tmp 98) rfl w4.heap.size gd rfl rfl HCOPY.out.1 HCD.out ?_))
                  obtain ⟨gE, hgE⟩ : ∃ gE : Nat, w4.heap.size = gE := ⟨_, rfl⟩
                  have hC7 := HCOPY.out.2.2.trans (hbq.mono HCOPY.out.2.2.size)
                  have hs0 : Hid (RowAt w7 gE (overD (takes o) fs' 0)) := Lib.hid (by
                    rw [← hgE]
                    exact (HCOPY.out.2.1.below hbq HCOPY.out.2.1.lt).congr fun j _ => by simp [overD])
                  have hs1 := Lib.hid hC7
                  have hs2 := Lib.hid hcq
                  have hEq : gE ≠ gq := by
                    have := HCOPY.out.2.1.lt
                    rw [hgE] at this
                    rw [hgE] at hgq
                    omega
                  have hE3 : w3.heap.size ≤ gE := by rw [← hgE]; exact HB4.out.size
                  have HHT := Lib.hid hht
                  rw [hgE]
                  clear hC7 hcq HCOPY HCD HB4 hgE hbq hgq hgq2 hbd hgd hgd2 hby hgy hgy2 hht
                  go_loopw [12, 14, 15, 102] (fun n _ _ v wr => ∃ k : Nat, v = .int .i64 (k : Int) ∧ k ≤ 6 ∧ n = .int .i64 (cnt (takes o) k : Int) ∧ Hid (RowAt wr gE (overD (takes o) fs' k)) ∧ Hid (Below w3.heap.size w3 wr) ∧ Hid (∀ k, k < 6 → wr.cell? ⟨gq, k, none⟩ = some (.int .i64 (place k : Int)))) (fun _ _ _ v _ => 6 - (intOf v).toNat)
                  case atStart => exact ⟨0, rfl, Nat.zero_le _, rfl, hs0, hs1, hs2⟩
                  case round =>
                    clear hs0 hs1 hs2
                    obtain ⟨k, rfl, hk, rfl, hs0, hs1, hs2⟩ := hrel
                    have hcl := cnt_le (takes o) k
                    by_cases hlt : k < 6
                    · have hkc := hs0.out.cell k hlt
                      have hkf := hs0.out.free k
                      have hkp := hs2.out k hlt
                      have hli : (k : Int) < 6 := by omega
                      have hqq : hit (more o) k = takes o k := HHT.out k hlt
                      unfold hit at hqq
                      cases htk : takes o k with
                      | true =>
                        rw [htk] at hqq
                        have hq := of_decide_eq_true hqq
                        have hcs : cnt (takes o) (k + 1) = cnt (takes o) k + 1 := by rw [cnt_succ, if_pos htk]
                        have hclt : cnt (takes o) k < fs'.length := by rw [HFL.out, ← HT.out]; exact cnt_lt _ hlt htk
                        have hget : fs'[cnt (takes o) k]? = some fs'[cnt (takes o) k] := List.getElem?_eq_getElem hclt
                        have hkt := (HTX.out.below hs1.out).cell hget
                        rw [add0] at hkt
                        have HAT : Hid (at' (takes o) fs' k = fs'[cnt (takes o) k]) := Lib.hid (by
                          unfold at'; rw [if_pos htk, List.getD_eq_getElem?_getD, hget]; rfl)
                        obtain ⟨x, hx⟩ : ∃ x, fs'[cnt (takes o) k] = x := ⟨_, rfl⟩
                        rw [hx] at HAT hkt
                        have HN := overD_next (takes o) fs' k
                        rw [HAT.out] at HN
                        have HN1 : Hid (RowAt (wr.setCell ⟨gE, k, none⟩ (.string x)) gE (overD (takes o) fs' (k + 1))) := Lib.hid (by rw [← HN]; exact hs0.out.put k hlt x)
                        have HN2 : Hid (Below w3.heap.size w3 (wr.setCell ⟨gE, k, none⟩ (.string x))) := Lib.hid (hs1.out.setCell hE3 _)
                        have HN3 : Hid (∀ j, j < 6 → (wr.setCell ⟨gE, k, none⟩ (.string x)).cell? ⟨gq, j, none⟩ = some (.int .i64 (place j : Int))) := Lib.hid (fun j hj => (cell_other _ _ (fun e => hEq e.symm)).trans (hs2.out j hj))
                        clear htk hqq hget hx HAT HN
                        go_wp2
                        go_roundw
                        case rel => exact ⟨k + 1, by go_num, by omega, by rw [hcs]; go_num, HN1, HN2, HN3⟩
                        case measure => simp [intOf]; omega
                      | false =>
                        rw [htk] at hqq
                        have hq := of_decide_eq_false hqq
                        have hcs : cnt (takes o) (k + 1) = cnt (takes o) k := by rw [cnt_succ, htk]; rfl
                        have HN1 : Hid (RowAt wr gE (overD (takes o) fs' (k + 1))) := Lib.hid (by rw [← overD_skip _ _ _ htk]; exact hs0.out)
                        clear htk hqq
                        go_wp2
                        go_roundw
                        case rel => exact ⟨k + 1, by go_num, by omega, by rw [hcs], HN1, hs1, hs2⟩
                        case measure => simp [intOf]; omega
                    · have hk6 : k = 6 := by omega
                      subst hk6
                      go_wp2_with fail
                      go_ret2
                      exact ⟨by rw [HFO.out]; exact ⟨gE, rfl, Nat.le_trans hB3 hE3, hs0.out.congr fun j hj => by simp [overD, filled, hj]⟩, HB3.out.trans (hs1.out.mono hB3), HNR.out.then hs1.out⟩
set_option maxHeartbeats 2000000 in
set_option maxRecDepth 100000 in
theorem norm_nil (o : Int) (w : World)
    (hs1 : sec (more o) = sec o) (hd1 : dow (more o) = dow o) (hd2 : dow (opt1 o) = dow o) (hht : ∀ k, k < 6 → hit (more o) k = takes o k)
    (hsec : sec o = true → takes o 0 = true) (hdow : dow o = true → takes o 5 = true) :
    Calls Tryz.prog 60 #[.slice none 0 0, .int .i64 o] w fun e w' => NormRes (fillOf o []) w.heap.size e w' ∧ Below w.heap.size w w' := by
  obtain ⟨B, hBe⟩ : ∃ B, w.heap.size = B := ⟨_, rfl⟩
  have hB : B ≤ w.heap.size := by omega
  rw [hBe]
  have hT6 := cnt_le (takes o) 6
  go_enter Tryz.func60, Tryz.ntmps60
  go_upto_if 18 with fail
  go_cut [1, 6] (fun s1 s6 wx => s1 = .int .i64 (opt1 o) ∧ s6 = .int .i64 (num1 o : Int) ∧ wx = w)
  case first =>
    have hq : decide (0 < Go.bits .and .i64 o 2) = sec o := rfl
    cases hs : sec o with
    | true =>
      rw [hs] at hq
      have hq := of_decide_eq_true hq
      have e1 : Hid (opt1 o = Go.bits .or .i64 o 1 ∧ num1 o = 1) := Lib.hid ⟨by unfold opt1; rw [hs]; rfl, by unfold num1; rw [hs]; rfl⟩
      clear hs
      go_wp2
      go_meet
      case rel => exact ⟨by rw [e1.out.1], by rw [e1.out.2]; rfl, rfl⟩
    | false =>
      rw [hs] at hq
      have hq := of_decide_eq_false hq
      have e1 : Hid (opt1 o = o ∧ num1 o = 0) := Lib.hid ⟨by unfold opt1; rw [hs]; rfl, by unfold num1; rw [hs]; rfl⟩
      clear hs
      go_wp2
      go_meet
      case rel => exact ⟨by rw [e1.out.1], by rw [e1.out.2]; rfl, rfl⟩
  case rest =>
    obtain ⟨rfl, rfl, rfl⟩ := hcut
    have hn1 : num1 o ≤ 1 := by unfold num1; split <;> omega
    go_upto_if 25 with fail
    go_cut [1, 6] (fun s1 s6 wx => s1 = .int .i64 (more o) ∧ s6 = .int .i64 (num2 o : Int) ∧ wx = wc)
    case first =>
      have hq : decide (0 < Go.bits .and .i64 (opt1 o) 128) = dow o := hd2
      cases hs : dow o with
      | true =>
        rw [hs] at hq
        have hq := of_decide_eq_true hq
        have e1 : Hid (more o = Go.bits .or .i64 (opt1 o) 64 ∧ num2 o = num1 o + 1) := Lib.hid ⟨by rw [more_eq, hs]; rfl, by unfold num2; rw [hs]; rfl⟩
        clear hs
        go_wp2
        go_meet
        case rel => exact ⟨by rw [e1.out.1], by rw [e1.out.2]; go_num, rfl⟩
      | false =>
        rw [hs] at hq
        have hq := of_decide_eq_false hq
        have e1 : Hid (more o = opt1 o ∧ num2 o = num1 o) := Lib.hid ⟨by rw [more_eq, hs]; rfl, by unfold num2; rw [hs]; rfl⟩
        clear hs
        go_wp2
        go_meet
        case rel => exact ⟨by rw [e1.out.1], by rw [e1.out.2], rfl⟩
    case rest =>
      obtain ⟨rfl, rfl, rfl⟩ := hcut
      obtain ⟨w0, rfl⟩ : ∃ w0, w0 = wc := ⟨_, rfl⟩
      have hn2 : num2 o ≤ 2 := by unfold num2; split <;> omega
      have hfw : missOf o ([] : List ByteArray).length = if sec o && dow o then none else if 0 = cnt (takes o) 6 then some 6 else if sec o = true ∧ 0 + 1 = cnt (takes o) 6 then some 0 else if dow o = true ∧ 0 + 1 = cnt (takes o) 6 then some 5 else none := rfl
      have HFW := Lib.hid hfw
      clear hfw
      by_cases hbig : 1 < num2 o
      · have HR : Hid (fillOf o [] = none) := Lib.hid (by
          have h : (sec o && dow o) = true := by
            unfold num2 num1 at hbig
            cases hs : sec o <;> cases hd : dow o <;> simp [hs, hd] at hbig ⊢
          unfold fillOf missOf; rw [if_pos h]; rfl)
        clear hs1 hd1 hd2 hht hsec hdow
        go_wp2_with (go_at_call 53; refine (errorsNew_any _ _).mono ?_; rintro e w1 ⟨⟨T, p, rfl⟩, hb1⟩)
        go_ret2
        exact ⟨by rw [HR.out]; exact ⟨_, _, rfl⟩, hb1.mono hB⟩
      · have hnb : (sec o && dow o) = false := by
          unfold num2 num1 at hbig
          cases hs : sec o <;> cases hd : dow o <;> simp [hs, hd] at hbig ⊢
        have HNB := Lib.hid hnb
        clear hnb
        go_wp2_with (go_at_call 96; refine (places_any _).mono ?_; rintro e w1 ⟨gp, rfl, hgp, hgp2, hcp, hbp⟩; (have HCP := Lib.hid hcp); (have HBP := Lib.hid (hbp.mono hB)); (have HBP2 := Lib.hid hbp); clear hcp)
        go_loop [7, 9, 35] (fun c _ v => ∃ k : Nat, v = .int .i64 (k : Int) ∧ k ≤ 6 ∧ c = .int .i64 (cnt (takes o) k : Int)) (fun _ _ v => 6 - (intOf v).toNat)
        case atStart => exact ⟨0, rfl, Nat.zero_le _, rfl⟩
        case round =>
          obtain ⟨k, rfl, hk, rfl⟩ := hrel
          have hck := cnt_le (takes o) k
          by_cases hlt : k < 6
          · have hkc := HCP.out k hlt
            have hli : (k : Int) < 6 := by omega
            have hqq : hit (more o) k = takes o k := hht k hlt
            unfold hit at hqq
            cases htk : takes o k with
            | true =>
              rw [htk] at hqq
              have hq := of_decide_eq_true hqq
              have hcs : cnt (takes o) (k + 1) = cnt (takes o) k + 1 := by rw [cnt_succ, if_pos htk]
              clear htk hqq
              go_wp2
              go_round
              case rel => exact ⟨k + 1, by go_num, by omega, by rw [hcs]; go_num⟩
              case measure => simp [intOf]; omega
            | false =>
              rw [htk] at hqq
              have hq := of_decide_eq_false hqq
              have hcs : cnt (takes o) (k + 1) = cnt (takes o) k := by rw [cnt_succ, htk]; rfl
              clear htk hqq
              go_wp2
              go_round
              case rel => exact ⟨k + 1, by go_num, by omega, by rw [hcs]⟩
              case measure => simp [intOf]; omega
          · have hk6 : k = 6 := by omega
            subst hk6
            obtain ⟨T, hT⟩ : ∃ T, cnt (takes o) 6 = T := ⟨_, rfl⟩
            have HT := Lib.hid hT
            by_cases hbad : 0 + num2 o < cnt (takes o) 6 ∨ cnt (takes o) 6 < 0
            · have HR := Lib.hid (fill_none (fs := []) hbad)
              rw [hT] at hbad hT6 ⊢
              obtain ⟨p, hp⟩ : ∃ p, num2 o = p := ⟨_, rfl⟩
              rw [hp] at hbad hn2 ⊢
              clear hs1 hd1 hd2 hht hsec hdow hT hp
              by_cases hp0 : p = 0
              · have hqe : ((T : Int) - (p : Int) == (T : Int)) = true := by rw [beq_iff_eq]; omega
                by_cases hlo : 0 + p < T
                · clear hbad
                  go_wp2_with (go_at_call 53; refine (errorsNew_any _ _).mono ?_; rintro e w2 ⟨⟨T, p, rfl⟩, hb1⟩)
                  go_ret2
                  exact ⟨by rw [HR.out]; exact ⟨_, _, rfl⟩, HBP.out.trans (hb1.mono (Nat.le_trans hB HBP.out.size))⟩
                · exact absurd (show T < 0 by omega) (by omega)
              · have hqe : ((T : Int) - (p : Int) == (T : Int)) = false := by rw [beq_eq_false_iff_ne]; omega
                by_cases hlo : 0 + p < T
                · clear hbad
                  go_wp2_with (go_at_call 53; refine (errorsNew_any _ _).mono ?_; rintro e w2 ⟨⟨T, p, rfl⟩, hb1⟩)
                  go_ret2
                  exact ⟨by rw [HR.out]; exact ⟨_, _, rfl⟩, HBP.out.trans (hb1.mono (Nat.le_trans hB HBP.out.size))⟩
                · exact absurd (show T < 0 by omega) (by omega)
            · rw [hT] at hbad hT6 hck ⊢
              obtain ⟨p, hp⟩ : ∃ p, num2 o = p := ⟨_, rfl⟩
              have HP := Lib.hid hp
              rw [hp] at hbad hbig hn2 ⊢
              have c1 : ¬ 0 + p < T := fun h => hbad (.inl h)
              have c2 : ¬ T < 0 := fun h => hbad (.inr h)
              clear hbad hT hp
              go_upto_region 23 with fail
              go_cut [72] (fun t wx => t = .bool (decide (p = 1 ∧ 0 + 1 = T)) ∧ wx = w1)
              case first =>
                by_cases hp0 : p = 0
                · have e1 : Hid (decide (p = 1 ∧ 0 + 1 = T) = false) := Lib.hid (decide_eq_false (by omega))
                  subst hp0
                  go_wp2
                  go_meet
                  case rel => exact ⟨by rw [e1.out], rfl⟩
                · by_cases hl : 0 + 1 = T
                  · have e1 : Hid (decide (p = 1 ∧ 0 + 1 = T) = true) := Lib.hid (decide_eq_true (by omega))
                    have hq : ((0 : Int) == (T : Int) - (p : Int)) = true := by rw [beq_iff_eq]; omega
                    have hq2 : (T : Int) - (p : Int) < (T : Int) := by omega
                    go_wp2
                    go_meet
                    case rel => exact ⟨by rw [e1.out], rfl⟩
                  · have e1 : Hid (decide (p = 1 ∧ 0 + 1 = T) = false) := Lib.hid (decide_eq_false (by omega))
                    have hq : ((0 : Int) == (T : Int) - (p : Int)) = false := by rw [beq_eq_false_iff_ne]; omega
                    have hq2 : (T : Int) - (p : Int) < (T : Int) := by omega
                    go_wp2
                    go_meet
                    case rel => exact ⟨by rw [e1.out], rfl⟩
              case rest =>
                obtain ⟨rfl, rfl⟩ := hcut
                obtain ⟨w1, rfl⟩ : ∃ w1, w1 = wc := ⟨_, rfl⟩
                go_upto_if 72 with fail
                have HOWN1 := Lib.hid (World.ownsRow_nil w1 B 9 1)
                have hB1 : B ≤ w1.heap.size := Nat.le_trans hB HBP2.out.size
                go_cut [0] (fun v wx => Hid (∃ (fs' : List ByteArray) (oa' : Option Addr) (cap' : Nat), v = .slice oa' fs'.length cap' ∧ fs'.length = T ∧ Texts wx oa' fs' ∧ Below B w0 wx ∧ fillOf o [] = some (filled (takes o) fs') ∧ ∀ a, oa' = some a → ∃ g', a = ⟨g', 0, none⟩))
                case first =>
                  by_cases hb : p = 1 ∧ 0 + 1 = T
                  · have e1 : decide (p = 1 ∧ 0 + 1 = T) = true := decide_eq_true hb
                    rw [e1]
                    have hlen : 0 + 1 = cnt (takes o) 6 := by rw [HT.out]; exact hb.2
                    have hsd := num2_one (by rw [HP.out]; exact hb.1)
                    have hlT := hb.2
                    obtain ⟨i0, hi, hz0, hz1, hz2⟩ := info_parts infoStr
                    clear e1 hb
                    cases hd : dow o with
                    | true =>
                      have HF := Lib.hid (fill_last (fs := []) HNB.out hd (hdow hd) hlen)
                      have hq : 0 < Go.bits .and .i64 (more o) 128 := of_decide_eq_true (show dow (more o) = true by rw [hd1]; exact hd)
                      clear hd hsd hlen hs1 hd1 hd2 hht hsec hdow
                      go_wp2_with (first
                        | (go_at_call 97; refine (defaults_any _).mono ?_; rintro e w2 ⟨gd, rfl, hgd, hgd2, hcd, hbd⟩; (have hcd5 := hcd 5 (by omega)); (have HOWN2 := Lib.hid (World.ownsRow_nil w2 B 9 1)); (have hB2 : B ≤ w2.heap.size := Nat.le_trans hB1 hbd.size))
                        | (at_builtin; refine wpList_append_own _ rfl (.tmp 78) (.tmp 82) 114 rfl B 9 i0 (.string ⟨#[]⟩) 1 16 Tryz.underlying114 hi hz0 hz1 hz2 rfl (by decide) _ _ _ rfl (World.ownsRow_nil _ B 9 1) ⟨w2.heap.size, 0, none⟩ 1 1 [.string (dflt 5)] rfl rfl (one_cell _ _ _) (by simp [Value.oneCell']) (by unfold maxLen; omega) (by omega) (by simp; omega) ?_; intro v' w3 hown3 hgrow3 _))
                      have hb3 : Below B w0 w3 := ((HBP.out.trans (hbd.mono hB1)).alloc hB2 _).grown hgrow3 (by simp; omega) (fun j hj => (by cases hj))
                      have e3 : [] ++ [Value.string (dflt 5)] = strs [⟨#[42]⟩] := by simp [strs, dflt]
                      rw [e3] at hown3
                      obtain ⟨g3, cap3, rfl, hg3⟩ := owned_shape hown3 (by omega)
                      have HT3 := Lib.hid (texts_of hown3)
                      clear hown3 hgrow3
                      go_meet
                      case rel => exact Lib.hid ⟨[⟨#[42]⟩], some ⟨g3, 0, none⟩, cap3, by simp, by simp; omega, HT3.out, hb3, HF.out, fun a h => by cases h; exact ⟨_, rfl⟩⟩
                    | false =>
                      have hs : sec o = true := by
                        rcases hsd with h | h
                        · exact h.1
                        · rw [hd] at h; cases h.2
                      have HF := Lib.hid (fill_first (fs := []) HNB.out hs (hsec hs) hlen)
                      have hq : ¬ 0 < Go.bits .and .i64 (more o) 128 := of_decide_eq_false (show dow (more o) = false by rw [hd1]; exact hd)
                      have hq2 : 0 < Go.bits .and .i64 (more o) 2 := of_decide_eq_true (show sec (more o) = true by rw [hs1]; exact hs)
                      clear hd hs hsd hlen hs1 hd1 hd2 hht hsec hdow
                      go_wp2_with (first
                        | (go_at_call 97; refine (defaults_any _).mono ?_; rintro e w2 ⟨gd, rfl, hgd, hgd2, hcd, hbd⟩; (have hcd0 := hcd 0 (by omega)); (have HOWN2 := Lib.hid (World.ownsRow_nil w2 B 9 1)); (have hB2 : B ≤ w2.heap.size := Nat.le_trans hB1 hbd.size))
                        | (at_builtin; refine wpList_append_own_none rfl (.tmp 91) (.tmp 92) 114 rfl B 9 i0 1 Tryz.underlying114 hi _ _ _ rfl (one_owned w2 B (dflt 0) hB2) rfl ?_))
                      have hb3 : Below B w0 (w2.alloc (.cells #[.string (dflt 0)] 9)) := (HBP.out.trans (hbd.mono hB1)).alloc hB2 _
                      have HT3 := Lib.hid (texts_of (fs := [⟨#[48]⟩]) (one_owned w2 B (dflt 0) hB2))
                      go_meet
                      case rel => exact Lib.hid ⟨[⟨#[48]⟩], some ⟨w2.heap.size, 0, none⟩, 1, rfl, by simp; omega, HT3.out, hb3, HF.out, fun a h => by cases h; exact ⟨_, rfl⟩⟩
                  · have e1 : decide (p = 1 ∧ 0 + 1 = T) = false := decide_eq_false hb
                    rw [e1]
                    have HlT : Hid (0 = T) := Lib.hid (by omega)
                    have HF := Lib.hid (fill_full (fs := []) HNB.out (by rw [HT.out]; exact HlT.out))
                    clear e1 hb
                    go_wp2
                    go_meet
                    case rel => exact Lib.hid ⟨[], none, 0, rfl, HlT.out, texts_nil _, HBP.out, HF.out, fun a h => by cases h⟩
                case rest =>
                  obtain ⟨fs', oa', cap', rfl, hfl, hTx, hbel, hFo, hoa⟩ := hcut.out
                  have HOA := Lib.hid hoa
                  obtain ⟨w3, rfl⟩ : ∃ w3, w3 = wc := ⟨_, rfl⟩
                  have HTX := Lib.hid hTx
                  have HB3 := Lib.hid hbel
                  have HFO := Lib.hid hFo
                  have HFL := Lib.hid hfl
                  have hB3 : B ≤ w3.heap.size := Nat.le_trans hB hbel.size
                  clear hcut hTx hbel hFo hfl hoa hsec hdow hs1 hd1 hd2 hB1
                  go_wp2_with (first
                    | (go_at_call 96; (have hx := HCOPY.out); refine (places_any _).mono ?_; rintro e w7 ⟨gq, rfl, hgq, hgq2, hcq, hbq⟩; clear hx)
                    | (go_at_call 96; refine (places_any _).mono ?_; rintro e w4 ⟨gy, rfl, hgy, hgy2, hcy, hby⟩; (have HB4 := Lib.hid hby); clear hcy)
                    | (with_reducible refine wpList_make6 rfl (.tmp 95) (.tmp 95) rfl rfl rfl ?_)
                    | (go_at_call 97; refine (defaults_any _).mono ?_; rintro e w5 ⟨gd, rfl, hgd, hgd2, hcd, hbd⟩; (have HCOPY := Lib.hid (after_copy hB HB3.out HB4.out hbd)); (have HCD := Lib.hid hcd); clear hcd)
                    | (with_reducible refine wpList_copy6 rfl (.tmp 97) (.tmp 98) rfl w4.heap.size gd rfl rfl HCOPY.out.1 HCD.out ?_))
                  obtain ⟨gE, hgE⟩ : ∃ gE : Nat, w4.heap.size = gE := ⟨_, rfl⟩
                  have hC7 := HCOPY.out.2.2.trans (hbq.mono HCOPY.out.2.2.size)
                  have hs0 : Hid (RowAt w7 gE (overD (takes o) fs' 0)) := Lib.hid (by
                    rw [← hgE]
                    exact (HCOPY.out.2.1.below hbq HCOPY.out.2.1.lt).congr fun j _ => by simp [overD])
                  have hs1 := Lib.hid hC7
                  have hs2 := Lib.hid hcq
                  have hEq : gE ≠ gq := by
                    have := HCOPY.out.2.1.lt
                    rw [hgE] at this
                    rw [hgE] at hgq
                    omega
                  have hE3 : w3.heap.size ≤ gE := by rw [← hgE]; exact HB4.out.size
                  have HHT := Lib.hid hht
                  rw [hgE]
                  clear hC7 hcq HCOPY HCD HB4 hgE hbq hgq hgq2 hbd hgd hgd2 hby hgy hgy2 hht
                  go_loopw [12, 14, 15, 102] (fun n _ _ v wr => ∃ k : Nat, v = .int .i64 (k : Int) ∧ k ≤ 6 ∧ n = .int .i64 (cnt (takes o) k : Int) ∧ Hid (RowAt wr gE (overD (takes o) fs' k)) ∧ Hid (Below w3.heap.size w3 wr) ∧ Hid (∀ k, k < 6 → wr.cell? ⟨gq, k, none⟩ = some (.int .i64 (place k : Int)))) (fun _ _ _ v _ => 6 - (intOf v).toNat)
                  case atStart => exact ⟨0, rfl, Nat.zero_le _, rfl, hs0, hs1, hs2⟩
                  case round =>
                    clear hs0 hs1 hs2
                    obtain ⟨k, rfl, hk, rfl, hs0, hs1, hs2⟩ := hrel
                    have hcl := cnt_le (takes o) k
                    by_cases hlt : k < 6
                    · have hkc := hs0.out.cell k hlt
                      have hkf := hs0.out.free k
                      have hkp := hs2.out k hlt
                      have hli : (k : Int) < 6 := by omega
                      have hqq : hit (more o) k = takes o k := HHT.out k hlt
                      unfold hit at hqq
                      cases htk : takes o k with
                      | true =>
                        rw [htk] at hqq
                        have hq := of_decide_eq_true hqq
                        have hcs : cnt (takes o) (k + 1) = cnt (takes o) k + 1 := by rw [cnt_succ, if_pos htk]
                        have hclt : cnt (takes o) k < fs'.length := by rw [HFL.out, ← HT.out]; exact cnt_lt _ hlt htk
                        have hget : fs'[cnt (takes o) k]? = some fs'[cnt (takes o) k] := List.getElem?_eq_getElem hclt
                        obtain ⟨a0, ha0, hkt⟩ := (HTX.out.below hs1.out) _ _ hget
                        obtain ⟨g', rfl⟩ := HOA.out a0 ha0
                        subst ha0
                        rw [add0] at hkt
                        have HAT : Hid (at' (takes o) fs' k = fs'[cnt (takes o) k]) := Lib.hid (by
                          unfold at'; rw [if_pos htk, List.getD_eq_getElem?_getD, hget]; rfl)
                        obtain ⟨x, hx⟩ : ∃ x, fs'[cnt (takes o) k] = x := ⟨_, rfl⟩
                        rw [hx] at HAT hkt
                        have HN := overD_next (takes o) fs' k
                        rw [HAT.out] at HN
                        have HN1 : Hid (RowAt (wr.setCell ⟨gE, k, none⟩ (.string x)) gE (overD (takes o) fs' (k + 1))) := Lib.hid (by rw [← HN]; exact hs0.out.put k hlt x)
                        have HN2 : Hid (Below w3.heap.size w3 (wr.setCell ⟨gE, k, none⟩ (.string x))) := Lib.hid (hs1.out.setCell hE3 _)
                        have HN3 : Hid (∀ j, j < 6 → (wr.setCell ⟨gE, k, none⟩ (.string x)).cell? ⟨gq, j, none⟩ = some (.int .i64 (place j : Int))) := Lib.hid (fun j hj => (cell_other _ _ (fun e => hEq e.symm)).trans (hs2.out j hj))
                        clear htk hqq hget hx HAT HN
                        go_wp2
                        go_roundw
                        case rel => exact ⟨k + 1, by go_num, by omega, by rw [hcs]; go_num, HN1, HN2, HN3⟩
                        case measure => simp [intOf]; omega
                      | false =>
                        rw [htk] at hqq
                        have hq := of_decide_eq_false hqq
                        have hcs : cnt (takes o) (k + 1) = cnt (takes o) k := by rw [cnt_succ, htk]; rfl
                        have HN1 : Hid (RowAt wr gE (overD (takes o) fs' (k + 1))) := Lib.hid (by rw [← overD_skip _ _ _ htk]; exact hs0.out)
                        clear htk hqq
                        go_wp2
                        go_roundw
                        case rel => exact ⟨k + 1, by go_num, by omega, by rw [hcs], HN1, hs1, hs2⟩
                        case measure => simp [intOf]; omega
                    · have hk6 : k = 6 := by omega
                      subst hk6
                      go_wp2_with fail
                      go_ret2
                      exact ⟨by rw [HFO.out]; exact ⟨gE, rfl, Nat.le_trans hB3 hE3, hs0.out.congr fun j hj => by simp [overD, filled, hj]⟩, HB3.out.trans (hs1.out.mono hB3)⟩
end Go.Proofs.YtmnjmhlodbifjaaGreatDoor.Norm
