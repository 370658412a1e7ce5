/- Sorting a row of entries by their times. Conditions: entries' times of years 1 to 9999 or zero. -/
import Derived.Test.YtjgamgmghelhgaaByLess
import Derived.Test.YtjgamgmghelhgaaBySwap
import Derived.Test.YtjgamgmghelhgaaSort8
namespace Go.Proofs.Ytjgamgmghelhgaa.ByCx
open Go Go.RowKit Go.Sort Go.Proofs.Ytjgamgmghelhgaa.SortS Go.Proofs.Ytjgamgmghelhgaa.SortK Go.Proofs.Ytjgamgmghelhgaa.ByT Go.Proofs.Ytjgamgmghelhgaa.ByPure Go.Proofs.Ytjgamgmghelhgaa.ByLess Go.Proofs.Ytjgamgmghelhgaa.BySwap
set_option linter.unusedVariables false

def encE (eb : Nat → Nat) (j : Nat) : Value := .pointer (some ⟨eb j, 0, none⟩)
theorem st_drewN {blk : Nat} {w : World} (k : Nat) : St blk w (w.drewN k) := ⟨rfl, rfl, rfl, Nat.le_refl _, fun _ _ _ => rfl⟩

theorem cx_of (blk n c : Nat) (eb : Nat → Nat) (tn te : Nat → Int) (w0 : World) (hn : n < 4611686018427387904) (hb : blk < w0.heap.size)
    (h : 0 < n → ∀ j, Ent w0 (eb j) (tn j) (te j) ∧ Nn (tn j) ∧ eb j ≠ blk) :
    Cx (encE eb) (ltOf (ByLess.keyOf tn te)) blk (.slice (some ⟨blk, 0, none⟩) n c) n w0 where
  less X d st hd hs i j hi hj := by
    have hp : 0 < n := by omega
    obtain ⟨a1, a2, a3⟩ := h hp d[i]!
    obtain ⟨b1, b2, b3⟩ := h hp d[j]!
    have ri := (hd i (by omega)).1
    have rj := (hd j (by omega)).1
    rw [Nat.zero_add] at ri rj
    have l1 := World.block_lt_of_cell? w0 _ a1.c2
    have l2 := World.block_lt_of_cell? w0 _ b1.c2
    exact less_any blk n c i j (eb d[i]!) (eb d[j]!) _ _ _ _ X hi hj hn ri rj (a1.st st l1 a3) (b1.st st l2 b3) a2 b2
  swap X d st hd hs i j hi hj := by
    have ri := (hd i (by omega)).1
    have rj := (hd j (by omega)).1
    have fi := (hd i (by omega)).2
    have fj := (hd j (by omega)).2
    rw [Nat.zero_add] at ri rj fi fj
    refine (swap_any blk n c i j _ _ X hi hj hn ri rj fi fj ⟨_, rfl⟩ ⟨_, rfl⟩).mono ?_
    rintro e w' ⟨rfl, k, rfl⟩
    have hd2 : Holds (encE eb) (X.drewN k) blk 0 d := fun m hm => hd m hm
    exact ⟨rfl, (st_drewN k).trans (st_swp _ _), holds_swp hd2 (by omega) (by omega)⟩
  blk := hb
  big := hn

/-- The row sorted: each entry once, by their times. -/
theorem sorted_any (blk n c : Nat) (eb : Nat → Nat) (tn te : Nat → Int) (w0 : World) (hn : n < 4611686018427387904) (hb : blk < w0.heap.size)
    (h : 0 < n → ∀ j, Ent w0 (eb j) (tn j) (te j) ∧ Nn (tn j) ∧ eb j ≠ blk) :
    ∃ d' : Array Nat, d'.size = n ∧ d'.toList.Perm (List.range n) ∧ SortedIn (ltOf (ByLess.keyOf tn te)) 0 n d' ∧
      ∀ X, St blk w0 X → Holds (encE eb) X blk 0 (Array.range n) → Calls Try.prog 13 #[.iface 56 (.slice (some ⟨blk, 0, none⟩) n c)] X fun e w' => e = .returned (.tuple #[]) ∧ St blk X w' ∧ Holds (encE eb) w' blk 0 d' := by
  obtain ⟨d', h1, h2, h3, h4⟩ := Sort8.sort_any (cx_of blk n c eb tn te w0 hn hb h) (swo_key _) (Array.range n) (by simp)
  refine ⟨d', h1, by simpa using h2, h3, fun X st hd => (h4 X (K.start st hd (by simp))).mono ?_⟩
  rintro e w' ⟨rfl, k⟩
  exact ⟨rfl, k.st, k.row⟩

end Go.Proofs.Ytjgamgmghelhgaa.ByCx
