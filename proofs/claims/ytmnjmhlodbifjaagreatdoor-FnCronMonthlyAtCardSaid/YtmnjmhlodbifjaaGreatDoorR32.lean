/- The reference's rule of the two fields of days, and its clocks. Conditions: days of at most 62. · The next activation as a plain relation; the thin package's Next: its schedule, its answer. Conditions: a plain zone in the window; instants from year 1 on. · The day of each month that has it: the least second of such a day and a time of day. Conditions: none. -/
import Derived.Test.YtmnjmhlodbifjaaGreatDoorR13
import Derived.Test.YtmnjmhlodbifjaaGreatDoorR28
import Derived.Test.YtmnjmhlodbifjaaGreatDoorR2
import Derived.Test.YtmnjmhlodbifjaaGreatDoorR26
import Derived.Test.YtmnjmhlodbifjaaGreatDoorR31

namespace Go.Proofs.YtmnjmhlodbifjaaGreatDoor.SetOf
end Go.Proofs.YtmnjmhlodbifjaaGreatDoor.SetOf
namespace Go.Proofs.YtmnjmhlodbifjaaGreatDoor.DayFits
open Go Go.RowKit Go.Proofs.YtmnjmhlodbifjaaGreatDoor.Set Go.Proofs.YtmnjmhlodbifjaaGreatDoor.Fields Go.Proofs.YtmnjmhlodbifjaaGreatDoor.Moment Go.Proofs.YtmnjmhlodbifjaaGreatDoor.DayM Go.Proofs.YtmnjmhlodbifjaaGreatDoor.TimeNum Go.Proofs.YtmnjmhlodbifjaaGreatDoor.Cal Go.Proofs.YtmnjmhlodbifjaaGreatDoor.Off Go.Proofs.YtmnjmhlodbifjaaGreatDoor.SpecCal Go.Proofs.YtmnjmhlodbifjaaGreatDoor.Zone Go.Proofs.YtmnjmhlodbifjaaGreatDoor.Zone2 Go.Proofs.YtmnjmhlodbifjaaGreatDoor.Lookup
set_option linter.unusedVariables false
def dayFits (st : Nat → Bool) (f : Nat → Nat → Bool) (d wd : Nat) : Bool := if st 3 || st 5 then f 3 d && f 5 wd else f 3 d || f 5 wd
set_option maxHeartbeats 1000000 in
theorem dayFits_any (st : Nat → Bool) (f : Nat → Nat → Bool) (y m : Int) (d wd : Nat) (w : World) (hd : d ≤ 62) (hwd : wd ≤ 62) :
    Calls Tryz.prog 120 #[.agg (fldArr st f), .agg #[.int .i64 y, .int .i64 m, .int .i64 (d : Int)], .int .i64 (wd : Int)] w fun e w' => e = .returned (.bool (dayFits st f d wd)) ∧ Below w.heap.size w w' := by
  have hb0 : Below w.heap.size w ((w.alloc (.cells (fldArr st f) 57)).alloc (.cells #[.int .i64 y, .int .i64 m, .int .i64 (d : Int)] 50)) := ((Below.refl _ _).alloc (Nat.le_refl _) _).alloc (by simp) _
  have hF := (FldAt.new w st f).below (Below.alloc (Below.refl (w.heap.size + 1) _) (by simp) (.cells #[.int .i64 y, .int .i64 m, .int .i64 (d : Int)] 50)) (by simp)
  have c1 : ((w.alloc (.cells (fldArr st f) 57)).alloc (.cells #[.int .i64 y, .int .i64 m, .int .i64 (d : Int)] 50)).cell? ⟨w.heap.size, 193 + d, none⟩ = some (.bool (f 3 d)) := hF.val 3 d (by omega) hd
  have c2 : ((w.alloc (.cells (fldArr st f) 57)).alloc (.cells #[.int .i64 y, .int .i64 m, .int .i64 (d : Int)] 50)).cell? ⟨w.heap.size, 321 + wd, none⟩ = some (.bool (f 5 wd)) := hF.val 5 wd (by omega) hwd
  have c3 : ((w.alloc (.cells (fldArr st f) 57)).alloc (.cells #[.int .i64 y, .int .i64 m, .int .i64 (d : Int)] 50)).cell? ⟨w.heap.size, 192, none⟩ = some (.bool (st 3)) := hF.star 3 (by omega)
  have c4 : ((w.alloc (.cells (fldArr st f) 57)).alloc (.cells #[.int .i64 y, .int .i64 m, .int .i64 (d : Int)] 50)).cell? ⟨w.heap.size, 320, none⟩ = some (.bool (st 5)) := hF.star 5 (by omega)
  have HF : Hid (dayFits st f d wd = if st 3 || st 5 then f 3 d && f 5 wd else f 3 d || f 5 wd) := Lib.hid rfl
  have i1 : (d : Int) < 63 := by omega
  have i2 : (wd : Int) < 63 := by omega
  have HB := Lib.hid hb0
  have HFL := Lib.hid hF
  generalize f 3 d = m1 at *
  generalize f 5 wd = m2 at *
  generalize st 3 = m3 at *
  generalize st 5 = m4 at *
  clear hb0 hF
  go_enter Tryz.func120, Tryz.ntmps120
  go_wp2_with (first
    | (with_reducible refine wpList_box_fields rfl (.tmp 0) rfl st f rfl ?_))
  go_quiet (fail)
  cases m3 <;> cases m4 <;> cases m1
  all_goals
    go_wp2_with fail
    go_ret
    exact ⟨by rw [HF.out]; simp, HB.out.trans (Lookup.below_drewN _ _)⟩
theorem cells_after {w w1 : World} {E : TypeId} {cs : Array Value} (hb : Below (w.alloc (.cells cs E)).heap.size (w.alloc (.cells cs E)) w1) (j : Nat) (v : Value) (h : cs[j]? = some v) : w1.cell? ⟨w.heap.size, j, none⟩ = some v := by
  have hh : (w.alloc (.cells cs E)).heap[w.heap.size]? = some (.cells cs E) := heap_alloc_new w _
  rw [hb.cell (p := ⟨w.heap.size, j, none⟩) (by simp), cell_of_row _ _ _ _ _ _ hh, h]
theorem free_after {w w1 : World} {E : TypeId} {cs : Array Value} (hb : Below (w.alloc (.cells cs E)).heap.size (w.alloc (.cells cs E)) w1) (j : Nat) : w1.frozen? ⟨w.heap.size, j, none⟩ = false := by
  rw [hb.frozen (p := ⟨w.heap.size, j, none⟩) (by simp)]
  exact Time2.free_new _ _ _ _
theorem below_set8 {w w1 : World} {B b : Nat} {a0 a1 a2 a3 a4 a5 a6 a7 : Value} (hb : Below B w w1) (h : B ≤ b) : Below B w ((((((((w1.setCell ⟨b, 0, none⟩ a0).setCell ⟨b, 1, none⟩ a1).setCell ⟨b, 2, none⟩ a2).setCell ⟨b, 3, none⟩ a3).setCell ⟨b, 4, none⟩ a4).setCell ⟨b, 5, none⟩ a5).setCell ⟨b, 6, none⟩ a6).setCell ⟨b, 7, none⟩ a7) :=
  (((((((hb.setCell (p := ⟨b, 0, none⟩) h _).setCell (p := ⟨b, 1, none⟩) h _).setCell (p := ⟨b, 2, none⟩) h _).setCell (p := ⟨b, 3, none⟩) h _).setCell (p := ⟨b, 4, none⟩) h _).setCell (p := ⟨b, 5, none⟩) h _).setCell (p := ⟨b, 6, none⟩) h _).setCell (p := ⟨b, 7, none⟩) h _
theorem block8_after {w w1 : World} {E : TypeId} {b : Nat} (hb : Below (w.alloc (.cells #[.int .i64 0, .int .i64 0, .int .i64 0, .int .i64 0, .int .i64 0, .int .i64 0, .int .i64 0, .int .i64 0] E)).heap.size (w.alloc (.cells #[.int .i64 0, .int .i64 0, .int .i64 0, .int .i64 0, .int .i64 0, .int .i64 0, .int .i64 0, .int .i64 0] E)) w1) (h : w.heap.size = b) :
    (w1.cell? ⟨b, 0, none⟩ = some (.int .i64 0) ∧ w1.cell? ⟨b, 1, none⟩ = some (.int .i64 0) ∧ w1.cell? ⟨b, 2, none⟩ = some (.int .i64 0) ∧ w1.cell? ⟨b, 3, none⟩ = some (.int .i64 0) ∧ w1.cell? ⟨b, 4, none⟩ = some (.int .i64 0) ∧ w1.cell? ⟨b, 5, none⟩ = some (.int .i64 0) ∧ w1.cell? ⟨b, 6, none⟩ = some (.int .i64 0) ∧ w1.cell? ⟨b, 7, none⟩ = some (.int .i64 0)) ∧
    (w1.frozen? ⟨b, 0, none⟩ = false ∧ w1.frozen? ⟨b, 1, none⟩ = false ∧ w1.frozen? ⟨b, 2, none⟩ = false ∧ w1.frozen? ⟨b, 3, none⟩ = false ∧ w1.frozen? ⟨b, 4, none⟩ = false ∧ w1.frozen? ⟨b, 5, none⟩ = false ∧ w1.frozen? ⟨b, 6, none⟩ = false ∧ w1.frozen? ⟨b, 7, none⟩ = false) := by
  subst h
  exact ⟨⟨cells_after hb 0 _ rfl, cells_after hb 1 _ rfl, cells_after hb 2 _ rfl, cells_after hb 3 _ rfl, cells_after hb 4 _ rfl, cells_after hb 5 _ rfl, cells_after hb 6 _ rfl, cells_after hb 7 _ rfl⟩, free_after hb 0, free_after hb 1, free_after hb 2, free_after hb 3, free_after hb 4, free_after hb 5, free_after hb 6, free_after hb 7⟩
def civA (l nano : Int) : Array Value := #[.int .i64 (yOf (l / 86400)), .int .i64 (mOf (l / 86400)), .int .i64 (dOf (l / 86400)), .int .i64 (l % 86400 / 3600), .int .i64 (l % 86400 / 60 % 60), .int .i64 (l % 60), .int .i64 nano, .int .i64 (wdOf (l / 86400))]
set_option maxHeartbeats 1000000 in
theorem clock_any (l nano : Int) (w : World) (h0 : -1500000000000 ≤ l) (h1 : l ≤ 1500000000000) :
    Calls Tryz.prog 38 #[.int .i64 l, .int .i64 nano] w fun e w' => e = .returned (.agg (civA l nano)) ∧ Below w.heap.size w w' := by
  have hn : Dn (l / 86400) := ⟨by omega, by omega⟩
  have HN := Lib.hid hn
  have hr : l - 86400 * (l / 86400) = l % 86400 := by omega
  have hr2 : 0 ≤ l % 86400 ∧ l % 86400 < 86400 := by omega
  have hr3 : -1500000086400 ≤ 86400 * (l / 86400) ∧ 86400 * (l / 86400) ≤ 1500000000000 := by omega
  have HC : Hid (civA l nano = #[.int .i64 (yOf (l / 86400)), .int .i64 (mOf (l / 86400)), .int .i64 (dOf (l / 86400)), .int .i64 (l % 86400 / 3600), .int .i64 (l % 86400 / 60 % 60), .int .i64 (l % 60), .int .i64 nano, .int .i64 (wdOf (l / 86400))]) := Lib.hid rfl
  clear hn
  go_enter Tryz.func38, Tryz.ntmps38
  go_wp2_with (first
    | (go_at_call 77; refine (floorDiv_any l 86400 _ ⟨by omega, by omega⟩ (by omega) (by omega)).mono ?_; rintro e w' ⟨rfl, rfl⟩)
    | (go_at_call 78; refine (dateOf_any (l / 86400) _ HN.out).mono ?_; rintro e w1 ⟨rfl, hb1⟩))
  obtain ⟨W, hW⟩ : ∃ W, w1.alloc (.cells #[.int .i64 (yOf (l / 86400)), .int .i64 (mOf (l / 86400)), .int .i64 (dOf (l / 86400))] 50) = W := ⟨_, rfl⟩
  obtain ⟨b2, hb2⟩ : ∃ b2, w1.heap.size = b2 := ⟨_, rfl⟩
  have hwW : Below w1.heap.size w1 W := by rw [← hW]; exact (Below.refl _ _).alloc (Nat.le_refl _) _
  have hbx := Time.box_new w1 50 (.int .i64 (yOf (l / 86400))) (.int .i64 (mOf (l / 86400))) (.int .i64 (dOf (l / 86400)))
  rw [hW, hb2] at hbx
  have hlt : w.heap.size < b2 := by rw [← hb2]; exact Nat.lt_of_lt_of_le (by simp) hb1.size
  have hb3 := hb1.trans (hwW.mono hb1.size)
  obtain ⟨-, q0, q1, q2⟩ := hbx
  have k0 := cells_after hb3 0 _ rfl
  have k1 := cells_after hb3 1 _ rfl
  have k2 := cells_after hb3 2 _ rfl
  have k3 := cells_after hb3 3 _ rfl
  have k4 := cells_after hb3 4 _ rfl
  have k5 := cells_after hb3 5 _ rfl
  have k6 := cells_after hb3 6 _ rfl
  have k7 := cells_after hb3 7 _ rfl
  have f0 := free_after hb3 0
  have f1 := free_after hb3 1
  have f2 := free_after hb3 2
  have f3 := free_after hb3 3
  have f4 := free_after hb3 4
  have f5 := free_after hb3 5
  have f6 := free_after hb3 6
  have f7 := free_after hb3 7
  have hne : b2 ≠ w.heap.size := by omega
  have hne' : w.heap.size ≠ b2 := by omega
  have HB1 := Lib.hid (((Below.refl _ _).alloc (Nat.le_refl _) _).trans (hb3.mono (by simp)))
  have v1 : IntKind.i64.wrap ((l % 86400).tdiv 3600) = l % 86400 / 3600 := by rw [Int.tdiv_eq_ediv_of_nonneg hr2.1]; exact IntWalk.i64_in _ (by omega)
  have v2 : IntKind.i64.wrap ((l % 86400).tdiv 60) = l % 86400 / 60 := by rw [Int.tdiv_eq_ediv_of_nonneg hr2.1]; exact IntWalk.i64_in _ (by omega)
  have v3 : (l % 86400 / 60).tmod 60 = l % 86400 / 60 % 60 := Int.tmod_eq_emod_of_nonneg (by omega)
  have v4 : (l % 86400).tmod 60 = l % 60 := by rw [Int.tmod_eq_emod_of_nonneg hr2.1]; omega
  rw [hW, hb2]
  clear hb1 hb3 hwW hW hb2
  go_region_held3 (fun w' => w'.cell? ⟨b2, 0, none⟩ = some (.int .i64 (yOf (l / 86400))) ∧ w'.cell? ⟨b2, 1, none⟩ = some (.int .i64 (mOf (l / 86400))) ∧ w'.cell? ⟨b2, 2, none⟩ = some (.int .i64 (dOf (l / 86400)))) (go_keep)
    ((go_at_call 79; refine (weekday_any (l / 86400) _ HN.out).mono ?_; rintro e w' ⟨rfl, rfl⟩))
  go_wp2_with fail
  refine bodyPost_ret (v := .agg #[.int .i64 (yOf (l / 86400)), .int .i64 (mOf (l / 86400)), .int .i64 (dOf (l / 86400)), .int .i64 (l % 86400 / 3600), .int .i64 (l % 86400 / 60 % 60), .int .i64 (l % 60), .int .i64 nano, .int .i64 (wdOf (l / 86400))]) (by simp [results, Tryz.results38, go_sem, *]) rfl ⟨by rw [HC.out], ?_⟩
  refine Below.drew ?_
  with_reducible exact below_set8 HB1.out (Nat.le_refl _)
set_option maxHeartbeats 2000000 in
set_option maxRecDepth 100000 in
theorem civil_any (r : Raw) (co cd cw ci : Nat) (s nano : Int) (w : World) (h : r.At w) (hok : r.Ok) (hbd : ∀ x, -86400 ≤ Raw.off r x ∧ Raw.off r x ≤ 86400) (h0 : -1000000000000 ≤ s) (h1 : s ≤ 1000000000000) :
    Calls Tryz.prog 17 #[.agg #[.int .i64 s, .int .i64 nano], .agg #[.slice r.ao r.no co, .slice r.ad r.nd cd, .slice r.aw r.nw cw, .slice r.ai r.ni ci]] w fun e w' => e = .returned (.agg (civA (s + Raw.off r s) nano)) ∧ Below w.heap.size w w' := by
  have hbo := hbd s
  obtain ⟨W, hW⟩ : ∃ W, ((w.alloc (.cells #[.int .i64 s, .int .i64 nano] 34)).alloc (.cells #[.slice r.ao r.no co, .slice r.ad r.nd cd, .slice r.aw r.nw cw, .slice r.ai r.ni ci] 43)) = W := ⟨_, rfl⟩
  have hbW : Below w.heap.size w W := by rw [← hW]; exact ((Below.refl _ _).alloc (Nat.le_refl _) _).alloc (by simp) _
  have hsW : W.heap.size = w.heap.size + 2 := by rw [← hW]; simp
  have hx1 : Below (w.alloc (.cells #[.int .i64 s, .int .i64 nano] 34)).heap.size (w.alloc (.cells #[.int .i64 s, .int .i64 nano] 34)) W := by rw [← hW]; exact (Below.refl _ _).alloc (Nat.le_refl _) _
  have hz1 := box4_after (w := w.alloc (.cells #[.int .i64 s, .int .i64 nano] 34)) (w1 := W) (E := 43) (a := .slice r.ao r.no co) (b := .slice r.ad r.nd cd) (c := .slice r.aw r.nw cw) (d := .slice r.ai r.ni ci) (by rw [hW]; exact Below.refl _ _)
  rw [show (w.alloc (.cells #[.int .i64 s, .int .i64 nano] 34)).heap.size = w.heap.size + 1 by simp] at hz1
  obtain ⟨z0, z1, z2, z3⟩ := hz1
  have t0 := cells_after hx1 0 _ rfl
  have t1 := cells_after hx1 1 _ rfl
  have HO := Lib.hid (fun w1 (hb : Below w.heap.size w w1) => offset_any r co cd cw ci s w1 (h.below hb) hok)
  have HK := Lib.hid (fun w1 => DayFits.clock_any (s + Raw.off r s) nano w1 (by omega) (by omega))
  have HBW := Lib.hid hbW
  obtain ⟨x0, x1, x2, x3, x4, x5, x6, x7, hciv⟩ : ∃ x0 x1 x2 x3 x4 x5 x6 x7 : Int, civA (s + Raw.off r s) nano = #[.int .i64 x0, .int .i64 x1, .int .i64 x2, .int .i64 x3, .int .i64 x4, .int .i64 x5, .int .i64 x6, .int .i64 x7] := ⟨_, _, _, _, _, _, _, _, rfl⟩
  rw [hciv] at HK
  have HCV := Lib.hid hciv
  clear h hok hbd hx1 hciv
  have v1 : IntKind.i64.wrap (s + Raw.off r s) = s + Raw.off r s := IntWalk.i64_in _ (by omega)
  go_enter Tryz.func17, Tryz.ntmps17
  go_wp2_with fail
  obtain ⟨V, hV⟩ : ∃ V, W.alloc (.cells #[.int .i64 0, .int .i64 0, .int .i64 0, .int .i64 0, .int .i64 0, .int .i64 0, .int .i64 0, .int .i64 0] 46) = V := ⟨_, rfl⟩
  have hVb : Below W.heap.size (W.alloc (.cells #[.int .i64 0, .int .i64 0, .int .i64 0, .int .i64 0, .int .i64 0, .int .i64 0, .int .i64 0, .int .i64 0] 46)) V := by rw [hV]; exact Below.refl _ _
  have HVB : Hid (Below (W.alloc (.cells #[.int .i64 0, .int .i64 0, .int .i64 0, .int .i64 0, .int .i64 0, .int .i64 0, .int .i64 0, .int .i64 0] 46)).heap.size (W.alloc (.cells #[.int .i64 0, .int .i64 0, .int .i64 0, .int .i64 0, .int .i64 0, .int .i64 0, .int .i64 0, .int .i64 0] 46)) V) := Lib.hid (by rw [hV]; exact Below.refl _ _)
  have hWV : Below W.heap.size W V := by rw [← hV]; exact (Below.refl _ _).alloc (Nat.le_refl _) _
  have HWV := Lib.hid hWV
  have hl0 : w.heap.size < W.heap.size := by omega
  have hl1 : w.heap.size + 1 < W.heap.size := by omega
  have a0 := (hWV.cell (p := ⟨w.heap.size, 0, none⟩) hl0).trans t0
  have a1 := (hWV.cell (p := ⟨w.heap.size, 1, none⟩) hl0).trans t1
  have b0 := (hWV.cell (p := ⟨w.heap.size + 1, 0, none⟩) hl1).trans z0
  have b1 := (hWV.cell (p := ⟨w.heap.size + 1, 1, none⟩) hl1).trans z1
  have b2 := (hWV.cell (p := ⟨w.heap.size + 1, 2, none⟩) hl1).trans z2
  have b3 := (hWV.cell (p := ⟨w.heap.size + 1, 3, none⟩) hl1).trans z3
  have HA := Lib.hid (⟨a0, a1, b0, b1, b2, b3⟩ : V.cell? ⟨w.heap.size, 0, none⟩ = some (.int .i64 s) ∧ V.cell? ⟨w.heap.size, 1, none⟩ = some (.int .i64 nano) ∧ V.cell? ⟨w.heap.size + 1, 0, none⟩ = some (.slice r.ao r.no co) ∧ V.cell? ⟨w.heap.size + 1, 1, none⟩ = some (.slice r.ad r.nd cd) ∧ V.cell? ⟨w.heap.size + 1, 2, none⟩ = some (.slice r.aw r.nw cw) ∧ V.cell? ⟨w.heap.size + 1, 3, none⟩ = some (.slice r.ai r.ni ci))
  have hlV : w.heap.size + 2 < V.heap.size := by rw [← hV]; simp; omega
  rw [hV]
  have HSW := Lib.hid hsW
  clear hVb hV hWV hsW hl0 hl1 t0 t1 z0 z1 z2 z3 hW hbW
  have HBV := Lib.hid (HBW.out.trans (HWV.out.mono HBW.out.size))
  go_region_held3 (fun w' => w'.cell? ⟨w.heap.size, 0, none⟩ = some (.int .i64 s) ∧ w'.cell? ⟨w.heap.size, 1, none⟩ = some (.int .i64 nano) ∧ w'.cell? ⟨w.heap.size + 1, 0, none⟩ = some (.slice r.ao r.no co) ∧ w'.cell? ⟨w.heap.size + 1, 1, none⟩ = some (.slice r.ad r.nd cd) ∧ w'.cell? ⟨w.heap.size + 1, 2, none⟩ = some (.slice r.aw r.nw cw) ∧ w'.cell? ⟨w.heap.size + 1, 3, none⟩ = some (.slice r.ai r.ni ci)) (go_keep)
    ((first
      | (go_at_call 39; refine (HO.out _ (by repeat (first | exact HBV.out | refine Below.drew ?_))).mono ?_; rintro e w1 ⟨rfl, hb0⟩; (have hb1 := undrew hb0); (have q1 : V.heap.size ≤ w1.heap.size := hb1.size); (have a0' := (hb1.cell (p := ⟨w.heap.size, 0, none⟩) (by show w.heap.size < V.heap.size; omega)).trans HA.out.1); (have a1' := (hb1.cell (p := ⟨w.heap.size, 1, none⟩) (by show w.heap.size < V.heap.size; omega)).trans HA.out.2.1); (have b0' := (hb1.cell (p := ⟨w.heap.size + 1, 0, none⟩) (by show w.heap.size + 1 < V.heap.size; omega)).trans HA.out.2.2.1); (have b1' := (hb1.cell (p := ⟨w.heap.size + 1, 1, none⟩) (by show w.heap.size + 1 < V.heap.size; omega)).trans HA.out.2.2.2.1); (have b2' := (hb1.cell (p := ⟨w.heap.size + 1, 2, none⟩) (by show w.heap.size + 1 < V.heap.size; omega)).trans HA.out.2.2.2.2.1); (have b3' := (hb1.cell (p := ⟨w.heap.size + 1, 3, none⟩) (by show w.heap.size + 1 < V.heap.size; omega)).trans HA.out.2.2.2.2.2); skip)
      | (go_at_call 38; refine (HK.out _).mono ?_; rintro e w2 ⟨rfl, hb2⟩; (have q2 : w1.heap.size ≤ w2.heap.size := hb2.size); (have a0'' := (hb2.cell (p := ⟨w.heap.size, 0, none⟩) (by show w.heap.size < w1.heap.size; omega)).trans a0'); (have a1'' := (hb2.cell (p := ⟨w.heap.size, 1, none⟩) (by show w.heap.size < w1.heap.size; omega)).trans a1'); (have b0'' := (hb2.cell (p := ⟨w.heap.size + 1, 0, none⟩) (by show w.heap.size + 1 < w1.heap.size; omega)).trans b0'); (have b1'' := (hb2.cell (p := ⟨w.heap.size + 1, 1, none⟩) (by show w.heap.size + 1 < w1.heap.size; omega)).trans b1'); (have b2'' := (hb2.cell (p := ⟨w.heap.size + 1, 2, none⟩) (by show w.heap.size + 1 < w1.heap.size; omega)).trans b2'); (have b3'' := (hb2.cell (p := ⟨w.heap.size + 1, 3, none⟩) (by show w.heap.size + 1 < w1.heap.size; omega)).trans b3'); (have hbz := HVB.out.trans ((hb1.mono (by show _ ≤ V.heap.size; exact HVB.out.size)).trans (hb2.mono (Nat.le_trans HVB.out.size q1)))); obtain ⟨⟨k0, k1, k2, k3, k4, k5, k6, k7⟩, f0, f1, f2, f3, f4, f5, f6, f7⟩ := block8_after hbz HSW.out)))
  all_goals
    have HB9 := Lib.hid (HBV.out.trans ((hb1.mono (show w.heap.size ≤ V.heap.size by omega)).trans (hb2.mono (by omega))))
    go_wp2_with fail
    refine bodyPost_ret (v := .agg #[.int .i64 x0, .int .i64 x1, .int .i64 x2, .int .i64 x3, .int .i64 x4, .int .i64 x5, .int .i64 x6, .int .i64 x7]) (by simp [results, Tryz.results17, go_sem, *]) rfl ⟨by rw [HCV.out], ?_⟩
    first
      | with_reducible exact below_set8 HB9.out (by omega)
      | (refine Below.drew ?_; with_reducible exact below_set8 HB9.out (by omega))
end Go.Proofs.YtmnjmhlodbifjaaGreatDoor.DayFits
namespace Go.Proofs.YtmnjmhlodbifjaaGreatDoor.DayImpl
end Go.Proofs.YtmnjmhlodbifjaaGreatDoor.DayImpl
namespace Go.Proofs.YtmnjmhlodbifjaaGreatDoor.NextI
open Go Go.RowKit Go.Proofs.YtmnjmhlodbifjaaGreatDoor.TimeNum Go.Proofs.YtmnjmhlodbifjaaGreatDoor.Lookup Go.Proofs.YtmnjmhlodbifjaaGreatDoor.Time Go.Proofs.YtmnjmhlodbifjaaGreatDoor.Time2 Go.Proofs.YtmnjmhlodbifjaaGreatDoor.DayM Go.Proofs.YtmnjmhlodbifjaaGreatDoor.Moment Go.Proofs.YtmnjmhlodbifjaaGreatDoor.Cal Go.Proofs.YtmnjmhlodbifjaaGreatDoor.Off Go.Proofs.YtmnjmhlodbifjaaGreatDoor.Search Go.Proofs.YtmnjmhlodbifjaaGreatDoor.NextP Go.Proofs.YtmnjmhlodbifjaaGreatDoor.NextA Go.Proofs.YtmnjmhlodbifjaaGreatDoor.NextB Go.Proofs.YtmnjmhlodbifjaaGreatDoor.NextC Go.Proofs.YtmnjmhlodbifjaaGreatDoor.RegS Go.Proofs.YtmnjmhlodbifjaaGreatDoor.Zone Go.Proofs.YtmnjmhlodbifjaaGreatDoor.DayFits
set_option linter.unusedVariables false
def IsNext (off : Int → Int) (S : Sched) (first Y5 : Int) : Option Int → Prop
  | some x => first ≤ x ∧ Fit off S x ∧ yr off x ≤ Y5 ∧ ∀ y, first ≤ y → y < x → ¬ Fit off S y
  | none => ∀ y, first ≤ y → yr off y ≤ Y5 → ¬ Fit off S y
def ansA : Option Int → Array Value
  | some x => #[.int .i64 x, .int .i64 0]
  | none => #[.int .i64 0, .int .i64 0]
def timeV (loc : Option Addr) : Option Int → Value
  | some t => .agg #[.int .u64 0, .int .i64 (t + 62135596800), .pointer loc]
  | none => .agg #[.int .u64 0, .int .i64 0, .pointer none]
def ansV (o : Option Int) : Value := .tuple #[.agg (ansA o), .bool o.isSome]
section
variable {off : Int → Int} {S : Sched} {first Y5 : Int}
theorem IsNext.uniq {o p : Option Int} (h : IsNext off S first Y5 o) (k : IsNext off S first Y5 p) : o = p := by
  cases o with
  | none =>
    cases p with
    | none => rfl
    | some x => exact absurd k.2.1 (h x k.1 k.2.2.1)
  | some x =>
    cases p with
    | none => exact absurd h.2.1 (k x h.1 h.2.2.1)
    | some y =>
      congr 1
      by_cases c : x < y
      · exact absurd h.2.1 (k.2.2.2 x h.1 c)
      · by_cases c2 : y < x
        · exact absurd k.2.1 (h.2.2.2 y k.1 c2)
        · omega
def EndOf (off : Int → Int) (Y5 : Int) (hi : Int) : Option Int → Prop
  | some x => hi = x
  | none => Y5 < yr off hi
theorem IsNext.ctx {o : Option Int} {A B hi : Int} (h : IsNext off S first Y5 o) (he : EndOf off Y5 hi o) (hP : Plain off A B) (hA : A + 3456000 ≤ first) (hB : hi + 172800 ≤ B) (hf : first ≤ hi) : Ctx off S A B first hi Y5 := by
  refine ⟨hP, hA, hB, hf, ?_⟩
  cases o with
  | none => exact .inr he
  | some x => exact .inl (by rw [show hi = x from he]; exact h.2.1)
theorem IsNext.post {o : Option Int} {A B hi : Int} {w w' : World} {loc : Option Addr} {x : Ending} (h : IsNext off S first Y5 o) (he : EndOf off Y5 hi o) (hP : Plain off A B) (hA : A + 3456000 ≤ first) (hB : hi + 172800 ≤ B)
    (hp : NextPost w loc off S first hi Y5 x w') : x = .returned (timeV loc o) ∧ Below w.heap.size w w' := by
  obtain ⟨t, hs, hlo, ht, hb⟩ := hp
  refine ⟨?_, hb⟩
  rcases ht with ⟨hf, hy, rfl⟩ | ⟨hy, rfl⟩
  · have h1 : first ≤ t := by
      by_cases c : t < first
      · exact absurd hf (hs.aft t (Int.le_refl _) c)
      · omega
    have k : IsNext off S first Y5 (some t) := ⟨h1, hf, hy, hs.bef⟩
    have e := h.uniq k
    subst e
    rfl
  · cases o with
    | none => rfl
    | some z =>
      exfalso
      have e : hi = z := he
      have hle := hs.le
      have hm := day_mono hP (show A ≤ t by omega) hle (by omega)
      have := year_mono hm
      have hz := h.2.2.1
      unfold yr at hy hz
      rw [e] at this
      omega
end
theorem spec_new (w : World) (E : TypeId) (se mi hr dom mon dow : Int) : SpecAt (w.alloc (.cells #[.int .u64 se, .int .u64 mi, .int .u64 hr, .int .u64 dom, .int .u64 mon, .int .u64 dow, .pointer none] E)) w.heap.size se mi hr dom mon dow :=
  have hb := Below.refl (w.alloc (.cells #[.int .u64 se, .int .u64 mi, .int .u64 hr, .int .u64 dom, .int .u64 mon, .int .u64 dow, .pointer none] E)).heap.size (w.alloc (.cells #[.int .u64 se, .int .u64 mi, .int .u64 hr, .int .u64 dom, .int .u64 mon, .int .u64 dow, .pointer none] E))
  ⟨cells_after hb 0 _ rfl, cells_after hb 1 _ rfl, cells_after hb 2 _ rfl, cells_after hb 3 _ rfl, cells_after hb 4 _ rfl, cells_after hb 5 _ rfl, cells_after hb 6 _ rfl⟩
theorem schedule_any (d se mi hr dom mon dow : Int) (w : World) :
    Calls Tryz.prog 35 #[.agg #[.bool false, .int .i64 d, .int .u64 se, .int .u64 mi, .int .u64 hr, .int .u64 dom, .int .u64 mon, .int .u64 dow], .pointer none] w fun x w' => ∃ sb, (x = .returned (.iface 97 (.pointer (some ⟨sb, 0, none⟩))) ∧ SpecAt w' sb se mi hr dom mon dow) ∧ Below w.heap.size w w' := by
  go_enter Tryz.func35, Tryz.ntmps35
  go_wp2_with fail
  go_ret
  exact ⟨w.heap.size + 1, ⟨rfl, by
    have h := spec_new (w.alloc (.cells #[.bool false, .int .i64 d, .int .u64 se, .int .u64 mi, .int .u64 hr, .int .u64 dom, .int .u64 mon, .int .u64 dow] 28)) 100 se mi hr dom mon dow
    rw [show (w.alloc (.cells #[.bool false, .int .i64 d, .int .u64 se, .int .u64 mi, .int .u64 hr, .int .u64 dom, .int .u64 mon, .int .u64 dow] 28)).heap.size = w.heap.size + 1 by simp] at h
    exact h⟩, ((Below.refl _ _).alloc (Nat.le_refl _) _).alloc (by simp) _⟩
theorem box2i {w X : World} {E F : TypeId} {a b c x y : Value} (h : Below ((w.alloc (.cells #[a, b, c] E)).alloc (.cells #[x, y] F)).heap.size ((w.alloc (.cells #[a, b, c] E)).alloc (.cells #[x, y] F)) X) :
    (X.cell? ⟨w.heap.size + 1, 0, none⟩ = some x ∧ X.cell? ⟨w.heap.size + 1, 1, none⟩ = some y) ∧ X.frozen? ⟨w.heap.size + 1, 0, none⟩ = false ∧ X.frozen? ⟨w.heap.size + 1, 1, none⟩ = false := by
  have e : (w.alloc (.cells #[a, b, c] E)).heap.size = w.heap.size + 1 := by simp
  have a0 := cells_after h 0 _ rfl
  have a1 := cells_after h 1 _ rfl
  have b0 := free_after h 0
  have b1 := free_after h 1
  rw [e] at a0 a1 b0 b1
  exact ⟨⟨a0, a1⟩, b0, b1⟩
theorem box3i {w X : World} {E F : TypeId} {a b c x y : Value} (h : Below ((w.alloc (.cells #[a, b, c] E)).alloc (.cells #[x, y] F)).heap.size ((w.alloc (.cells #[a, b, c] E)).alloc (.cells #[x, y] F)) X) :
    X.cell? ⟨w.heap.size, 0, none⟩ = some a ∧ X.cell? ⟨w.heap.size, 1, none⟩ = some b ∧ X.cell? ⟨w.heap.size, 2, none⟩ = some c := by
  have h1 : Below (w.alloc (.cells #[a, b, c] E)).heap.size (w.alloc (.cells #[a, b, c] E)) X := ((Below.refl _ _).alloc (Nat.le_refl _) _).trans (h.mono (by simp))
  exact ⟨cells_after h1 0 _ rfl, cells_after h1 1 _ rfl, cells_after h1 2 _ rfl⟩
theorem isZero_any (n e : Int) (loc : Option Addr) (w : World) : Calls Tryz.prog 71 #[.agg #[.int .u64 n, .int .i64 e, .pointer loc]] w fun x w' => x = .returned (.bool (n == 0 && e == 0)) ∧ Below w.heap.size w w' := by
  have hb : Below w.heap.size w (w.alloc (.cells #[.int .u64 n, .int .i64 e, .pointer loc] 86)) := (Below.refl _ _).alloc (Nat.le_refl _) _
  obtain ⟨p, hp⟩ : ∃ p, (n == 0) = p := ⟨_, rfl⟩
  obtain ⟨q, hq⟩ : ∃ q, (e == 0) = q := ⟨_, rfl⟩
  rw [hp, hq]
  cases p <;> cases q
  all_goals
    go_enter Tryz.func71, Tryz.ntmps71
    go_wp2_with fail
    go_ret
    exact ⟨rfl, hb⟩
set_option maxRecDepth 100000 in
theorem plain_any (t : Int) (loc : Option Addr) (w : World) (ht : Bd t) : Calls Tryz.prog 72 #[.agg #[.int .u64 0, .int .i64 (t + 62135596800), .pointer loc]] w fun x w' => x = .returned (.agg #[.int .i64 t, .int .i64 0]) ∧ Below w.heap.size w w' := by
  obtain ⟨W, hW⟩ : ∃ W, (w.alloc (.cells #[.int .u64 0, .int .i64 (t + 62135596800), .pointer loc] 86)).alloc (.cells #[.int .i64 0, .int .i64 0] 34) = W := ⟨_, rfl⟩
  have hbW : Below w.heap.size w W := by rw [← hW]; exact ((Below.refl _ _).alloc (Nat.le_refl _) _).alloc (by simp) _
  have hsW : W.heap.size = w.heap.size + 2 := by rw [← hW]; simp
  have HB := Lib.hid hbW
  have HK : Hid (∀ X', Below W.heap.size W X' → X'.cell? ⟨w.heap.size, 0, none⟩ = some (.int .u64 0) ∧ X'.cell? ⟨w.heap.size, 1, none⟩ = some (.int .i64 (t + 62135596800)) ∧ X'.cell? ⟨w.heap.size, 2, none⟩ = some (.pointer loc)) := Lib.hid (fun X' h => by
    have h1 : Below (w.alloc (.cells #[.int .u64 0, .int .i64 (t + 62135596800), .pointer loc] 86)).heap.size (w.alloc (.cells #[.int .u64 0, .int .i64 (t + 62135596800), .pointer loc] 86)) X' := (show Below _ _ W by rw [← hW]; exact (Below.refl _ _).alloc (Nat.le_refl _) _).trans (h.mono (by rw [hsW]; simp))
    exact ⟨cells_after h1 0 _ rfl, cells_after h1 1 _ rfl, cells_after h1 2 _ rfl⟩)
  have HD : Hid (∀ X', Below W.heap.size W X' → X'.cell? ⟨w.heap.size + 1, 0, none⟩ = some (.int .i64 0) ∧ X'.cell? ⟨w.heap.size + 1, 1, none⟩ = some (.int .i64 0) ∧ X'.frozen? ⟨w.heap.size + 1, 0, none⟩ = false ∧ X'.frozen? ⟨w.heap.size + 1, 1, none⟩ = false) := Lib.hid (fun X' h => by
    have e : (w.alloc (.cells #[.int .u64 0, .int .i64 (t + 62135596800), .pointer loc] 86)).heap.size = w.heap.size + 1 := by simp
    have h1 : Below ((w.alloc (.cells #[.int .u64 0, .int .i64 (t + 62135596800), .pointer loc] 86)).alloc (.cells #[.int .i64 0, .int .i64 0] 34)).heap.size ((w.alloc (.cells #[.int .u64 0, .int .i64 (t + 62135596800), .pointer loc] 86)).alloc (.cells #[.int .i64 0, .int .i64 0] 34)) X' := by rw [hW]; exact h
    have a0 := cells_after h1 0 _ rfl
    have a1 := cells_after h1 1 _ rfl
    have b0 := free_after h1 0
    have b1 := free_after h1 1
    rw [e] at a0 a1 b0 b1
    exact ⟨a0, a1, b0, b1⟩)
  have HU := Lib.hid (fun X' (h : Below W.heap.size W X') => unix_any (w := X') (loc := loc) nn0 ht.es)
  rw [sec_of] at HU
  have HN := Lib.hid (fun X' (h : Below W.heap.size W X') => nano_any (w := X') (e := t + 62135596800) (loc := loc) nn0)
  clear hbW hsW
  go_enter Tryz.func72, Tryz.ntmps72
  go_wp2_with fail
  clear hW
  refine RegS.region_S (n := 5) (S := fun X' => Below W.heap.size W X') (by kernel_rfl) rfl ((Below.refl _ _).drew) (fun inv => ?_)
  refine RegS.AnyS.take (i := 0) (v := .agg #[.int .u64 0, .int .i64 (t + 62135596800), .pointer loc]) inv (by kernel_rfl) rfl rfl (by omega) (by kernel_rfl) (by kernel_rfl) (by kernel_rfl) (fun _ _ _ h => h) ⟨by rfl, fun X' hX => ?_⟩ (some 3) rfl (fun inv => ?_)
  · obtain ⟨k0, k1, k2⟩ := HK.out X' hX
    go_simp
    exact ⟨rfl, hX⟩
  simp only [Act.put, List.setIfInBounds_toArray, List.set_cons_zero, List.set_cons_succ]
  refine RegS.AnyS.take (i := 1) (v := .int .i64 t) inv (by kernel_rfl) rfl rfl (by omega) (by kernel_rfl) (by kernel_rfl) (by kernel_rfl) (fun _ _ _ h => h) ⟨by rfl, fun X' hX => ?_⟩ (some 4) rfl (fun inv => ?_)
  · go_simp
    exact RegS.gives_call (HU.out _ hX) hX
  simp only [Act.put, List.setIfInBounds_toArray, List.set_cons_zero, List.set_cons_succ]
  refine RegS.AnyS.take (i := 2) (v := .agg #[.int .u64 0, .int .i64 (t + 62135596800), .pointer loc]) inv (by kernel_rfl) rfl rfl (by omega) (by kernel_rfl) (by kernel_rfl) (by kernel_rfl) (fun _ _ _ h => h) ⟨by rfl, fun X' hX => ?_⟩ (some 5) rfl (fun inv => ?_)
  · obtain ⟨k0, k1, k2⟩ := HK.out X' hX
    go_simp
    exact ⟨rfl, hX⟩
  simp only [Act.put, List.setIfInBounds_toArray, List.set_cons_zero, List.set_cons_succ]
  refine RegS.AnyS.take (i := 3) (v := .int .i64 0) inv (by kernel_rfl) rfl rfl (by omega) (by kernel_rfl) (by kernel_rfl) (by kernel_rfl) (fun _ _ _ h => h) ⟨by rfl, fun X' hX => ?_⟩ (some 6) rfl (fun inv => ?_)
  · go_simp
    exact RegS.gives_call (HN.out _ hX) hX
  simp only [Act.put, List.setIfInBounds_toArray, List.set_cons_zero, List.set_cons_succ]
  refine RegS.AnyS.take (i := 4) (v := .agg #[.int .i64 t, .int .i64 0]) inv (by kernel_rfl) rfl rfl (by omega) (by kernel_rfl) (by kernel_rfl) (by kernel_rfl) (fun _ _ _ h => h) ⟨by rfl, fun X' hX => ?_⟩ (some 7) rfl (fun inv => ?_)
  · go_simp
    exact ⟨rfl, hX⟩
  simp only [Act.put, List.setIfInBounds_toArray, List.set_cons_zero, List.set_cons_succ]
  refine RegS.AnyS.last (by kernel_rfl) rfl (by kernel_rfl) (fun X4 hX K hK => ?_)
  obtain ⟨d0, d1, g0, g1⟩ := HD.out X4 hX
  go_simp
  refine hK.out _ _ ?_
  go_wp2_with fail
  refine bodyPost_ret (v := .agg #[.int .i64 t, .int .i64 0]) (by simp [results, Tryz.results72, go_sem, *]) rfl ⟨rfl, ?_⟩
  exact ((HB.out.trans (hX.mono HB.out.size)).setCell (p := ⟨w.heap.size + 1, 0, none⟩) (Nat.le_succ _) _).setCell (p := ⟨w.heap.size + 1, 1, none⟩) (Nat.le_succ _) _
theorem answer_any (o : Option Int) (loc : Option Addr) (w : World) (h : ∀ x, o = some x → -62135596800 < x ∧ x ≤ 270000000000) :
    Calls Tryz.prog 34 #[timeV loc o] w fun x w' => x = .returned (ansV o) ∧ Below w.heap.size w w' := by
  cases o with
  | none =>
    have hb : Below w.heap.size w ((w.alloc (.cells #[.int .u64 0, .int .i64 0, .pointer none] 86)).alloc (.cells #[.int .i64 0, .int .i64 0] 34)) := ((Below.refl _ _).alloc (Nat.le_refl _) _).alloc (by simp) _
    have HB := Lib.hid hb
    have HZ := Lib.hid (fun X => isZero_any 0 0 none X)
    rw [show (((0 : Int) == 0) && ((0 : Int) == 0)) = true from rfl] at HZ
    clear hb
    unfold timeV ansV ansA
    go_enter Tryz.func34, Tryz.ntmps34
    go_wp2_with (go_at_call 71; refine (HZ.out _).mono ?_; rintro x X1 ⟨rfl, hb1⟩; obtain ⟨⟨d0, d1⟩, g0, g1⟩ := box2i hb1)
    refine bodyPost_ret (v := .tuple #[.agg #[.int .i64 0, .int .i64 0], .bool false]) (by simp [results, Tryz.results34, go_sem, *]) rfl ⟨rfl, ?_⟩
    exact ((HB.out.trans (hb1.mono HB.out.size)).setCell (p := ⟨w.heap.size + 1, 0, none⟩) (Nat.le_succ _) _).setCell (p := ⟨w.heap.size + 1, 1, none⟩) (Nat.le_succ _) _
  | some t =>
    obtain ⟨h0, h1⟩ := h t rfl
    have hb : Below w.heap.size w ((w.alloc (.cells #[.int .u64 0, .int .i64 (t + 62135596800), .pointer loc] 86)).alloc (.cells #[.int .i64 0, .int .i64 0] 34)) := ((Below.refl _ _).alloc (Nat.le_refl _) _).alloc (by simp) _
    have HB := Lib.hid hb
    have HZ := Lib.hid (fun X => isZero_any 0 (t + 62135596800) loc X)
    rw [show (((0 : Int) == 0) && (t + 62135596800 == 0)) = false by simp; omega] at HZ
    have HP := Lib.hid (fun X => plain_any t loc X ⟨by omega, by omega⟩)
    clear hb
    unfold timeV ansV ansA
    go_enter Tryz.func34, Tryz.ntmps34
    go_wp2_with (first
      | (go_at_call 71; refine (HZ.out _).mono ?_; rintro x X1 ⟨rfl, hb1⟩; obtain ⟨k0, k1, k2⟩ := box3i hb1)
      | (go_at_call 72; refine (HP.out _).mono ?_; rintro x X2 ⟨rfl, hb2⟩; obtain ⟨⟨d0, d1⟩, g0, g1⟩ := box2i (hb1.trans (hb2.mono hb1.size))))
    refine bodyPost_ret (v := .tuple #[.agg #[.int .i64 t, .int .i64 0], .bool true]) (by simp [results, Tryz.results34, go_sem, *]) rfl ⟨rfl, ?_⟩
    exact ((HB.out.trans ((hb1.trans (hb2.mono hb1.size)).mono HB.out.size)).setCell (p := ⟨w.heap.size + 1, 0, none⟩) (Nat.le_succ _) _).setCell (p := ⟨w.heap.size + 1, 1, none⟩) (Nat.le_succ _) _
end Go.Proofs.YtmnjmhlodbifjaaGreatDoor.NextI
namespace Go.Proofs.YtmnjmhlodbifjaaGreatDoor.MonPure
open Go Go.RowKit Go.Proofs.YtmnjmhlodbifjaaGreatDoor.Cal Go.Proofs.YtmnjmhlodbifjaaGreatDoor.Off Go.Proofs.YtmnjmhlodbifjaaGreatDoor.Search Go.Proofs.YtmnjmhlodbifjaaGreatDoor.NextI
set_option linter.unusedVariables false
theorem ys_le {y z : Int} (h : y < z) : ys (y + 1) ≤ ys z := by
  by_cases e : y + 1 = z
  · rw [e]; exact Int.le_refl _
  · have := ys_mono (y + 1) z (by omega)
    have := lp_01 (y + 1)
    omega
theorem dnum_lt {y m d z k e : Int} (h : Valid y m d) (h' : Valid z k e) (hlt : 12 * y + m < 12 * z + k) : dnum y m d < dnum z k e := by
  have h1 := dnum_in y m d h
  have h2 := dnum_in z k e h'
  obtain ⟨m1, m2, d1, d2⟩ := h
  obtain ⟨k1, k2, e1, e2⟩ := h'
  by_cases hy : y = z
  · subst hy
    have := cum_mono y m k m1 (by omega) (by omega)
    unfold dnum
    omega
  · have := ys_le (show y < z by omega)
    omega
theorem month_mono {n k : Int} (h : n ≤ k) : 12 * yOf n + mOf n ≤ 12 * yOf k + mOf k := by
  by_cases c : 12 * yOf n + mOf n ≤ 12 * yOf k + mOf k
  · exact c
  · have := dnum_lt (date_of k).1 (date_of n).1 (by omega)
    rw [(date_of k).2, (date_of n).2] at this
    omega
theorem has31 {y m z k d : Int} (hm : 1 ≤ m ∧ m ≤ 12) (hk : 1 ≤ k ∧ k ≤ 12) (h : 12 * z + k = 12 * y + m + 1) (hd : mlen y m < d) (h31 : d ≤ 31) : d ≤ mlen z k := by
  have h2 : ¬ (m ≠ 2 ∧ m ≠ 4 ∧ m ≠ 6 ∧ m ≠ 9 ∧ m ≠ 11) := by
    rintro ⟨a, b, c, e, f⟩
    unfold mlen at hd
    rw [if_neg a, if_neg (by omega)] at hd
    omega
  unfold mlen
  rw [if_neg (by omega), if_neg (by omega)]
  exact h31
def Past (s c d i : Int) : Prop := ∀ y m, Valid y m d → 12 * yOf (s / 86400) + mOf (s / 86400) ≤ 12 * y + m → 12 * y + m < i → 86400 * dnum y m d + c ≤ s
theorem past_next {s c d Y M i : Int} (hM : 1 ≤ M ∧ M ≤ 12) (h : Past s c d (12 * Y + M)) (hi : i = 12 * Y + M + 1) (hn : ¬ (d ≤ mlen Y M ∧ s < 86400 * dnum Y M d + c)) : Past s c d i := fun y m hv h1 h2 => by
  by_cases e : 12 * y + m < 12 * Y + M
  · exact h y m hv h1 e
  · obtain ⟨m1, m2, d1, d2⟩ := hv
    obtain rfl : y = Y := by omega
    obtain rfl : m = M := by omega
    omega
theorem later {s c d Y M : Int} (hc : 0 ≤ c ∧ c < 86400) (hv : Valid Y M d) (hi : 12 * yOf (s / 86400) + mOf (s / 86400) < 12 * Y + M) : s < 86400 * dnum Y M d + c := by
  have := dnum_lt (date_of (s / 86400)).1 hv hi
  rw [(date_of (s / 86400)).2] at this
  omega
theorem month_next {S : Sched} {s c d Y M : Int} (hc : 0 ≤ c ∧ c < 86400) (hv : Valid Y M d) (hp : Past s c d (12 * Y + M)) (hw : s < 86400 * dnum Y M d + c)
    (hi : 12 * Y + M ≤ 12 * yOf (s / 86400) + mOf (s / 86400) + 2) (hfit : ∀ y, Fit (fun _ => 0) S y ↔ dOf (y / 86400) = d ∧ y % 86400 = c) :
    IsNext (fun _ => 0) S (s + 1) (yOf (day (fun _ => 0) (s + 1)) + 5) (some (86400 * dnum Y M d + c)) := by
  have hod := of_date hv
  have hday : ∀ x : Int, day (fun _ => 0) x = x / 86400 := fun x => by unfold day lo; rw [Int.add_zero]
  have hx : (86400 * dnum Y M d + c) / 86400 = dnum Y M d := by omega
  refine ⟨by omega, (hfit _).2 ⟨by rw [hx]; exact hod.2.2, by omega⟩, ?_, fun y y1 y2 hy => ?_⟩
  · unfold yr
    rw [hday, hday, hx, hod.1]
    have h1 := month_mono (show s / 86400 ≤ (s + 1) / 86400 by omega)
    have h2 := year_mono (show s / 86400 ≤ (s + 1) / 86400 by omega)
    have h3 := (date_of (s / 86400)).1
    have h4 := hv.1
    have h5 := h3.2.1
    omega
  · obtain ⟨h1, h2⟩ := (hfit y).1 hy
    obtain ⟨n, hn⟩ : ∃ n, y / 86400 = n := ⟨_, rfl⟩
    rw [hn] at h1
    have hvn := (date_of n).1
    rw [h1] at hvn
    have hdn := (date_of n).2
    rw [h1] at hdn
    have h3 := month_mono (show s / 86400 ≤ n by omega)
    by_cases e : 12 * yOf n + mOf n < 12 * Y + M
    · have := hp _ _ hvn h3 e
      rw [hdn] at this
      omega
    · by_cases e2 : 12 * yOf n + mOf n = 12 * Y + M
      · obtain ⟨a1, a2, -, -⟩ := hvn
        obtain ⟨b1, b2, -, -⟩ := hv
        have f1 : yOf n = Y := by omega
        have f2 : mOf n = M := by omega
        rw [f1, f2] at hdn
        omega
      · have := dnum_lt hv hvn (by omega)
        rw [hdn] at this
        omega
end Go.Proofs.YtmnjmhlodbifjaaGreatDoor.MonPure
