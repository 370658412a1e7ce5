/- The reference's rule of the two fields of days, and its clocks. Conditions: days of at most 62. -/
import Derived.Test.YtoekefbclkmchaaSetOf
import Derived.Test.YtoekefbclkmchaaSpecCal
import Derived.Test.YtoekefbclkmchaaZone2
namespace Go.Proofs.Ytoekefbclkmchaa.DayFits
open Go Go.RowKit Go.Proofs.Ytoekefbclkmchaa.Set Go.Proofs.Ytoekefbclkmchaa.Fields Go.Proofs.Ytoekefbclkmchaa.Moment Go.Proofs.Ytoekefbclkmchaa.DayM Go.Proofs.Ytoekefbclkmchaa.TimeNum Go.Proofs.Ytoekefbclkmchaa.Cal Go.Proofs.Ytoekefbclkmchaa.Off Go.Proofs.Ytoekefbclkmchaa.SpecCal Go.Proofs.Ytoekefbclkmchaa.Zone Go.Proofs.Ytoekefbclkmchaa.Zone2 Go.Proofs.Ytoekefbclkmchaa.Lookup
set_option linter.unusedVariables false

def dayFits (st : Nat → Bool) (f : Nat → Nat → Bool) (d wd : Nat) : Bool := if st 3 || st 5 then f 3 d && f 5 wd else f 3 d || f 5 wd

set_option maxHeartbeats 1000000 in
theorem dayFits_any (st : Nat → Bool) (f : Nat → Nat → Bool) (y m : Int) (d wd : Nat) (w : World) (hd : d ≤ 62) (hwd : wd ≤ 62) :
    Calls Try.prog 16 #[.agg (fldArr st f), .agg #[.int .i64 y, .int .i64 m, .int .i64 (d : Int)], .int .i64 (wd : Int)] w fun e w' => e = .returned (.bool (dayFits st f d wd)) ∧ Below w.heap.size w w' := by
  have hb0 : Below w.heap.size w ((w.alloc (.cells (fldArr st f) 39)).alloc (.cells #[.int .i64 y, .int .i64 m, .int .i64 (d : Int)] 44)) := ((Below.refl _ _).alloc (Nat.le_refl _) _).alloc (by simp) _
  have hF := (FldAt.new w st f).below (Below.alloc (Below.refl (w.heap.size + 1) _) (by simp) (.cells #[.int .i64 y, .int .i64 m, .int .i64 (d : Int)] 44)) (by simp)
  have c1 : ((w.alloc (.cells (fldArr st f) 39)).alloc (.cells #[.int .i64 y, .int .i64 m, .int .i64 (d : Int)] 44)).cell? ⟨w.heap.size, 193 + d, none⟩ = some (.bool (f 3 d)) := hF.val 3 d (by omega) hd
  have c2 : ((w.alloc (.cells (fldArr st f) 39)).alloc (.cells #[.int .i64 y, .int .i64 m, .int .i64 (d : Int)] 44)).cell? ⟨w.heap.size, 321 + wd, none⟩ = some (.bool (f 5 wd)) := hF.val 5 wd (by omega) hwd
  have c3 : ((w.alloc (.cells (fldArr st f) 39)).alloc (.cells #[.int .i64 y, .int .i64 m, .int .i64 (d : Int)] 44)).cell? ⟨w.heap.size, 192, none⟩ = some (.bool (st 3)) := hF.star 3 (by omega)
  have c4 : ((w.alloc (.cells (fldArr st f) 39)).alloc (.cells #[.int .i64 y, .int .i64 m, .int .i64 (d : Int)] 44)).cell? ⟨w.heap.size, 320, none⟩ = some (.bool (st 5)) := hF.star 5 (by omega)
  have HF : Hid (dayFits st f d wd = if st 3 || st 5 then f 3 d && f 5 wd else f 3 d || f 5 wd) := Lib.hid rfl
  have i1 : (d : Int) < 63 := by omega
  have i2 : (wd : Int) < 63 := by omega
  have HB := Lib.hid hb0
  have HFL := Lib.hid hF
  generalize f 3 d = m1 at *
  generalize f 5 wd = m2 at *
  generalize st 3 = m3 at *
  generalize st 5 = m4 at *
  clear hb0 hF
  go_enter Try.func16, Try.ntmps16
  go_wp2_with (first
    | (with_reducible refine wpList_box_fields rfl (.tmp 0) rfl st f rfl ?_))
  go_quiet (fail)
  cases m3 <;> cases m4 <;> cases m1
  all_goals
    go_wp2_with fail
    go_ret
    exact ⟨by rw [HF.out]; simp, HB.out.trans (below_drewN _ _)⟩

/-- A new block behind calls. -/
theorem cells_after {w w1 : World} {E : TypeId} {cs : Array Value} (hb : Below (w.alloc (.cells cs E)).heap.size (w.alloc (.cells cs E)) w1) (j : Nat) (v : Value) (h : cs[j]? = some v) : w1.cell? ⟨w.heap.size, j, none⟩ = some v := by
  have hh : (w.alloc (.cells cs E)).heap[w.heap.size]? = some (.cells cs E) := heap_alloc_new w _
  rw [hb.cell (p := ⟨w.heap.size, j, none⟩) (by simp), cell_of_row _ _ _ _ _ _ hh, h]
theorem free_after {w w1 : World} {E : TypeId} {cs : Array Value} (hb : Below (w.alloc (.cells cs E)).heap.size (w.alloc (.cells cs E)) w1) (j : Nat) : w1.frozen? ⟨w.heap.size, j, none⟩ = false := by
  rw [hb.frozen (p := ⟨w.heap.size, j, none⟩) (by simp)]
  exact Time2.free_new _ _ _ _
theorem below_set8 {w w1 : World} {B b : Nat} {a0 a1 a2 a3 a4 a5 a6 a7 : Value} (hb : Below B w w1) (h : B ≤ b) : Below B w ((((((((w1.setCell ⟨b, 0, none⟩ a0).setCell ⟨b, 1, none⟩ a1).setCell ⟨b, 2, none⟩ a2).setCell ⟨b, 3, none⟩ a3).setCell ⟨b, 4, none⟩ a4).setCell ⟨b, 5, none⟩ a5).setCell ⟨b, 6, none⟩ a6).setCell ⟨b, 7, none⟩ a7) :=
  (((((((hb.setCell (p := ⟨b, 0, none⟩) h _).setCell (p := ⟨b, 1, none⟩) h _).setCell (p := ⟨b, 2, none⟩) h _).setCell (p := ⟨b, 3, none⟩) h _).setCell (p := ⟨b, 4, none⟩) h _).setCell (p := ⟨b, 5, none⟩) h _).setCell (p := ⟨b, 6, none⟩) h _).setCell (p := ⟨b, 7, none⟩) h _

/-- A new block of eight behind calls. -/
theorem block8_after {w w1 : World} {E : TypeId} {b : Nat} (hb : Below (w.alloc (.cells #[.int .i64 0, .int .i64 0, .int .i64 0, .int .i64 0, .int .i64 0, .int .i64 0, .int .i64 0, .int .i64 0] E)).heap.size (w.alloc (.cells #[.int .i64 0, .int .i64 0, .int .i64 0, .int .i64 0, .int .i64 0, .int .i64 0, .int .i64 0, .int .i64 0] E)) w1) (h : w.heap.size = b) :
    (w1.cell? ⟨b, 0, none⟩ = some (.int .i64 0) ∧ w1.cell? ⟨b, 1, none⟩ = some (.int .i64 0) ∧ w1.cell? ⟨b, 2, none⟩ = some (.int .i64 0) ∧ w1.cell? ⟨b, 3, none⟩ = some (.int .i64 0) ∧ w1.cell? ⟨b, 4, none⟩ = some (.int .i64 0) ∧ w1.cell? ⟨b, 5, none⟩ = some (.int .i64 0) ∧ w1.cell? ⟨b, 6, none⟩ = some (.int .i64 0) ∧ w1.cell? ⟨b, 7, none⟩ = some (.int .i64 0)) ∧
    (w1.frozen? ⟨b, 0, none⟩ = false ∧ w1.frozen? ⟨b, 1, none⟩ = false ∧ w1.frozen? ⟨b, 2, none⟩ = false ∧ w1.frozen? ⟨b, 3, none⟩ = false ∧ w1.frozen? ⟨b, 4, none⟩ = false ∧ w1.frozen? ⟨b, 5, none⟩ = false ∧ w1.frozen? ⟨b, 6, none⟩ = false ∧ w1.frozen? ⟨b, 7, none⟩ = false) := by
  subst h
  exact ⟨⟨cells_after hb 0 _ rfl, cells_after hb 1 _ rfl, cells_after hb 2 _ rfl, cells_after hb 3 _ rfl, cells_after hb 4 _ rfl, cells_after hb 5 _ rfl, cells_after hb 6 _ rfl, cells_after hb 7 _ rfl⟩, free_after hb 0, free_after hb 1, free_after hb 2, free_after hb 3, free_after hb 4, free_after hb 5, free_after hb 6, free_after hb 7⟩

/-- What clocks show, as cells. -/
def civA (l nano : Int) : Array Value := #[.int .i64 (yOf (l / 86400)), .int .i64 (mOf (l / 86400)), .int .i64 (dOf (l / 86400)), .int .i64 (l % 86400 / 3600), .int .i64 (l % 86400 / 60 % 60), .int .i64 (l % 60), .int .i64 nano, .int .i64 (wdOf (l / 86400))]

set_option maxHeartbeats 1000000 in
theorem clock_any (l nano : Int) (w : World) (h0 : -1500000000000 ≤ l) (h1 : l ≤ 1500000000000) :
    Calls Try.prog 38 #[.int .i64 l, .int .i64 nano] w fun e w' => e = .returned (.agg (civA l nano)) ∧ Below w.heap.size w w' := by
  have hn : Dn (l / 86400) := ⟨by omega, by omega⟩
  have HN := Lib.hid hn
  have hr : l - 86400 * (l / 86400) = l % 86400 := by omega
  have hr2 : 0 ≤ l % 86400 ∧ l % 86400 < 86400 := by omega
  have hr3 : -1500000086400 ≤ 86400 * (l / 86400) ∧ 86400 * (l / 86400) ≤ 1500000000000 := by omega
  have HC : Hid (civA l nano = #[.int .i64 (yOf (l / 86400)), .int .i64 (mOf (l / 86400)), .int .i64 (dOf (l / 86400)), .int .i64 (l % 86400 / 3600), .int .i64 (l % 86400 / 60 % 60), .int .i64 (l % 60), .int .i64 nano, .int .i64 (wdOf (l / 86400))]) := Lib.hid rfl
  clear hn
  go_enter Try.func38, Try.ntmps38
  go_wp2_with (first
    | (go_at_call 50; refine (floorDiv_any l 86400 _ ⟨by omega, by omega⟩ (by omega) (by omega)).mono ?_; rintro e w' ⟨rfl, rfl⟩)
    | (go_at_call 51; refine (dateOf_any (l / 86400) _ HN.out).mono ?_; rintro e w1 ⟨rfl, hb1⟩))
  obtain ⟨W, hW⟩ : ∃ W, w1.alloc (.cells #[.int .i64 (yOf (l / 86400)), .int .i64 (mOf (l / 86400)), .int .i64 (dOf (l / 86400))] 44) = W := ⟨_, rfl⟩
  obtain ⟨b2, hb2⟩ : ∃ b2, w1.heap.size = b2 := ⟨_, rfl⟩
  have hwW : Below w1.heap.size w1 W := by rw [← hW]; exact (Below.refl _ _).alloc (Nat.le_refl _) _
  have hbx := Time.box_new w1 44 (.int .i64 (yOf (l / 86400))) (.int .i64 (mOf (l / 86400))) (.int .i64 (dOf (l / 86400)))
  rw [hW, hb2] at hbx
  have hlt : w.heap.size < b2 := by rw [← hb2]; exact Nat.lt_of_lt_of_le (by simp) hb1.size
  have hb3 := hb1.trans (hwW.mono hb1.size)
  obtain ⟨-, q0, q1, q2⟩ := hbx
  have k0 := cells_after hb3 0 _ rfl
  have k1 := cells_after hb3 1 _ rfl
  have k2 := cells_after hb3 2 _ rfl
  have k3 := cells_after hb3 3 _ rfl
  have k4 := cells_after hb3 4 _ rfl
  have k5 := cells_after hb3 5 _ rfl
  have k6 := cells_after hb3 6 _ rfl
  have k7 := cells_after hb3 7 _ rfl
  have f0 := free_after hb3 0
  have f1 := free_after hb3 1
  have f2 := free_after hb3 2
  have f3 := free_after hb3 3
  have f4 := free_after hb3 4
  have f5 := free_after hb3 5
  have f6 := free_after hb3 6
  have f7 := free_after hb3 7
  have hne : b2 ≠ w.heap.size := by omega
  have hne' : w.heap.size ≠ b2 := by omega
  have HB1 := Lib.hid (((Below.refl _ _).alloc (Nat.le_refl _) _).trans (hb3.mono (by simp)))
  have v1 : IntKind.i64.wrap ((l % 86400).tdiv 3600) = l % 86400 / 3600 := by rw [Int.tdiv_eq_ediv_of_nonneg hr2.1]; exact IntWalk.i64_in _ (by omega)
  have v2 : IntKind.i64.wrap ((l % 86400).tdiv 60) = l % 86400 / 60 := by rw [Int.tdiv_eq_ediv_of_nonneg hr2.1]; exact IntWalk.i64_in _ (by omega)
  have v3 : (l % 86400 / 60).tmod 60 = l % 86400 / 60 % 60 := Int.tmod_eq_emod_of_nonneg (by omega)
  have v4 : (l % 86400).tmod 60 = l % 60 := by rw [Int.tmod_eq_emod_of_nonneg hr2.1]; omega
  rw [hW, hb2]
  clear hb1 hb3 hwW hW hb2
  go_region_held3 (fun w' => w'.cell? ⟨b2, 0, none⟩ = some (.int .i64 (yOf (l / 86400))) ∧ w'.cell? ⟨b2, 1, none⟩ = some (.int .i64 (mOf (l / 86400))) ∧ w'.cell? ⟨b2, 2, none⟩ = some (.int .i64 (dOf (l / 86400)))) (go_keep)
    ((go_at_call 57; refine (weekday_any (l / 86400) _ HN.out).mono ?_; rintro e w' ⟨rfl, rfl⟩))
  go_wp2_with fail
  refine bodyPost_ret (v := .agg #[.int .i64 (yOf (l / 86400)), .int .i64 (mOf (l / 86400)), .int .i64 (dOf (l / 86400)), .int .i64 (l % 86400 / 3600), .int .i64 (l % 86400 / 60 % 60), .int .i64 (l % 60), .int .i64 nano, .int .i64 (wdOf (l / 86400))]) (by simp [results, Try.results38, go_sem, *]) rfl ⟨by rw [HC.out], ?_⟩
  refine Below.drew ?_
  with_reducible exact below_set8 HB1.out (Nat.le_refl _)

set_option maxHeartbeats 2000000 in
set_option maxRecDepth 100000 in
theorem civil_any (r : Raw) (co cd cw ci : Nat) (s nano : Int) (w : World) (h : r.At w) (hok : r.Ok) (hbd : ∀ x, -86400 ≤ Raw.off r x ∧ Raw.off r x ≤ 86400) (h0 : -1000000000000 ≤ s) (h1 : s ≤ 1000000000000) :
    Calls Try.prog 13 #[.agg #[.int .i64 s, .int .i64 nano], .agg #[.slice r.ao r.no co, .slice r.ad r.nd cd, .slice r.aw r.nw cw, .slice r.ai r.ni ci]] w fun e w' => e = .returned (.agg (civA (s + Raw.off r s) nano)) ∧ Below w.heap.size w w' := by
  have hbo := hbd s
  obtain ⟨W, hW⟩ : ∃ W, ((w.alloc (.cells #[.int .i64 s, .int .i64 nano] 24)).alloc (.cells #[.slice r.ao r.no co, .slice r.ad r.nd cd, .slice r.aw r.nw cw, .slice r.ai r.ni ci] 29)) = W := ⟨_, rfl⟩
  have hbW : Below w.heap.size w W := by rw [← hW]; exact ((Below.refl _ _).alloc (Nat.le_refl _) _).alloc (by simp) _
  have hsW : W.heap.size = w.heap.size + 2 := by rw [← hW]; simp
  have hx1 : Below (w.alloc (.cells #[.int .i64 s, .int .i64 nano] 24)).heap.size (w.alloc (.cells #[.int .i64 s, .int .i64 nano] 24)) W := by rw [← hW]; exact (Below.refl _ _).alloc (Nat.le_refl _) _
  have hz1 := box4_after (w := w.alloc (.cells #[.int .i64 s, .int .i64 nano] 24)) (w1 := W) (E := 29) (a := .slice r.ao r.no co) (b := .slice r.ad r.nd cd) (c := .slice r.aw r.nw cw) (d := .slice r.ai r.ni ci) (by rw [hW]; exact Below.refl _ _)
  rw [show (w.alloc (.cells #[.int .i64 s, .int .i64 nano] 24)).heap.size = w.heap.size + 1 by simp] at hz1
  obtain ⟨z0, z1, z2, z3⟩ := hz1
  have t0 := cells_after hx1 0 _ rfl
  have t1 := cells_after hx1 1 _ rfl
  have HO := Lib.hid (fun w1 (hb : Below w.heap.size w w1) => offset_any r co cd cw ci s w1 (h.below hb) hok)
  have HK := Lib.hid (fun w1 => DayFits.clock_any (s + Raw.off r s) nano w1 (by omega) (by omega))
  have HBW := Lib.hid hbW
  obtain ⟨x0, x1, x2, x3, x4, x5, x6, x7, hciv⟩ : ∃ x0 x1 x2 x3 x4 x5 x6 x7 : Int, civA (s + Raw.off r s) nano = #[.int .i64 x0, .int .i64 x1, .int .i64 x2, .int .i64 x3, .int .i64 x4, .int .i64 x5, .int .i64 x6, .int .i64 x7] := ⟨_, _, _, _, _, _, _, _, rfl⟩
  rw [hciv] at HK
  have HCV := Lib.hid hciv
  clear h hok hbd hx1 hciv
  have v1 : IntKind.i64.wrap (s + Raw.off r s) = s + Raw.off r s := IntWalk.i64_in _ (by omega)
  go_enter Try.func13, Try.ntmps13
  go_wp2_with fail
  obtain ⟨V, hV⟩ : ∃ V, W.alloc (.cells #[.int .i64 0, .int .i64 0, .int .i64 0, .int .i64 0, .int .i64 0, .int .i64 0, .int .i64 0, .int .i64 0] 33) = V := ⟨_, rfl⟩
  have hVb : Below W.heap.size (W.alloc (.cells #[.int .i64 0, .int .i64 0, .int .i64 0, .int .i64 0, .int .i64 0, .int .i64 0, .int .i64 0, .int .i64 0] 33)) V := by rw [hV]; exact Below.refl _ _
  have HVB : Hid (Below (W.alloc (.cells #[.int .i64 0, .int .i64 0, .int .i64 0, .int .i64 0, .int .i64 0, .int .i64 0, .int .i64 0, .int .i64 0] 33)).heap.size (W.alloc (.cells #[.int .i64 0, .int .i64 0, .int .i64 0, .int .i64 0, .int .i64 0, .int .i64 0, .int .i64 0, .int .i64 0] 33)) V) := Lib.hid (by rw [hV]; exact Below.refl _ _)
  have hWV : Below W.heap.size W V := by rw [← hV]; exact (Below.refl _ _).alloc (Nat.le_refl _) _
  have HWV := Lib.hid hWV
  have hl0 : w.heap.size < W.heap.size := by omega
  have hl1 : w.heap.size + 1 < W.heap.size := by omega
  have a0 := (hWV.cell (p := ⟨w.heap.size, 0, none⟩) hl0).trans t0
  have a1 := (hWV.cell (p := ⟨w.heap.size, 1, none⟩) hl0).trans t1
  have b0 := (hWV.cell (p := ⟨w.heap.size + 1, 0, none⟩) hl1).trans z0
  have b1 := (hWV.cell (p := ⟨w.heap.size + 1, 1, none⟩) hl1).trans z1
  have b2 := (hWV.cell (p := ⟨w.heap.size + 1, 2, none⟩) hl1).trans z2
  have b3 := (hWV.cell (p := ⟨w.heap.size + 1, 3, none⟩) hl1).trans z3
  have HA := Lib.hid (⟨a0, a1, b0, b1, b2, b3⟩ : V.cell? ⟨w.heap.size, 0, none⟩ = some (.int .i64 s) ∧ V.cell? ⟨w.heap.size, 1, none⟩ = some (.int .i64 nano) ∧ V.cell? ⟨w.heap.size + 1, 0, none⟩ = some (.slice r.ao r.no co) ∧ V.cell? ⟨w.heap.size + 1, 1, none⟩ = some (.slice r.ad r.nd cd) ∧ V.cell? ⟨w.heap.size + 1, 2, none⟩ = some (.slice r.aw r.nw cw) ∧ V.cell? ⟨w.heap.size + 1, 3, none⟩ = some (.slice r.ai r.ni ci))
  have hlV : w.heap.size + 2 < V.heap.size := by rw [← hV]; simp; omega
  rw [hV]
  have HSW := Lib.hid hsW
  clear hVb hV hWV hsW hl0 hl1 t0 t1 z0 z1 z2 z3 hW hbW
  have HBV := Lib.hid (HBW.out.trans (HWV.out.mono HBW.out.size))
  go_region_held3 (fun w' => w'.cell? ⟨w.heap.size, 0, none⟩ = some (.int .i64 s) ∧ w'.cell? ⟨w.heap.size, 1, none⟩ = some (.int .i64 nano) ∧ w'.cell? ⟨w.heap.size + 1, 0, none⟩ = some (.slice r.ao r.no co) ∧ w'.cell? ⟨w.heap.size + 1, 1, none⟩ = some (.slice r.ad r.nd cd) ∧ w'.cell? ⟨w.heap.size + 1, 2, none⟩ = some (.slice r.aw r.nw cw) ∧ w'.cell? ⟨w.heap.size + 1, 3, none⟩ = some (.slice r.ai r.ni ci)) (go_keep)
    ((first
      | (go_at_call 25; refine (HO.out _ (by repeat (first | exact HBV.out | refine Below.drew ?_))).mono ?_; rintro e w1 ⟨rfl, hb0⟩; (have hb1 := undrew hb0); (have q1 : V.heap.size ≤ w1.heap.size := hb1.size); (have a0' := (hb1.cell (p := ⟨w.heap.size, 0, none⟩) (by show w.heap.size < V.heap.size; omega)).trans HA.out.1); (have a1' := (hb1.cell (p := ⟨w.heap.size, 1, none⟩) (by show w.heap.size < V.heap.size; omega)).trans HA.out.2.1); (have b0' := (hb1.cell (p := ⟨w.heap.size + 1, 0, none⟩) (by show w.heap.size + 1 < V.heap.size; omega)).trans HA.out.2.2.1); (have b1' := (hb1.cell (p := ⟨w.heap.size + 1, 1, none⟩) (by show w.heap.size + 1 < V.heap.size; omega)).trans HA.out.2.2.2.1); (have b2' := (hb1.cell (p := ⟨w.heap.size + 1, 2, none⟩) (by show w.heap.size + 1 < V.heap.size; omega)).trans HA.out.2.2.2.2.1); (have b3' := (hb1.cell (p := ⟨w.heap.size + 1, 3, none⟩) (by show w.heap.size + 1 < V.heap.size; omega)).trans HA.out.2.2.2.2.2); skip)
      | (go_at_call 38; refine (HK.out _).mono ?_; rintro e w2 ⟨rfl, hb2⟩; (have q2 : w1.heap.size ≤ w2.heap.size := hb2.size); (have a0'' := (hb2.cell (p := ⟨w.heap.size, 0, none⟩) (by show w.heap.size < w1.heap.size; omega)).trans a0'); (have a1'' := (hb2.cell (p := ⟨w.heap.size, 1, none⟩) (by show w.heap.size < w1.heap.size; omega)).trans a1'); (have b0'' := (hb2.cell (p := ⟨w.heap.size + 1, 0, none⟩) (by show w.heap.size + 1 < w1.heap.size; omega)).trans b0'); (have b1'' := (hb2.cell (p := ⟨w.heap.size + 1, 1, none⟩) (by show w.heap.size + 1 < w1.heap.size; omega)).trans b1'); (have b2'' := (hb2.cell (p := ⟨w.heap.size + 1, 2, none⟩) (by show w.heap.size + 1 < w1.heap.size; omega)).trans b2'); (have b3'' := (hb2.cell (p := ⟨w.heap.size + 1, 3, none⟩) (by show w.heap.size + 1 < w1.heap.size; omega)).trans b3'); (have hbz := HVB.out.trans ((hb1.mono (by show _ ≤ V.heap.size; exact HVB.out.size)).trans (hb2.mono (Nat.le_trans HVB.out.size q1)))); obtain ⟨⟨k0, k1, k2, k3, k4, k5, k6, k7⟩, f0, f1, f2, f3, f4, f5, f6, f7⟩ := block8_after hbz HSW.out)))
  all_goals
    have HB9 := Lib.hid (HBV.out.trans ((hb1.mono (show w.heap.size ≤ V.heap.size by omega)).trans (hb2.mono (by omega))))
    go_wp2_with fail
    refine bodyPost_ret (v := .agg #[.int .i64 x0, .int .i64 x1, .int .i64 x2, .int .i64 x3, .int .i64 x4, .int .i64 x5, .int .i64 x6, .int .i64 x7]) (by simp [results, Try.results13, go_sem, *]) rfl ⟨by rw [HCV.out], ?_⟩
    first
      | with_reducible exact below_set8 HB9.out (by omega)
      | (refine Below.drew ?_; with_reducible exact below_set8 HB9.out (by omega))

end Go.Proofs.Ytoekefbclkmchaa.DayFits
