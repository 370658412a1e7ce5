/- The walk of the law FnCronDayMatches. Conditions: none. -/
import Derived.Test.YtoekefbclkmchaaDayImpl
namespace Go.Proofs.Ytoekefbclkmchaa.fnCronDayMatches
open Go Go.RowKit Go.Proofs.Ytoekefbclkmchaa.Set Go.Proofs.Ytoekefbclkmchaa.Fields Go.Proofs.Ytoekefbclkmchaa.SetOf Go.Proofs.Ytoekefbclkmchaa.Moment Go.Proofs.Ytoekefbclkmchaa.DayM Go.Proofs.Ytoekefbclkmchaa.TimeNum Go.Proofs.Ytoekefbclkmchaa.Cal Go.Proofs.Ytoekefbclkmchaa.Off Go.Proofs.Ytoekefbclkmchaa.Time Go.Proofs.Ytoekefbclkmchaa.Time2 Go.Proofs.Ytoekefbclkmchaa.SpecCal Go.Proofs.Ytoekefbclkmchaa.Zone Go.Proofs.Ytoekefbclkmchaa.Zone2 Go.Proofs.Ytoekefbclkmchaa.Lookup Go.Proofs.Ytoekefbclkmchaa.DayFits Go.Proofs.Ytoekefbclkmchaa.DayImpl
set_option linter.unusedVariables false

theorem raw_bd {r : Raw} (h : r.Ok) (x : Int) : -86400 ≤ Raw.off r x ∧ Raw.off r x ≤ 86400 := by
  rcases h with ⟨-, -, h, -⟩ | ⟨h, -⟩
  · rw [off_utc h]; unfold zero; omega
  · exact h.bd x

def GoodT (s n : Int) (w : World) (e : Ending) (w' : World) : Prop := ∃ g : Bool, e = .returned (.bool g) ∧ (g = true → (-62135596800 ≤ s ∧ s ≤ 253402300799) ∧ 0 ≤ n ∧ n < 1000000000) ∧ Below w.heap.size w w'
theorem good_any (s n : Int) (w : World) : Calls Try.prog 11 #[.agg #[.int .i64 s, .int .i64 n]] w (GoodT s n w) := by
  by_cases h0 : s < -62135596800
  · go_enter Try.func11, Try.ntmps11
    go_wp2
    go_ret
    exact ⟨false, by simp, (fun h => by cases h), (Below.refl _ _).alloc (Nat.le_refl _) _⟩
  by_cases h1 : 253402300799 < s
  · go_enter Try.func11, Try.ntmps11
    go_wp2
    go_ret
    exact ⟨false, by simp, (fun h => by cases h), (Below.refl _ _).alloc (Nat.le_refl _) _⟩
  by_cases h2 : n < 0
  · go_enter Try.func11, Try.ntmps11
    go_wp2
    go_ret
    exact ⟨false, by simp, (fun h => by cases h), (Below.refl _ _).alloc (Nat.le_refl _) _⟩
  by_cases h3 : 1000000000 ≤ n
  · go_enter Try.func11, Try.ntmps11
    go_wp2
    go_ret
    exact ⟨false, by simp <;> omega, (fun h => by cases h), (Below.refl _ _).alloc (Nat.le_refl _) _⟩
  go_enter Try.func11, Try.ntmps11
  go_wp2
  go_ret
  exact ⟨true, by simp <;> omega, (fun _ => by omega), (Below.refl _ _).alloc (Nat.le_refl _) _⟩

/-- The load of a whole CronFields, closed to simp. -/
def load39 (v : Value) : Sem Value := Instr.loadAt 39 v
theorem load39_eq (v : Value) : Instr.loadAt 39 v = load39 v := rfl
attribute [local go_sem ↓] load39_eq

set_option maxHeartbeats 4000000 in
set_option maxRecDepth 100000 in
theorem walk (dom dow s n : Int) (r : Raw) (co cd cw ci : Nat) (w : World) (hd : U64 dom) (hw : U64 dow) (hr : r.no ≤ 2147483647 ∧ r.nd ≤ 2147483647 ∧ r.nw ≤ 2147483647 ∧ r.ni ≤ 2147483647 → r.At w) :
    Calls Try.prog 3 #[.int .u64 dom, .int .u64 dow, .agg #[.int .i64 s, .int .i64 n], .agg #[.slice r.ao r.no co, .slice r.ad r.nd cd, .slice r.aw r.nw cw, .slice r.ai r.ni ci]] w fun e w' => e = .returned (.bool true) ∧ Below w.heap.size w w' := by
  obtain ⟨W, hW⟩ : ∃ W, ((w.alloc (.cells #[.int .i64 s, .int .i64 n] 24)).alloc (.cells #[.slice r.ao r.no co, .slice r.ad r.nd cd, .slice r.aw r.nw cw, .slice r.ai r.ni ci] 29)) = W := ⟨_, rfl⟩
  have hbW : Below w.heap.size w W := by rw [← hW]; exact ((Below.refl _ _).alloc (Nat.le_refl _) _).alloc (by simp) _
  have hsW : W.heap.size = w.heap.size + 2 := by rw [← hW]; simp
  have hx1 : Below (w.alloc (.cells #[.int .i64 s, .int .i64 n] 24)).heap.size (w.alloc (.cells #[.int .i64 s, .int .i64 n] 24)) W := by rw [← hW]; exact (Below.refl _ _).alloc (Nat.le_refl _) _
  have hz1 := box4_after (w := w.alloc (.cells #[.int .i64 s, .int .i64 n] 24)) (w1 := W) (E := 29) (a := .slice r.ao r.no co) (b := .slice r.ad r.nd cd) (c := .slice r.aw r.nw cw) (d := .slice r.ai r.ni ci) (by rw [hW]; exact Below.refl _ _)
  rw [show (w.alloc (.cells #[.int .i64 s, .int .i64 n] 24)).heap.size = w.heap.size + 1 by simp] at hz1
  have t0 := cells_after hx1 0 _ rfl
  have t1 := cells_after hx1 1 _ rfl
  -- the boxes hold in every later world
  have HK0 : Hid (∀ V, Below W.heap.size W V → V.cell? ⟨w.heap.size, 0, none⟩ = some (.int .i64 s) ∧ V.cell? ⟨w.heap.size, 1, none⟩ = some (.int .i64 n) ∧ V.cell? ⟨w.heap.size + 1, 0, none⟩ = some (.slice r.ao r.no co) ∧ V.cell? ⟨w.heap.size + 1, 1, none⟩ = some (.slice r.ad r.nd cd) ∧ V.cell? ⟨w.heap.size + 1, 2, none⟩ = some (.slice r.aw r.nw cw) ∧ V.cell? ⟨w.heap.size + 1, 3, none⟩ = some (.slice r.ai r.ni ci)) := Lib.hid (fun V hV =>
    ⟨(hV.cell (p := ⟨w.heap.size, 0, none⟩) (by show w.heap.size < W.heap.size; omega)).trans t0, (hV.cell (p := ⟨w.heap.size, 1, none⟩) (by show w.heap.size < W.heap.size; omega)).trans t1, (hV.cell (p := ⟨w.heap.size + 1, 0, none⟩) (by show w.heap.size + 1 < W.heap.size; omega)).trans hz1.1, (hV.cell (p := ⟨w.heap.size + 1, 1, none⟩) (by show w.heap.size + 1 < W.heap.size; omega)).trans hz1.2.1, (hV.cell (p := ⟨w.heap.size + 1, 2, none⟩) (by show w.heap.size + 1 < W.heap.size; omega)).trans hz1.2.2.1, (hV.cell (p := ⟨w.heap.size + 1, 3, none⟩) (by show w.heap.size + 1 < W.heap.size; omega)).trans hz1.2.2.2⟩)
  have HBW := Lib.hid hbW
  have HR := Lib.hid hr
  have HDU := Lib.hid hd
  have HWU := Lib.hid hw
  clear hbW hx1 hz1 t0 t1 hr hd hw
  obtain ⟨z0, z1, z2, z3, z4, z5⟩ := HK0.out W (Below.refl _ _)
  go_enter Try.func3, Try.ntmps3
  go_wp2_with fail
  refine (fits_any r co cd cw ci _).mono ?_
  rintro e w1 ⟨g, rfl, hfit, hb1⟩
  have HB1 := Lib.hid hb1
  have HF := Lib.hid hfit
  clear hb1 hfit z0 z1 z2 z3 z4 z5 hW
  obtain ⟨z0, z1, z2, z3, z4, z5⟩ := HK0.out w1 HB1.out
  cases g
  · go_wp2
    go_ret
    exact ⟨rfl, HBW.out.trans (HB1.out.mono HBW.out.size)⟩
  have HAt := Lib.hid (HR.out (HF.out (by trivial)))
  go_wp2_with fail
  refine (good_any s n _).mono ?_
  rintro e w2 ⟨g, rfl, hgood, hb2⟩
  have HB2 := Lib.hid (HB1.out.trans (hb2.mono HB1.out.size))
  have HG := Lib.hid hgood
  clear hb2 hgood z0 z1 z2 z3 z4 z5
  obtain ⟨z0, z1, z2, z3, z4, z5⟩ := HK0.out w2 HB2.out
  cases g
  · go_wp2
    go_ret
    exact ⟨rfl, HBW.out.trans (HB2.out.mono HBW.out.size)⟩
  go_wp2_with fail
  refine (goodZone_any r co cd cw ci _ (HAt.out.below (HBW.out.trans (HB2.out.mono HBW.out.size)))).mono ?_
  rintro e w3 ⟨g, rfl, hzone, hb3⟩
  have HB3 := Lib.hid (HB2.out.trans (hb3.mono HB2.out.size))
  have HZ := Lib.hid hzone
  clear hb3 hzone z0 z1 z2 z3 z4 z5
  obtain ⟨z0, z1, z2, z3, z4, z5⟩ := HK0.out w3 HB3.out
  cases g
  · go_wp2
    go_ret
    exact ⟨rfl, HBW.out.trans (HB3.out.mono HBW.out.size)⟩
  have HOk := Lib.hid (HZ.out (by trivial))
  have hgd := HG.out (by trivial)
  have hbd := raw_bd HOk.out
  have hbds := hbd s
  have hv := (date_of (day (Raw.off r) s)).1
  have hml := mlen_bd (yOf (day (Raw.off r) s)) (mOf (day (Raw.off r) s))
  obtain ⟨dn, hdn⟩ : ∃ dn : Nat, dOf (day (Raw.off r) s) = dn := ⟨(dOf (day (Raw.off r) s)).toNat, by have := hv.2.2.1; omega⟩
  obtain ⟨wn, hwn⟩ : ∃ wn : Nat, wdOf (day (Raw.off r) s) = wn := ⟨(wdOf (day (Raw.off r) s)).toNat, by unfold wdOf; omega⟩
  have hdb : dn ≤ 31 ∧ 1 ≤ dn := by have := hv.2.2.2; have := hv.2.2.1; omega
  have hwb : wn ≤ 6 := by unfold wdOf at hwn; omega
  obtain ⟨x0, x1, x3, x4, x5, x6, hciv⟩ : ∃ x0 x1 x3 x4 x5 x6 : Int, civA (s + Raw.off r s) n = #[.int .i64 x0, .int .i64 x1, .int .i64 (dn : Int), .int .i64 x3, .int .i64 x4, .int .i64 x5, .int .i64 x6, .int .i64 (wn : Int)] := ⟨_, _, _, _, _, _, by rw [← hdn, ← hwn]; rfl⟩
  have HC := Lib.hid (fun w1 (hb : Below w.heap.size w w1) => civil_any r co cd cw ci s n w1 (HAt.out.below hb) HOk.out hbd (by omega) (by omega))
  rw [hciv] at HC
  have HM := Lib.hid (fun w1 (hb : Below w.heap.size w w1) => implDay_any r co cd cw ci dom dow s n w1 (HAt.out.below hb) HOk.out HDU.out HWU.out hgd.2.1 hgd.2.2 (by omega) (by omega))
  have HEQ := Lib.hid (fun st f h1 h2 h3 h4 => dayFits_eq dom dow (day (Raw.off r) s) st f dn wn hdn hwn h1 h2 h3 h4)
  clear hbd hbds hv hml hdn hwn hciv hgd
  have HBw := Lib.hid (HBW.out.trans (HB3.out.mono HBW.out.size))
  go_wp2_with fail
  refine (HC.out _ HBw.out).mono ?_
  rintro e w4 ⟨rfl, hb4⟩
  have HB4 := Lib.hid (HB3.out.trans (hb4.mono HB3.out.size))
  clear hb4 z0 z1 z2 z3 z4 z5
  obtain ⟨z0, z1, z2, z3, z4, z5⟩ := HK0.out w4 HB4.out
  have HS3 : Hid (∀ w1, Calls Try.prog 14 #[.int .i64 3, .int .u64 dom] w1 fun e w' => e = .returned (.agg (setArr (has dom 63) (inK 3 dom))) ∧ Below w1.heap.size w1 w') := Lib.hid (fun w1 => setOf_any 3 dom w1 (by omega) HDU.out)
  have HS5 : Hid (∀ w1, Calls Try.prog 14 #[.int .i64 5, .int .u64 dow] w1 fun e w' => e = .returned (.agg (setArr (has dow 63) (inK 5 dow))) ∧ Below w1.heap.size w1 w') := Lib.hid (fun w1 => setOf_any 5 dow w1 (by omega) HWU.out)
  obtain ⟨V, hV⟩ : ∃ V, (w4.alloc (.cells #[.int .i64 x0, .int .i64 x1, .int .i64 (dn : Int), .int .i64 x3, .int .i64 x4, .int .i64 x5, .int .i64 x6, .int .i64 (wn : Int)] 33)).alloc (.cells (fldArr (fun _ => false) fun _ _ => false) 39) = V := ⟨_, rfl⟩
  have hF : FldAt V (w4.heap.size + 1) (fun _ => false) (fun _ _ => false) := by
    have := FldAt.new (w4.alloc (.cells #[.int .i64 x0, .int .i64 x1, .int .i64 (dn : Int), .int .i64 x3, .int .i64 x4, .int .i64 x5, .int .i64 x6, .int .i64 (wn : Int)] 33)) (fun _ => false) (fun _ _ => false)
    rw [hV, show (w4.alloc (.cells #[.int .i64 x0, .int .i64 x1, .int .i64 (dn : Int), .int .i64 x3, .int .i64 x4, .int .i64 x5, .int .i64 x6, .int .i64 (wn : Int)] 33)).heap.size = w4.heap.size + 1 by simp] at this
    exact this
  have hcv : Below (w4.alloc (.cells #[.int .i64 x0, .int .i64 x1, .int .i64 (dn : Int), .int .i64 x3, .int .i64 x4, .int .i64 x5, .int .i64 x6, .int .i64 (wn : Int)] 33)).heap.size (w4.alloc (.cells #[.int .i64 x0, .int .i64 x1, .int .i64 (dn : Int), .int .i64 x3, .int .i64 x4, .int .i64 x5, .int .i64 x6, .int .i64 (wn : Int)] 33)) V := by rw [← hV]; exact (Below.refl _ _).alloc (Nat.le_refl _) _
  have hV4 : Below w4.heap.size w4 V := by rw [← hV]; exact ((Below.refl _ _).alloc (Nat.le_refl _) _).alloc (by simp) _
  have hsV : w4.heap.size + 1 < V.heap.size := by rw [← hV]; simp
  have HKC : Hid (∀ U, Below V.heap.size V U → U.cell? ⟨w4.heap.size, 0, none⟩ = some (.int .i64 x0) ∧ U.cell? ⟨w4.heap.size, 1, none⟩ = some (.int .i64 x1) ∧ U.cell? ⟨w4.heap.size, 2, none⟩ = some (.int .i64 (dn : Int)) ∧ U.cell? ⟨w4.heap.size, 7, none⟩ = some (.int .i64 (wn : Int))) := Lib.hid (fun U hU => by
    have hb := hcv.trans (hU.mono hcv.size)
    exact ⟨cells_after hb 0 _ rfl, cells_after hb 1 _ rfl, cells_after hb 2 _ rfl, cells_after hb 7 _ rfl⟩)
  have HFV := Lib.hid hF
  have HV4 := Lib.hid hV4
  have HSV := Lib.hid hsV
  clear hF hcv hV4
  go_wp2_with (first
    | (with_reducible refine wpList_alloc_fields rfl rfl ?_)
    | ((go_at_call 14); (with_reducible refine (HS3.out _).mono ?_); rintro e w5 ⟨rfl, hb5⟩)
    | ((go_at_call 14); (with_reducible refine (HS5.out _).mono ?_); rintro e w6 ⟨rfl, hb6⟩)
    | (with_reducible refine wpList_store_one rfl (.tmp 29) (.tmp 26) rfl (w4.heap.size + 1) 3 (by omega) (fun _ => false) (fun _ _ => false) (has dom 63) (inK 3 dom) rfl rfl (HFV.out.below (hb5.trans (hb6.mono hb5.size)) (by omega)) ?_)
    | (with_reducible refine wpList_store_one rfl (.tmp 30) (.tmp 28) rfl (w4.heap.size + 1) 5 (by omega) _ _ (has dow 63) (inK 5 dow) rfl rfl ((HFV.out.below (hb5.trans (hb6.mono hb5.size)) (by omega)).put 3 (by omega) _ _) ?_))
  obtain ⟨b9, hb9⟩ : ∃ b9, w4.heap.size = b9 := ⟨_, rfl⟩
  obtain ⟨U, hUe⟩ : ∃ U, (w6.setCells (w4.heap.size + 1) (3 * 64) (setArr (has dom 63) (inK 3 dom)).toList).setCells (w4.heap.size + 1) (5 * 64) (setArr (has dow 63) (inK 5 dow)).toList = U := ⟨_, rfl⟩
  have hU : Below (w4.heap.size + 1) w6 U := by rw [← hUe]; exact below_setCells _ (below_setCells _ (Below.refl _ _) (Nat.le_refl _)) (Nat.le_refl _)
  have hF6 : FldAt w6 (w4.heap.size + 1) (fun _ => false) (fun _ _ => false) := HFV.out.below (hb5.trans (hb6.mono hb5.size)) HSV.out
  have hFU : FldAt U (w4.heap.size + 1) (updK (updK (fun _ => false) 3 (has dom 63)) 5 (has dow 63)) (updK (updK (fun _ _ => false) 3 (inK 3 dom)) 5 (inK 5 dow)) := by rw [← hUe]; exact (hF6.put 3 (by omega) _ _).put 5 (by omega) _ _
  obtain ⟨FL, hFL⟩ : ∃ FL, (fldArr (updK (updK (fun _ => false) 3 (has dom 63)) 5 (has dow 63)) (updK (updK (fun _ _ => false) 3 (inK 3 dom)) 5 (inK 5 dow))).toList = FL := ⟨_, rfl⟩
  have hFLa : FL.toArray = fldArr (updK (updK (fun _ => false) 3 (has dom 63)) 5 (has dow 63)) (updK (updK (fun _ _ => false) 3 (inK 3 dom)) 5 (inK 5 dow)) := by rw [← hFL]
  obtain ⟨FA, hFA⟩ : ∃ FA, fldArr (updK (updK (fun _ => false) 3 (has dom 63)) 5 (has dow 63)) (updK (updK (fun _ _ => false) 3 (inK 3 dom)) 5 (inK 5 dow)) = FA := ⟨_, rfl⟩
  have hlenF : FL.length = 384 := by rw [← hFL]; simp [fldArr_size]
  have honeF : ∀ v ∈ FL, v.oneCell' = true := by
    intro v hv
    rw [← hFL, Array.mem_toList_iff] at hv
    exact (Array.all_eq_true_iff_forall_mem.1 (fldArr_one _ _)) v hv
  have hiF : (Try.prog.info? 39).map (·.size) = some FL.length := by rw [hlenF]; exact sizeInfoF
  have huF := Try.underlying39
  have hbV6 : Below V.heap.size V w6 := hb5.trans (hb6.mono hb5.size)
  have hlU : w4.heap.size + 1 < U.heap.size := hFU.lt
  have hsz4 : W.heap.size ≤ w4.heap.size := HB4.out.size
  have hWU : Below W.heap.size W U := ((HB4.out.trans (HV4.out.mono HB4.out.size)).trans (hbV6.mono (by omega))).trans (hU.mono (by omega))
  have hrF : U.rangeAt (w4.heap.size + 1) 0 FL := by rw [← hFL]; exact hFU.range
  have hKU := HKC.out w6 hbV6
  have HKS : Hid (∀ X, Below U.heap.size U X → X.cell? ⟨w.heap.size, 0, none⟩ = some (.int .i64 s) ∧ X.cell? ⟨w.heap.size, 1, none⟩ = some (.int .i64 n) ∧ X.cell? ⟨w.heap.size + 1, 0, none⟩ = some (.slice r.ao r.no co) ∧ X.cell? ⟨w.heap.size + 1, 1, none⟩ = some (.slice r.ad r.nd cd) ∧ X.cell? ⟨w.heap.size + 1, 2, none⟩ = some (.slice r.aw r.nw cw) ∧ X.cell? ⟨w.heap.size + 1, 3, none⟩ = some (.slice r.ai r.ni ci) ∧ X.cell? ⟨b9, 0, none⟩ = some (.int .i64 x0) ∧ X.cell? ⟨b9, 1, none⟩ = some (.int .i64 x1) ∧ X.cell? ⟨b9, 2, none⟩ = some (.int .i64 (dn : Int)) ∧ X.cell? ⟨b9, 7, none⟩ = some (.int .i64 (wn : Int)) ∧ (load39 (.pointer (some ⟨b9 + 1, 0, none⟩))).run Try.prog X = .ok (.agg FA) X) := Lib.hid (fun X hX => by
    obtain ⟨y0, y1, y2, y3, y4, y5⟩ := HK0.out X (hWU.trans (hX.mono (by omega)))
    have hc : ∀ j, X.cell? ⟨w4.heap.size, j, none⟩ = w6.cell? ⟨w4.heap.size, j, none⟩ := fun j => (hX.cell (p := ⟨w4.heap.size, j, none⟩) (by show w4.heap.size < U.heap.size; omega)).trans (hU.cell (p := ⟨w4.heap.size, j, none⟩) (by show w4.heap.size < w4.heap.size + 1; omega))
    rw [← hb9]
    refine ⟨y0, y1, y2, y3, y4, y5, (hc 0).trans hKU.1, (hc 1).trans hKU.2.1, (hc 2).trans hKU.2.2.1, (hc 7).trans hKU.2.2.2, ?_⟩
    have hr := (hFU.below hX hFU.lt).range
    rw [hFL] at hr
    have := run_loadAt_mid (P := Try.prog) X (w4.heap.size + 1) 0 39 FL _ hr huF rfl hiF
    rw [hFLa, hFA] at this
    exact this)
  have HFIT := Lib.hid (fun w1 => dayFits_any (updK (updK (fun _ => false) 3 (has dom 63)) 5 (has dow 63)) (updK (updK (fun _ _ => false) 3 (inK 3 dom)) 5 (inK 5 dow)) x0 x1 dn wn w1 (by omega) (by omega))
  rw [hFA] at HFIT
  have HE2 := Lib.hid (HEQ.out (updK (updK (fun _ => false) 3 (has dom 63)) 5 (has dow 63)) (updK (updK (fun _ _ => false) 3 (inK 3 dom)) 5 (inK 5 dow)) rfl rfl (by simp [updK, inK, loK, hiK]; omega) (by simp [updK, inK, loK, hiK]; omega))
  have HBU := Lib.hid (HBW.out.trans (hWU.mono HBW.out.size))
  have HS0 := HKS.out U (Below.refl _ _)
  rw [hUe, hb9]
  clear huF hiF hlenF honeF hFA hUe hU hF6 hFU hFL hFLa hbV6 hWU hrF hKU z0 z1 z2 z3 z4 z5 hV HKC HFV HV4 hb5 hb6
  obtain ⟨z0, z1, z2, z3, z4, z5, z6, z7, z8, z9, z10⟩ := HS0
  go_region_held3 (fun X => X.cell? ⟨w.heap.size, 0, none⟩ = some (.int .i64 s) ∧ X.cell? ⟨w.heap.size, 1, none⟩ = some (.int .i64 n) ∧ X.cell? ⟨w.heap.size + 1, 0, none⟩ = some (.slice r.ao r.no co) ∧ X.cell? ⟨w.heap.size + 1, 1, none⟩ = some (.slice r.ad r.nd cd) ∧ X.cell? ⟨w.heap.size + 1, 2, none⟩ = some (.slice r.aw r.nw cw) ∧ X.cell? ⟨w.heap.size + 1, 3, none⟩ = some (.slice r.ai r.ni ci) ∧ X.cell? ⟨b9, 0, none⟩ = some (.int .i64 x0) ∧ X.cell? ⟨b9, 1, none⟩ = some (.int .i64 x1) ∧ X.cell? ⟨b9, 2, none⟩ = some (.int .i64 (dn : Int)) ∧ X.cell? ⟨b9, 7, none⟩ = some (.int .i64 (wn : Int)) ∧ (load39 (.pointer (some ⟨b9 + 1, 0, none⟩))).run Try.prog X = .ok (.agg FA) X) (exact HKS.out _ (by repeat (first | exact Below.refl _ _ | assumption | refine Below.drew ?_)))
    ((first
      | (go_at_call 15; refine (HM.out _ (by repeat (first | exact HBU.out | refine Below.drew ?_))).mono ?_; rintro x y1 ⟨rfl, hb0⟩; (have hB1 := undrew hb0))
      | (go_at_call 15; refine (HM.out _ (HBU.out.trans (hB1.mono HBU.out.size))).mono ?_; rintro x y2 ⟨rfl, hb2⟩; (have hB2 := hB1.trans (hb2.mono hB1.size)))
      | (go_at_call 16; refine (HFIT.out _).mono ?_; rintro x y1 ⟨rfl, hb0⟩; (have hB1 := undrew hb0))
      | (go_at_call 16; refine (HFIT.out _).mono ?_; rintro x y2 ⟨rfl, hb2⟩; (have hB2 := hB1.trans (hb2.mono hB1.size)))))
  all_goals
    rw [HE2.out]
    go_wp2
    go_ret
    exact ⟨by simp, HBU.out.trans (hB2.mono HBU.out.size)⟩

end Go.Proofs.Ytoekefbclkmchaa.fnCronDayMatches
