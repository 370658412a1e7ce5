/- The reference's CronNext: the least fitting second. Conditions: a plain zone, its transitions within some ten thousand years. -/
import Derived.Test.YtoekefbclkmchaaLocal
import Derived.Test.YtoekefbclkmchaaChange
import Derived.Test.YtoekefbclkmchaaNextJ
namespace Go.Proofs.Ytoekefbclkmchaa.SpecNext
open Go Go.RowKit Go.Proofs.Ytoekefbclkmchaa.Set Go.Proofs.Ytoekefbclkmchaa.Fields Go.Proofs.Ytoekefbclkmchaa.SetOf Go.Proofs.Ytoekefbclkmchaa.Moment Go.Proofs.Ytoekefbclkmchaa.DayM Go.Proofs.Ytoekefbclkmchaa.TimeNum Go.Proofs.Ytoekefbclkmchaa.Cal Go.Proofs.Ytoekefbclkmchaa.Off Go.Proofs.Ytoekefbclkmchaa.Search Go.Proofs.Ytoekefbclkmchaa.SpecCal Go.Proofs.Ytoekefbclkmchaa.Lookup Go.Proofs.Ytoekefbclkmchaa.Zone Go.Proofs.Ytoekefbclkmchaa.Zone2 Go.Proofs.Ytoekefbclkmchaa.DayFits Go.Proofs.Ytoekefbclkmchaa.FieldsOf Go.Proofs.Ytoekefbclkmchaa.Never Go.Proofs.Ytoekefbclkmchaa.CronTime Go.Proofs.Ytoekefbclkmchaa.Tomorrow Go.Proofs.Ytoekefbclkmchaa.Local Go.Proofs.Ytoekefbclkmchaa.Change Go.Proofs.Ytoekefbclkmchaa.NextC Go.Proofs.Ytoekefbclkmchaa.NextI
set_option linter.unusedVariables false
attribute [local go_sem ↓] load39_eq

theorem inK_in (k : Nat) (S : Int) (v : Nat) (h1 : loK k ≤ v) (h2 : v ≤ hiK k) : inK k S v = has S (v : Int) := by
  unfold inK
  rw [decide_eq_true h1, decide_eq_true h2]
  rfl
/-- The reference's seconds of clocks are the schedule's. -/
theorem lfit_fit (se mi hr dom mon dow : Int) (off : Int → Int) (y : Int) :
    lfit (stS (six se mi hr dom mon dow)) (fS (six se mi hr dom mon dow)) (lo off y) = true ↔ Fit off (sched se mi hr dom mon dow) y := by
  have hday : day off y = lo off y / 86400 := rfl
  have htod : tod off y = lo off y % 86400 := rfl
  have htb := tod_bd (off := off) y
  obtain ⟨N, hN⟩ : ∃ N, lo off y / 86400 = N := ⟨_, rfl⟩
  obtain ⟨e, he⟩ : ∃ e : Nat, lo off y % 86400 = e := ⟨(lo off y % 86400).toNat, by omega⟩
  have heb : e < 86400 := by omega
  obtain ⟨⟨p1, p2, p3, p4⟩, -⟩ := date_of N
  have hml := mlen_bd (yOf N) (mOf N)
  obtain ⟨mn, hmn⟩ : ∃ mn : Nat, mOf N = mn := ⟨(mOf N).toNat, by omega⟩
  obtain ⟨dn, hdn⟩ : ∃ dn : Nat, dOf N = dn := ⟨(dOf N).toNat, by omega⟩
  obtain ⟨wn, hwn⟩ : ∃ wn : Nat, wdOf N = wn := ⟨(wdOf N).toNat, by unfold wdOf; omega⟩
  have hw6 : wn ≤ 6 := by unfold wdOf at hwn; omega
  have e4 : fS (six se mi hr dom mon dow) 4 mn = has mon (mn : Int) := inK_in 4 mon mn (by simp [loK]; omega) (by simp [hiK]; omega)
  have e3 : fS (six se mi hr dom mon dow) 3 dn = has dom (dn : Int) := inK_in 3 dom dn (by simp [loK]; omega) (by simp [hiK]; omega)
  have e5 : fS (six se mi hr dom mon dow) 5 wn = has dow (wn : Int) := inK_in 5 dow wn (by simp [loK]) (by simp [hiK]; omega)
  have e2 : fS (six se mi hr dom mon dow) 2 (e / 3600) = has hr ((e / 3600 : Nat) : Int) := inK_in 2 hr _ (by simp [loK]) (by simp [hiK]; omega)
  have e1 : fS (six se mi hr dom mon dow) 1 (e % 3600 / 60) = has mi ((e % 3600 / 60 : Nat) : Int) := inK_in 1 mi _ (by simp [loK]) (by simp [hiK]; omega)
  have e0 : fS (six se mi hr dom mon dow) 0 (e % 60) = has se ((e % 60 : Nat) : Int) := inK_in 0 se _ (by simp [loK]) (by simp [hiK]; omega)
  have ed : dayFits (stS (six se mi hr dom mon dow)) (fS (six se mi hr dom mon dow)) dn wn = dayOK dom dow N := DayImpl.dayFits_eq dom dow N _ _ dn wn hdn hwn rfl rfl e3 e5
  unfold lfit dfit tfit Fit monF dyF hrF miF seF sched
  rw [hday, htod, hN, he, hmn, hdn, hwn]
  dsimp only
  simp only [Int.toNat_natCast]
  rw [e4, e2, e1, e0, ed]
  rw [show ((e : Int) / 3600) = ((e / 3600 : Nat) : Int) by omega, show ((e : Int) % 3600 / 60) = ((e % 3600 / 60 : Nat) : Int) by omega, show ((e : Int) % 60) = ((e % 60 : Nat) : Int) by omega]
  simp only [Bool.and_eq_true]
  constructor
  · rintro ⟨⟨h1, h2⟩, ⟨h3, h4⟩, h5⟩
    exact ⟨h1, h2, h3, h4, h5⟩
  · rintro ⟨h1, h2, h3, h4, h5⟩
    exact ⟨⟨h1, h2⟩, ⟨h3, h4⟩, h5⟩

/-- What is known of the zone. -/
structure Calm (r : Raw) : Prop where
  pl : ∀ A B, -100000000000 ≤ A → Plain (Raw.off r) A B
  ch : ∀ i, i < r.nw → -70000000000 ≤ r.wh i → r.wh i ≤ 300000000000

def SpecRes (off : Int → Int) (S : Sched) (first last : Int) (w : World) (e : Ending) (w' : World) : Prop :=
  (∃ o, IsNext off S first last o ∧ e = .returned (ansV o)) ∧ Below w.heap.size w w'

/-- The search so far. -/
def Sofar (off : Int → Int) (S : Sched) (first last x : Int) : Prop := ∀ y, first ≤ y → y < x → yr off y ≤ last → ¬ Fit off S y

section
variable {off : Int → Int} {S : Sched} {st : Nat → Bool} {f : Nat → Nat → Bool} {first last x til lx : Int}
theorem year_lt {n : Int} (h : yOf n ≤ last) : n < ys (last + 1) := by
  by_cases c : ys (last + 1) ≤ n
  · have h1 := year_in n
    by_cases c2 : yOf n + 1 = last + 1
    · rw [c2] at h1; omega
    · have := ys_mono (yOf n + 1) (last + 1) (by omega)
      have := lp_01 (yOf n + 1)
      omega
  · omega
theorem end_found (hf0 : -100000000000 ≤ first) (hP : ∀ A B, -100000000000 ≤ A → Plain off A B) (hfit : ∀ y, lfit st f (lo off y) = true ↔ Fit off S y) (hS : Sofar off S first last x) (hfx : first ≤ x)
    (hc : ∀ y, x ≤ y → y + off x < til → off y = off x) (h : LocalIs st f (x + off x) til last lx true) : IsNext off S first last (some (lx - off x)) := by
  rcases h with ⟨-, h1, h2, h3, h4, h5⟩ | ⟨h1, -⟩
  · have ho := hc (lx - off x) (by omega) (by omega)
    have hlo : lo off (lx - off x) = lx := by unfold lo; rw [ho]; omega
    have hyr : yr off (lx - off x) ≤ last := by unfold yr day; rw [hlo]; exact h4
    refine ⟨by omega, (hfit _).1 (by rw [hlo]; exact h3), hyr, fun y y1 y2 hy => ?_⟩
    by_cases c : y < x
    · refine hS y y1 c ?_ hy
      have := year_mono (day_mono (hP y (lx - off x) (by omega)) (Int.le_refl y) (by omega) (Int.le_refl _))
      unfold yr at *
      omega
    · have ho2 := hc y (by omega) (by omega)
      have hlo2 : lo off y = y + off x := by unfold lo; rw [ho2]
      have := h5 (y + off x) (by omega) (by omega)
      rw [← hlo2] at this
      have h6 := (hfit y).2 hy
      rw [this] at h6
      cases h6
  · cases h1
theorem end_more (hfit : ∀ y, lfit st f (lo off y) = true ↔ Fit off S y) (hS : Sofar off S first last x)
    (hc : ∀ y, x ≤ y → y + off x < til → off y = off x) (h : LocalIs st f (x + off x) til last lx false) (y : Int) (y1 : first ≤ y) (y2 : y < x ∨ y + off x < til) (y3 : yr off y ≤ last) : ¬ Fit off S y := fun hy => by
  rcases h with ⟨h1, -⟩ | ⟨-, h1⟩
  · cases h1
  · by_cases c : y < x
    · exact hS y y1 c y3 hy
    · have ho2 := hc y (by omega) (by omega)
      have hlo2 : lo off y = y + off x := by unfold lo; rw [ho2]
      have := h1 (y + off x) (by omega) (by omega) (by unfold yr day at y3; rw [hlo2] at y3; exact y3)
      rw [← hlo2] at this
      have h6 := (hfit y).2 hy
      rw [this] at h6
      cases h6
theorem end_none (hb : ∀ y, -86400 ≤ off y ∧ off y ≤ 86400) (hl : last ≤ 20000) (hfit : ∀ y, lfit st f (lo off y) = true ↔ Fit off S y) (hS : Sofar off S first last x)
    (hc : ∀ y, x ≤ y → off y = off x) (h : LocalIs st f (x + off x) 4611686018427387904 last lx false) : IsNext off S first last none := fun y y1 y3 => by
  refine end_more hfit hS (fun y h1 _ => hc y h1) h y y1 (.inr ?_) y3
  have h1 := year_lt y3
  have h2 := hb y
  have h3 := hb x
  unfold day lo at h1
  have : ys (last + 1) ≤ 8000000 := by unfold ys; omega
  omega
theorem end_stop {c : Int} (hc0 : -100000000000 ≤ c) (hP : ∀ A B, -100000000000 ≤ A → Plain off A B) (hS : Sofar off S first last c) (hy : last < yr off c) : IsNext off S first last none := fun y y1 y3 => by
  by_cases h : y < c
  · exact hS y y1 h y3
  · have := year_mono (day_mono (hP c y hc0) (Int.le_refl c) (by omega) (Int.le_refl _))
    unfold yr at *
    omega
end
theorem field_year (a b c : Int) (w : World) : (Instr.field 44 (.agg #[.int .i64 a, .int .i64 b, .int .i64 c]) 0).run Try.prog w = .ok (.int .i64 a) w := by kernel_rfl

theorem below_set2 {B b : Nat} {w X : World} (h : Below B w X) (hb : B ≤ b) (x y : Value) : Below B w ((X.setCell ⟨b, 0, none⟩ x).setCell ⟨b, 1, none⟩ y) := (h.setCell (p := ⟨b, 0, none⟩) hb _).setCell (p := ⟨b, 1, none⟩) hb _

set_option maxHeartbeats 4000000 in
set_option maxRecDepth 100000 in
theorem next_any (r : Raw) (co cd cw ci : Nat) (st : Nat → Bool) (f : Nat → Nat → Bool) (S : Sched) (s nano last : Int) (w : World) (h : r.At w) (hok : r.Ok) (hcalm : Calm r)
    (hfit : ∀ y, lfit st f (lo (Raw.off r) y) = true ↔ Fit (Raw.off r) S y) (s0 : -62135596800 ≤ s) (s1 : s ≤ 270000000000) (hl : yOf (day (Raw.off r) (s + 1)) + 5 = last) :
    Calls Try.prog 30 #[.agg (fldArr st f), .agg #[.int .i64 s, .int .i64 nano], .agg #[.slice r.ao r.no co, .slice r.ad r.nd cd, .slice r.aw r.nw cw, .slice r.ai r.ni ci]] w (SpecRes (Raw.off r) S (s + 1) last w) := by
  obtain ⟨W, hW⟩ : ∃ W, ((((w.alloc (.cells (fldArr st f) 39)).alloc (.cells #[.int .i64 s, .int .i64 nano] 24)).alloc (.cells #[.slice r.ao r.no co, .slice r.ad r.nd cd, .slice r.aw r.nw cw, .slice r.ai r.ni ci] 29)).alloc (.cells #[.int .i64 0, .int .i64 0] 24)) = W := ⟨_, rfl⟩
  have hbW : Below w.heap.size w W := by rw [← hW]; exact ((((Below.refl _ _).alloc (Nat.le_refl _) _).alloc (by simp) _).alloc (by simp; omega) _).alloc (by simp; omega) _
  have HKS : Hid (∀ X, Below W.heap.size W X → X.cell? ⟨w.heap.size + 1, 0, none⟩ = some (.int .i64 s) ∧ X.cell? ⟨w.heap.size + 1 + 1, 0, none⟩ = some (.slice r.ao r.no co) ∧ X.cell? ⟨w.heap.size + 1 + 1, 1, none⟩ = some (.slice r.ad r.nd cd) ∧ X.cell? ⟨w.heap.size + 1 + 1, 2, none⟩ = some (.slice r.aw r.nw cw) ∧ X.cell? ⟨w.heap.size + 1 + 1, 3, none⟩ = some (.slice r.ai r.ni ci) ∧ (load39 (.pointer (some ⟨w.heap.size, 0, none⟩))).run Try.prog X = .ok (.agg (fldArr st f)) X ∧ X.cell? ⟨w.heap.size + 1 + 1 + 1, 0, none⟩ = some (.int .i64 0) ∧ X.cell? ⟨w.heap.size + 1 + 1 + 1, 1, none⟩ = some (.int .i64 0) ∧ X.frozen? ⟨w.heap.size + 1 + 1 + 1, 0, none⟩ = false ∧ X.frozen? ⟨w.heap.size + 1 + 1 + 1, 1, none⟩ = false) := Lib.hid (fun X hX => by
    have e1 : (w.alloc (.cells (fldArr st f) 39)).heap.size = w.heap.size + 1 := by simp
    have e2 : ((w.alloc (.cells (fldArr st f) 39)).alloc (.cells #[.int .i64 s, .int .i64 nano] 24)).heap.size = w.heap.size + 1 + 1 := by simp
    have e3 : (((w.alloc (.cells (fldArr st f) 39)).alloc (.cells #[.int .i64 s, .int .i64 nano] 24)).alloc (.cells #[.slice r.ao r.no co, .slice r.ad r.nd cd, .slice r.aw r.nw cw, .slice r.ai r.ni ci] 29)).heap.size = w.heap.size + 1 + 1 + 1 := by simp
    have h4 : Below ((((w.alloc (.cells (fldArr st f) 39)).alloc (.cells #[.int .i64 s, .int .i64 nano] 24)).alloc (.cells #[.slice r.ao r.no co, .slice r.ad r.nd cd, .slice r.aw r.nw cw, .slice r.ai r.ni ci] 29)).alloc (.cells #[.int .i64 0, .int .i64 0] 24)).heap.size ((((w.alloc (.cells (fldArr st f) 39)).alloc (.cells #[.int .i64 s, .int .i64 nano] 24)).alloc (.cells #[.slice r.ao r.no co, .slice r.ad r.nd cd, .slice r.aw r.nw cw, .slice r.ai r.ni ci] 29)).alloc (.cells #[.int .i64 0, .int .i64 0] 24)) X := by rw [hW]; exact hX
    have h3 : Below (((w.alloc (.cells (fldArr st f) 39)).alloc (.cells #[.int .i64 s, .int .i64 nano] 24)).alloc (.cells #[.slice r.ao r.no co, .slice r.ad r.nd cd, .slice r.aw r.nw cw, .slice r.ai r.ni ci] 29)).heap.size (((w.alloc (.cells (fldArr st f) 39)).alloc (.cells #[.int .i64 s, .int .i64 nano] 24)).alloc (.cells #[.slice r.ao r.no co, .slice r.ad r.nd cd, .slice r.aw r.nw cw, .slice r.ai r.ni ci] 29)) X := ((Below.refl _ _).alloc (Nat.le_refl _) _).trans (h4.mono (by simp))
    have h2 : Below ((w.alloc (.cells (fldArr st f) 39)).alloc (.cells #[.int .i64 s, .int .i64 nano] 24)).heap.size ((w.alloc (.cells (fldArr st f) 39)).alloc (.cells #[.int .i64 s, .int .i64 nano] 24)) X := ((Below.refl _ _).alloc (Nat.le_refl _) _).trans (h3.mono (by simp))
    have h1 : Below (w.alloc (.cells (fldArr st f) 39)).heap.size (w.alloc (.cells (fldArr st f) 39)) X := ((Below.refl _ _).alloc (Nat.le_refl _) _).trans (h2.mono (by simp))
    have hf := (FldAt.new w st f).below h1 (by simp)
    have b0 := cells_after h2 0 _ rfl
    have c0 := cells_after h3 0 _ rfl
    have c1 := cells_after h3 1 _ rfl
    have c2 := cells_after h3 2 _ rfl
    have c3 := cells_after h3 3 _ rfl
    have q0 := cells_after h4 0 _ rfl
    have q1 := cells_after h4 1 _ rfl
    have q2 := free_after h4 0
    have q3 := free_after h4 1
    rw [e1] at b0
    rw [e2] at c0 c1 c2 c3
    rw [e3] at q0 q1 q2 q3
    exact ⟨b0, c0, c1, c2, c3, load39_run hf, q0, q1, q2, q3⟩)
  have HOF := Lib.hid (fun (x : Int) w1 (hb : Below w.heap.size w w1) => offset_any r co cd cw ci x w1 (h.below hb) hok)
  have HCH := Lib.hid (fun (x : Int) w1 (hb : Below w.heap.size w w1) => change_any r co cd cw ci x w1 (h.below hb) hok)
  obtain ⟨off, hoff⟩ : ∃ off, Raw.off r = off := ⟨_, rfl⟩
  have HBF : Hid (∀ s x y, ChangeIs r s x true → s ≤ y → y < x → off y = off s) := Lib.hid (fun s x y h1 h2 h3 => by rw [← hoff]; exact h1.before h2 h3)
  have HAF : Hid (∀ s x y, ChangeIs r s x false → s ≤ y → off y = off s) := Lib.hid (fun s x y h1 h2 => by rw [← hoff]; exact h1.after h2)
  have hpl := hcalm.pl
  have HCC := Lib.hid hcalm.ch
  rw [hoff] at hfit hl HOF hpl
  rw [hoff]
  have HFT := Lib.hid hfit
  have HPL := Lib.hid hpl
  have hob : Hid (∀ y, -86400 ≤ off y ∧ off y ≤ 86400) := Lib.hid (fun y => (hpl 0 0 (by omega)).bd y)
  have HB := Lib.hid hbW
  obtain ⟨first, hfi⟩ : ∃ first, s + 1 = first := ⟨_, rfl⟩
  rw [hfi] at hl
  rw [hfi]
  have hofb := hob.out first
  have hdb : -800000 ≤ (first + off first) / 86400 ∧ (first + off first) / 86400 ≤ 4000000 := by omega
  have HFD := Lib.hid (fun (x : Int) w1 (h1 : -100000000000 ≤ x) (h2 : x ≤ 500000000000) => floorDiv_any x 86400 w1 ⟨by omega, by omega⟩ (by omega) (by omega))
  have HDO := Lib.hid (fun (n : Int) w1 (h1 : -1500000 ≤ n) (h2 : n ≤ 7000000) => dateOf_any n w1 ⟨by omega, by omega⟩)
  obtain ⟨y0, hy0⟩ : ∃ y0, yOf ((first + off first) / 86400) = y0 := ⟨_, rfl⟩
  have hl2 : y0 + 5 = last := by rw [← hy0]; exact hl
  have hyb : -3000 ≤ y0 ∧ y0 ≤ 12000 := by
    have := year_in ((first + off first) / 86400)
    rw [hy0] at this
    unfold ys at this
    omega
  have HY0 := Lib.hid hy0
  have HLO := Lib.hid (fun (a til : Int) w1 (h1 : -70000000000 ≤ a) (h2 : a ≤ 600000000000) (h3 : -9000000000000000000 ≤ til) (h4 : til ≤ 9000000000000000000) => local_any st f a til last w1 h1 h2 h4 h3 (by omega) (by omega))
  obtain ⟨o1, ho1⟩ : ∃ o1, off first = o1 := ⟨_, rfl⟩
  have HO1 := Lib.hid ho1
  have HL2 := Lib.hid hl2
  have HFI := Lib.hid hfi
  rw [ho1] at hofb hdb
  have HOF1 := Lib.hid (fun w1 (hb : Below w.heap.size w w1) => HOF.out first w1 hb)
  rw [ho1] at HOF1 hy0
  have HDO1 := Lib.hid (fun w1 => HDO.out ((first + o1) / 86400) w1 (by omega) (by omega))
  rw [hy0] at HDO1
  clear hl hy0 hpl hcalm hfit hbW h hok hoff ho1 HY0
  obtain ⟨i0, z0, z1, z2, z3, l0, d0, d1, g0, g1⟩ := HKS.out _ (Below.refl _ _)
  have hfy := field_year
  go_enter Try.func30, Try.ntmps30
  go_wp2_with (first
    | (with_reducible refine wpList_box_fields rfl (.tmp 0) rfl st f rfl ?_)
    | ((go_at_call 25); (refine (HOF1.out _ HB.out).mono ?_); rintro e w1 ⟨rfl, hb1⟩)
    | ((go_at_call 50); (refine (HFD.out (first + o1) _ (by omega) (by omega)).mono ?_); rintro e w2 ⟨rfl, rfl⟩)
    | ((go_at_call 51); (refine (HDO1.out _).mono ?_); rintro e w3 ⟨rfl, hb3⟩))
  have HW3 := Lib.hid (hb1.trans (hb3.mono hb1.size))
  clear hb1 hb3 i0 z0 z1 z2 z3 l0 d0 d1 g0 g1
  have HFI2 := HFI.out
  go_loopw [8] (fun v wr => ∃ x : Int, v = .int .i64 x ∧ first ≤ x ∧ x ≤ 300000000000 ∧ Hid (Sofar off S first last x) ∧ Hid (Below W.heap.size W wr)) (fun v _ => (400000000000 - intOf v).toNat)
  case atStart => exact ⟨first, rfl, by omega, by omega, Lib.hid (fun y y1 y2 => by omega), HW3⟩
  case round =>
    obtain ⟨x, rfl, x0, x1, HSF, HBr⟩ := hrel
    have hox := hob.out x
    obtain ⟨o, ho⟩ : ∃ o, off x = o := ⟨_, rfl⟩
    have HOX := Lib.hid (fun w1 (hb : Below w.heap.size w w1) => HOF.out x w1 hb)
    have HO := Lib.hid ho
    rw [ho] at HOX hox
    have HCX := Lib.hid (fun w1 (hb : Below w.heap.size w w1) => HCH.out x w1 hb)
    clear ho
    obtain ⟨i0, z0, z1, z2, z3, l0, d0, d1, g0, g1⟩ := HKS.out _ HBr.out
    go_upto_if 37 with (first
      | ((go_at_call 25); (refine (HOX.out _ (HB.out.trans (HBr.out.mono HB.out.size))).mono ?_); rintro e w4 ⟨rfl, hb4⟩; have hb4' := HBr.out.trans (hb4.mono HBr.out.size); obtain ⟨i0, z0, z1, z2, z3, l0, d0, d1, g0, g1⟩ := HKS.out _ hb4')
      | ((go_at_call 27); (refine (HCX.out _ (HB.out.trans (hb4'.mono HB.out.size))).mono ?_); rintro e w5 ⟨⟨c, m, rfl, hC⟩, hb5⟩; have hb5' := hb4'.trans (hb5.mono hb4'.size); obtain ⟨i0, z0, z1, z2, z3, l0, d0, d1, g0, g1⟩ := HKS.out _ hb5'))
    have HB5 := Lib.hid hb5'
    clear hb4 hb4' hb5 hb5'
    cases m
    case false =>
      have HCF := Lib.hid hC
      clear hC
      have HLX := Lib.hid (fun w1 => HLO.out (x + o) 4611686018427387904 w1 (by omega) (by omega) (by omega) (by omega))
      go_upto_if 51 with ((go_at_call 52); (refine (HLX.out _).mono ?_); rintro e w6 ⟨⟨lx, b, rfl, hLI⟩, hb6⟩; have hb6' := HB5.out.trans (hb6.mono HB5.out.size); obtain ⟨i0, z0, z1, z2, z3, l0, d0, d1, g0, g1⟩ := HKS.out _ hb6')
      have hcf : ∀ y, x ≤ y → y + off x < 4611686018427387904 → off y = off x := fun y h1 _ => HAF.out x c y HCF.out h1
      rw [← HO.out] at hLI
      cases b
      case false =>
        have hend := end_none hob.out (by have := HL2.out; omega) HFT.out HSF.out (fun y h1 => HAF.out x c y HCF.out h1) hLI
        go_wp2_with fail
        exact bodyPost_ret (v := .tuple #[.agg #[.int .i64 0, .int .i64 0], .bool false]) (by simp [results, Try.results30, go_sem, *]) rfl ⟨⟨none, hend, rfl⟩, below_set2 (HB.out.trans (hb6'.mono HB.out.size)) (by omega) _ _⟩
      case true =>
        have hend := end_found (by omega) HPL.out HFT.out HSF.out x0 hcf hLI
        have hlx : -70000000000 ≤ lx ∧ lx ≤ 700000000000 := by
          rcases hLI with ⟨-, h1, -, -, h4, -⟩ | ⟨h1, -⟩
          · have h5 := year_lt h4
            have := HO.out
            have h6 : ys (last + 1) ≤ 8000000 := by have := HL2.out; unfold ys; omega
            omega
          · cases h1
        rw [HO.out] at hend
        clear hLI hcf
        go_wp2_with fail
        exact bodyPost_ret (v := .tuple #[.agg #[.int .i64 (lx - o), .int .i64 0], .bool true]) (by simp [results, Try.results30, go_sem, *]) rfl ⟨⟨some (lx - o), hend, rfl⟩, below_set2 (HB.out.trans (hb6'.mono HB.out.size)) (by omega) _ _⟩
    case true =>
      have hcb : x < c ∧ c ≤ 300000000000 := by
        rcases hC with ⟨-, h1, ⟨i, h2, h3⟩, -⟩ | ⟨h1, -⟩
        · have := HCC.out i h2 (by omega)
          omega
        · cases h1
      have HCT := Lib.hid hC
      clear hC
      have HLX := Lib.hid (fun w1 => HLO.out (x + o) (c + o) w1 (by omega) (by omega) (by omega) (by omega))
      go_upto_if 51 with ((go_at_call 52); (refine (HLX.out _).mono ?_); rintro e w6 ⟨⟨lx, b, rfl, hLI⟩, hb6⟩; have hb6' := HB5.out.trans (hb6.mono HB5.out.size); obtain ⟨i0, z0, z1, z2, z3, l0, d0, d1, g0, g1⟩ := HKS.out _ hb6')
      have hcf : ∀ y, x ≤ y → y + off x < c + off x → off y = off x := fun y h1 h2 => HBF.out x c y HCT.out h1 (by omega)
      rw [← HO.out] at hLI
      cases b
      case false =>
        have hso : Sofar off S first last c := fun y y1 y2 y3 => end_more HFT.out HSF.out hcf hLI y y1 (by omega) y3
        have HSO := Lib.hid hso
        have hoc := hob.out c
        obtain ⟨o2, ho2⟩ : ∃ o2, off c = o2 := ⟨_, rfl⟩
        have HOC := Lib.hid (fun w1 (hb : Below w.heap.size w w1) => HOF.out c w1 hb)
        have HO2 := Lib.hid ho2
        rw [ho2] at HOC hoc
        have HDC := Lib.hid (fun w1 => HDO.out ((c + o2) / 86400) w1 (by omega) (by omega))
        have HFC := Lib.hid (fun w1 => HFD.out (c + o2) w1 (by omega) (by omega))
        have HB6 := Lib.hid hb6'
        have hcd : -800000 ≤ (c + o2) / 86400 ∧ (c + o2) / 86400 ≤ 4000000 := by omega
        clear hso ho2 hLI hcf hb6 hb6'
        obtain ⟨yc, hyc⟩ : ∃ yc, yOf ((c + o2) / 86400) = yc := ⟨_, rfl⟩
        rw [hyc] at HDC
        have HYC : Hid (yr off c = yc) := Lib.hid (by unfold yr day lo; rw [HO2.out]; exact hyc)
        clear hyc
        by_cases hyl : last < yc
        · go_wp2_with (first
            | ((go_at_call 25); (refine (HOC.out _ (HB.out.trans (HB6.out.mono HB.out.size))).mono ?_); rintro e w7 ⟨rfl, hb7⟩; have hb7' := HB6.out.trans (hb7.mono HB6.out.size))
            | ((go_at_call 50); (refine (HFC.out _).mono ?_); rintro e w8 ⟨rfl, rfl⟩)
            | ((go_at_call 51); (refine (HDC.out _).mono ?_); rintro e w9 ⟨rfl, hb9⟩; have hb9' := hb7'.trans (hb9.mono hb7'.size); obtain ⟨i0, z0, z1, z2, z3, l0, d0, d1, g0, g1⟩ := HKS.out _ hb9'))
          exact bodyPost_ret (v := .tuple #[.agg #[.int .i64 0, .int .i64 0], .bool false]) (by simp [results, Try.results30, go_sem, *]) rfl ⟨⟨none, end_stop (by omega) HPL.out HSO.out (by rw [HYC.out]; exact hyl), rfl⟩, below_set2 (HB.out.trans (hb9'.mono HB.out.size)) (by omega) _ _⟩
        · go_wp2_with (first
            | ((go_at_call 25); (refine (HOC.out _ (HB.out.trans (HB6.out.mono HB.out.size))).mono ?_); rintro e w7 ⟨rfl, hb7⟩; have hb7' := HB6.out.trans (hb7.mono HB6.out.size))
            | ((go_at_call 50); (refine (HFC.out _).mono ?_); rintro e w8 ⟨rfl, rfl⟩)
            | ((go_at_call 51); (refine (HDC.out _).mono ?_); rintro e w9 ⟨rfl, hb9⟩; have hb9' := hb7'.trans (hb9.mono hb7'.size); obtain ⟨i0, z0, z1, z2, z3, l0, d0, d1, g0, g1⟩ := HKS.out _ hb9'))
          exact ⟨⟨c, rfl, by omega, by omega, HSO, Lib.hid hb9'⟩, by simp [intOf]; omega⟩
      case true =>
        have hend := end_found (by omega) HPL.out HFT.out HSF.out x0 hcf hLI
        have hlx : -70000000000 ≤ lx ∧ lx ≤ 700000000000 := by
          rcases hLI with ⟨-, h1, -, -, h4, -⟩ | ⟨h1, -⟩
          · have h5 := year_lt h4
            have := HO.out
            have h6 : ys (last + 1) ≤ 8000000 := by have := HL2.out; unfold ys; omega
            omega
          · cases h1
        rw [HO.out] at hend
        clear hLI hcf
        go_wp2_with fail
        exact bodyPost_ret (v := .tuple #[.agg #[.int .i64 (lx - o), .int .i64 0], .bool true]) (by simp [results, Try.results30, go_sem, *]) rfl ⟨⟨some (lx - o), hend, rfl⟩, below_set2 (HB.out.trans (hb6'.mono HB.out.size)) (by omega) _ _⟩

end Go.Proofs.Ytoekefbclkmchaa.SpecNext
