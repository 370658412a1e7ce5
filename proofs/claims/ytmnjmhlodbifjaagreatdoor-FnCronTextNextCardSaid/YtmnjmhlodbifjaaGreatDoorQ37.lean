/- The reference's CronNext: the least fitting second. Conditions: a plain zone, its transitions within some ten thousand years. · A text's sets of values and the numbers that the code keeps: the same seconds fit; a delay is a whole number of seconds. Conditions: none. · A schedule of a constant delay: the reference's CronDelayNext, ConstantDelaySchedule.Next and the thin package's Next. Conditions: a delay of whole seconds, instants from year 1 to 9999, a plain zone. -/
import Derived.Test.YtmnjmhlodbifjaaGreatDoorQ34
import Derived.Test.YtmnjmhlodbifjaaGreatDoorQ36
import Derived.Test.YtmnjmhlodbifjaaGreatDoorQ21
import Derived.Test.YtmnjmhlodbifjaaGreatDoorQ2

namespace Go.Proofs.YtmnjmhlodbifjaaGreatDoor.SpecNext
open Go Go.RowKit Go.Proofs.YtmnjmhlodbifjaaGreatDoor.Set Go.Proofs.YtmnjmhlodbifjaaGreatDoor.Fields Go.Proofs.YtmnjmhlodbifjaaGreatDoor.SetOf Go.Proofs.YtmnjmhlodbifjaaGreatDoor.Moment Go.Proofs.YtmnjmhlodbifjaaGreatDoor.DayM Go.Proofs.YtmnjmhlodbifjaaGreatDoor.TimeNum Go.Proofs.YtmnjmhlodbifjaaGreatDoor.Cal Go.Proofs.YtmnjmhlodbifjaaGreatDoor.Off Go.Proofs.YtmnjmhlodbifjaaGreatDoor.Search Go.Proofs.YtmnjmhlodbifjaaGreatDoor.SpecCal Go.Proofs.YtmnjmhlodbifjaaGreatDoor.Lookup Go.Proofs.YtmnjmhlodbifjaaGreatDoor.Zone Go.Proofs.YtmnjmhlodbifjaaGreatDoor.Zone2 Go.Proofs.YtmnjmhlodbifjaaGreatDoor.DayFits Go.Proofs.YtmnjmhlodbifjaaGreatDoor.FieldsOf Go.Proofs.YtmnjmhlodbifjaaGreatDoor.Never Go.Proofs.YtmnjmhlodbifjaaGreatDoor.CronTime Go.Proofs.YtmnjmhlodbifjaaGreatDoor.Tomorrow Go.Proofs.YtmnjmhlodbifjaaGreatDoor.Local Go.Proofs.YtmnjmhlodbifjaaGreatDoor.Change Go.Proofs.YtmnjmhlodbifjaaGreatDoor.NextC Go.Proofs.YtmnjmhlodbifjaaGreatDoor.NextI
set_option linter.unusedVariables false
attribute [local go_sem ↓] load39_eq
theorem lfit_gen {st : Nat → Bool} {f : Nat → Nat → Bool} {se mi hr dom mon dow : Int} (off : Int → Int) (y : Int)
    (g : ∀ k v : Nat, k < 6 → loK k ≤ v → v ≤ hiK k → f k v = has (six se mi hr dom mon dow k) (v : Int)) (s3 : st 3 = has dom 63) (s5 : st 5 = has dow 63) :
    lfit st f (lo off y) = true ↔ Fit off (sched se mi hr dom mon dow) y := by
  have hday : day off y = lo off y / 86400 := rfl
  have htod : tod off y = lo off y % 86400 := rfl
  have htb := tod_bd (off := off) y
  obtain ⟨N, hN⟩ : ∃ N, lo off y / 86400 = N := ⟨_, rfl⟩
  obtain ⟨e, he⟩ : ∃ e : Nat, lo off y % 86400 = e := ⟨(lo off y % 86400).toNat, by omega⟩
  have heb : e < 86400 := by omega
  obtain ⟨⟨p1, p2, p3, p4⟩, -⟩ := date_of N
  have hml := mlen_bd (yOf N) (mOf N)
  obtain ⟨mn, hmn⟩ : ∃ mn : Nat, mOf N = mn := ⟨(mOf N).toNat, by omega⟩
  obtain ⟨dn, hdn⟩ : ∃ dn : Nat, dOf N = dn := ⟨(dOf N).toNat, by omega⟩
  obtain ⟨wn, hwn⟩ : ∃ wn : Nat, wdOf N = wn := ⟨(wdOf N).toNat, by unfold wdOf; omega⟩
  have hw6 : wn ≤ 6 := by unfold wdOf at hwn; omega
  have e4 : f 4 mn = has mon (mn : Int) := g 4 mn (by decide) (by simp [loK]; omega) (by simp [hiK]; omega)
  have e3 : f 3 dn = has dom (dn : Int) := g 3 dn (by decide) (by simp [loK]; omega) (by simp [hiK]; omega)
  have e5 : f 5 wn = has dow (wn : Int) := g 5 wn (by decide) (by simp [loK]) (by simp [hiK]; omega)
  have e2 : f 2 (e / 3600) = has hr ((e / 3600 : Nat) : Int) := g 2 _ (by decide) (by simp [loK]) (by simp [hiK]; omega)
  have e1 : f 1 (e % 3600 / 60) = has mi ((e % 3600 / 60 : Nat) : Int) := g 1 _ (by decide) (by simp [loK]) (by simp [hiK]; omega)
  have e0 : f 0 (e % 60) = has se ((e % 60 : Nat) : Int) := g 0 _ (by decide) (by simp [loK]) (by simp [hiK]; omega)
  have ed : dayFits st f dn wn = dayOK dom dow N := DayImpl.dayFits_eq dom dow N _ _ dn wn hdn hwn s3 s5 e3 e5
  unfold lfit dfit tfit Fit monF dyF hrF miF seF sched
  rw [hday, htod, hN, he, hmn, hdn, hwn]
  dsimp only
  simp only [Int.toNat_natCast]
  rw [e4, e2, e1, e0, ed]
  rw [show ((e : Int) / 3600) = ((e / 3600 : Nat) : Int) by omega, show ((e : Int) % 3600 / 60) = ((e % 3600 / 60 : Nat) : Int) by omega, show ((e : Int) % 60) = ((e % 60 : Nat) : Int) by omega]
  simp only [Bool.and_eq_true]
  constructor
  · rintro ⟨⟨h1, h2⟩, ⟨h3, h4⟩, h5⟩
    exact ⟨h1, h2, h3, h4, h5⟩
  · rintro ⟨h1, h2, h3, h4, h5⟩
    exact ⟨⟨h1, h2⟩, ⟨h3, h4⟩, h5⟩
structure Calm (r : Raw) : Prop where
  pl : ∀ A B, -100000000000 ≤ A → Plain (Raw.off r) A B
  ch : ∀ i, i < r.nw → -70000000000 ≤ r.wh i → r.wh i ≤ 300000000000
def SpecRes (off : Int → Int) (S : Sched) (first last : Int) (w : World) (e : Ending) (w' : World) : Prop :=
  (∃ o, IsNext off S first last o ∧ e = .returned (ansV o)) ∧ Below w.heap.size w w'
def Sofar (off : Int → Int) (S : Sched) (first last x : Int) : Prop := ∀ y, first ≤ y → y < x → yr off y ≤ last → ¬ Fit off S y
section
variable {off : Int → Int} {S : Sched} {st : Nat → Bool} {f : Nat → Nat → Bool} {first last x til lx : Int}
theorem year_lt {n : Int} (h : yOf n ≤ last) : n < ys (last + 1) := by
  by_cases c : ys (last + 1) ≤ n
  · have h1 := year_in n
    by_cases c2 : yOf n + 1 = last + 1
    · rw [c2] at h1; omega
    · have := ys_mono (yOf n + 1) (last + 1) (by omega)
      have := lp_01 (yOf n + 1)
      omega
  · omega
theorem end_found (hf0 : -100000000000 ≤ first) (hP : ∀ A B, -100000000000 ≤ A → Plain off A B) (hfit : ∀ y, lfit st f (lo off y) = true ↔ Fit off S y) (hS : Sofar off S first last x) (hfx : first ≤ x)
    (hc : ∀ y, x ≤ y → y + off x < til → off y = off x) (h : LocalIs st f (x + off x) til last lx true) : IsNext off S first last (some (lx - off x)) := by
  rcases h with ⟨-, h1, h2, h3, h4, h5⟩ | ⟨h1, -⟩
  · have ho := hc (lx - off x) (by omega) (by omega)
    have hlo : lo off (lx - off x) = lx := by unfold lo; rw [ho]; omega
    have hyr : yr off (lx - off x) ≤ last := by unfold yr day; rw [hlo]; exact h4
    refine ⟨by omega, (hfit _).1 (by rw [hlo]; exact h3), hyr, fun y y1 y2 hy => ?_⟩
    by_cases c : y < x
    · refine hS y y1 c ?_ hy
      have := year_mono (day_mono (hP y (lx - off x) (by omega)) (Int.le_refl y) (by omega) (Int.le_refl _))
      unfold yr at *
      omega
    · have ho2 := hc y (by omega) (by omega)
      have hlo2 : lo off y = y + off x := by unfold lo; rw [ho2]
      have := h5 (y + off x) (by omega) (by omega)
      rw [← hlo2] at this
      have h6 := (hfit y).2 hy
      rw [this] at h6
      cases h6
  · cases h1
theorem end_more (hfit : ∀ y, lfit st f (lo off y) = true ↔ Fit off S y) (hS : Sofar off S first last x)
    (hc : ∀ y, x ≤ y → y + off x < til → off y = off x) (h : LocalIs st f (x + off x) til last lx false) (y : Int) (y1 : first ≤ y) (y2 : y < x ∨ y + off x < til) (y3 : yr off y ≤ last) : ¬ Fit off S y := fun hy => by
  rcases h with ⟨h1, -⟩ | ⟨-, h1⟩
  · cases h1
  · by_cases c : y < x
    · exact hS y y1 c y3 hy
    · have ho2 := hc y (by omega) (by omega)
      have hlo2 : lo off y = y + off x := by unfold lo; rw [ho2]
      have := h1 (y + off x) (by omega) (by omega) (by unfold yr day at y3; rw [hlo2] at y3; exact y3)
      rw [← hlo2] at this
      have h6 := (hfit y).2 hy
      rw [this] at h6
      cases h6
theorem end_none (hb : ∀ y, -86400 ≤ off y ∧ off y ≤ 86400) (hl : last ≤ 20000) (hfit : ∀ y, lfit st f (lo off y) = true ↔ Fit off S y) (hS : Sofar off S first last x)
    (hc : ∀ y, x ≤ y → off y = off x) (h : LocalIs st f (x + off x) 4611686018427387904 last lx false) : IsNext off S first last none := fun y y1 y3 => by
  refine end_more hfit hS (fun y h1 _ => hc y h1) h y y1 (.inr ?_) y3
  have h1 := year_lt y3
  have h2 := hb y
  have h3 := hb x
  unfold day lo at h1
  have : ys (last + 1) ≤ 8000000 := by unfold ys; omega
  omega
theorem end_stop {c : Int} (hc0 : -100000000000 ≤ c) (hP : ∀ A B, -100000000000 ≤ A → Plain off A B) (hS : Sofar off S first last c) (hy : last < yr off c) : IsNext off S first last none := fun y y1 y3 => by
  by_cases h : y < c
  · exact hS y y1 h y3
  · have := year_mono (day_mono (hP c y hc0) (Int.le_refl c) (by omega) (Int.le_refl _))
    unfold yr at *
    omega
end
theorem field_year (a b c : Int) (w : World) : (Instr.field 50 (.agg #[.int .i64 a, .int .i64 b, .int .i64 c]) 0).run Tryz.prog w = .ok (.int .i64 a) w := by kernel_rfl
theorem below_set2 {B b : Nat} {w X : World} (h : Below B w X) (hb : B ≤ b) (x y : Value) : Below B w ((X.setCell ⟨b, 0, none⟩ x).setCell ⟨b, 1, none⟩ y) := (h.setCell (p := ⟨b, 0, none⟩) hb _).setCell (p := ⟨b, 1, none⟩) hb _
set_option maxHeartbeats 4000000 in
set_option maxRecDepth 100000 in
theorem next_any (r : Raw) (co cd cw ci : Nat) (st : Nat → Bool) (f : Nat → Nat → Bool) (S : Sched) (s nano last : Int) (w : World) (h : r.At w) (hok : r.Ok) (hcalm : Calm r)
    (hfit : ∀ y, lfit st f (lo (Raw.off r) y) = true ↔ Fit (Raw.off r) S y) (s0 : -62135596800 ≤ s) (s1 : s ≤ 270000000000) (hl : yOf (day (Raw.off r) (s + 1)) + 5 = last) :
    Calls Tryz.prog 49 #[.agg (fldArr st f), .agg #[.int .i64 s, .int .i64 nano], .agg #[.slice r.ao r.no co, .slice r.ad r.nd cd, .slice r.aw r.nw cw, .slice r.ai r.ni ci]] w (SpecRes (Raw.off r) S (s + 1) last w) := by
  obtain ⟨W, hW⟩ : ∃ W, ((((w.alloc (.cells (fldArr st f) 57)).alloc (.cells #[.int .i64 s, .int .i64 nano] 34)).alloc (.cells #[.slice r.ao r.no co, .slice r.ad r.nd cd, .slice r.aw r.nw cw, .slice r.ai r.ni ci] 43)).alloc (.cells #[.int .i64 0, .int .i64 0] 34)) = W := ⟨_, rfl⟩
  have hbW : Below w.heap.size w W := by rw [← hW]; exact ((((Below.refl _ _).alloc (Nat.le_refl _) _).alloc (by simp) _).alloc (by simp; omega) _).alloc (by simp; omega) _
  have HKS : Hid (∀ X, Below W.heap.size W X → X.cell? ⟨w.heap.size + 1, 0, none⟩ = some (.int .i64 s) ∧ X.cell? ⟨w.heap.size + 1 + 1, 0, none⟩ = some (.slice r.ao r.no co) ∧ X.cell? ⟨w.heap.size + 1 + 1, 1, none⟩ = some (.slice r.ad r.nd cd) ∧ X.cell? ⟨w.heap.size + 1 + 1, 2, none⟩ = some (.slice r.aw r.nw cw) ∧ X.cell? ⟨w.heap.size + 1 + 1, 3, none⟩ = some (.slice r.ai r.ni ci) ∧ (load39 (.pointer (some ⟨w.heap.size, 0, none⟩))).run Tryz.prog X = .ok (.agg (fldArr st f)) X ∧ X.cell? ⟨w.heap.size + 1 + 1 + 1, 0, none⟩ = some (.int .i64 0) ∧ X.cell? ⟨w.heap.size + 1 + 1 + 1, 1, none⟩ = some (.int .i64 0) ∧ X.frozen? ⟨w.heap.size + 1 + 1 + 1, 0, none⟩ = false ∧ X.frozen? ⟨w.heap.size + 1 + 1 + 1, 1, none⟩ = false) := Lib.hid (fun X hX => by
    have e1 : (w.alloc (.cells (fldArr st f) 57)).heap.size = w.heap.size + 1 := by simp
    have e2 : ((w.alloc (.cells (fldArr st f) 57)).alloc (.cells #[.int .i64 s, .int .i64 nano] 34)).heap.size = w.heap.size + 1 + 1 := by simp
    have e3 : (((w.alloc (.cells (fldArr st f) 57)).alloc (.cells #[.int .i64 s, .int .i64 nano] 34)).alloc (.cells #[.slice r.ao r.no co, .slice r.ad r.nd cd, .slice r.aw r.nw cw, .slice r.ai r.ni ci] 43)).heap.size = w.heap.size + 1 + 1 + 1 := by simp
    have h4 : Below ((((w.alloc (.cells (fldArr st f) 57)).alloc (.cells #[.int .i64 s, .int .i64 nano] 34)).alloc (.cells #[.slice r.ao r.no co, .slice r.ad r.nd cd, .slice r.aw r.nw cw, .slice r.ai r.ni ci] 43)).alloc (.cells #[.int .i64 0, .int .i64 0] 34)).heap.size ((((w.alloc (.cells (fldArr st f) 57)).alloc (.cells #[.int .i64 s, .int .i64 nano] 34)).alloc (.cells #[.slice r.ao r.no co, .slice r.ad r.nd cd, .slice r.aw r.nw cw, .slice r.ai r.ni ci] 43)).alloc (.cells #[.int .i64 0, .int .i64 0] 34)) X := by rw [hW]; exact hX
    have h3 : Below (((w.alloc (.cells (fldArr st f) 57)).alloc (.cells #[.int .i64 s, .int .i64 nano] 34)).alloc (.cells #[.slice r.ao r.no co, .slice r.ad r.nd cd, .slice r.aw r.nw cw, .slice r.ai r.ni ci] 43)).heap.size (((w.alloc (.cells (fldArr st f) 57)).alloc (.cells #[.int .i64 s, .int .i64 nano] 34)).alloc (.cells #[.slice r.ao r.no co, .slice r.ad r.nd cd, .slice r.aw r.nw cw, .slice r.ai r.ni ci] 43)) X := ((Below.refl _ _).alloc (Nat.le_refl _) _).trans (h4.mono (by simp))
    have h2 : Below ((w.alloc (.cells (fldArr st f) 57)).alloc (.cells #[.int .i64 s, .int .i64 nano] 34)).heap.size ((w.alloc (.cells (fldArr st f) 57)).alloc (.cells #[.int .i64 s, .int .i64 nano] 34)) X := ((Below.refl _ _).alloc (Nat.le_refl _) _).trans (h3.mono (by simp))
    have h1 : Below (w.alloc (.cells (fldArr st f) 57)).heap.size (w.alloc (.cells (fldArr st f) 57)) X := ((Below.refl _ _).alloc (Nat.le_refl _) _).trans (h2.mono (by simp))
    have hf := (FldAt.new w st f).below h1 (by simp)
    have b0 := cells_after h2 0 _ rfl
    have c0 := cells_after h3 0 _ rfl
    have c1 := cells_after h3 1 _ rfl
    have c2 := cells_after h3 2 _ rfl
    have c3 := cells_after h3 3 _ rfl
    have q0 := cells_after h4 0 _ rfl
    have q1 := cells_after h4 1 _ rfl
    have q2 := free_after h4 0
    have q3 := free_after h4 1
    rw [e1] at b0
    rw [e2] at c0 c1 c2 c3
    rw [e3] at q0 q1 q2 q3
    exact ⟨b0, c0, c1, c2, c3, load39_run hf, q0, q1, q2, q3⟩)
  have HOF := Lib.hid (fun (x : Int) w1 (hb : Below w.heap.size w w1) => offset_any r co cd cw ci x w1 (h.below hb) hok)
  have HCH := Lib.hid (fun (x : Int) w1 (hb : Below w.heap.size w w1) => change_any r co cd cw ci x w1 (h.below hb) hok)
  obtain ⟨off, hoff⟩ : ∃ off, Raw.off r = off := ⟨_, rfl⟩
  have HBF : Hid (∀ s x y, ChangeIs r s x true → s ≤ y → y < x → off y = off s) := Lib.hid (fun s x y h1 h2 h3 => by rw [← hoff]; exact h1.before h2 h3)
  have HAF : Hid (∀ s x y, ChangeIs r s x false → s ≤ y → off y = off s) := Lib.hid (fun s x y h1 h2 => by rw [← hoff]; exact h1.after h2)
  have hpl := hcalm.pl
  have HCC := Lib.hid hcalm.ch
  rw [hoff] at hfit hl HOF hpl
  rw [hoff]
  have HFT := Lib.hid hfit
  have HPL := Lib.hid hpl
  have hob : Hid (∀ y, -86400 ≤ off y ∧ off y ≤ 86400) := Lib.hid (fun y => (hpl 0 0 (by omega)).bd y)
  have HB := Lib.hid hbW
  obtain ⟨first, hfi⟩ : ∃ first, s + 1 = first := ⟨_, rfl⟩
  rw [hfi] at hl
  rw [hfi]
  have hofb := hob.out first
  have hdb : -800000 ≤ (first + off first) / 86400 ∧ (first + off first) / 86400 ≤ 4000000 := by omega
  have HFD := Lib.hid (fun (x : Int) w1 (h1 : -100000000000 ≤ x) (h2 : x ≤ 500000000000) => floorDiv_any x 86400 w1 ⟨by omega, by omega⟩ (by omega) (by omega))
  have HDO := Lib.hid (fun (n : Int) w1 (h1 : -1500000 ≤ n) (h2 : n ≤ 7000000) => dateOf_any n w1 ⟨by omega, by omega⟩)
  obtain ⟨y0, hy0⟩ : ∃ y0, yOf ((first + off first) / 86400) = y0 := ⟨_, rfl⟩
  have hl2 : y0 + 5 = last := by rw [← hy0]; exact hl
  have hyb : -3000 ≤ y0 ∧ y0 ≤ 12000 := by
    have := year_in ((first + off first) / 86400)
    rw [hy0] at this
    unfold ys at this
    omega
  have HY0 := Lib.hid hy0
  have HLO := Lib.hid (fun (a til : Int) w1 (h1 : -70000000000 ≤ a) (h2 : a ≤ 600000000000) (h3 : -9000000000000000000 ≤ til) (h4 : til ≤ 9000000000000000000) => local_any st f a til last w1 h1 h2 h4 h3 (by omega) (by omega))
  obtain ⟨o1, ho1⟩ : ∃ o1, off first = o1 := ⟨_, rfl⟩
  have HO1 := Lib.hid ho1
  have HL2 := Lib.hid hl2
  have HFI := Lib.hid hfi
  rw [ho1] at hofb hdb
  have HOF1 := Lib.hid (fun w1 (hb : Below w.heap.size w w1) => HOF.out first w1 hb)
  rw [ho1] at HOF1 hy0
  have HDO1 := Lib.hid (fun w1 => HDO.out ((first + o1) / 86400) w1 (by omega) (by omega))
  rw [hy0] at HDO1
  clear hl hy0 hpl hcalm hfit hbW h hok hoff ho1 HY0
  obtain ⟨i0, z0, z1, z2, z3, l0, d0, d1, g0, g1⟩ := HKS.out _ (Below.refl _ _)
  have hfy := field_year
  go_enter Tryz.func49, Tryz.ntmps49
  go_wp2_with (first
    | (with_reducible refine wpList_box_fields rfl (.tmp 0) rfl st f rfl ?_)
    | ((go_at_call 39); (refine (HOF1.out _ HB.out).mono ?_); rintro e w1 ⟨rfl, hb1⟩)
    | ((go_at_call 77); (refine (HFD.out (first + o1) _ (by omega) (by omega)).mono ?_); rintro e w2 ⟨rfl, rfl⟩)
    | ((go_at_call 78); (refine (HDO1.out _).mono ?_); rintro e w3 ⟨rfl, hb3⟩))
  have HW3 := Lib.hid (hb1.trans (hb3.mono hb1.size))
  clear hb1 hb3 i0 z0 z1 z2 z3 l0 d0 d1 g0 g1
  have HFI2 := HFI.out
  go_loopw [8] (fun v wr => ∃ x : Int, v = .int .i64 x ∧ first ≤ x ∧ x ≤ 300000000000 ∧ Hid (Sofar off S first last x) ∧ Hid (Below W.heap.size W wr)) (fun v _ => (400000000000 - intOf v).toNat)
  case atStart => exact ⟨first, rfl, by omega, by omega, Lib.hid (fun y y1 y2 => by omega), HW3⟩
  case round =>
    obtain ⟨x, rfl, x0, x1, HSF, HBr⟩ := hrel
    have hox := hob.out x
    obtain ⟨o, ho⟩ : ∃ o, off x = o := ⟨_, rfl⟩
    have HOX := Lib.hid (fun w1 (hb : Below w.heap.size w w1) => HOF.out x w1 hb)
    have HO := Lib.hid ho
    rw [ho] at HOX hox
    have HCX := Lib.hid (fun w1 (hb : Below w.heap.size w w1) => HCH.out x w1 hb)
    clear ho
    obtain ⟨i0, z0, z1, z2, z3, l0, d0, d1, g0, g1⟩ := HKS.out _ HBr.out
    go_upto_if 37 with (first
      | ((go_at_call 39); (refine (HOX.out _ (HB.out.trans (HBr.out.mono HB.out.size))).mono ?_); rintro e w4 ⟨rfl, hb4⟩; have hb4' := HBr.out.trans (hb4.mono HBr.out.size); obtain ⟨i0, z0, z1, z2, z3, l0, d0, d1, g0, g1⟩ := HKS.out _ hb4')
      | ((go_at_call 87); (refine (HCX.out _ (HB.out.trans (hb4'.mono HB.out.size))).mono ?_); rintro e w5 ⟨⟨c, m, rfl, hC⟩, hb5⟩; have hb5' := hb4'.trans (hb5.mono hb4'.size); obtain ⟨i0, z0, z1, z2, z3, l0, d0, d1, g0, g1⟩ := HKS.out _ hb5'))
    have HB5 := Lib.hid hb5'
    clear hb4 hb4' hb5 hb5'
    cases m
    case false =>
      have HCF := Lib.hid hC
      clear hC
      have HLX := Lib.hid (fun w1 => HLO.out (x + o) 4611686018427387904 w1 (by omega) (by omega) (by omega) (by omega))
      go_upto_if 51 with ((go_at_call 88); (refine (HLX.out _).mono ?_); rintro e w6 ⟨⟨lx, b, rfl, hLI⟩, hb6⟩; have hb6' := HB5.out.trans (hb6.mono HB5.out.size); obtain ⟨i0, z0, z1, z2, z3, l0, d0, d1, g0, g1⟩ := HKS.out _ hb6')
      have hcf : ∀ y, x ≤ y → y + off x < 4611686018427387904 → off y = off x := fun y h1 _ => HAF.out x c y HCF.out h1
      rw [← HO.out] at hLI
      cases b
      case false =>
        have hend := end_none hob.out (by have := HL2.out; omega) HFT.out HSF.out (fun y h1 => HAF.out x c y HCF.out h1) hLI
        go_wp2_with fail
        exact bodyPost_ret (v := .tuple #[.agg #[.int .i64 0, .int .i64 0], .bool false]) (by simp [results, Tryz.results49, go_sem, *]) rfl ⟨⟨none, hend, rfl⟩, below_set2 (HB.out.trans (hb6'.mono HB.out.size)) (by omega) _ _⟩
      case true =>
        have hend := end_found (by omega) HPL.out HFT.out HSF.out x0 hcf hLI
        have hlx : -70000000000 ≤ lx ∧ lx ≤ 700000000000 := by
          rcases hLI with ⟨-, h1, -, -, h4, -⟩ | ⟨h1, -⟩
          · have h5 := year_lt h4
            have := HO.out
            have h6 : ys (last + 1) ≤ 8000000 := by have := HL2.out; unfold ys; omega
            omega
          · cases h1
        rw [HO.out] at hend
        clear hLI hcf
        go_wp2_with fail
        exact bodyPost_ret (v := .tuple #[.agg #[.int .i64 (lx - o), .int .i64 0], .bool true]) (by simp [results, Tryz.results49, go_sem, *]) rfl ⟨⟨some (lx - o), hend, rfl⟩, below_set2 (HB.out.trans (hb6'.mono HB.out.size)) (by omega) _ _⟩
    case true =>
      have hcb : x < c ∧ c ≤ 300000000000 := by
        rcases hC with ⟨-, h1, ⟨i, h2, h3⟩, -⟩ | ⟨h1, -⟩
        · have := HCC.out i h2 (by omega)
          omega
        · cases h1
      have HCT := Lib.hid hC
      clear hC
      have HLX := Lib.hid (fun w1 => HLO.out (x + o) (c + o) w1 (by omega) (by omega) (by omega) (by omega))
      go_upto_if 51 with ((go_at_call 88); (refine (HLX.out _).mono ?_); rintro e w6 ⟨⟨lx, b, rfl, hLI⟩, hb6⟩; have hb6' := HB5.out.trans (hb6.mono HB5.out.size); obtain ⟨i0, z0, z1, z2, z3, l0, d0, d1, g0, g1⟩ := HKS.out _ hb6')
      have hcf : ∀ y, x ≤ y → y + off x < c + off x → off y = off x := fun y h1 h2 => HBF.out x c y HCT.out h1 (by omega)
      rw [← HO.out] at hLI
      cases b
      case false =>
        have hso : Sofar off S first last c := fun y y1 y2 y3 => end_more HFT.out HSF.out hcf hLI y y1 (by omega) y3
        have HSO := Lib.hid hso
        have hoc := hob.out c
        obtain ⟨o2, ho2⟩ : ∃ o2, off c = o2 := ⟨_, rfl⟩
        have HOC := Lib.hid (fun w1 (hb : Below w.heap.size w w1) => HOF.out c w1 hb)
        have HO2 := Lib.hid ho2
        rw [ho2] at HOC hoc
        have HDC := Lib.hid (fun w1 => HDO.out ((c + o2) / 86400) w1 (by omega) (by omega))
        have HFC := Lib.hid (fun w1 => HFD.out (c + o2) w1 (by omega) (by omega))
        have HB6 := Lib.hid hb6'
        have hcd : -800000 ≤ (c + o2) / 86400 ∧ (c + o2) / 86400 ≤ 4000000 := by omega
        clear hso ho2 hLI hcf hb6 hb6'
        obtain ⟨yc, hyc⟩ : ∃ yc, yOf ((c + o2) / 86400) = yc := ⟨_, rfl⟩
        rw [hyc] at HDC
        have HYC : Hid (yr off c = yc) := Lib.hid (by unfold yr day lo; rw [HO2.out]; exact hyc)
        clear hyc
        by_cases hyl : last < yc
        · go_wp2_with (first
            | ((go_at_call 39); (refine (HOC.out _ (HB.out.trans (HB6.out.mono HB.out.size))).mono ?_); rintro e w7 ⟨rfl, hb7⟩; have hb7' := HB6.out.trans (hb7.mono HB6.out.size))
            | ((go_at_call 77); (refine (HFC.out _).mono ?_); rintro e w8 ⟨rfl, rfl⟩)
            | ((go_at_call 78); (refine (HDC.out _).mono ?_); rintro e w9 ⟨rfl, hb9⟩; have hb9' := hb7'.trans (hb9.mono hb7'.size); obtain ⟨i0, z0, z1, z2, z3, l0, d0, d1, g0, g1⟩ := HKS.out _ hb9'))
          exact bodyPost_ret (v := .tuple #[.agg #[.int .i64 0, .int .i64 0], .bool false]) (by simp [results, Tryz.results49, go_sem, *]) rfl ⟨⟨none, end_stop (by omega) HPL.out HSO.out (by rw [HYC.out]; exact hyl), rfl⟩, below_set2 (HB.out.trans (hb9'.mono HB.out.size)) (by omega) _ _⟩
        · go_wp2_with (first
            | ((go_at_call 39); (refine (HOC.out _ (HB.out.trans (HB6.out.mono HB.out.size))).mono ?_); rintro e w7 ⟨rfl, hb7⟩; have hb7' := HB6.out.trans (hb7.mono HB6.out.size))
            | ((go_at_call 77); (refine (HFC.out _).mono ?_); rintro e w8 ⟨rfl, rfl⟩)
            | ((go_at_call 78); (refine (HDC.out _).mono ?_); rintro e w9 ⟨rfl, hb9⟩; have hb9' := hb7'.trans (hb9.mono hb7'.size); obtain ⟨i0, z0, z1, z2, z3, l0, d0, d1, g0, g1⟩ := HKS.out _ hb9'))
          exact ⟨⟨c, rfl, by omega, by omega, HSO, Lib.hid hb9'⟩, by simp [intOf]; omega⟩
      case true =>
        have hend := end_found (by omega) HPL.out HFT.out HSF.out x0 hcf hLI
        have hlx : -70000000000 ≤ lx ∧ lx ≤ 700000000000 := by
          rcases hLI with ⟨-, h1, -, -, h4, -⟩ | ⟨h1, -⟩
          · have h5 := year_lt h4
            have := HO.out
            have h6 : ys (last + 1) ≤ 8000000 := by have := HL2.out; unfold ys; omega
            omega
          · cases h1
        rw [HO.out] at hend
        clear hLI hcf
        go_wp2_with fail
        exact bodyPost_ret (v := .tuple #[.agg #[.int .i64 (lx - o), .int .i64 0], .bool true]) (by simp [results, Tryz.results49, go_sem, *]) rfl ⟨⟨some (lx - o), hend, rfl⟩, below_set2 (HB.out.trans (hb6'.mono HB.out.size)) (by omega) _ _⟩
end Go.Proofs.YtmnjmhlodbifjaaGreatDoor.SpecNext
namespace Go.Proofs.YtmnjmhlodbifjaaGreatDoor.RelFit
open Go Go.RowKit Go.Proofs.YtmnjmhlodbifjaaGreatDoor.Bits Go.Proofs.YtmnjmhlodbifjaaGreatDoor.SpecBits Go.Proofs.YtmnjmhlodbifjaaGreatDoor.SpecSix Go.Proofs.YtmnjmhlodbifjaaGreatDoor.PlainPure Go.Proofs.YtmnjmhlodbifjaaGreatDoor.NameRel Go.Proofs.YtmnjmhlodbifjaaGreatDoor.Moment Go.Proofs.YtmnjmhlodbifjaaGreatDoor.DayM Go.Proofs.YtmnjmhlodbifjaaGreatDoor.SetOf Go.Proofs.YtmnjmhlodbifjaaGreatDoor.Cal Go.Proofs.YtmnjmhlodbifjaaGreatDoor.Off Go.Proofs.YtmnjmhlodbifjaaGreatDoor.Search Go.Proofs.YtmnjmhlodbifjaaGreatDoor.NextC Go.Proofs.YtmnjmhlodbifjaaGreatDoor.NextJ Go.Proofs.YtmnjmhlodbifjaaGreatDoor.Local Go.Proofs.YtmnjmhlodbifjaaGreatDoor.SpecNext Go.Proofs.YtmnjmhlodbifjaaGreatDoor.DurPure Go.Proofs.YtmnjmhlodbifjaaGreatDoor.Mean
set_option linter.unusedVariables false
theorem has_bset (p : Nat → Bool) (v : Nat) (h : v < 64) : has (bset p) (v : Int) = p v := by
  unfold has
  rw [toNat_bset, testBit_setN, Int.toNat_natCast, decide_eq_true h, Bool.true_and]
theorem has_num (star : Bool) (f : Nat → Bool) (v : Nat) (h : v < 63) : has (numOf star f) (v : Int) = f v := by
  unfold SpecBits.numOf
  rw [has_bset _ _ (by omega), decide_eq_true h, decide_eq_false (by omega)]
  simp
theorem has_star (star : Bool) (f : Nat → Bool) : has (numOf star f) 63 = star := by
  have := has_bset (fun i => (decide (i < 63) && f i) || (star && decide (i = 63))) 63 (by decide)
  unfold SpecBits.numOf
  rw [show (63 : Int) = ((63 : Nat) : Int) from rfl, this]
  simp
theorem u64_num (star : Bool) (f : Nat → Bool) : U64 (numOf star f) := bset_bd _
theorem nums_at (LL : List (List UInt8)) : (numsOf LL 6).getD 0 0 = numOf (stL LL 6 0) (fLs LL 6 0) ∧ (numsOf LL 6).getD 1 0 = numOf (stL LL 6 1) (fLs LL 6 1) ∧ (numsOf LL 6).getD 2 0 = numOf (stL LL 6 2) (fLs LL 6 2) ∧
    (numsOf LL 6).getD 3 0 = numOf (stL LL 6 3) (fLs LL 6 3) ∧ (numsOf LL 6).getD 4 0 = numOf (stL LL 6 4) (fLs LL 6 4) ∧ (numsOf LL 6).getD 5 0 = numOf (stL LL 6 5) (fLs LL 6 5) := by
  unfold numsOf stL fLs
  simp [List.range, List.range.loop]
theorem nums_u6 (st : Nat → Bool) (f : Nat → Nat → Bool) : U6 (numOf (st 0) (f 0)) (numOf (st 1) (f 1)) (numOf (st 2) (f 2)) (numOf (st 3) (f 3)) (numOf (st 4) (f 4)) (numOf (st 5) (f 5)) :=
  ⟨u64_num _ _, u64_num _ _, u64_num _ _, u64_num _ _, u64_num _ _, u64_num _ _⟩
theorem fit_nums (st : Nat → Bool) (f : Nat → Nat → Bool) (off : Int → Int) (y : Int) :
    lfit st f (lo off y) = true ↔ Fit off (sched (numOf (st 0) (f 0)) (numOf (st 1) (f 1)) (numOf (st 2) (f 2)) (numOf (st 3) (f 3)) (numOf (st 4) (f 4)) (numOf (st 5) (f 5))) y := by
  refine lfit_gen off y (fun k v hk h1 h2 => ?_) (has_star _ _).symm (has_star _ _).symm
  have hh := (lo_hi k).2.2
  have h63 : v < 63 := by omega
  rcases (by omega : k = 0 ∨ k = 1 ∨ k = 2 ∨ k = 3 ∨ k = 4 ∨ k = 5) with rfl | rfl | rfl | rfl | rfl | rfl <;> exact (has_num _ _ v h63).symm
theorem durGo_le : ∀ n l sum fine x, sum ≤ 4611686018427387904 → durGo n l sum fine = some (some x) → x ≤ 4611686018427387904 := by
  intro n
  induction n with
  | zero =>
    intro l sum fine x hs h
    unfold durGo at h
    split at h
    · cases h; exact hs
    · cases h
  | succ n ih =>
    intro l sum fine x hs h
    unfold durGo at h
    split at h
    · split at h
      · cases h; exact hs
      · cases h
    · split at h
      · cases h
      · split at h
        · rename_i h3
          simp only [Bool.and_eq_true, decide_eq_true_eq] at h3
          exact ih _ _ _ _ h3.2 h
        · exact ih _ _ _ _ (by decide) h
theorem dur_le {l : List UInt8} {x : Int} (h : dur l = some (some x)) : x ≤ 4611686018427387904 := by
  unfold dur at h
  split at h
  · cases h; decide
  · split at h
    · cases h
    · obtain ⟨r, hr⟩ : ∃ r, durGo (signOf l).2.length (signOf l).2 0 true = r := ⟨_, rfl⟩
      rw [hr] at h
      unfold finish at h
      split at h
      · cases h
      · cases h
      · rename_i m
        have := durGo_le _ _ _ _ _ (by decide) hr
        cases h
        split <;> omega
def Delay (d : Int) : Prop := ∃ q : Int, d = 1000000000 * q ∧ 1 ≤ q ∧ q ≤ 4611686018
theorem delay_of {x : Int} (h : x ≤ 4611686018427387904) : Delay (delayOf x) := by
  unfold delayOf
  split
  · exact ⟨1, by decide, by decide, by decide⟩
  · exact ⟨x / 1000000000, by omega, by omega, by omega⟩
theorem plain_every {o : Int} {l : List UInt8} {d : Int} (h : mvPlain o l = some (some (.every d))) : False := by
  obtain ⟨-, LL, h1, -⟩ := six_fine h
  cases h1
theorem desc_every {l : List UInt8} {d : Int} (h : mvDesc l = some (some (.every d))) : Delay d := by
  unfold mvDesc at h
  split at h
  · exact (plain_every h).elim
  · split at h
    · unfold mvDur at h
      split at h
      · cases h
      · cases h
      · rename_i h2
        cases h
        exact delay_of (dur_le h2)
    · split at h <;> cases h
theorem all_every {o : Int} {l : List UInt8} {d : Int} (h : mvAll o l = some (some (.every d))) : Delay d := by
  unfold mvAll at h
  split at h
  · split at h
    · exact desc_every h
    · cases h
  · exact (plain_every h).elim
theorem mean_every {o : Int} {l : List UInt8} {d : Int} (h : mean o l = some (some (.every d))) : Delay d := by
  unfold mean at h
  split at h
  · split at h
    · cases h
    · exact all_every h
  · split at h
    · cases h
    · unfold zoned at h
      split at h
      · cases h
      · unfold restM at h
        split at h
        · cases h
        · exact all_every h
end Go.Proofs.YtmnjmhlodbifjaaGreatDoor.RelFit
namespace Go.Proofs.YtmnjmhlodbifjaaGreatDoor.Delay
open Go Go.RowKit Go.Proofs.YtmnjmhlodbifjaaGreatDoor.TimeNum Go.Proofs.YtmnjmhlodbifjaaGreatDoor.Lookup Go.Proofs.YtmnjmhlodbifjaaGreatDoor.Time Go.Proofs.YtmnjmhlodbifjaaGreatDoor.Time2 Go.Proofs.YtmnjmhlodbifjaaGreatDoor.DayM Go.Proofs.YtmnjmhlodbifjaaGreatDoor.Moment Go.Proofs.YtmnjmhlodbifjaaGreatDoor.Cal Go.Proofs.YtmnjmhlodbifjaaGreatDoor.Off Go.Proofs.YtmnjmhlodbifjaaGreatDoor.Search Go.Proofs.YtmnjmhlodbifjaaGreatDoor.NextP Go.Proofs.YtmnjmhlodbifjaaGreatDoor.NextA Go.Proofs.YtmnjmhlodbifjaaGreatDoor.NextB Go.Proofs.YtmnjmhlodbifjaaGreatDoor.NextC Go.Proofs.YtmnjmhlodbifjaaGreatDoor.RegS Go.Proofs.YtmnjmhlodbifjaaGreatDoor.Zone Go.Proofs.YtmnjmhlodbifjaaGreatDoor.Zone2 Go.Proofs.YtmnjmhlodbifjaaGreatDoor.DayFits Go.Proofs.YtmnjmhlodbifjaaGreatDoor.NextI Go.Proofs.YtmnjmhlodbifjaaGreatDoor.NextJ
set_option linter.unusedVariables false
def Delay (d : Int) : Prop := ∃ q : Int, d = 1000000000 * q ∧ 1 ≤ q ∧ q ≤ 4611686018
theorem delayNext_any (d q s nano : Int) (w : World) (hq : d.tdiv 1000000000 = q) (q0 : 1 ≤ q) (q1 : q ≤ 4611686018) (s0 : -62135596800 ≤ s) (s1 : s ≤ 253402300799) :
    Calls Tryz.prog 48 #[.int .i64 d, .agg #[.int .i64 s, .int .i64 nano]] w fun x w' => x = .returned (.agg #[.int .i64 (s + q), .int .i64 0]) ∧ Below w.heap.size w w' := by
  have hb : Below w.heap.size w ((w.alloc (.cells #[.int .i64 s, .int .i64 nano] 34)).alloc (.cells #[.int .i64 0, .int .i64 0] 34)) := ((Below.refl _ _).alloc (Nat.le_refl _) _).alloc (by simp) _
  go_enter Tryz.func48, Tryz.ntmps48
  go_wp2_with fail
  refine bodyPost_ret (v := .agg #[.int .i64 (s + q), .int .i64 0]) (by simp [results, Tryz.results48, go_sem, *]) rfl ⟨rfl, ?_⟩
  exact ((Below.refl _ _).alloc (Nat.le_refl _) _).alloc (by simp) _
theorem addD (nano s q : Int) (loc : Option Addr) (w : World) (n0 : 0 ≤ nano) (n1 : nano < 1000000000) (q0 : 1 ≤ q) (q1 : q ≤ 4611686018) (s0 : -62135596800 ≤ s) (s1 : s ≤ 253402300799) :
    Calls Tryz.prog 191 #[.agg #[.int .u64 nano, .int .i64 (s + 62135596800), .pointer loc], .int .i64 (1000000000 * q - nano)] w fun x w' => x = .returned (.agg #[.int .u64 0, .int .i64 (s + q + 62135596800), .pointer loc]) ∧ Below w.heap.size w w' := by
  by_cases h : nano = 0
  · subst h
    have := add_A 0 (s + 62135596800) (1000000000 * q - 0) q 0 loc w (by omega) (by omega) ⟨by omega, by omega⟩ (by rw [Int.tdiv_eq_ediv_of_nonneg (by omega)]; omega) (by rw [Int.tmod_eq_emod_of_nonneg (by omega)]; omega) (by omega) (by omega) (by omega) (by omega) (by omega) (by omega)
    rw [show (0 : Int) + 0 = 0 from rfl, show s + 62135596800 + q = s + q + 62135596800 by omega] at this
    exact this
  · have := add_B nano (s + 62135596800) (1000000000 * q - nano) (q - 1) (1000000000 - nano) loc w n0 n1 ⟨by omega, by omega⟩ (by rw [Int.tdiv_eq_ediv_of_nonneg (by omega)]; omega) (by rw [Int.tmod_eq_emod_of_nonneg (by omega)]; omega) (by omega) (by omega) (by omega) (by omega) (by omega) (by omega)
    rw [show nano + (1000000000 - nano) - 1000000000 = 0 by omega, show s + 62135596800 + (q - 1 + 1) = s + q + 62135596800 by omega] at this
    exact this
theorem three_cells {w X : World} {A B C : Array Value} {E F G : TypeId} (h : Below (((w.alloc (.cells A E)).alloc (.cells B F)).alloc (.cells C G)).heap.size (((w.alloc (.cells A E)).alloc (.cells B F)).alloc (.cells C G)) X) :
    (∀ (j : Nat) (v : Value), A[j]? = some v → X.cell? ⟨w.heap.size, j, none⟩ = some v) ∧ (∀ (j : Nat) (v : Value), B[j]? = some v → X.cell? ⟨w.heap.size + 1, j, none⟩ = some v) ∧ (∀ (j : Nat) (v : Value), C[j]? = some v → X.cell? ⟨w.heap.size + 1 + 1, j, none⟩ = some v) ∧ ∀ j : Nat, X.frozen? ⟨w.heap.size + 1 + 1, j, none⟩ = false := by
  have e1 : (w.alloc (.cells A E)).heap.size = w.heap.size + 1 := by simp
  have e2 : ((w.alloc (.cells A E)).alloc (.cells B F)).heap.size = w.heap.size + 1 + 1 := by simp
  have h2 : Below ((w.alloc (.cells A E)).alloc (.cells B F)).heap.size ((w.alloc (.cells A E)).alloc (.cells B F)) X := ((Below.refl _ _).alloc (Nat.le_refl _) _).trans (h.mono (by simp))
  have h1 : Below (w.alloc (.cells A E)).heap.size (w.alloc (.cells A E)) X := ((Below.refl _ _).alloc (Nat.le_refl _) _).trans (h2.mono (by simp))
  refine ⟨fun j v e => cells_after h1 j v e, fun j v e => ?_, fun j v e => ?_, fun j => ?_⟩
  · have := cells_after h2 j v e
    rw [e1] at this
    exact this
  · have := cells_after h j v e
    rw [e2] at this
    exact this
  · have := free_after h j
    rw [e2] at this
    exact this
theorem three_below (w : World) (A B C : Array Value) (E F G : TypeId) : Below w.heap.size w (((w.alloc (.cells A E)).alloc (.cells B F)).alloc (.cells C G)) := (((Below.refl _ _).alloc (Nat.le_refl _) _).alloc (by simp) _).alloc (by simp; omega) _
theorem set3 {W X : World} (h : Below W.heap.size W X) (x y z : Value) : Below W.heap.size W (((X.setCell ⟨W.heap.size, 0, none⟩ x).setCell ⟨W.heap.size, 1, none⟩ y).setCell ⟨W.heap.size, 2, none⟩ z) := below_set3 h (Nat.le_refl _)
set_option maxRecDepth 100000 in
theorem cdNext_any (d q nano s : Int) (loc : Option Addr) (w : World) (hd : d = 1000000000 * q) (n0 : 0 ≤ nano) (n1 : nano < 1000000000) (q0 : 1 ≤ q) (q1 : q ≤ 4611686018) (s0 : -62135596800 ≤ s) (s1 : s ≤ 253402300799) :
    Calls Tryz.prog 222 #[.agg #[.int .i64 d], .agg #[.int .u64 nano, .int .i64 (s + 62135596800), .pointer loc]] w fun x w' => x = .returned (timeV loc (some (s + q))) ∧ Below w.heap.size w w' := by
  obtain ⟨W, hW⟩ : ∃ W, (w.alloc (.cells #[.int .i64 d] 108)).alloc (.cells #[.int .u64 nano, .int .i64 (s + 62135596800), .pointer loc] 86) = W := ⟨_, rfl⟩
  have hbW : Below w.heap.size w W := by rw [← hW]; exact ((Below.refl _ _).alloc (Nat.le_refl _) _).alloc (by simp) _
  have HK : Hid (∀ X, Below W.heap.size W X → X.cell? ⟨w.heap.size, 0, none⟩ = some (.int .i64 d) ∧ X.cell? ⟨w.heap.size + 1, 0, none⟩ = some (.int .u64 nano) ∧ X.cell? ⟨w.heap.size + 1, 1, none⟩ = some (.int .i64 (s + 62135596800)) ∧ X.cell? ⟨w.heap.size + 1, 2, none⟩ = some (.pointer loc)) := Lib.hid (fun X hX => by
    rw [← hW] at hX
    obtain ⟨g1, g2⟩ := Aid.two_after hX
    exact ⟨g1.cell (j := 0) rfl, g2.cell (j := 0) rfl, g2.cell (j := 1) rfl, g2.cell (j := 2) rfl⟩)
  have HN := Lib.hid (fun X => nano_any (w := X) (e := s + 62135596800) (loc := loc) (show Nn nano from ⟨n0, by omega⟩))
  have HA := Lib.hid (fun X => addD nano s q loc X n0 n1 q0 q1 s0 s1)
  have HB := Lib.hid hbW
  have hd0 : 1000000000 ≤ d := by omega
  have hd1 : d ≤ 4611686018000000000 := by omega
  rw [← hd] at HA
  have hw1 : IntKind.i64.wrap nano = nano := IntWalk.i64_in _ (by omega)
  have hw2 : IntKind.i64.wrap (d - nano) = d - nano := IntWalk.i64_in _ (by omega)
  clear hbW hd
  unfold timeV
  go_enter Tryz.func222, Tryz.ntmps222
  go_wp2_with fail
  clear hW
  obtain ⟨V, hV⟩ : ∃ V, W.alloc (.cells #[.int .u64 0, .int .i64 0, .pointer none] 86) = V := ⟨_, rfl⟩
  have hbV : Below W.heap.size W V := by rw [← hV]; exact (Below.refl _ _).alloc (Nat.le_refl _) _
  have hsV : W.heap.size < V.heap.size := by rw [← hV]; simp
  have HD : Hid (∀ X, Below V.heap.size V X → X.cell? ⟨W.heap.size, 0, none⟩ = some (.int .u64 0) ∧ X.cell? ⟨W.heap.size, 1, none⟩ = some (.int .i64 0) ∧ X.cell? ⟨W.heap.size, 2, none⟩ = some (.pointer none) ∧ X.frozen? ⟨W.heap.size, 0, none⟩ = false ∧ X.frozen? ⟨W.heap.size, 1, none⟩ = false ∧ X.frozen? ⟨W.heap.size, 2, none⟩ = false) := Lib.hid (fun X hX => by
    rw [← hV] at hX
    exact ⟨cells_after hX 0 _ rfl, cells_after hX 1 _ rfl, cells_after hX 2 _ rfl, free_after hX 0, free_after hX 1, free_after hX 2⟩)
  have HBV := Lib.hid hbV
  have HSV := Lib.hid hsV
  rw [hV]
  clear hV hbV hsV
  go_region_held3 (fun X => X.cell? ⟨w.heap.size, 0, none⟩ = some (.int .i64 d) ∧ X.cell? ⟨w.heap.size + 1, 0, none⟩ = some (.int .u64 nano) ∧ X.cell? ⟨w.heap.size + 1, 1, none⟩ = some (.int .i64 (s + 62135596800)) ∧ X.cell? ⟨w.heap.size + 1, 2, none⟩ = some (.pointer loc)) (exact HK.out _ (by repeat (first | exact Below.refl _ _ | assumption | exact HBV.out | refine Below.drew ?_ | refine set3 ?_ _ _ _)))
    ((first
      | (go_at_call 106; (with_reducible refine (HN.out _).mono ?_); rintro x w1 ⟨rfl, hb⟩; (have hv1 := undrew hb); (have hb1 := HBV.out.trans (hv1.mono (Nat.le_of_lt HSV.out))); clear hb)
      | (go_at_call 191; (with_reducible refine (HA.out _).mono ?_); rintro x w2 ⟨rfl, hb⟩; (have hv2 := hv1.trans (hb.mono hv1.size)); (have hb2 := HBV.out.trans (hv2.mono (Nat.le_of_lt HSV.out))); (obtain ⟨d0, d1, d2, g0, g1, g2⟩ := HD.out _ hv2); clear hb)))
  all_goals
    go_wp2_with fail
    refine bodyPost_ret (v := .agg #[.int .u64 0, .int .i64 (s + q + 62135596800), .pointer loc]) (by simp [results, Tryz.results222, go_sem, *]) rfl ⟨rfl, ?_⟩
    exact HB.out.trans ((set3 hb2 _ _ _).mono HB.out.size)
theorem nil_cd (p : Value) (w : World) : (nilAhead 403 108 p "Next").run Tryz.prog w = .ok (some false) w := by kernel_rfl
theorem meth_cd (p : Value) (w : World) : (method 403 108 p "Next").run Tryz.prog w = .ok (222, p) w := by kernel_rfl
theorem scheduleE_any (d : Int) (w : World) :
    Calls Tryz.prog 35 #[.agg #[.bool true, .int .i64 d, .int .u64 0, .int .u64 0, .int .u64 0, .int .u64 0, .int .u64 0, .int .u64 0], .pointer none] w fun x w' => x = .returned (.iface 108 (.agg #[.int .i64 d])) ∧ Below w.heap.size w w' := by
  go_enter Tryz.func35, Tryz.ntmps35
  go_wp2_with fail
  go_ret
  exact ⟨rfl, (Below.refl _ _).alloc (Nat.le_refl _) _⟩
set_option maxHeartbeats 2000000 in
set_option maxRecDepth 100000 in
theorem nextE_any (r : Raw) (co cd cw ci : Nat) (d q s nano : Int) (w : World) (h : r.At w) (hok : r.Ok) (hd : d = 1000000000 * q) (n0 : 0 ≤ nano) (n1 : nano < 1000000000) (q0 : 1 ≤ q) (q1 : q ≤ 4611686018) (s0 : -62135596800 ≤ s) (s1 : s ≤ 253402300799) :
    Calls Tryz.prog 15 #[.agg #[.bool true, .int .i64 d, .int .u64 0, .int .u64 0, .int .u64 0, .int .u64 0, .int .u64 0, .int .u64 0], .agg #[.int .i64 s, .int .i64 nano], .agg #[.slice r.ao r.no co, .slice r.ad r.nd cd, .slice r.aw r.nw cw, .slice r.ai r.ni ci]] w fun x w' => x = .returned (ansV (some (s + q))) ∧ Below w.heap.size w w' := by
  obtain ⟨W0, hW0⟩ : ∃ W0, ((w.alloc (.cells #[.bool true, .int .i64 d, .int .u64 0, .int .u64 0, .int .u64 0, .int .u64 0, .int .u64 0, .int .u64 0] 28)).alloc (.cells #[.int .i64 s, .int .i64 nano] 34)).alloc (.cells #[.slice r.ao r.no co, .slice r.ad r.nd cd, .slice r.aw r.nw cw, .slice r.ai r.ni ci] 43) = W0 := ⟨_, rfl⟩
  have hb0 : Below w.heap.size w W0 := by rw [← hW0]; exact three_below _ _ _ _ _ _ _
  have HKS : Hid (∀ X, Below W0.heap.size W0 X → X.cell? ⟨w.heap.size, 0, none⟩ = some (.bool true) ∧ X.cell? ⟨w.heap.size, 1, none⟩ = some (.int .i64 d) ∧ X.cell? ⟨w.heap.size, 2, none⟩ = some (.int .u64 0) ∧ X.cell? ⟨w.heap.size, 3, none⟩ = some (.int .u64 0) ∧ X.cell? ⟨w.heap.size, 4, none⟩ = some (.int .u64 0) ∧ X.cell? ⟨w.heap.size, 5, none⟩ = some (.int .u64 0) ∧ X.cell? ⟨w.heap.size, 6, none⟩ = some (.int .u64 0) ∧ X.cell? ⟨w.heap.size, 7, none⟩ = some (.int .u64 0) ∧ X.cell? ⟨w.heap.size + 1, 0, none⟩ = some (.int .i64 s) ∧ X.cell? ⟨w.heap.size + 1, 1, none⟩ = some (.int .i64 nano) ∧ X.cell? ⟨w.heap.size + 1 + 1, 0, none⟩ = some (.slice r.ao r.no co) ∧ X.cell? ⟨w.heap.size + 1 + 1, 1, none⟩ = some (.slice r.ad r.nd cd) ∧ X.cell? ⟨w.heap.size + 1 + 1, 2, none⟩ = some (.slice r.aw r.nw cw) ∧ X.cell? ⟨w.heap.size + 1 + 1, 3, none⟩ = some (.slice r.ai r.ni ci)) := Lib.hid (fun X hX => by
    rw [← hW0] at hX
    obtain ⟨a, b, c, -⟩ := three_cells hX
    exact ⟨a 0 _ rfl, a 1 _ rfl, a 2 _ rfl, a 3 _ rfl, a 4 _ rfl, a 5 _ rfl, a 6 _ rfl, a 7 _ rfl, b 0 _ rfl, b 1 _ rfl, c 0 _ rfl, c 1 _ rfl, c 2 _ rfl, c 3 _ rfl⟩)
  have HL := Lib.hid (fun w1 (hb : Below w.heap.size w w1) => impl_location r co cd cw ci w1 (h.below hb) hok)
  have HM := Lib.hid (fun (b : Nat) w1 (hz : ZoneAt w1 b (Raw.off r)) => moment_any s nano b (Raw.off r) w1 hz n0 n1 (by omega) (by omega))
  have HN := Lib.hid (fun (loc : Option Addr) w1 => cdNext_any d q nano s loc w1 hd n0 n1 q0 q1 s0 s1)
  have HA := Lib.hid (fun (loc : Option Addr) w1 => answer_any (some (s + q)) loc w1 (fun x hx => by cases hx; omega))
  have HB0 := Lib.hid hb0
  rw [show ansV (some (s + q)) = .tuple #[.agg #[.int .i64 (s + q), .int .i64 0], .bool true] from rfl] at HA ⊢
  clear hb0 h hok n0 n1 hd
  go_enter Tryz.func15, Tryz.ntmps15
  go_wp2_with fail
  clear hW0
  obtain ⟨V, hV⟩ : ∃ V, W0.alloc (.cells #[.int .i64 0, .int .i64 0] 34) = V := ⟨_, rfl⟩
  have hbV : Below W0.heap.size W0 V := by rw [← hV]; exact (Below.refl _ _).alloc (Nat.le_refl _) _
  have hsV : W0.heap.size < V.heap.size := by rw [← hV]; simp
  have HD : Hid (∀ X, Below V.heap.size V X → X.cell? ⟨W0.heap.size, 0, none⟩ = some (.int .i64 0) ∧ X.cell? ⟨W0.heap.size, 1, none⟩ = some (.int .i64 0) ∧ X.frozen? ⟨W0.heap.size, 0, none⟩ = false ∧ X.frozen? ⟨W0.heap.size, 1, none⟩ = false) := Lib.hid (fun X hX => by
    rw [← hV] at hX
    exact ⟨cells_after hX 0 _ rfl, cells_after hX 1 _ rfl, free_after hX 0, free_after hX 1⟩)
  have HBV := Lib.hid hbV
  have hnil := nil_cd
  have hmeth := meth_cd
  have HSV := Lib.hid hsV
  rw [hV]
  clear hV hbV hsV
  go_region_held3 (fun X => X.cell? ⟨w.heap.size, 0, none⟩ = some (.bool true) ∧ X.cell? ⟨w.heap.size, 1, none⟩ = some (.int .i64 d) ∧ X.cell? ⟨w.heap.size, 2, none⟩ = some (.int .u64 0) ∧ X.cell? ⟨w.heap.size, 3, none⟩ = some (.int .u64 0) ∧ X.cell? ⟨w.heap.size, 4, none⟩ = some (.int .u64 0) ∧ X.cell? ⟨w.heap.size, 5, none⟩ = some (.int .u64 0) ∧ X.cell? ⟨w.heap.size, 6, none⟩ = some (.int .u64 0) ∧ X.cell? ⟨w.heap.size, 7, none⟩ = some (.int .u64 0) ∧ X.cell? ⟨w.heap.size + 1, 0, none⟩ = some (.int .i64 s) ∧ X.cell? ⟨w.heap.size + 1, 1, none⟩ = some (.int .i64 nano) ∧ X.cell? ⟨w.heap.size + 1 + 1, 0, none⟩ = some (.slice r.ao r.no co) ∧ X.cell? ⟨w.heap.size + 1 + 1, 1, none⟩ = some (.slice r.ad r.nd cd) ∧ X.cell? ⟨w.heap.size + 1 + 1, 2, none⟩ = some (.slice r.aw r.nw cw) ∧ X.cell? ⟨w.heap.size + 1 + 1, 3, none⟩ = some (.slice r.ai r.ni ci)) (exact HKS.out _ (by repeat (first | exact Below.refl _ _ | assumption | exact HBV.out | refine Below.drew ?_ | refine set2 ?_ _ _)))
    ((first
      | (go_at_call 35; (with_reducible refine (scheduleE_any _ _).mono ?_); rintro x w1 ⟨rfl, hb⟩; (have hv1 := undrew hb); (have hb1 := HBV.out.trans (hv1.mono (Nat.le_of_lt HSV.out))); clear hb)
      | (go_at_call 37; (with_reducible refine (HL.out _ (HB0.out.trans (hb1.mono HB0.out.size))).mono ?_); rintro x w2 ⟨lb, ⟨rfl, hz⟩, hb⟩; (have hv2 := hv1.trans (hb.mono hv1.size)); (have hb2 := HBV.out.trans (hv2.mono (Nat.le_of_lt HSV.out))); clear hb)
      | (go_at_call 36; (with_reducible refine (HM.out lb _ hz).mono ?_); rintro x w3 ⟨loc, ⟨rfl, hcl⟩, hb⟩; (have hv3 := hv2.trans (hb.mono hv2.size)); (have hb3 := HBV.out.trans (hv3.mono (Nat.le_of_lt HSV.out))); clear hb)
      | (go_at_call 222; (with_reducible refine (HN.out loc _).mono ?_); rintro x w4 ⟨rfl, hb⟩; (have hv4 := hv3.trans (hb.mono hv3.size)); (have hb4 := HBV.out.trans (hv4.mono (Nat.le_of_lt HSV.out))); clear hb)
      | (go_at_call 34; (with_reducible refine (HA.out loc _).mono ?_); rintro x w5 ⟨rfl, hb⟩; (have hv5 := hv4.trans (hb.mono hv4.size)); (have hb5 := HBV.out.trans (hv5.mono (Nat.le_of_lt HSV.out))); (obtain ⟨d0, d1, g0, g1⟩ := HD.out _ hv5); clear hb)))
  all_goals
    go_wp2_with fail
    refine bodyPost_ret (v := .tuple #[.agg #[.int .i64 (s + q), .int .i64 0], .bool true]) (by simp [results, Tryz.results15, go_sem, *]) rfl ⟨rfl, ?_⟩
    exact HB0.out.trans ((set2 hb5 _ _).mono HB0.out.size)
end Go.Proofs.YtmnjmhlodbifjaaGreatDoor.Delay
