/- The reference's CronNext: the least fitting second. Conditions: a plain zone, its transitions within some ten thousand years. · A schedule of a constant delay: the reference's CronDelayNext, ConstantDelaySchedule.Next and the thin package's Next. Conditions: a delay of whole seconds, instants from year 1 to 9999, a plain zone. · The reference's CronAfter: by the sets, or after the delay. Conditions: a delay of whole seconds, instants from year 1 to 9999. · The reference's days and instants of a date; UTC. Conditions: years within 100000, months 1 to 12. · The reference's good instants, and two cells of an instant in memory. Conditions: none. · There is an answer: a least fitting second, or none for five years. Conditions: a plain zone, instants from year 1 to 9999. · UTC as a zone that comes in. Conditions: none. · UTC is calm. Conditions: none. -/
import Derived.Test.YtmnjmhlodbifjaaGreatDoorR34
import Derived.Test.YtmnjmhlodbifjaaGreatDoorR18
import Derived.Test.YtmnjmhlodbifjaaGreatDoorR2
import Derived.Test.YtmnjmhlodbifjaaGreatDoorR25
import Derived.Test.YtmnjmhlodbifjaaGreatDoorR26
import Derived.Test.YtmnjmhlodbifjaaGreatDoorR32

namespace Go.Proofs.YtmnjmhlodbifjaaGreatDoor.SpecNext
open Go Go.RowKit Go.Proofs.YtmnjmhlodbifjaaGreatDoor.Set Go.Proofs.YtmnjmhlodbifjaaGreatDoor.Fields Go.Proofs.YtmnjmhlodbifjaaGreatDoor.SetOf Go.Proofs.YtmnjmhlodbifjaaGreatDoor.Moment Go.Proofs.YtmnjmhlodbifjaaGreatDoor.DayM Go.Proofs.YtmnjmhlodbifjaaGreatDoor.TimeNum Go.Proofs.YtmnjmhlodbifjaaGreatDoor.Cal Go.Proofs.YtmnjmhlodbifjaaGreatDoor.Off Go.Proofs.YtmnjmhlodbifjaaGreatDoor.Search Go.Proofs.YtmnjmhlodbifjaaGreatDoor.SpecCal Go.Proofs.YtmnjmhlodbifjaaGreatDoor.Lookup Go.Proofs.YtmnjmhlodbifjaaGreatDoor.Zone Go.Proofs.YtmnjmhlodbifjaaGreatDoor.Zone2 Go.Proofs.YtmnjmhlodbifjaaGreatDoor.DayFits Go.Proofs.YtmnjmhlodbifjaaGreatDoor.FieldsOf Go.Proofs.YtmnjmhlodbifjaaGreatDoor.Never Go.Proofs.YtmnjmhlodbifjaaGreatDoor.CronTime Go.Proofs.YtmnjmhlodbifjaaGreatDoor.Tomorrow Go.Proofs.YtmnjmhlodbifjaaGreatDoor.Local Go.Proofs.YtmnjmhlodbifjaaGreatDoor.Change Go.Proofs.YtmnjmhlodbifjaaGreatDoor.NextC Go.Proofs.YtmnjmhlodbifjaaGreatDoor.NextI
set_option linter.unusedVariables false
attribute [local go_sem ↓] load39_eq
structure Calm (r : Raw) : Prop where
  pl : ∀ A B, -100000000000 ≤ A → Plain (Raw.off r) A B
  ch : ∀ i, i < r.nw → -70000000000 ≤ r.wh i → r.wh i ≤ 300000000000
def SpecRes (off : Int → Int) (S : Sched) (first last : Int) (w : World) (e : Ending) (w' : World) : Prop :=
  (∃ o, IsNext off S first last o ∧ e = .returned (ansV o)) ∧ Below w.heap.size w w'
def Sofar (off : Int → Int) (S : Sched) (first last x : Int) : Prop := ∀ y, first ≤ y → y < x → yr off y ≤ last → ¬ Fit off S y
section
variable {off : Int → Int} {S : Sched} {st : Nat → Bool} {f : Nat → Nat → Bool} {first last x til lx : Int}
theorem year_lt {n : Int} (h : yOf n ≤ last) : n < ys (last + 1) := by
  by_cases c : ys (last + 1) ≤ n
  · have h1 := year_in n
    by_cases c2 : yOf n + 1 = last + 1
    · rw [c2] at h1; omega
    · have := ys_mono (yOf n + 1) (last + 1) (by omega)
      have := lp_01 (yOf n + 1)
      omega
  · omega
theorem end_found (hf0 : -100000000000 ≤ first) (hP : ∀ A B, -100000000000 ≤ A → Plain off A B) (hfit : ∀ y, lfit st f (lo off y) = true ↔ Fit off S y) (hS : Sofar off S first last x) (hfx : first ≤ x)
    (hc : ∀ y, x ≤ y → y + off x < til → off y = off x) (h : LocalIs st f (x + off x) til last lx true) : IsNext off S first last (some (lx - off x)) := by
  rcases h with ⟨-, h1, h2, h3, h4, h5⟩ | ⟨h1, -⟩
  · have ho := hc (lx - off x) (by omega) (by omega)
    have hlo : lo off (lx - off x) = lx := by unfold lo; rw [ho]; omega
    have hyr : yr off (lx - off x) ≤ last := by unfold yr day; rw [hlo]; exact h4
    refine ⟨by omega, (hfit _).1 (by rw [hlo]; exact h3), hyr, fun y y1 y2 hy => ?_⟩
    by_cases c : y < x
    · refine hS y y1 c ?_ hy
      have := year_mono (day_mono (hP y (lx - off x) (by omega)) (Int.le_refl y) (by omega) (Int.le_refl _))
      unfold yr at *
      omega
    · have ho2 := hc y (by omega) (by omega)
      have hlo2 : lo off y = y + off x := by unfold lo; rw [ho2]
      have := h5 (y + off x) (by omega) (by omega)
      rw [← hlo2] at this
      have h6 := (hfit y).2 hy
      rw [this] at h6
      cases h6
  · cases h1
theorem end_more (hfit : ∀ y, lfit st f (lo off y) = true ↔ Fit off S y) (hS : Sofar off S first last x)
    (hc : ∀ y, x ≤ y → y + off x < til → off y = off x) (h : LocalIs st f (x + off x) til last lx false) (y : Int) (y1 : first ≤ y) (y2 : y < x ∨ y + off x < til) (y3 : yr off y ≤ last) : ¬ Fit off S y := fun hy => by
  rcases h with ⟨h1, -⟩ | ⟨-, h1⟩
  · cases h1
  · by_cases c : y < x
    · exact hS y y1 c y3 hy
    · have ho2 := hc y (by omega) (by omega)
      have hlo2 : lo off y = y + off x := by unfold lo; rw [ho2]
      have := h1 (y + off x) (by omega) (by omega) (by unfold yr day at y3; rw [hlo2] at y3; exact y3)
      rw [← hlo2] at this
      have h6 := (hfit y).2 hy
      rw [this] at h6
      cases h6
theorem end_none (hb : ∀ y, -86400 ≤ off y ∧ off y ≤ 86400) (hl : last ≤ 20000) (hfit : ∀ y, lfit st f (lo off y) = true ↔ Fit off S y) (hS : Sofar off S first last x)
    (hc : ∀ y, x ≤ y → off y = off x) (h : LocalIs st f (x + off x) 4611686018427387904 last lx false) : IsNext off S first last none := fun y y1 y3 => by
  refine end_more hfit hS (fun y h1 _ => hc y h1) h y y1 (.inr ?_) y3
  have h1 := year_lt y3
  have h2 := hb y
  have h3 := hb x
  unfold day lo at h1
  have : ys (last + 1) ≤ 8000000 := by unfold ys; omega
  omega
theorem end_stop {c : Int} (hc0 : -100000000000 ≤ c) (hP : ∀ A B, -100000000000 ≤ A → Plain off A B) (hS : Sofar off S first last c) (hy : last < yr off c) : IsNext off S first last none := fun y y1 y3 => by
  by_cases h : y < c
  · exact hS y y1 h y3
  · have := year_mono (day_mono (hP c y hc0) (Int.le_refl c) (by omega) (Int.le_refl _))
    unfold yr at *
    omega
end
theorem field_year (a b c : Int) (w : World) : (Instr.field 50 (.agg #[.int .i64 a, .int .i64 b, .int .i64 c]) 0).run Tryz.prog w = .ok (.int .i64 a) w := by kernel_rfl
theorem below_set2 {B b : Nat} {w X : World} (h : Below B w X) (hb : B ≤ b) (x y : Value) : Below B w ((X.setCell ⟨b, 0, none⟩ x).setCell ⟨b, 1, none⟩ y) := (h.setCell (p := ⟨b, 0, none⟩) hb _).setCell (p := ⟨b, 1, none⟩) hb _
set_option maxHeartbeats 4000000 in
set_option maxRecDepth 100000 in
theorem next_any (r : Raw) (co cd cw ci : Nat) (st : Nat → Bool) (f : Nat → Nat → Bool) (S : Sched) (s nano last : Int) (w : World) (h : r.At w) (hok : r.Ok) (hcalm : Calm r)
    (hfit : ∀ y, lfit st f (lo (Raw.off r) y) = true ↔ Fit (Raw.off r) S y) (s0 : -62135596800 ≤ s) (s1 : s ≤ 270000000000) (hl : yOf (day (Raw.off r) (s + 1)) + 5 = last) :
    Calls Tryz.prog 49 #[.agg (fldArr st f), .agg #[.int .i64 s, .int .i64 nano], .agg #[.slice r.ao r.no co, .slice r.ad r.nd cd, .slice r.aw r.nw cw, .slice r.ai r.ni ci]] w (SpecRes (Raw.off r) S (s + 1) last w) := by
  obtain ⟨W, hW⟩ : ∃ W, ((((w.alloc (.cells (fldArr st f) 57)).alloc (.cells #[.int .i64 s, .int .i64 nano] 34)).alloc (.cells #[.slice r.ao r.no co, .slice r.ad r.nd cd, .slice r.aw r.nw cw, .slice r.ai r.ni ci] 43)).alloc (.cells #[.int .i64 0, .int .i64 0] 34)) = W := ⟨_, rfl⟩
  have hbW : Below w.heap.size w W := by rw [← hW]; exact ((((Below.refl _ _).alloc (Nat.le_refl _) _).alloc (by simp) _).alloc (by simp; omega) _).alloc (by simp; omega) _
  have HKS : Hid (∀ X, Below W.heap.size W X → X.cell? ⟨w.heap.size + 1, 0, none⟩ = some (.int .i64 s) ∧ X.cell? ⟨w.heap.size + 1 + 1, 0, none⟩ = some (.slice r.ao r.no co) ∧ X.cell? ⟨w.heap.size + 1 + 1, 1, none⟩ = some (.slice r.ad r.nd cd) ∧ X.cell? ⟨w.heap.size + 1 + 1, 2, none⟩ = some (.slice r.aw r.nw cw) ∧ X.cell? ⟨w.heap.size + 1 + 1, 3, none⟩ = some (.slice r.ai r.ni ci) ∧ (load39 (.pointer (some ⟨w.heap.size, 0, none⟩))).run Tryz.prog X = .ok (.agg (fldArr st f)) X ∧ X.cell? ⟨w.heap.size + 1 + 1 + 1, 0, none⟩ = some (.int .i64 0) ∧ X.cell? ⟨w.heap.size + 1 + 1 + 1, 1, none⟩ = some (.int .i64 0) ∧ X.frozen? ⟨w.heap.size + 1 + 1 + 1, 0, none⟩ = false ∧ X.frozen? ⟨w.heap.size + 1 + 1 + 1, 1, none⟩ = false) := Lib.hid (fun X hX => by
    have e1 : (w.alloc (.cells (fldArr st f) 57)).heap.size = w.heap.size + 1 := by simp
    have e2 : ((w.alloc (.cells (fldArr st f) 57)).alloc (.cells #[.int .i64 s, .int .i64 nano] 34)).heap.size = w.heap.size + 1 + 1 := by simp
    have e3 : (((w.alloc (.cells (fldArr st f) 57)).alloc (.cells #[.int .i64 s, .int .i64 nano] 34)).alloc (.cells #[.slice r.ao r.no co, .slice r.ad r.nd cd, .slice r.aw r.nw cw, .slice r.ai r.ni ci] 43)).heap.size = w.heap.size + 1 + 1 + 1 := by simp
    have h4 : Below ((((w.alloc (.cells (fldArr st f) 57)).alloc (.cells #[.int .i64 s, .int .i64 nano] 34)).alloc (.cells #[.slice r.ao r.no co, .slice r.ad r.nd cd, .slice r.aw r.nw cw, .slice r.ai r.ni ci] 43)).alloc (.cells #[.int .i64 0, .int .i64 0] 34)).heap.size ((((w.alloc (.cells (fldArr st f) 57)).alloc (.cells #[.int .i64 s, .int .i64 nano] 34)).alloc (.cells #[.slice r.ao r.no co, .slice r.ad r.nd cd, .slice r.aw r.nw cw, .slice r.ai r.ni ci] 43)).alloc (.cells #[.int .i64 0, .int .i64 0] 34)) X := by rw [hW]; exact hX
    have h3 : Below (((w.alloc (.cells (fldArr st f) 57)).alloc (.cells #[.int .i64 s, .int .i64 nano] 34)).alloc (.cells #[.slice r.ao r.no co, .slice r.ad r.nd cd, .slice r.aw r.nw cw, .slice r.ai r.ni ci] 43)).heap.size (((w.alloc (.cells (fldArr st f) 57)).alloc (.cells #[.int .i64 s, .int .i64 nano] 34)).alloc (.cells #[.slice r.ao r.no co, .slice r.ad r.nd cd, .slice r.aw r.nw cw, .slice r.ai r.ni ci] 43)) X := ((Below.refl _ _).alloc (Nat.le_refl _) _).trans (h4.mono (by simp))
    have h2 : Below ((w.alloc (.cells (fldArr st f) 57)).alloc (.cells #[.int .i64 s, .int .i64 nano] 34)).heap.size ((w.alloc (.cells (fldArr st f) 57)).alloc (.cells #[.int .i64 s, .int .i64 nano] 34)) X := ((Below.refl _ _).alloc (Nat.le_refl _) _).trans (h3.mono (by simp))
    have h1 : Below (w.alloc (.cells (fldArr st f) 57)).heap.size (w.alloc (.cells (fldArr st f) 57)) X := ((Below.refl _ _).alloc (Nat.le_refl _) _).trans (h2.mono (by simp))
    have hf := (FldAt.new w st f).below h1 (by simp)
    have b0 := cells_after h2 0 _ rfl
    have c0 := cells_after h3 0 _ rfl
    have c1 := cells_after h3 1 _ rfl
    have c2 := cells_after h3 2 _ rfl
    have c3 := cells_after h3 3 _ rfl
    have q0 := cells_after h4 0 _ rfl
    have q1 := cells_after h4 1 _ rfl
    have q2 := free_after h4 0
    have q3 := free_after h4 1
    rw [e1] at b0
    rw [e2] at c0 c1 c2 c3
    rw [e3] at q0 q1 q2 q3
    exact ⟨b0, c0, c1, c2, c3, load39_run hf, q0, q1, q2, q3⟩)
  have HOF := Lib.hid (fun (x : Int) w1 (hb : Below w.heap.size w w1) => offset_any r co cd cw ci x w1 (h.below hb) hok)
  have HCH := Lib.hid (fun (x : Int) w1 (hb : Below w.heap.size w w1) => change_any r co cd cw ci x w1 (h.below hb) hok)
  obtain ⟨off, hoff⟩ : ∃ off, Raw.off r = off := ⟨_, rfl⟩
  have HBF : Hid (∀ s x y, ChangeIs r s x true → s ≤ y → y < x → off y = off s) := Lib.hid (fun s x y h1 h2 h3 => by rw [← hoff]; exact h1.before h2 h3)
  have HAF : Hid (∀ s x y, ChangeIs r s x false → s ≤ y → off y = off s) := Lib.hid (fun s x y h1 h2 => by rw [← hoff]; exact h1.after h2)
  have hpl := hcalm.pl
  have HCC := Lib.hid hcalm.ch
  rw [hoff] at hfit hl HOF hpl
  rw [hoff]
  have HFT := Lib.hid hfit
  have HPL := Lib.hid hpl
  have hob : Hid (∀ y, -86400 ≤ off y ∧ off y ≤ 86400) := Lib.hid (fun y => (hpl 0 0 (by omega)).bd y)
  have HB := Lib.hid hbW
  obtain ⟨first, hfi⟩ : ∃ first, s + 1 = first := ⟨_, rfl⟩
  rw [hfi] at hl
  rw [hfi]
  have hofb := hob.out first
  have hdb : -800000 ≤ (first + off first) / 86400 ∧ (first + off first) / 86400 ≤ 4000000 := by omega
  have HFD := Lib.hid (fun (x : Int) w1 (h1 : -100000000000 ≤ x) (h2 : x ≤ 500000000000) => floorDiv_any x 86400 w1 ⟨by omega, by omega⟩ (by omega) (by omega))
  have HDO := Lib.hid (fun (n : Int) w1 (h1 : -1500000 ≤ n) (h2 : n ≤ 7000000) => dateOf_any n w1 ⟨by omega, by omega⟩)
  obtain ⟨y0, hy0⟩ : ∃ y0, yOf ((first + off first) / 86400) = y0 := ⟨_, rfl⟩
  have hl2 : y0 + 5 = last := by rw [← hy0]; exact hl
  have hyb : -3000 ≤ y0 ∧ y0 ≤ 12000 := by
    have := year_in ((first + off first) / 86400)
    rw [hy0] at this
    unfold ys at this
    omega
  have HY0 := Lib.hid hy0
  have HLO := Lib.hid (fun (a til : Int) w1 (h1 : -70000000000 ≤ a) (h2 : a ≤ 600000000000) (h3 : -9000000000000000000 ≤ til) (h4 : til ≤ 9000000000000000000) => local_any st f a til last w1 h1 h2 h4 h3 (by omega) (by omega))
  obtain ⟨o1, ho1⟩ : ∃ o1, off first = o1 := ⟨_, rfl⟩
  have HO1 := Lib.hid ho1
  have HL2 := Lib.hid hl2
  have HFI := Lib.hid hfi
  rw [ho1] at hofb hdb
  have HOF1 := Lib.hid (fun w1 (hb : Below w.heap.size w w1) => HOF.out first w1 hb)
  rw [ho1] at HOF1 hy0
  have HDO1 := Lib.hid (fun w1 => HDO.out ((first + o1) / 86400) w1 (by omega) (by omega))
  rw [hy0] at HDO1
  clear hl hy0 hpl hcalm hfit hbW h hok hoff ho1 HY0
  obtain ⟨i0, z0, z1, z2, z3, l0, d0, d1, g0, g1⟩ := HKS.out _ (Below.refl _ _)
  have hfy := field_year
  go_enter Tryz.func49, Tryz.ntmps49
  go_wp2_with (first
    | (with_reducible refine wpList_box_fields rfl (.tmp 0) rfl st f rfl ?_)
    | ((go_at_call 39); (refine (HOF1.out _ HB.out).mono ?_); rintro e w1 ⟨rfl, hb1⟩)
    | ((go_at_call 77); (refine (HFD.out (first + o1) _ (by omega) (by omega)).mono ?_); rintro e w2 ⟨rfl, rfl⟩)
    | ((go_at_call 78); (refine (HDO1.out _).mono ?_); rintro e w3 ⟨rfl, hb3⟩))
  have HW3 := Lib.hid (hb1.trans (hb3.mono hb1.size))
  clear hb1 hb3 i0 z0 z1 z2 z3 l0 d0 d1 g0 g1
  have HFI2 := HFI.out
  go_loopw [8] (fun v wr => ∃ x : Int, v = .int .i64 x ∧ first ≤ x ∧ x ≤ 300000000000 ∧ Hid (Sofar off S first last x) ∧ Hid (Below W.heap.size W wr)) (fun v _ => (400000000000 - intOf v).toNat)
  case atStart => exact ⟨first, rfl, by omega, by omega, Lib.hid (fun y y1 y2 => by omega), HW3⟩
  case round =>
    obtain ⟨x, rfl, x0, x1, HSF, HBr⟩ := hrel
    have hox := hob.out x
    obtain ⟨o, ho⟩ : ∃ o, off x = o := ⟨_, rfl⟩
    have HOX := Lib.hid (fun w1 (hb : Below w.heap.size w w1) => HOF.out x w1 hb)
    have HO := Lib.hid ho
    rw [ho] at HOX hox
    have HCX := Lib.hid (fun w1 (hb : Below w.heap.size w w1) => HCH.out x w1 hb)
    clear ho
    obtain ⟨i0, z0, z1, z2, z3, l0, d0, d1, g0, g1⟩ := HKS.out _ HBr.out
    go_upto_if 37 with (first
      | ((go_at_call 39); (refine (HOX.out _ (HB.out.trans (HBr.out.mono HB.out.size))).mono ?_); rintro e w4 ⟨rfl, hb4⟩; have hb4' := HBr.out.trans (hb4.mono HBr.out.size); obtain ⟨i0, z0, z1, z2, z3, l0, d0, d1, g0, g1⟩ := HKS.out _ hb4')
      | ((go_at_call 87); (refine (HCX.out _ (HB.out.trans (hb4'.mono HB.out.size))).mono ?_); rintro e w5 ⟨⟨c, m, rfl, hC⟩, hb5⟩; have hb5' := hb4'.trans (hb5.mono hb4'.size); obtain ⟨i0, z0, z1, z2, z3, l0, d0, d1, g0, g1⟩ := HKS.out _ hb5'))
    have HB5 := Lib.hid hb5'
    clear hb4 hb4' hb5 hb5'
    cases m
    case false =>
      have HCF := Lib.hid hC
      clear hC
      have HLX := Lib.hid (fun w1 => HLO.out (x + o) 4611686018427387904 w1 (by omega) (by omega) (by omega) (by omega))
      go_upto_if 51 with ((go_at_call 88); (refine (HLX.out _).mono ?_); rintro e w6 ⟨⟨lx, b, rfl, hLI⟩, hb6⟩; have hb6' := HB5.out.trans (hb6.mono HB5.out.size); obtain ⟨i0, z0, z1, z2, z3, l0, d0, d1, g0, g1⟩ := HKS.out _ hb6')
      have hcf : ∀ y, x ≤ y → y + off x < 4611686018427387904 → off y = off x := fun y h1 _ => HAF.out x c y HCF.out h1
      rw [← HO.out] at hLI
      cases b
      case false =>
        have hend := end_none hob.out (by have := HL2.out; omega) HFT.out HSF.out (fun y h1 => HAF.out x c y HCF.out h1) hLI
        go_wp2_with fail
        exact bodyPost_ret (v := .tuple #[.agg #[.int .i64 0, .int .i64 0], .bool false]) (by simp [results, Tryz.results49, go_sem, *]) rfl ⟨⟨none, hend, rfl⟩, below_set2 (HB.out.trans (hb6'.mono HB.out.size)) (by omega) _ _⟩
      case true =>
        have hend := end_found (by omega) HPL.out HFT.out HSF.out x0 hcf hLI
        have hlx : -70000000000 ≤ lx ∧ lx ≤ 700000000000 := by
          rcases hLI with ⟨-, h1, -, -, h4, -⟩ | ⟨h1, -⟩
          · have h5 := year_lt h4
            have := HO.out
            have h6 : ys (last + 1) ≤ 8000000 := by have := HL2.out; unfold ys; omega
            omega
          · cases h1
        rw [HO.out] at hend
        clear hLI hcf
        go_wp2_with fail
        exact bodyPost_ret (v := .tuple #[.agg #[.int .i64 (lx - o), .int .i64 0], .bool true]) (by simp [results, Tryz.results49, go_sem, *]) rfl ⟨⟨some (lx - o), hend, rfl⟩, below_set2 (HB.out.trans (hb6'.mono HB.out.size)) (by omega) _ _⟩
    case true =>
      have hcb : x < c ∧ c ≤ 300000000000 := by
        rcases hC with ⟨-, h1, ⟨i, h2, h3⟩, -⟩ | ⟨h1, -⟩
        · have := HCC.out i h2 (by omega)
          omega
        · cases h1
      have HCT := Lib.hid hC
      clear hC
      have HLX := Lib.hid (fun w1 => HLO.out (x + o) (c + o) w1 (by omega) (by omega) (by omega) (by omega))
      go_upto_if 51 with ((go_at_call 88); (refine (HLX.out _).mono ?_); rintro e w6 ⟨⟨lx, b, rfl, hLI⟩, hb6⟩; have hb6' := HB5.out.trans (hb6.mono HB5.out.size); obtain ⟨i0, z0, z1, z2, z3, l0, d0, d1, g0, g1⟩ := HKS.out _ hb6')
      have hcf : ∀ y, x ≤ y → y + off x < c + off x → off y = off x := fun y h1 h2 => HBF.out x c y HCT.out h1 (by omega)
      rw [← HO.out] at hLI
      cases b
      case false =>
        have hso : Sofar off S first last c := fun y y1 y2 y3 => end_more HFT.out HSF.out hcf hLI y y1 (by omega) y3
        have HSO := Lib.hid hso
        have hoc := hob.out c
        obtain ⟨o2, ho2⟩ : ∃ o2, off c = o2 := ⟨_, rfl⟩
        have HOC := Lib.hid (fun w1 (hb : Below w.heap.size w w1) => HOF.out c w1 hb)
        have HO2 := Lib.hid ho2
        rw [ho2] at HOC hoc
        have HDC := Lib.hid (fun w1 => HDO.out ((c + o2) / 86400) w1 (by omega) (by omega))
        have HFC := Lib.hid (fun w1 => HFD.out (c + o2) w1 (by omega) (by omega))
        have HB6 := Lib.hid hb6'
        have hcd : -800000 ≤ (c + o2) / 86400 ∧ (c + o2) / 86400 ≤ 4000000 := by omega
        clear hso ho2 hLI hcf hb6 hb6'
        obtain ⟨yc, hyc⟩ : ∃ yc, yOf ((c + o2) / 86400) = yc := ⟨_, rfl⟩
        rw [hyc] at HDC
        have HYC : Hid (yr off c = yc) := Lib.hid (by unfold yr day lo; rw [HO2.out]; exact hyc)
        clear hyc
        by_cases hyl : last < yc
        · go_wp2_with (first
            | ((go_at_call 39); (refine (HOC.out _ (HB.out.trans (HB6.out.mono HB.out.size))).mono ?_); rintro e w7 ⟨rfl, hb7⟩; have hb7' := HB6.out.trans (hb7.mono HB6.out.size))
            | ((go_at_call 77); (refine (HFC.out _).mono ?_); rintro e w8 ⟨rfl, rfl⟩)
            | ((go_at_call 78); (refine (HDC.out _).mono ?_); rintro e w9 ⟨rfl, hb9⟩; have hb9' := hb7'.trans (hb9.mono hb7'.size); obtain ⟨i0, z0, z1, z2, z3, l0, d0, d1, g0, g1⟩ := HKS.out _ hb9'))
          exact bodyPost_ret (v := .tuple #[.agg #[.int .i64 0, .int .i64 0], .bool false]) (by simp [results, Tryz.results49, go_sem, *]) rfl ⟨⟨none, end_stop (by omega) HPL.out HSO.out (by rw [HYC.out]; exact hyl), rfl⟩, below_set2 (HB.out.trans (hb9'.mono HB.out.size)) (by omega) _ _⟩
        · go_wp2_with (first
            | ((go_at_call 39); (refine (HOC.out _ (HB.out.trans (HB6.out.mono HB.out.size))).mono ?_); rintro e w7 ⟨rfl, hb7⟩; have hb7' := HB6.out.trans (hb7.mono HB6.out.size))
            | ((go_at_call 77); (refine (HFC.out _).mono ?_); rintro e w8 ⟨rfl, rfl⟩)
            | ((go_at_call 78); (refine (HDC.out _).mono ?_); rintro e w9 ⟨rfl, hb9⟩; have hb9' := hb7'.trans (hb9.mono hb7'.size); obtain ⟨i0, z0, z1, z2, z3, l0, d0, d1, g0, g1⟩ := HKS.out _ hb9'))
          exact ⟨⟨c, rfl, by omega, by omega, HSO, Lib.hid hb9'⟩, by simp [intOf]; omega⟩
      case true =>
        have hend := end_found (by omega) HPL.out HFT.out HSF.out x0 hcf hLI
        have hlx : -70000000000 ≤ lx ∧ lx ≤ 700000000000 := by
          rcases hLI with ⟨-, h1, -, -, h4, -⟩ | ⟨h1, -⟩
          · have h5 := year_lt h4
            have := HO.out
            have h6 : ys (last + 1) ≤ 8000000 := by have := HL2.out; unfold ys; omega
            omega
          · cases h1
        rw [HO.out] at hend
        clear hLI hcf
        go_wp2_with fail
        exact bodyPost_ret (v := .tuple #[.agg #[.int .i64 (lx - o), .int .i64 0], .bool true]) (by simp [results, Tryz.results49, go_sem, *]) rfl ⟨⟨some (lx - o), hend, rfl⟩, below_set2 (HB.out.trans (hb6'.mono HB.out.size)) (by omega) _ _⟩
end Go.Proofs.YtmnjmhlodbifjaaGreatDoor.SpecNext
namespace Go.Proofs.YtmnjmhlodbifjaaGreatDoor.RelFit
end Go.Proofs.YtmnjmhlodbifjaaGreatDoor.RelFit
namespace Go.Proofs.YtmnjmhlodbifjaaGreatDoor.Delay
open Go Go.RowKit Go.Proofs.YtmnjmhlodbifjaaGreatDoor.TimeNum Go.Proofs.YtmnjmhlodbifjaaGreatDoor.Lookup Go.Proofs.YtmnjmhlodbifjaaGreatDoor.Time Go.Proofs.YtmnjmhlodbifjaaGreatDoor.Time2 Go.Proofs.YtmnjmhlodbifjaaGreatDoor.DayM Go.Proofs.YtmnjmhlodbifjaaGreatDoor.Moment Go.Proofs.YtmnjmhlodbifjaaGreatDoor.Cal Go.Proofs.YtmnjmhlodbifjaaGreatDoor.Off Go.Proofs.YtmnjmhlodbifjaaGreatDoor.Search Go.Proofs.YtmnjmhlodbifjaaGreatDoor.NextP Go.Proofs.YtmnjmhlodbifjaaGreatDoor.NextA Go.Proofs.YtmnjmhlodbifjaaGreatDoor.NextB Go.Proofs.YtmnjmhlodbifjaaGreatDoor.NextC Go.Proofs.YtmnjmhlodbifjaaGreatDoor.RegS Go.Proofs.YtmnjmhlodbifjaaGreatDoor.Zone Go.Proofs.YtmnjmhlodbifjaaGreatDoor.Zone2 Go.Proofs.YtmnjmhlodbifjaaGreatDoor.DayFits Go.Proofs.YtmnjmhlodbifjaaGreatDoor.NextI Go.Proofs.YtmnjmhlodbifjaaGreatDoor.NextJ
set_option linter.unusedVariables false
def Delay (d : Int) : Prop := ∃ q : Int, d = 1000000000 * q ∧ 1 ≤ q ∧ q ≤ 4611686018
end Go.Proofs.YtmnjmhlodbifjaaGreatDoor.Delay
namespace Go.Proofs.YtmnjmhlodbifjaaGreatDoor.After
open Go Go.RowKit Go.Proofs.YtmnjmhlodbifjaaGreatDoor.Mem Go.Proofs.YtmnjmhlodbifjaaGreatDoor.Aid Go.Proofs.YtmnjmhlodbifjaaGreatDoor.Fields Go.Proofs.YtmnjmhlodbifjaaGreatDoor.Big Go.Proofs.YtmnjmhlodbifjaaGreatDoor.Meaning Go.Proofs.YtmnjmhlodbifjaaGreatDoor.SchedOf
set_option linter.unusedVariables false
theorem infoInst : (Tryz.prog.info? 34).map (·.size) = some 2 := by kernel_rfl
theorem inst_one (x y : Int) : (#[.int .i64 x, .int .i64 y] : Array Value).all (·.oneCell') = true := by simp [Value.oneCell']
end Go.Proofs.YtmnjmhlodbifjaaGreatDoor.After
namespace Go.Proofs.YtmnjmhlodbifjaaGreatDoor.Inst
open Go Go.RowKit Go.Proofs.YtmnjmhlodbifjaaGreatDoor.Cal Go.Proofs.YtmnjmhlodbifjaaGreatDoor.Off Go.Proofs.YtmnjmhlodbifjaaGreatDoor.TimeNum Go.Proofs.YtmnjmhlodbifjaaGreatDoor.Lookup Go.Proofs.YtmnjmhlodbifjaaGreatDoor.SpecCal Go.Proofs.YtmnjmhlodbifjaaGreatDoor.Zone Go.Proofs.YtmnjmhlodbifjaaGreatDoor.Zone2 Go.Proofs.YtmnjmhlodbifjaaGreatDoor.DayFits
set_option linter.unusedVariables false
theorem box3_after {w w1 : World} {E : TypeId} {a b c : Value} (hb : Below (w.alloc (.cells #[a, b, c] E)).heap.size (w.alloc (.cells #[a, b, c] E)) w1) :
    w1.cell? ⟨w.heap.size, 0, none⟩ = some a ∧ w1.cell? ⟨w.heap.size, 1, none⟩ = some b ∧ w1.cell? ⟨w.heap.size, 2, none⟩ = some c := by
  have hh : (w.alloc (.cells #[a, b, c] E)).heap[w.heap.size]? = some (.cells #[a, b, c] E) := heap_alloc_new w _
  have f : ∀ j, w1.cell? ⟨w.heap.size, j, none⟩ = (w.alloc (.cells #[a, b, c] E)).cell? ⟨w.heap.size, j, none⟩ := fun j => hb.cell (p := ⟨w.heap.size, j, none⟩) (by simp)
  refine ⟨(f 0).trans ?_, (f 1).trans ?_, (f 2).trans ?_⟩ <;> (unfold World.cell?; simp only [hh]; rfl)
theorem cum_bd (y m : Int) (h1 : 1 ≤ m) (h2 : m ≤ 13) : 0 ≤ cum y m ∧ cum y m ≤ 400 := by
  have := lp_01 y
  unfold cum
  split <;> omega
theorem cronDay_any (y m d : Int) (w : World) (y0 : -100000 ≤ y) (y1 : y ≤ 100000) (m0 : 1 ≤ m) (m1 : m ≤ 12) (d0 : -1000 ≤ d) (d1 : d ≤ 1000) :
    Calls Tryz.prog 40 #[.agg #[.int .i64 y, .int .i64 m, .int .i64 d]] w fun e w' => e = .returned (.int .i64 (dnum y m d)) ∧ Below w.heap.size w w' := by
  have HB := Lib.hid (box3_after (w := w) (E := 50) (a := .int .i64 y) (b := .int .i64 m) (c := .int .i64 d) (Below.refl _ _))
  have hc0 := HB.out.1
  have hc1 := HB.out.2.1
  have hc2 := HB.out.2.2
  have HY := Lib.hid (show -40000000 ≤ ys y ∧ ys y ≤ 40000000 by unfold ys; omega)
  have HC := Lib.hid (cum_bd y m m0 (by omega))
  have HD : Hid (dnum y m d = ys y + cum y m + d - 1) := Lib.hid rfl
  go_enter Tryz.func40, Tryz.ntmps40
  go_wp2_with (go_at_call 80; refine (yearStart_any _ _ (by omega) (by omega)).mono ?_; rintro e w' ⟨rfl, rfl⟩)
  go_loop [3, 4] (fun r k => ∃ a b : Int, r = .int .i64 a ∧ k = .int .i64 b ∧ 1 ≤ b ∧ b ≤ m ∧ Hid (a = ys y + cum y b)) (fun _ k => (13 - intOf k).toNat)
  case atStart => exact ⟨_, 1, rfl, rfl, by omega, by omega, Lib.hid (by rw [cum_one]; omega)⟩
  case round =>
    obtain ⟨a, k, rfl, rfl, k1, k2, HA⟩ := hrel
    have hy := HY.out
    have hck := cum_bd y k k1 (by omega)
    have ha : -50000000 ≤ a ∧ a ≤ 50000000 := by have := HA.out; omega
    have hml := mlen_bd y k
    by_cases hlt : k < m
    · have HN := Lib.hid (cum_succ y k k1 (by omega))
      go_wp2_with (go_at_call 19; refine (monthDays_any _ _ _ (by omega) (by omega) k1 (by omega)).mono ?_; rintro e w' ⟨rfl, rfl⟩)
      go_round
      case rel => exact ⟨_, k + 1, rfl, rfl, by omega, by omega, Lib.hid (by rw [HN.out, HA.out]; omega)⟩
      case measure => simp [intOf]; omega
    · obtain rfl : k = m := by omega
      go_wp2
      go_ret
      exact ⟨by rw [HD.out, ← HA.out]; rfl, (Below.refl _ _).alloc (Nat.le_refl _) _⟩
theorem cronInstant_any (y m d x : Int) (w : World) (y0 : -100000 ≤ y) (y1 : y ≤ 100000) (m0 : 1 ≤ m) (m1 : m ≤ 12) (d0 : -1000 ≤ d) (d1 : d ≤ 1000) (x0 : 0 ≤ x) (x1 : x ≤ 86400) :
    Calls Tryz.prog 18 #[.agg #[.int .i64 y, .int .i64 m, .int .i64 d], .int .i64 x] w fun e w' => e = .returned (.agg #[.int .i64 (86400 * dnum y m d + x), .int .i64 0]) ∧ Below w.heap.size w w' := by
  have HN : Hid (-50000000 ≤ dnum y m d ∧ dnum y m d ≤ 50000000) := Lib.hid (by
    have := cum_bd y m m0 (by omega)
    unfold dnum ys
    omega)
  have HC := Lib.hid (fun w1 => cronDay_any y m d w1 y0 y1 m0 m1 d0 d1)
  obtain ⟨W, hW⟩ : ∃ W, ((w.alloc (.cells #[.int .i64 y, .int .i64 m, .int .i64 d] 50)).alloc (.cells #[.int .i64 0, .int .i64 0] 34)) = W := ⟨_, rfl⟩
  have hx1 : Below (w.alloc (.cells #[.int .i64 y, .int .i64 m, .int .i64 d] 50)).heap.size (w.alloc (.cells #[.int .i64 y, .int .i64 m, .int .i64 d] 50)) W := by rw [← hW]; exact (Below.refl _ _).alloc (Nat.le_refl _) _
  have hbW : Below w.heap.size w W := by rw [← hW]; exact ((Below.refl _ _).alloc (Nat.le_refl _) _).alloc (by simp) _
  have hsW : W.heap.size = w.heap.size + 2 := by rw [← hW]; simp
  obtain ⟨z0, z1, z2⟩ := box3_after hx1
  have HFr : Hid (∀ V, Below W.heap.size W V → (∀ j, V.frozen? ⟨w.heap.size + 1, j, none⟩ = false) ∧ V.cell? ⟨w.heap.size + 1, 0, none⟩ = some (.int .i64 0) ∧ V.cell? ⟨w.heap.size + 1, 1, none⟩ = some (.int .i64 0)) := Lib.hid (fun V hV => by
    have hz : ∀ j v, (#[.int .i64 0, .int .i64 0] : Array Value)[j]? = some v → V.cell? ⟨w.heap.size + 1, j, none⟩ = some v := fun j v h => by
      have := cells_after (w := (w.alloc (.cells #[.int .i64 y, .int .i64 m, .int .i64 d] 50))) (w1 := V) (E := 34) (cs := #[.int .i64 0, .int .i64 0]) (by rw [hW]; exact hV) j v h
      rw [show (w.alloc (.cells #[.int .i64 y, .int .i64 m, .int .i64 d] 50)).heap.size = w.heap.size + 1 by simp] at this
      exact this
    refine ⟨fun j => ?_, hz 0 _ rfl, hz 1 _ rfl⟩
    have := free_after (w := (w.alloc (.cells #[.int .i64 y, .int .i64 m, .int .i64 d] 50))) (w1 := V) (E := 34) (cs := #[.int .i64 0, .int .i64 0]) (by rw [hW]; exact hV) j
    rw [show (w.alloc (.cells #[.int .i64 y, .int .i64 m, .int .i64 d] 50)).heap.size = w.heap.size + 1 by simp] at this
    exact this)
  have HBW := Lib.hid hbW
  have HSW := Lib.hid hsW
  clear hx1 hbW hsW
  go_enter Tryz.func18, Tryz.ntmps18
  go_wp2_with (go_at_call 40; refine (HC.out _).mono ?_; rintro e V ⟨rfl, hV⟩; (have f0 := (HFr.out V hV).1 0); (have f1 := (HFr.out V hV).1 1); (have g0 := (HFr.out V hV).2.1); (have g1 := (HFr.out V hV).2.2); (have hn := HN.out))
  refine bodyPost_ret (v := .agg #[.int .i64 (86400 * dnum y m d + x), .int .i64 0]) ?hres rfl ?_
  case hres => simp [results, Tryz.results18, go_sem, *]
  refine ⟨rfl, ?_⟩
  repeat (first | exact HBW.out.trans (hV.mono HBW.out.size) | refine Below.setCell ?_ (by show w.heap.size ≤ w.heap.size + 1; omega) _)
end Go.Proofs.YtmnjmhlodbifjaaGreatDoor.Inst
namespace Go.Proofs.YtmnjmhlodbifjaaGreatDoor.Case
open Go Go.RowKit Go.Proofs.YtmnjmhlodbifjaaGreatDoor.TimeNum Go.Proofs.YtmnjmhlodbifjaaGreatDoor.DayFits
set_option linter.unusedVariables false
def goodB (s n : Int) : Bool := decide (-62135596800 ≤ s) && decide (s ≤ 253402300799) && decide (0 ≤ n) && decide (n < 1000000000)
theorem goodB_facts {s n : Int} (h : goodB s n = true) : (-62135596800 ≤ s ∧ s ≤ 253402300799) ∧ 0 ≤ n ∧ n < 1000000000 := by
  unfold goodB at h
  simp only [Bool.and_eq_true, decide_eq_true_eq] at h
  omega
theorem good_b (s n : Int) (w : World) : Calls Tryz.prog 12 #[.agg #[.int .i64 s, .int .i64 n]] w fun e w' => e = .returned (.bool (goodB s n)) ∧ Below w.heap.size w w' := by
  unfold goodB
  by_cases h0 : s < -62135596800
  · go_enter Tryz.func12, Tryz.ntmps12
    go_wp2
    go_ret
    exact ⟨by simp <;> omega, (Below.refl _ _).alloc (Nat.le_refl _) _⟩
  by_cases h1 : 253402300799 < s
  · go_enter Tryz.func12, Tryz.ntmps12
    go_wp2
    go_ret
    exact ⟨by simp <;> omega, (Below.refl _ _).alloc (Nat.le_refl _) _⟩
  by_cases h2 : n < 0
  · go_enter Tryz.func12, Tryz.ntmps12
    go_wp2
    go_ret
    exact ⟨by simp <;> omega, (Below.refl _ _).alloc (Nat.le_refl _) _⟩
  by_cases h3 : 1000000000 ≤ n
  · go_enter Tryz.func12, Tryz.ntmps12
    go_wp2
    go_ret
    exact ⟨by simp <;> omega, (Below.refl _ _).alloc (Nat.le_refl _) _⟩
  go_enter Tryz.func12, Tryz.ntmps12
  go_wp2
  go_ret
  exact ⟨by simp <;> omega, (Below.refl _ _).alloc (Nat.le_refl _) _⟩
theorem allocd {W X : World} (h : Below W.heap.size W X) (o : Obj) : Below W.heap.size W (X.alloc o) := h.alloc h.size o
theorem chain {V X Y : World} (h : Below V.heap.size V X) (hb : Below X.heap.size X Y) : Below V.heap.size V Y := h.trans (hb.mono h.size)
def Pt (X : World) (p : Nat) (x y : Int) : Prop := p < X.heap.size ∧ X.cell? ⟨p, 0, none⟩ = some (.int .i64 x) ∧ X.cell? ⟨p, 1, none⟩ = some (.int .i64 y)
theorem Pt.below {X Y : World} {p : Nat} {x y : Int} (h : Pt X p x y) (hb : Below X.heap.size X Y) : Pt Y p x y :=
  ⟨Nat.lt_of_lt_of_le h.1 hb.size, (hb.cell (p := ⟨p, 0, none⟩) h.1).trans h.2.1, (hb.cell (p := ⟨p, 1, none⟩) h.1).trans h.2.2⟩
end Go.Proofs.YtmnjmhlodbifjaaGreatDoor.Case
namespace Go.Proofs.YtmnjmhlodbifjaaGreatDoor.Ask
open Go Go.RowKit Go.Proofs.YtmnjmhlodbifjaaGreatDoor.TimeNum Go.Proofs.YtmnjmhlodbifjaaGreatDoor.Cal Go.Proofs.YtmnjmhlodbifjaaGreatDoor.Off Go.Proofs.YtmnjmhlodbifjaaGreatDoor.Search Go.Proofs.YtmnjmhlodbifjaaGreatDoor.NextI Go.Proofs.YtmnjmhlodbifjaaGreatDoor.NextJ Go.Proofs.YtmnjmhlodbifjaaGreatDoor.SpecNext
set_option linter.unusedVariables false
theorem year_far (n : Int) : yOf n + 6 ≤ yOf (n + 2196) := by
  have h1 := year_in n
  have h2 := year_in (n + 2196)
  by_cases c : yOf n + 6 ≤ yOf (n + 2196)
  · exact c
  · exfalso
    have h3 : ys (yOf (n + 2196) + 1) ≤ ys (yOf n + 6) := by
      by_cases e : yOf (n + 2196) + 1 = yOf n + 6
      · rw [e]; exact Int.le_refl _
      · have := ys_mono (yOf (n + 2196) + 1) (yOf n + 6) (by omega)
        have := lp_01 (yOf (n + 2196) + 1)
        omega
    have h4 : ys (yOf n + 6) ≤ ys (yOf n) + 2196 := by unfold ys; omega
    omega
open Classical in
theorem least (P : Int → Prop) (a : Int) (h : ∃ y, a ≤ y ∧ P y) : ∃ y, a ≤ y ∧ P y ∧ ∀ z, a ≤ z → z < y → ¬ P z := by
  obtain ⟨y, h1, h2⟩ := h
  have key : ∀ n : Nat, P (a + n) → ∃ y, a ≤ y ∧ P y ∧ ∀ z, a ≤ z → z < y → ¬ P z := by
    intro n
    induction n using Nat.strongRecOn with
    | _ n ih =>
      intro hp
      by_cases c : ∃ m : Nat, m < n ∧ P (a + m)
      · obtain ⟨m, hm, hp2⟩ := c
        exact ih m hm hp2
      · exact ⟨a + n, by omega, hp, fun z z1 z2 hz => c ⟨(z - a).toNat, by omega, by rw [show a + ((z - a).toNat : Int) = z by omega]; exact hz⟩⟩
  exact key (y - a).toNat (by rw [show a + ((y - a).toNat : Int) = y by omega]; exact h2)
section
variable {off : Int → Int} {S : Sched}
theorem isNext_ex (hP : ∀ A B, -100000000000 ≤ A → Plain off A B) (first Y5 : Int) (hf0 : -100000000000 ≤ first) : ∃ o, IsNext off S first Y5 o := by
  by_cases c : ∃ y, first ≤ y ∧ (Fit off S y ∧ yr off y ≤ Y5)
  · obtain ⟨y, h1, ⟨h2, h3⟩, h4⟩ := least _ _ c
    refine ⟨some y, h1, h2, h3, fun z z1 z2 hz => h4 z z1 z2 ⟨hz, ?_⟩⟩
    have := year_mono (day_mono (hP z y (by omega)) (Int.le_refl z) (by omega) (Int.le_refl _))
    unfold yr at *
    omega
  · exact ⟨none, fun y y1 y2 y3 => c ⟨y, y1, y3, y2⟩⟩
theorem asked {s : Int} {o : Option Int} (hP : ∀ A B, -100000000000 ≤ A → Plain off A B) (s0 : -62135596800 ≤ s) (s1 : s ≤ 253402300799) (hm : off (s + 1) % 60 = 0)
    (h : IsNext off S (s + 1) (yOf (day off (s + 1)) + 5) o) : Asked off S s (yOf (day off (s + 1)) + 5) o := by
  have hb : ∀ y, -86400 ≤ off y ∧ off y ≤ 86400 := (hP 0 0 (by omega)).bd
  refine ⟨h, s0, by omega, rfl, hm, ?_⟩
  cases o with
  | none =>
    refine ⟨s + 1 - 3456000, s + 1 + 190080000 + 172800, s + 1 + 190080000, hP _ _ (by omega), by omega, by omega, by omega, by omega, ?_⟩
    show yOf (day off (s + 1)) + 5 < yr off (s + 1 + 190080000)
    have h1 := year_far (day off (s + 1))
    have h2 : day off (s + 1) + 2196 ≤ day off (s + 1 + 190080000) := by
      have := hb (s + 1)
      have := hb (s + 1 + 190080000)
      unfold day lo
      omega
    have := year_mono h2
    unfold yr
    omega
  | some x =>
    obtain ⟨h1, h2, h3, h4⟩ := h
    have h5 := year_lt h3
    have hx := hb x
    have hs := hb (s + 1)
    have hy : yOf (day off (s + 1)) ≤ 10001 := by
      have h6 := year_in (day off (s + 1))
      have h7 : day off (s + 1) ≤ 2932900 := by unfold day lo; omega
      unfold ys at h6
      omega
    have h8 : ys (yOf (day off (s + 1)) + 5 + 1) ≤ 2936000 := by unfold ys; omega
    refine ⟨s + 1 - 3456000, x + 172800, x, hP _ _ (by omega), by omega, by omega, h1, ?_, rfl⟩
    unfold day lo at h5
    unfold day lo at h8
    omega
end
end Go.Proofs.YtmnjmhlodbifjaaGreatDoor.Ask
namespace Go.Proofs.YtmnjmhlodbifjaaGreatDoor.Stars
open Go Go.RowKit Go.Proofs.YtmnjmhlodbifjaaGreatDoor.Cal Go.Proofs.YtmnjmhlodbifjaaGreatDoor.Off Go.Proofs.YtmnjmhlodbifjaaGreatDoor.TimeNum Go.Proofs.YtmnjmhlodbifjaaGreatDoor.Zone Go.Proofs.YtmnjmhlodbifjaaGreatDoor.Zone2
set_option linter.unusedVariables false
def utc : Raw := ⟨none, none, none, none, 0, 0, 0, 0, fun _ => 0, fun _ => false, fun _ => 0, fun _ => 0⟩
theorem utc_at (w : World) : utc.At w := by
  constructor <;> first | (intro k hk; exact absurd hk (Nat.not_lt_zero k)) | (show (0 : Nat) ≤ 2147483647; omega)
theorem utc_ok : utc.Ok := .inl ⟨rfl, rfl, rfl, rfl⟩
theorem utc_off : Raw.off utc = fun _ => 0 := off_utc rfl
theorem cronUTC_any (w : World) :
    Calls Tryz.prog 16 #[] w fun e w' => e = .returned (.agg #[.slice none 0 0, .slice none 0 0, .slice none 0 0, .slice none 0 0]) ∧ Below w.heap.size w w' := by
  go_enter Tryz.func16, Tryz.ntmps16
  go_wp2
  refine bodyPost_ret (v := .agg #[.slice none 0 0, .slice none 0 0, .slice none 0 0, .slice none 0 0]) ?hres rfl ?_
  case hres => simp [results, Tryz.results16, go_sem, *]
  exact ⟨rfl, (Below.refl _ _).alloc (Nat.le_refl _) _⟩
end Go.Proofs.YtmnjmhlodbifjaaGreatDoor.Stars
namespace Go.Proofs.YtmnjmhlodbifjaaGreatDoor.Case
open Go Go.RowKit Go.Proofs.YtmnjmhlodbifjaaGreatDoor.Off Go.Proofs.YtmnjmhlodbifjaaGreatDoor.TimeNum Go.Proofs.YtmnjmhlodbifjaaGreatDoor.Zone Go.Proofs.YtmnjmhlodbifjaaGreatDoor.Zone2 Go.Proofs.YtmnjmhlodbifjaaGreatDoor.Stars
set_option linter.unusedVariables false
theorem utc_plain (A B : Int) : Plain (Raw.off utc) A B := by
  rw [utc_off]
  exact ⟨fun s => by omega, fun s _ _ => rfl, fun v w _ _ _ h _ => absurd rfl h, fun w _ _ h => absurd rfl h⟩
theorem utc_calm : SpecNext.Calm utc := ⟨fun A B _ => utc_plain A B, fun i hi => by have : i < 0 := hi; omega⟩
end Go.Proofs.YtmnjmhlodbifjaaGreatDoor.Case
