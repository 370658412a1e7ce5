/- The laws' cases of schedules, and what the reference finds for none. Conditions: none for the cases; a plain zone for the rest. -/
import Derived.Test.YtoekefbclkmchaaAsk
import Derived.Test.YtoekefbclkmchaaStars
namespace Go.Proofs.Ytoekefbclkmchaa.Case
open Go Go.RowKit Go.Proofs.Ytoekefbclkmchaa.Fields Go.Proofs.Ytoekefbclkmchaa.TimeNum Go.Proofs.Ytoekefbclkmchaa.Cal Go.Proofs.Ytoekefbclkmchaa.Off Go.Proofs.Ytoekefbclkmchaa.Search Go.Proofs.Ytoekefbclkmchaa.Zone Go.Proofs.Ytoekefbclkmchaa.Zone2 Go.Proofs.Ytoekefbclkmchaa.DayFits Go.Proofs.Ytoekefbclkmchaa.FieldsOf Go.Proofs.Ytoekefbclkmchaa.NextC Go.Proofs.Ytoekefbclkmchaa.NextI Go.Proofs.Ytoekefbclkmchaa.NextJ Go.Proofs.Ytoekefbclkmchaa.SpecNext Go.Proofs.Ytoekefbclkmchaa.Ask Go.Proofs.Ytoekefbclkmchaa.Stars
set_option linter.unusedVariables false

def GoodT (s n : Int) (w : World) (e : Ending) (w' : World) : Prop := ∃ g : Bool, e = .returned (.bool g) ∧ (g = true → (-62135596800 ≤ s ∧ s ≤ 253402300799) ∧ 0 ≤ n ∧ n < 1000000000) ∧ Below w.heap.size w w'
theorem good_any (s n : Int) (w : World) : Calls Try.prog 11 #[.agg #[.int .i64 s, .int .i64 n]] w (GoodT s n w) := by
  by_cases h0 : s < -62135596800
  · go_enter Try.func11, Try.ntmps11
    go_wp2
    go_ret
    exact ⟨false, by simp, (fun h => by cases h), (Below.refl _ _).alloc (Nat.le_refl _) _⟩
  by_cases h1 : 253402300799 < s
  · go_enter Try.func11, Try.ntmps11
    go_wp2
    go_ret
    exact ⟨false, by simp, (fun h => by cases h), (Below.refl _ _).alloc (Nat.le_refl _) _⟩
  by_cases h2 : n < 0
  · go_enter Try.func11, Try.ntmps11
    go_wp2
    go_ret
    exact ⟨false, by simp, (fun h => by cases h), (Below.refl _ _).alloc (Nat.le_refl _) _⟩
  by_cases h3 : 1000000000 ≤ n
  · go_enter Try.func11, Try.ntmps11
    go_wp2
    go_ret
    exact ⟨false, by simp <;> omega, (fun h => by cases h), (Below.refl _ _).alloc (Nat.le_refl _) _⟩
  go_enter Try.func11, Try.ntmps11
  go_wp2
  go_ret
  exact ⟨true, by simp <;> omega, (fun _ => by omega), (Below.refl _ _).alloc (Nat.le_refl _) _⟩


def CaseT (ev : Bool) (s n : Int) (w : World) (e : Ending) (w' : World) : Prop := ∃ g : Bool, e = .returned (.bool g) ∧ (g = true → ev = false ∧ (-62135596800 ≤ s ∧ s ≤ 253402300799) ∧ 0 ≤ n ∧ n < 1000000000) ∧ Below w.heap.size w w'
theorem case_any (ev : Bool) (d se mi hr dom mon dow s nano : Int) (w : World) : Calls Try.prog 21 #[.agg #[.bool ev, .int .i64 d, .int .u64 se, .int .u64 mi, .int .u64 hr, .int .u64 dom, .int .u64 mon, .int .u64 dow], .agg #[.int .i64 s, .int .i64 nano]] w (CaseT ev s nano w) := by
  have hb : Below w.heap.size w ((w.alloc (.cells #[.bool ev, .int .i64 d, .int .u64 se, .int .u64 mi, .int .u64 hr, .int .u64 dom, .int .u64 mon, .int .u64 dow] 51)).alloc (.cells #[.int .i64 s, .int .i64 nano] 24)) := ((Below.refl _ _).alloc (Nat.le_refl _) _).alloc (by simp) _
  have HB := Lib.hid hb
  have HG := Lib.hid (fun w1 => good_any s nano w1)
  clear hb
  cases ev
  · go_enter Try.func21, Try.ntmps21
    go_wp2_with (go_at_call 11; refine (HG.out _).mono ?_; rintro x X1 ⟨g, rfl, hg, hb1⟩)
    go_ret
    exact ⟨g, rfl, fun h => ⟨rfl, (hg h)⟩, HB.out.trans (hb1.mono HB.out.size)⟩
  · go_enter Try.func21, Try.ntmps21
    go_wp2_with fail
    go_ret
    exact ⟨false, rfl, fun h => (by cases h), HB.out⟩

theorem allocd {W X : World} (h : Below W.heap.size W X) (o : Obj) : Below W.heap.size W (X.alloc o) := h.alloc h.size o
theorem chain {V X Y : World} (h : Below V.heap.size V X) (hb : Below X.heap.size X Y) : Below V.heap.size V Y := h.trans (hb.mono h.size)
/-- Two cells made within the region, and held to. -/
def Two (X : World) (p : Nat) : Prop := p < X.heap.size ∧ (∃ u v, X.cell? ⟨p, 0, none⟩ = some u ∧ X.cell? ⟨p, 1, none⟩ = some v) ∧ X.frozen? ⟨p, 0, none⟩ = false ∧ X.frozen? ⟨p, 1, none⟩ = false
theorem fresh2 {X Y : World} {a b : Value} {E : TypeId} (h : Below (X.alloc (.cells #[a, b] E)).heap.size (X.alloc (.cells #[a, b] E)) Y) : X.heap.size < Y.heap.size ∧ (Y.cell? ⟨X.heap.size, 0, none⟩ = some a ∧ Y.cell? ⟨X.heap.size, 1, none⟩ = some b) ∧ Y.frozen? ⟨X.heap.size, 0, none⟩ = false ∧ Y.frozen? ⟨X.heap.size, 1, none⟩ = false :=
  ⟨Nat.lt_of_lt_of_le (by simp) h.size, ⟨cells_after h 0 _ rfl, cells_after h 1 _ rfl⟩, free_after h 0, free_after h 1⟩
theorem fresh2d {X Y : World} {a b : Value} {E : TypeId} (h : Below (X.drew.alloc (.cells #[a, b] E)).heap.size (X.drew.alloc (.cells #[a, b] E)) Y) : X.heap.size < Y.heap.size ∧ (Y.cell? ⟨X.heap.size, 0, none⟩ = some a ∧ Y.cell? ⟨X.heap.size, 1, none⟩ = some b) ∧ Y.frozen? ⟨X.heap.size, 0, none⟩ = false ∧ Y.frozen? ⟨X.heap.size, 1, none⟩ = false := fresh2 (X := X.drew) h
theorem putd {V X : World} {p : Nat} (h : Below V.heap.size V X) (hp : V.heap.size ≤ p) (x y : Value) : Below V.heap.size V ((X.setCell ⟨p, 0, none⟩ x).setCell ⟨p, 1, none⟩ y) := (h.setCell (p := ⟨p, 0, none⟩) hp _).setCell (p := ⟨p, 1, none⟩) hp _
theorem keep2 {X Y : World} {a b : Value} {p : Nat} (h : Below X.heap.size X Y) (k : p < X.heap.size ∧ (X.cell? ⟨p, 0, none⟩ = some a ∧ X.cell? ⟨p, 1, none⟩ = some b) ∧ X.frozen? ⟨p, 0, none⟩ = false ∧ X.frozen? ⟨p, 1, none⟩ = false) :
    p < Y.heap.size ∧ (Y.cell? ⟨p, 0, none⟩ = some a ∧ Y.cell? ⟨p, 1, none⟩ = some b) ∧ Y.frozen? ⟨p, 0, none⟩ = false ∧ Y.frozen? ⟨p, 1, none⟩ = false :=
  ⟨Nat.lt_of_lt_of_le k.1 h.size, ⟨(h.cell (p := ⟨p, 0, none⟩) k.1).trans k.2.1.1, (h.cell (p := ⟨p, 1, none⟩) k.1).trans k.2.1.2⟩, (h.frozen (p := ⟨p, 0, none⟩) k.1).trans k.2.2.1, (h.frozen (p := ⟨p, 1, none⟩) k.1).trans k.2.2.2⟩

set_option maxHeartbeats 4000000 in
set_option maxRecDepth 100000 in
theorem none_any (r : Raw) (co cd cw ci : Nat) (ev : Bool) (d se mi hr dom mon dow s nano : Int) (o : Option Int) (w : World) (h : r.At w) (hok : r.Ok) (hcalm : SpecNext.Calm r) (hu : U6 se mi hr dom mon dow) (s0 : -62135596800 ≤ s) (s1 : s ≤ 253402300799)
    (hn : IsNext (Raw.off r) (sched se mi hr dom mon dow) (s + 1) (yOf (day (Raw.off r) (s + 1)) + 5) o) :
    Calls Try.prog 24 #[.agg #[.bool ev, .int .i64 d, .int .u64 se, .int .u64 mi, .int .u64 hr, .int .u64 dom, .int .u64 mon, .int .u64 dow], .agg #[.int .i64 s, .int .i64 nano], .agg #[.slice r.ao r.no co, .slice r.ad r.nd cd, .slice r.aw r.nw cw, .slice r.ai r.ni ci]] w fun e w' => e = .returned (.bool (!o.isSome)) ∧ Below w.heap.size w w' := by
  obtain ⟨V, hV⟩ : ∃ V, (((w.alloc (.cells #[.bool ev, .int .i64 d, .int .u64 se, .int .u64 mi, .int .u64 hr, .int .u64 dom, .int .u64 mon, .int .u64 dow] 51)).alloc (.cells #[.int .i64 s, .int .i64 nano] 24)).alloc (.cells #[.slice r.ao r.no co, .slice r.ad r.nd cd, .slice r.aw r.nw cw, .slice r.ai r.ni ci] 29)) = V := ⟨_, rfl⟩
  have hbV : Below w.heap.size w V := by rw [← hV]; exact (((Below.refl _ _).alloc (Nat.le_refl _) _).alloc (by simp) _).alloc (by simp; omega) _
  have HKS : Hid (∀ X, Below V.heap.size V X → X.cell? ⟨w.heap.size, 0, none⟩ = some (.bool ev) ∧ X.cell? ⟨w.heap.size, 1, none⟩ = some (.int .i64 d) ∧ X.cell? ⟨w.heap.size, 2, none⟩ = some (.int .u64 se) ∧ X.cell? ⟨w.heap.size, 3, none⟩ = some (.int .u64 mi) ∧ X.cell? ⟨w.heap.size, 4, none⟩ = some (.int .u64 hr) ∧ X.cell? ⟨w.heap.size, 5, none⟩ = some (.int .u64 dom) ∧ X.cell? ⟨w.heap.size, 6, none⟩ = some (.int .u64 mon) ∧ X.cell? ⟨w.heap.size, 7, none⟩ = some (.int .u64 dow) ∧ X.cell? ⟨w.heap.size + 1, 0, none⟩ = some (.int .i64 s) ∧ X.cell? ⟨w.heap.size + 1, 1, none⟩ = some (.int .i64 nano) ∧ X.cell? ⟨w.heap.size + 1 + 1, 0, none⟩ = some (.slice r.ao r.no co) ∧ X.cell? ⟨w.heap.size + 1 + 1, 1, none⟩ = some (.slice r.ad r.nd cd) ∧ X.cell? ⟨w.heap.size + 1 + 1, 2, none⟩ = some (.slice r.aw r.nw cw) ∧ X.cell? ⟨w.heap.size + 1 + 1, 3, none⟩ = some (.slice r.ai r.ni ci)) := Lib.hid (fun X hX => by
    have e1 : (w.alloc (.cells #[.bool ev, .int .i64 d, .int .u64 se, .int .u64 mi, .int .u64 hr, .int .u64 dom, .int .u64 mon, .int .u64 dow] 51)).heap.size = w.heap.size + 1 := by simp
    have e2 : ((w.alloc (.cells #[.bool ev, .int .i64 d, .int .u64 se, .int .u64 mi, .int .u64 hr, .int .u64 dom, .int .u64 mon, .int .u64 dow] 51)).alloc (.cells #[.int .i64 s, .int .i64 nano] 24)).heap.size = w.heap.size + 1 + 1 := by simp
    have h3 : Below (((w.alloc (.cells #[.bool ev, .int .i64 d, .int .u64 se, .int .u64 mi, .int .u64 hr, .int .u64 dom, .int .u64 mon, .int .u64 dow] 51)).alloc (.cells #[.int .i64 s, .int .i64 nano] 24)).alloc (.cells #[.slice r.ao r.no co, .slice r.ad r.nd cd, .slice r.aw r.nw cw, .slice r.ai r.ni ci] 29)).heap.size (((w.alloc (.cells #[.bool ev, .int .i64 d, .int .u64 se, .int .u64 mi, .int .u64 hr, .int .u64 dom, .int .u64 mon, .int .u64 dow] 51)).alloc (.cells #[.int .i64 s, .int .i64 nano] 24)).alloc (.cells #[.slice r.ao r.no co, .slice r.ad r.nd cd, .slice r.aw r.nw cw, .slice r.ai r.ni ci] 29)) X := by rw [hV]; exact hX
    have h2 : Below ((w.alloc (.cells #[.bool ev, .int .i64 d, .int .u64 se, .int .u64 mi, .int .u64 hr, .int .u64 dom, .int .u64 mon, .int .u64 dow] 51)).alloc (.cells #[.int .i64 s, .int .i64 nano] 24)).heap.size ((w.alloc (.cells #[.bool ev, .int .i64 d, .int .u64 se, .int .u64 mi, .int .u64 hr, .int .u64 dom, .int .u64 mon, .int .u64 dow] 51)).alloc (.cells #[.int .i64 s, .int .i64 nano] 24)) X := ((Below.refl _ _).alloc (Nat.le_refl _) _).trans (h3.mono (by simp))
    have h1 : Below (w.alloc (.cells #[.bool ev, .int .i64 d, .int .u64 se, .int .u64 mi, .int .u64 hr, .int .u64 dom, .int .u64 mon, .int .u64 dow] 51)).heap.size (w.alloc (.cells #[.bool ev, .int .i64 d, .int .u64 se, .int .u64 mi, .int .u64 hr, .int .u64 dom, .int .u64 mon, .int .u64 dow] 51)) X := ((Below.refl _ _).alloc (Nat.le_refl _) _).trans (h2.mono (by simp))
    have b0 := cells_after h2 0 _ rfl
    have b1 := cells_after h2 1 _ rfl
    have c0 := cells_after h3 0 _ rfl
    have c1 := cells_after h3 1 _ rfl
    have c2 := cells_after h3 2 _ rfl
    have c3 := cells_after h3 3 _ rfl
    rw [e1] at b0 b1
    rw [e2] at c0 c1 c2 c3
    exact ⟨cells_after h1 0 _ rfl, cells_after h1 1 _ rfl, cells_after h1 2 _ rfl, cells_after h1 3 _ rfl, cells_after h1 4 _ rfl, cells_after h1 5 _ rfl, cells_after h1 6 _ rfl, cells_after h1 7 _ rfl, b0, b1, c0, c1, c2, c3⟩)
  have HB := Lib.hid hbV
  have HF := Lib.hid (fun w1 => fieldsOf_any ev d se mi hr dom mon dow w1 hu)
  have HN : Hid (∀ w1, Below w.heap.size w w1 → Calls Try.prog 30 #[.agg (fldArr (stS (six se mi hr dom mon dow)) (fS (six se mi hr dom mon dow))), .agg #[.int .i64 s, .int .i64 nano], .agg #[.slice r.ao r.no co, .slice r.ad r.nd cd, .slice r.aw r.nw cw, .slice r.ai r.ni ci]] w1 fun e w' => e = .returned (ansV o) ∧ Below w1.heap.size w1 w') := Lib.hid (fun w1 hb => by
    refine (SpecNext.next_any r co cd cw ci _ _ (sched se mi hr dom mon dow) s nano _ w1 (h.below hb) hok hcalm (fun y => lfit_fit se mi hr dom mon dow _ y) s0 (by omega) rfl).mono ?_
    rintro e w' ⟨⟨o2, h2, rfl⟩, hb2⟩
    exact ⟨by rw [h2.uniq hn], hb2⟩)
  obtain ⟨x0, hop⟩ : ∃ x0, ansV o = .tuple #[.agg #[.int .i64 x0, .int .i64 0], .bool o.isSome] := by
    cases o with
    | none => exact ⟨0, rfl⟩
    | some x => exact ⟨x, rfl⟩
  rw [hop] at HN
  generalize o.isSome = q at *
  clear h hok hcalm hu hn hop hbV
  go_enter Try.func24, Try.ntmps24
  go_wp2_with fail
  clear hV
  go_region_held3 (fun X => X.cell? ⟨w.heap.size, 0, none⟩ = some (.bool ev) ∧ X.cell? ⟨w.heap.size, 1, none⟩ = some (.int .i64 d) ∧ X.cell? ⟨w.heap.size, 2, none⟩ = some (.int .u64 se) ∧ X.cell? ⟨w.heap.size, 3, none⟩ = some (.int .u64 mi) ∧ X.cell? ⟨w.heap.size, 4, none⟩ = some (.int .u64 hr) ∧ X.cell? ⟨w.heap.size, 5, none⟩ = some (.int .u64 dom) ∧ X.cell? ⟨w.heap.size, 6, none⟩ = some (.int .u64 mon) ∧ X.cell? ⟨w.heap.size, 7, none⟩ = some (.int .u64 dow) ∧ X.cell? ⟨w.heap.size + 1, 0, none⟩ = some (.int .i64 s) ∧ X.cell? ⟨w.heap.size + 1, 1, none⟩ = some (.int .i64 nano) ∧ X.cell? ⟨w.heap.size + 1 + 1, 0, none⟩ = some (.slice r.ao r.no co) ∧ X.cell? ⟨w.heap.size + 1 + 1, 1, none⟩ = some (.slice r.ad r.nd cd) ∧ X.cell? ⟨w.heap.size + 1 + 1, 2, none⟩ = some (.slice r.aw r.nw cw) ∧ X.cell? ⟨w.heap.size + 1 + 1, 3, none⟩ = some (.slice r.ai r.ni ci)) (exact HKS.out _ (by repeat (first | exact Below.refl _ _ | assumption | refine Below.drew ?_ | refine allocd ?_ _ | refine putd ?_ (by first | exact Nat.le_refl _ | exact Below.size (by assumption)) _ _)))
    ((first
      | (go_at_call 31; (with_reducible refine (HF.out _).mono ?_); rintro x w1 ⟨rfl, hb⟩; (have hb1 := chain (V := V) (by repeat (first | exact Below.refl _ _ | assumption | refine Below.drew ?_ | refine allocd ?_ _)) hb); (first | (have hfr := fresh2d hb; obtain ⟨q0, ⟨d0, d1⟩, g0, g1⟩ := hfr) | (have hfr := fresh2 hb; obtain ⟨q0, ⟨d0, d1⟩, g0, g1⟩ := hfr) | skip))
      | (go_at_call 30; (with_reducible refine (HN.out _ (HB.out.trans (Below.mono (by repeat (first | exact Below.refl _ _ | assumption | refine Below.drew ?_ | refine allocd ?_ _)) HB.out.size))).mono ?_); rintro x w2 ⟨rfl, hb⟩; (have hb2 := chain (V := V) (by repeat (first | exact Below.refl _ _ | assumption | refine Below.drew ?_ | refine allocd ?_ _)) hb); (first | (have hfr := fresh2d hb; obtain ⟨q0, ⟨d0, d1⟩, g0, g1⟩ := hfr) | (have hfr := fresh2 hb; obtain ⟨q0, ⟨d0, d1⟩, g0, g1⟩ := hfr) | (have hfr := keep2 hb ⟨q0, ⟨d0, d1⟩, g0, g1⟩; obtain ⟨q0, ⟨d0, d1⟩, g0, g1⟩ := hfr) | skip))))
  all_goals
    go_wp2_with fail
    go_ret
    refine ⟨rfl, HB.out.trans (Below.mono (B := V.heap.size) ?_ HB.out.size)⟩
    repeat (first | exact Below.refl _ _ | assumption | refine Below.drew ?_ | refine allocd ?_ _ | refine putd ?_ (by first | exact Nat.le_refl _ | exact Below.size (by assumption)) _ _)

/-- An instant's two cells. -/
def Pt (X : World) (p : Nat) (x y : Int) : Prop := p < X.heap.size ∧ X.cell? ⟨p, 0, none⟩ = some (.int .i64 x) ∧ X.cell? ⟨p, 1, none⟩ = some (.int .i64 y)
theorem Pt.below {X Y : World} {p : Nat} {x y : Int} (h : Pt X p x y) (hb : Below X.heap.size X Y) : Pt Y p x y :=
  ⟨Nat.lt_of_lt_of_le h.1 hb.size, (hb.cell (p := ⟨p, 0, none⟩) h.1).trans h.2.1, (hb.cell (p := ⟨p, 1, none⟩) h.1).trans h.2.2⟩
theorem pt_new (X : World) (E : TypeId) (x y : Int) : Pt (X.alloc (.cells #[.int .i64 x, .int .i64 y] E)) X.heap.size x y := by
  obtain ⟨h1, ⟨h2, h3⟩, -⟩ := fresh2 (X := X) (E := E) (a := .int .i64 x) (b := .int .i64 y) (Below.refl _ _)
  exact ⟨h1, h2, h3⟩
theorem pt_set {X : World} {p : Nat} {x y : Int} {u v : Value} (h : p < X.heap.size) (h0 : X.cell? ⟨p, 0, none⟩ = some u) (h1 : X.cell? ⟨p, 1, none⟩ = some v) : Pt ((X.setCell ⟨p, 0, none⟩ (.int .i64 x)).setCell ⟨p, 1, none⟩ (.int .i64 y)) p x y := by
  refine ⟨by simpa using h, ?_, ?_⟩ <;> simp [go_sem, h0, h1]

/-- An instant on a whole second. -/
theorem whole_any (s : Int) (w : World) : Calls Try.prog 23 #[.int .i64 s] w fun e w' => e = .returned (.agg #[.int .i64 s, .int .i64 0]) ∧ Below w.heap.size w w' := by
  have hb : Below w.heap.size w (w.alloc (.cells #[.int .i64 0, .int .i64 0] 24)) := (Below.refl _ _).alloc (Nat.le_refl _) _
  go_enter Try.func23, Try.ntmps23
  go_wp2
  refine bodyPost_ret (v := .agg #[.int .i64 s, .int .i64 0]) (by simp [results, Try.results23, go_sem, *]) rfl ⟨rfl, ?_⟩
  first
    | exact hb
    | exact (Below.refl _ _).alloc (Nat.le_refl _) _
    | exact (hb.setCell (p := ⟨w.heap.size, 0, none⟩) (Nat.le_refl _) _).setCell (p := ⟨w.heap.size, 1, none⟩) (Nat.le_refl _) _

/-! ### UTC -/
theorem utc_plain (A B : Int) : Plain (Raw.off utc) A B := by
  rw [utc_off]
  exact ⟨fun s => by omega, fun s _ _ => rfl, fun v w _ _ _ h _ => absurd rfl h, fun w _ _ h => absurd rfl h⟩
theorem utc_calm : SpecNext.Calm utc := ⟨fun A B _ => utc_plain A B, fun i hi => by have : i < 0 := hi; omega⟩

end Go.Proofs.Ytoekefbclkmchaa.Case
