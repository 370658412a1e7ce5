/- The thin package's Next. Conditions: a plain zone in the window; instants from year 1 on; offsets of whole minutes. -/
import Derived.Test.YtoekefbclkmchaaNextI
namespace Go.Proofs.Ytoekefbclkmchaa.NextJ
open Go Go.RowKit Go.Proofs.Ytoekefbclkmchaa.TimeNum Go.Proofs.Ytoekefbclkmchaa.Lookup Go.Proofs.Ytoekefbclkmchaa.Time Go.Proofs.Ytoekefbclkmchaa.Time2 Go.Proofs.Ytoekefbclkmchaa.DayM Go.Proofs.Ytoekefbclkmchaa.Moment Go.Proofs.Ytoekefbclkmchaa.Cal Go.Proofs.Ytoekefbclkmchaa.Off Go.Proofs.Ytoekefbclkmchaa.Search Go.Proofs.Ytoekefbclkmchaa.NextP Go.Proofs.Ytoekefbclkmchaa.NextA Go.Proofs.Ytoekefbclkmchaa.NextB Go.Proofs.Ytoekefbclkmchaa.NextC Go.Proofs.Ytoekefbclkmchaa.Zone Go.Proofs.Ytoekefbclkmchaa.Zone2 Go.Proofs.Ytoekefbclkmchaa.DayFits Go.Proofs.Ytoekefbclkmchaa.NextI
set_option linter.unusedVariables false

/-- Six sets of 64 bits. -/
def U6 (se mi hr dom mon dow : Int) : Prop := U64 se ∧ U64 mi ∧ U64 hr ∧ U64 dom ∧ U64 mon ∧ U64 dow
/-- What is asked of the clocks, the instant and the answer. -/
structure Asked (off : Int → Int) (S : Sched) (s : Int) (Y5 : Int) (o : Option Int) : Prop where
  ans : IsNext off S (s + 1) Y5 o
  low : -62135596800 ≤ s
  top : s ≤ 300000000000
  year : yOf (day off (s + 1)) + 5 = Y5
  min : off (s + 1) % 60 = 0
  win : ∃ A B hi, Plain off A B ∧ A + 3456000 ≤ s + 1 ∧ hi + 172800 ≤ B ∧ s + 1 ≤ hi ∧ hi ≤ 269000000000 ∧ EndOf off Y5 hi o

/-- The time that the program's own Next answers with. -/
theorem time_any (sb : Nat) (se mi hr dom mon dow nano s : Int) (loc : Option Addr) (off : Int → Int) (Y5 : Int) (o : Option Int) (w : World)
    (hs : SpecAt w sb se mi hr dom mon dow) (hu : U6 se mi hr dom mon dow) (n0 : 0 ≤ nano) (n1 : nano < 1000000000) (hc : Clock w loc off) (ha : Asked off (sched se mi hr dom mon dow) s Y5 o) :
    Calls Try.prog 131 #[.pointer (some ⟨sb, 0, none⟩), .agg #[.int .u64 nano, .int .i64 (s + 62135596800), .pointer loc]] w fun x w' => x = .returned (timeV loc o) ∧ Below w.heap.size w w' := by
  obtain ⟨A, B, hi, hP, hA, hB, hf, ht, he⟩ := ha.win
  obtain ⟨u1, u2, u3, u4, u5, u6⟩ := hu
  refine (next_any sb se mi hr dom mon dow nano s loc off A B hi Y5 w hs u1 u2 u3 u4 u5 u6 n0 n1 hc (ha.ans.ctx he hP hA hB hf) (by have := ha.low; omega) ht ha.year ha.min).mono ?_
  intro x w' hx
  exact ha.ans.post he hP hA hB hx

theorem Asked.bound {off : Int → Int} {S : Sched} {s Y5 : Int} {o : Option Int} (ha : Asked off S s Y5 o) : ∀ x, o = some x → -62135596800 < x ∧ x ≤ 270000000000 := by
  obtain ⟨A, B, hi, hP, hA, hB, hf, ht, he⟩ := ha.win
  rintro x rfl
  have h1 := ha.ans.1
  have h2 := ha.low
  have e : hi = x := he
  omega

theorem set2 {W X : World} (h : Below W.heap.size W X) (x y : Value) : Below W.heap.size W ((X.setCell ⟨W.heap.size, 0, none⟩ x).setCell ⟨W.heap.size, 1, none⟩ y) := (h.setCell (p := ⟨W.heap.size, 0, none⟩) (Nat.le_refl _) _).setCell (p := ⟨W.heap.size, 1, none⟩) (Nat.le_refl _) _
theorem nil_next (a : Addr) (w : World) : (nilAhead 319 97 (.pointer (some a)) "Next").run Try.prog w = .ok (some false) w := by kernel_rfl
theorem meth_next (a : Addr) (w : World) : (method 319 97 (.pointer (some a)) "Next").run Try.prog w = .ok (131, .pointer (some a)) w := by kernel_rfl

set_option maxHeartbeats 2000000 in
set_option maxRecDepth 100000 in
theorem next_any (r : Raw) (co cd cw ci : Nat) (d se mi hr dom mon dow s nano Y5 : Int) (o : Option Int) (w : World) (h : r.At w) (hok : r.Ok) (hu : U6 se mi hr dom mon dow) (n0 : 0 ≤ nano) (n1 : nano < 1000000000)
    (ha : Asked (Raw.off r) (sched se mi hr dom mon dow) s Y5 o) :
    Calls Try.prog 22 #[.agg #[.bool false, .int .i64 d, .int .u64 se, .int .u64 mi, .int .u64 hr, .int .u64 dom, .int .u64 mon, .int .u64 dow], .agg #[.int .i64 s, .int .i64 nano], .agg #[.slice r.ao r.no co, .slice r.ad r.nd cd, .slice r.aw r.nw cw, .slice r.ai r.ni ci]] w fun x w' => x = .returned (ansV o) ∧ Below w.heap.size w w' := by
  obtain ⟨W0, hW0⟩ : ∃ W0, (((w.alloc (.cells #[.bool false, .int .i64 d, .int .u64 se, .int .u64 mi, .int .u64 hr, .int .u64 dom, .int .u64 mon, .int .u64 dow] 51)).alloc (.cells #[.int .i64 s, .int .i64 nano] 24)).alloc (.cells #[.slice r.ao r.no co, .slice r.ad r.nd cd, .slice r.aw r.nw cw, .slice r.ai r.ni ci] 29)) = W0 := ⟨_, rfl⟩
  have hsz : W0.heap.size = w.heap.size + 3 := by rw [← hW0]; simp
  have hb0 : Below w.heap.size w W0 := by rw [← hW0]; exact (((Below.refl _ _).alloc (Nat.le_refl _) _).alloc (by simp) _).alloc (by simp; omega) _
  have HKS : Hid (∀ X, Below W0.heap.size W0 X → X.cell? ⟨w.heap.size, 0, none⟩ = some (.bool false) ∧ X.cell? ⟨w.heap.size, 1, none⟩ = some (.int .i64 d) ∧ X.cell? ⟨w.heap.size, 2, none⟩ = some (.int .u64 se) ∧ X.cell? ⟨w.heap.size, 3, none⟩ = some (.int .u64 mi) ∧ X.cell? ⟨w.heap.size, 4, none⟩ = some (.int .u64 hr) ∧ X.cell? ⟨w.heap.size, 5, none⟩ = some (.int .u64 dom) ∧ X.cell? ⟨w.heap.size, 6, none⟩ = some (.int .u64 mon) ∧ X.cell? ⟨w.heap.size, 7, none⟩ = some (.int .u64 dow) ∧ X.cell? ⟨w.heap.size + 1, 0, none⟩ = some (.int .i64 s) ∧ X.cell? ⟨w.heap.size + 1, 1, none⟩ = some (.int .i64 nano) ∧ X.cell? ⟨w.heap.size + 1 + 1, 0, none⟩ = some (.slice r.ao r.no co) ∧ X.cell? ⟨w.heap.size + 1 + 1, 1, none⟩ = some (.slice r.ad r.nd cd) ∧ X.cell? ⟨w.heap.size + 1 + 1, 2, none⟩ = some (.slice r.aw r.nw cw) ∧ X.cell? ⟨w.heap.size + 1 + 1, 3, none⟩ = some (.slice r.ai r.ni ci)) := Lib.hid (fun X hX => by
    have e1 : (w.alloc (.cells #[.bool false, .int .i64 d, .int .u64 se, .int .u64 mi, .int .u64 hr, .int .u64 dom, .int .u64 mon, .int .u64 dow] 51)).heap.size = w.heap.size + 1 := by simp
    have e2 : ((w.alloc (.cells #[.bool false, .int .i64 d, .int .u64 se, .int .u64 mi, .int .u64 hr, .int .u64 dom, .int .u64 mon, .int .u64 dow] 51)).alloc (.cells #[.int .i64 s, .int .i64 nano] 24)).heap.size = w.heap.size + 1 + 1 := by simp
    have h3 : Below (((w.alloc (.cells #[.bool false, .int .i64 d, .int .u64 se, .int .u64 mi, .int .u64 hr, .int .u64 dom, .int .u64 mon, .int .u64 dow] 51)).alloc (.cells #[.int .i64 s, .int .i64 nano] 24)).alloc (.cells #[.slice r.ao r.no co, .slice r.ad r.nd cd, .slice r.aw r.nw cw, .slice r.ai r.ni ci] 29)).heap.size (((w.alloc (.cells #[.bool false, .int .i64 d, .int .u64 se, .int .u64 mi, .int .u64 hr, .int .u64 dom, .int .u64 mon, .int .u64 dow] 51)).alloc (.cells #[.int .i64 s, .int .i64 nano] 24)).alloc (.cells #[.slice r.ao r.no co, .slice r.ad r.nd cd, .slice r.aw r.nw cw, .slice r.ai r.ni ci] 29)) X := by rw [hW0]; exact hX
    have h2 : Below ((w.alloc (.cells #[.bool false, .int .i64 d, .int .u64 se, .int .u64 mi, .int .u64 hr, .int .u64 dom, .int .u64 mon, .int .u64 dow] 51)).alloc (.cells #[.int .i64 s, .int .i64 nano] 24)).heap.size ((w.alloc (.cells #[.bool false, .int .i64 d, .int .u64 se, .int .u64 mi, .int .u64 hr, .int .u64 dom, .int .u64 mon, .int .u64 dow] 51)).alloc (.cells #[.int .i64 s, .int .i64 nano] 24)) X := ((Below.refl _ _).alloc (Nat.le_refl _) _).trans (h3.mono (by simp))
    have h1 : Below (w.alloc (.cells #[.bool false, .int .i64 d, .int .u64 se, .int .u64 mi, .int .u64 hr, .int .u64 dom, .int .u64 mon, .int .u64 dow] 51)).heap.size (w.alloc (.cells #[.bool false, .int .i64 d, .int .u64 se, .int .u64 mi, .int .u64 hr, .int .u64 dom, .int .u64 mon, .int .u64 dow] 51)) X := ((Below.refl _ _).alloc (Nat.le_refl _) _).trans (h2.mono (by simp))
    have b0 := cells_after h2 0 _ rfl
    have b1 := cells_after h2 1 _ rfl
    have c0 := cells_after h3 0 _ rfl
    have c1 := cells_after h3 1 _ rfl
    have c2 := cells_after h3 2 _ rfl
    have c3 := cells_after h3 3 _ rfl
    rw [e1] at b0 b1
    rw [e2] at c0 c1 c2 c3
    exact ⟨cells_after h1 0 _ rfl, cells_after h1 1 _ rfl, cells_after h1 2 _ rfl, cells_after h1 3 _ rfl, cells_after h1 4 _ rfl, cells_after h1 5 _ rfl, cells_after h1 6 _ rfl, cells_after h1 7 _ rfl, b0, b1, c0, c1, c2, c3⟩)
  have HL := Lib.hid (fun w1 (hb : Below w.heap.size w w1) => impl_location r co cd cw ci w1 (h.below hb) hok)
  have HM := Lib.hid (fun (b : Nat) w1 (hz : ZoneAt w1 b (Raw.off r)) => moment_any s nano b (Raw.off r) w1 hz n0 n1 (by have := ha.low; omega) (by have := ha.top; omega))
  have HN := Lib.hid (fun (sb : Nat) (loc : Option Addr) w1 (hs : SpecAt w1 sb se mi hr dom mon dow) (hc : Clock w1 loc (Raw.off r)) => time_any sb se mi hr dom mon dow nano s loc (Raw.off r) Y5 o w1 hs hu n0 n1 hc ha)
  have HA := Lib.hid (fun (loc : Option Addr) w1 => answer_any o loc w1 ha.bound)
  have HB0 := Lib.hid hb0
  have HSZ := Lib.hid hsz
  obtain ⟨av, hav⟩ : ∃ av, ansV o = av := ⟨_, rfl⟩
  obtain ⟨x0, p0, hop⟩ : ∃ x0 p0, ansV o = .tuple #[.agg #[.int .i64 x0, .int .i64 0], .bool p0] := by
    cases o with
    | none => exact ⟨0, false, rfl⟩
    | some x => exact ⟨x, true, rfl⟩
  rw [hop] at HA
  rw [hop]
  clear hsz hb0 hav hop h hok hu n0 n1 ha
  go_enter Try.func22, Try.ntmps22
  go_wp2_with fail
  clear hW0
  obtain ⟨V, hV⟩ : ∃ V, W0.alloc (.cells #[.int .i64 0, .int .i64 0] 24) = V := ⟨_, rfl⟩
  have hbV : Below W0.heap.size W0 V := by rw [← hV]; exact (Below.refl _ _).alloc (Nat.le_refl _) _
  have hsV : W0.heap.size < V.heap.size := by rw [← hV]; simp
  have HD : Hid (∀ X, Below V.heap.size V X → X.cell? ⟨W0.heap.size, 0, none⟩ = some (.int .i64 0) ∧ X.cell? ⟨W0.heap.size, 1, none⟩ = some (.int .i64 0) ∧ X.frozen? ⟨W0.heap.size, 0, none⟩ = false ∧ X.frozen? ⟨W0.heap.size, 1, none⟩ = false) := Lib.hid (fun X hX => by
    rw [← hV] at hX
    exact ⟨cells_after hX 0 _ rfl, cells_after hX 1 _ rfl, free_after hX 0, free_after hX 1⟩)
  have HBV := Lib.hid hbV
  have hnil := nil_next
  have hmeth := meth_next
  have HSV := Lib.hid hsV
  rw [hV]
  clear hV hbV hsV
  go_region_held3 (fun X => X.cell? ⟨w.heap.size, 0, none⟩ = some (.bool false) ∧ X.cell? ⟨w.heap.size, 1, none⟩ = some (.int .i64 d) ∧ X.cell? ⟨w.heap.size, 2, none⟩ = some (.int .u64 se) ∧ X.cell? ⟨w.heap.size, 3, none⟩ = some (.int .u64 mi) ∧ X.cell? ⟨w.heap.size, 4, none⟩ = some (.int .u64 hr) ∧ X.cell? ⟨w.heap.size, 5, none⟩ = some (.int .u64 dom) ∧ X.cell? ⟨w.heap.size, 6, none⟩ = some (.int .u64 mon) ∧ X.cell? ⟨w.heap.size, 7, none⟩ = some (.int .u64 dow) ∧ X.cell? ⟨w.heap.size + 1, 0, none⟩ = some (.int .i64 s) ∧ X.cell? ⟨w.heap.size + 1, 1, none⟩ = some (.int .i64 nano) ∧ X.cell? ⟨w.heap.size + 1 + 1, 0, none⟩ = some (.slice r.ao r.no co) ∧ X.cell? ⟨w.heap.size + 1 + 1, 1, none⟩ = some (.slice r.ad r.nd cd) ∧ X.cell? ⟨w.heap.size + 1 + 1, 2, none⟩ = some (.slice r.aw r.nw cw) ∧ X.cell? ⟨w.heap.size + 1 + 1, 3, none⟩ = some (.slice r.ai r.ni ci)) (exact HKS.out _ (by repeat (first | exact Below.refl _ _ | assumption | exact HBV.out | refine Below.drew ?_ | refine set2 ?_ _ _)))
    ((first
      | (go_at_call 48; (with_reducible refine (schedule_any _ _ _ _ _ _ _ _).mono ?_); rintro x w1 ⟨sb, ⟨rfl, hsp⟩, hb⟩; (have hv1 := undrew hb); (have hb1 := HBV.out.trans (hv1.mono (Nat.le_of_lt HSV.out))); clear hb)
      | (go_at_call 43; (with_reducible refine (HL.out _ (HB0.out.trans (hb1.mono HB0.out.size))).mono ?_); rintro x w2 ⟨lb, ⟨rfl, hz⟩, hb⟩; (have hv2 := hv1.trans (hb.mono hv1.size)); (have hb2 := HBV.out.trans (hv2.mono (Nat.le_of_lt HSV.out))); (have hsp2 := hsp.below hb); clear hb)
      | (go_at_call 42; (with_reducible refine (HM.out lb _ hz).mono ?_); rintro x w3 ⟨loc, ⟨rfl, hcl⟩, hb⟩; (have hv3 := hv2.trans (hb.mono hv2.size)); (have hb3 := HBV.out.trans (hv3.mono (Nat.le_of_lt HSV.out))); (have hsp3 := hsp2.below hb); clear hb)
      | (go_at_call 131; (with_reducible refine (HN.out sb loc _ hsp3 hcl).mono ?_); rintro x w4 ⟨rfl, hb⟩; (have hv4 := hv3.trans (hb.mono hv3.size)); (have hb4 := HBV.out.trans (hv4.mono (Nat.le_of_lt HSV.out))); clear hb)
      | (go_at_call 47; (with_reducible refine (HA.out loc _).mono ?_); rintro x w5 ⟨rfl, hb⟩; (have hv5 := hv4.trans (hb.mono hv4.size)); (have hb5 := HBV.out.trans (hv5.mono (Nat.le_of_lt HSV.out))); (obtain ⟨d0, d1, g0, g1⟩ := HD.out _ hv5); clear hb)))
  all_goals
    go_wp2_with fail
    refine bodyPost_ret (v := .tuple #[.agg #[.int .i64 x0, .int .i64 0], .bool p0]) (by simp [results, Try.results22, go_sem, *]) rfl ⟨rfl, ?_⟩
    exact HB0.out.trans ((set2 hb5 _ _).mono HB0.out.size)

end Go.Proofs.Ytoekefbclkmchaa.NextJ
