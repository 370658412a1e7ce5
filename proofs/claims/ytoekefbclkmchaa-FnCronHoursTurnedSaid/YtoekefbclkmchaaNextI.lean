/- The next activation as a plain relation; the thin package's Next: its schedule, its answer. Conditions: a plain zone in the window; instants from year 1 on. -/
import Derived.Test.YtoekefbclkmchaaNextC
import Derived.Test.YtoekefbclkmchaaDayImpl
namespace Go.Proofs.Ytoekefbclkmchaa.NextI
open Go Go.RowKit Go.Proofs.Ytoekefbclkmchaa.TimeNum Go.Proofs.Ytoekefbclkmchaa.Lookup Go.Proofs.Ytoekefbclkmchaa.Time Go.Proofs.Ytoekefbclkmchaa.Time2 Go.Proofs.Ytoekefbclkmchaa.DayM Go.Proofs.Ytoekefbclkmchaa.Moment Go.Proofs.Ytoekefbclkmchaa.Cal Go.Proofs.Ytoekefbclkmchaa.Off Go.Proofs.Ytoekefbclkmchaa.Search Go.Proofs.Ytoekefbclkmchaa.NextP Go.Proofs.Ytoekefbclkmchaa.NextA Go.Proofs.Ytoekefbclkmchaa.NextB Go.Proofs.Ytoekefbclkmchaa.NextC Go.Proofs.Ytoekefbclkmchaa.RegS Go.Proofs.Ytoekefbclkmchaa.Zone Go.Proofs.Ytoekefbclkmchaa.DayFits
set_option linter.unusedVariables false

/-! ### The least fitting second -/
def IsNext (off : Int → Int) (S : Sched) (first Y5 : Int) : Option Int → Prop
  | some x => first ≤ x ∧ Fit off S x ∧ yr off x ≤ Y5 ∧ ∀ y, first ≤ y → y < x → ¬ Fit off S y
  | none => ∀ y, first ≤ y → yr off y ≤ Y5 → ¬ Fit off S y
def ansA : Option Int → Array Value
  | some x => #[.int .i64 x, .int .i64 0]
  | none => #[.int .i64 0, .int .i64 0]
/-- The time that Next answers with. -/
def timeV (loc : Option Addr) : Option Int → Value
  | some t => .agg #[.int .u64 0, .int .i64 (t + 62135596800), .pointer loc]
  | none => .agg #[.int .u64 0, .int .i64 0, .pointer none]
/-- What is answered. -/
def ansV (o : Option Int) : Value := .tuple #[.agg (ansA o), .bool o.isSome]
section
variable {off : Int → Int} {S : Sched} {first Y5 : Int}
theorem IsNext.uniq {o p : Option Int} (h : IsNext off S first Y5 o) (k : IsNext off S first Y5 p) : o = p := by
  cases o with
  | none =>
    cases p with
    | none => rfl
    | some x => exact absurd k.2.1 (h x k.1 k.2.2.1)
  | some x =>
    cases p with
    | none => exact absurd h.2.1 (k x h.1 h.2.2.1)
    | some y =>
      congr 1
      by_cases c : x < y
      · exact absurd h.2.1 (k.2.2.2 x h.1 c)
      · by_cases c2 : y < x
        · exact absurd k.2.1 (h.2.2.2 y k.1 c2)
        · omega
/-- A window's end for the answer. -/
def EndOf (off : Int → Int) (Y5 : Int) (hi : Int) : Option Int → Prop
  | some x => hi = x
  | none => Y5 < yr off hi
theorem IsNext.ctx {o : Option Int} {A B hi : Int} (h : IsNext off S first Y5 o) (he : EndOf off Y5 hi o) (hP : Plain off A B) (hA : A + 3456000 ≤ first) (hB : hi + 172800 ≤ B) (hf : first ≤ hi) : Ctx off S A B first hi Y5 := by
  refine ⟨hP, hA, hB, hf, ?_⟩
  cases o with
  | none => exact .inr he
  | some x => exact .inl (by rw [show hi = x from he]; exact h.2.1)
/-- What the search ends with is the answer. -/
theorem IsNext.post {o : Option Int} {A B hi : Int} {w w' : World} {loc : Option Addr} {x : Ending} (h : IsNext off S first Y5 o) (he : EndOf off Y5 hi o) (hP : Plain off A B) (hA : A + 3456000 ≤ first) (hB : hi + 172800 ≤ B)
    (hp : NextPost w loc off S first hi Y5 x w') : x = .returned (timeV loc o) ∧ Below w.heap.size w w' := by
  obtain ⟨t, hs, hlo, ht, hb⟩ := hp
  refine ⟨?_, hb⟩
  rcases ht with ⟨hf, hy, rfl⟩ | ⟨hy, rfl⟩
  · have h1 : first ≤ t := by
      by_cases c : t < first
      · exact absurd hf (hs.aft t (Int.le_refl _) c)
      · omega
    have k : IsNext off S first Y5 (some t) := ⟨h1, hf, hy, hs.bef⟩
    have e := h.uniq k
    subst e
    rfl
  · cases o with
    | none => rfl
    | some z =>
      exfalso
      have e : hi = z := he
      have hle := hs.le
      have hm := day_mono hP (show A ≤ t by omega) hle (by omega)
      have := year_mono hm
      have hz := h.2.2.1
      unfold yr at hy hz
      rw [e] at this
      omega
end

/-! ### The schedule and the answer -/
theorem spec_new (w : World) (E : TypeId) (se mi hr dom mon dow : Int) : SpecAt (w.alloc (.cells #[.int .u64 se, .int .u64 mi, .int .u64 hr, .int .u64 dom, .int .u64 mon, .int .u64 dow, .pointer none] E)) w.heap.size se mi hr dom mon dow :=
  have hb := Below.refl (w.alloc (.cells #[.int .u64 se, .int .u64 mi, .int .u64 hr, .int .u64 dom, .int .u64 mon, .int .u64 dow, .pointer none] E)).heap.size (w.alloc (.cells #[.int .u64 se, .int .u64 mi, .int .u64 hr, .int .u64 dom, .int .u64 mon, .int .u64 dow, .pointer none] E))
  ⟨cells_after hb 0 _ rfl, cells_after hb 1 _ rfl, cells_after hb 2 _ rfl, cells_after hb 3 _ rfl, cells_after hb 4 _ rfl, cells_after hb 5 _ rfl, cells_after hb 6 _ rfl⟩
/-- The thin package's schedule of sets. -/
theorem schedule_any (d se mi hr dom mon dow : Int) (w : World) :
    Calls Try.prog 48 #[.agg #[.bool false, .int .i64 d, .int .u64 se, .int .u64 mi, .int .u64 hr, .int .u64 dom, .int .u64 mon, .int .u64 dow], .pointer none] w fun x w' => ∃ sb, (x = .returned (.iface 97 (.pointer (some ⟨sb, 0, none⟩))) ∧ SpecAt w' sb se mi hr dom mon dow) ∧ Below w.heap.size w w' := by
  go_enter Try.func48, Try.ntmps48
  go_wp2_with fail
  go_ret
  exact ⟨w.heap.size + 1, ⟨rfl, by
    have h := spec_new (w.alloc (.cells #[.bool false, .int .i64 d, .int .u64 se, .int .u64 mi, .int .u64 hr, .int .u64 dom, .int .u64 mon, .int .u64 dow] 51)) 99 se mi hr dom mon dow
    rw [show (w.alloc (.cells #[.bool false, .int .i64 d, .int .u64 se, .int .u64 mi, .int .u64 hr, .int .u64 dom, .int .u64 mon, .int .u64 dow] 51)).heap.size = w.heap.size + 1 by simp] at h
    exact h⟩, ((Below.refl _ _).alloc (Nat.le_refl _) _).alloc (by simp) _⟩

/-! ### The answer -/
theorem box2i {w X : World} {E F : TypeId} {a b c x y : Value} (h : Below ((w.alloc (.cells #[a, b, c] E)).alloc (.cells #[x, y] F)).heap.size ((w.alloc (.cells #[a, b, c] E)).alloc (.cells #[x, y] F)) X) :
    (X.cell? ⟨w.heap.size + 1, 0, none⟩ = some x ∧ X.cell? ⟨w.heap.size + 1, 1, none⟩ = some y) ∧ X.frozen? ⟨w.heap.size + 1, 0, none⟩ = false ∧ X.frozen? ⟨w.heap.size + 1, 1, none⟩ = false := by
  have e : (w.alloc (.cells #[a, b, c] E)).heap.size = w.heap.size + 1 := by simp
  have a0 := cells_after h 0 _ rfl
  have a1 := cells_after h 1 _ rfl
  have b0 := free_after h 0
  have b1 := free_after h 1
  rw [e] at a0 a1 b0 b1
  exact ⟨⟨a0, a1⟩, b0, b1⟩
theorem box3i {w X : World} {E F : TypeId} {a b c x y : Value} (h : Below ((w.alloc (.cells #[a, b, c] E)).alloc (.cells #[x, y] F)).heap.size ((w.alloc (.cells #[a, b, c] E)).alloc (.cells #[x, y] F)) X) :
    X.cell? ⟨w.heap.size, 0, none⟩ = some a ∧ X.cell? ⟨w.heap.size, 1, none⟩ = some b ∧ X.cell? ⟨w.heap.size, 2, none⟩ = some c := by
  have h1 : Below (w.alloc (.cells #[a, b, c] E)).heap.size (w.alloc (.cells #[a, b, c] E)) X := ((Below.refl _ _).alloc (Nat.le_refl _) _).trans (h.mono (by simp))
  exact ⟨cells_after h1 0 _ rfl, cells_after h1 1 _ rfl, cells_after h1 2 _ rfl⟩
theorem isZero_any (n e : Int) (loc : Option Addr) (w : World) : Calls Try.prog 65 #[.agg #[.int .u64 n, .int .i64 e, .pointer loc]] w fun x w' => x = .returned (.bool (n == 0 && e == 0)) ∧ Below w.heap.size w w' := by
  have hb : Below w.heap.size w (w.alloc (.cells #[.int .u64 n, .int .i64 e, .pointer loc] 78)) := (Below.refl _ _).alloc (Nat.le_refl _) _
  obtain ⟨p, hp⟩ : ∃ p, (n == 0) = p := ⟨_, rfl⟩
  obtain ⟨q, hq⟩ : ∃ q, (e == 0) = q := ⟨_, rfl⟩
  rw [hp, hq]
  cases p <;> cases q
  all_goals
    go_enter Try.func65, Try.ntmps65
    go_wp2_with fail
    go_ret
    exact ⟨rfl, hb⟩

set_option maxRecDepth 100000 in
theorem plain_any (t : Int) (loc : Option Addr) (w : World) (ht : Bd t) : Calls Try.prog 66 #[.agg #[.int .u64 0, .int .i64 (t + 62135596800), .pointer loc]] w fun x w' => x = .returned (.agg #[.int .i64 t, .int .i64 0]) ∧ Below w.heap.size w w' := by
  obtain ⟨W, hW⟩ : ∃ W, (w.alloc (.cells #[.int .u64 0, .int .i64 (t + 62135596800), .pointer loc] 78)).alloc (.cells #[.int .i64 0, .int .i64 0] 24) = W := ⟨_, rfl⟩
  have hbW : Below w.heap.size w W := by rw [← hW]; exact ((Below.refl _ _).alloc (Nat.le_refl _) _).alloc (by simp) _
  have hsW : W.heap.size = w.heap.size + 2 := by rw [← hW]; simp
  have HB := Lib.hid hbW
  have HK : Hid (∀ X', Below W.heap.size W X' → X'.cell? ⟨w.heap.size, 0, none⟩ = some (.int .u64 0) ∧ X'.cell? ⟨w.heap.size, 1, none⟩ = some (.int .i64 (t + 62135596800)) ∧ X'.cell? ⟨w.heap.size, 2, none⟩ = some (.pointer loc)) := Lib.hid (fun X' h => by
    have h1 : Below (w.alloc (.cells #[.int .u64 0, .int .i64 (t + 62135596800), .pointer loc] 78)).heap.size (w.alloc (.cells #[.int .u64 0, .int .i64 (t + 62135596800), .pointer loc] 78)) X' := (show Below _ _ W by rw [← hW]; exact (Below.refl _ _).alloc (Nat.le_refl _) _).trans (h.mono (by rw [hsW]; simp))
    exact ⟨cells_after h1 0 _ rfl, cells_after h1 1 _ rfl, cells_after h1 2 _ rfl⟩)
  have HD : Hid (∀ X', Below W.heap.size W X' → X'.cell? ⟨w.heap.size + 1, 0, none⟩ = some (.int .i64 0) ∧ X'.cell? ⟨w.heap.size + 1, 1, none⟩ = some (.int .i64 0) ∧ X'.frozen? ⟨w.heap.size + 1, 0, none⟩ = false ∧ X'.frozen? ⟨w.heap.size + 1, 1, none⟩ = false) := Lib.hid (fun X' h => by
    have e : (w.alloc (.cells #[.int .u64 0, .int .i64 (t + 62135596800), .pointer loc] 78)).heap.size = w.heap.size + 1 := by simp
    have h1 : Below ((w.alloc (.cells #[.int .u64 0, .int .i64 (t + 62135596800), .pointer loc] 78)).alloc (.cells #[.int .i64 0, .int .i64 0] 24)).heap.size ((w.alloc (.cells #[.int .u64 0, .int .i64 (t + 62135596800), .pointer loc] 78)).alloc (.cells #[.int .i64 0, .int .i64 0] 24)) X' := by rw [hW]; exact h
    have a0 := cells_after h1 0 _ rfl
    have a1 := cells_after h1 1 _ rfl
    have b0 := free_after h1 0
    have b1 := free_after h1 1
    rw [e] at a0 a1 b0 b1
    exact ⟨a0, a1, b0, b1⟩)
  have HU := Lib.hid (fun X' (h : Below W.heap.size W X') => unix_any (w := X') (loc := loc) nn0 ht.es)
  rw [sec_of] at HU
  have HN := Lib.hid (fun X' (h : Below W.heap.size W X') => nano_any (w := X') (e := t + 62135596800) (loc := loc) nn0)
  clear hbW hsW
  go_enter Try.func66, Try.ntmps66
  go_wp2_with fail
  clear hW
  refine RegS.region_S (n := 5) (S := fun X' => Below W.heap.size W X') (by kernel_rfl) rfl ((Below.refl _ _).drew) (fun inv => ?_)
  refine RegS.AnyS.take (i := 0) (v := .agg #[.int .u64 0, .int .i64 (t + 62135596800), .pointer loc]) inv (by kernel_rfl) rfl rfl (by omega) (by kernel_rfl) (by kernel_rfl) (by kernel_rfl) (fun _ _ _ h => h) ⟨by rfl, fun X' hX => ?_⟩ (some 3) rfl (fun inv => ?_)
  · obtain ⟨k0, k1, k2⟩ := HK.out X' hX
    go_simp
    exact ⟨rfl, hX⟩
  simp only [Act.put, List.setIfInBounds_toArray, List.set_cons_zero, List.set_cons_succ]
  refine RegS.AnyS.take (i := 1) (v := .int .i64 t) inv (by kernel_rfl) rfl rfl (by omega) (by kernel_rfl) (by kernel_rfl) (by kernel_rfl) (fun _ _ _ h => h) ⟨by rfl, fun X' hX => ?_⟩ (some 4) rfl (fun inv => ?_)
  · go_simp
    exact RegS.gives_call (HU.out _ hX) hX
  simp only [Act.put, List.setIfInBounds_toArray, List.set_cons_zero, List.set_cons_succ]
  refine RegS.AnyS.take (i := 2) (v := .agg #[.int .u64 0, .int .i64 (t + 62135596800), .pointer loc]) inv (by kernel_rfl) rfl rfl (by omega) (by kernel_rfl) (by kernel_rfl) (by kernel_rfl) (fun _ _ _ h => h) ⟨by rfl, fun X' hX => ?_⟩ (some 5) rfl (fun inv => ?_)
  · obtain ⟨k0, k1, k2⟩ := HK.out X' hX
    go_simp
    exact ⟨rfl, hX⟩
  simp only [Act.put, List.setIfInBounds_toArray, List.set_cons_zero, List.set_cons_succ]
  refine RegS.AnyS.take (i := 3) (v := .int .i64 0) inv (by kernel_rfl) rfl rfl (by omega) (by kernel_rfl) (by kernel_rfl) (by kernel_rfl) (fun _ _ _ h => h) ⟨by rfl, fun X' hX => ?_⟩ (some 6) rfl (fun inv => ?_)
  · go_simp
    exact RegS.gives_call (HN.out _ hX) hX
  simp only [Act.put, List.setIfInBounds_toArray, List.set_cons_zero, List.set_cons_succ]
  refine RegS.AnyS.take (i := 4) (v := .agg #[.int .i64 t, .int .i64 0]) inv (by kernel_rfl) rfl rfl (by omega) (by kernel_rfl) (by kernel_rfl) (by kernel_rfl) (fun _ _ _ h => h) ⟨by rfl, fun X' hX => ?_⟩ (some 7) rfl (fun inv => ?_)
  · go_simp
    exact ⟨rfl, hX⟩
  simp only [Act.put, List.setIfInBounds_toArray, List.set_cons_zero, List.set_cons_succ]
  refine RegS.AnyS.last (by kernel_rfl) rfl (by kernel_rfl) (fun X4 hX K hK => ?_)
  obtain ⟨d0, d1, g0, g1⟩ := HD.out X4 hX
  go_simp
  refine hK.out _ _ ?_
  go_wp2_with fail
  refine bodyPost_ret (v := .agg #[.int .i64 t, .int .i64 0]) (by simp [results, Try.results66, go_sem, *]) rfl ⟨rfl, ?_⟩
  exact ((HB.out.trans (hX.mono HB.out.size)).setCell (p := ⟨w.heap.size + 1, 0, none⟩) (Nat.le_succ _) _).setCell (p := ⟨w.heap.size + 1, 1, none⟩) (Nat.le_succ _) _

theorem answer_any (o : Option Int) (loc : Option Addr) (w : World) (h : ∀ x, o = some x → -62135596800 < x ∧ x ≤ 270000000000) :
    Calls Try.prog 47 #[timeV loc o] w fun x w' => x = .returned (ansV o) ∧ Below w.heap.size w w' := by
  cases o with
  | none =>
    have hb : Below w.heap.size w ((w.alloc (.cells #[.int .u64 0, .int .i64 0, .pointer none] 78)).alloc (.cells #[.int .i64 0, .int .i64 0] 24)) := ((Below.refl _ _).alloc (Nat.le_refl _) _).alloc (by simp) _
    have HB := Lib.hid hb
    have HZ := Lib.hid (fun X => isZero_any 0 0 none X)
    rw [show (((0 : Int) == 0) && ((0 : Int) == 0)) = true from rfl] at HZ
    clear hb
    unfold timeV ansV ansA
    go_enter Try.func47, Try.ntmps47
    go_wp2_with (go_at_call 65; refine (HZ.out _).mono ?_; rintro x X1 ⟨rfl, hb1⟩; obtain ⟨⟨d0, d1⟩, g0, g1⟩ := box2i hb1)
    refine bodyPost_ret (v := .tuple #[.agg #[.int .i64 0, .int .i64 0], .bool false]) (by simp [results, Try.results47, go_sem, *]) rfl ⟨rfl, ?_⟩
    exact ((HB.out.trans (hb1.mono HB.out.size)).setCell (p := ⟨w.heap.size + 1, 0, none⟩) (Nat.le_succ _) _).setCell (p := ⟨w.heap.size + 1, 1, none⟩) (Nat.le_succ _) _
  | some t =>
    obtain ⟨h0, h1⟩ := h t rfl
    have hb : Below w.heap.size w ((w.alloc (.cells #[.int .u64 0, .int .i64 (t + 62135596800), .pointer loc] 78)).alloc (.cells #[.int .i64 0, .int .i64 0] 24)) := ((Below.refl _ _).alloc (Nat.le_refl _) _).alloc (by simp) _
    have HB := Lib.hid hb
    have HZ := Lib.hid (fun X => isZero_any 0 (t + 62135596800) loc X)
    rw [show (((0 : Int) == 0) && (t + 62135596800 == 0)) = false by simp; omega] at HZ
    have HP := Lib.hid (fun X => plain_any t loc X ⟨by omega, by omega⟩)
    clear hb
    unfold timeV ansV ansA
    go_enter Try.func47, Try.ntmps47
    go_wp2_with (first
      | (go_at_call 65; refine (HZ.out _).mono ?_; rintro x X1 ⟨rfl, hb1⟩; obtain ⟨k0, k1, k2⟩ := box3i hb1)
      | (go_at_call 66; refine (HP.out _).mono ?_; rintro x X2 ⟨rfl, hb2⟩; obtain ⟨⟨d0, d1⟩, g0, g1⟩ := box2i (hb1.trans (hb2.mono hb1.size))))
    refine bodyPost_ret (v := .tuple #[.agg #[.int .i64 t, .int .i64 0], .bool true]) (by simp [results, Try.results47, go_sem, *]) rfl ⟨rfl, ?_⟩
    exact ((HB.out.trans ((hb1.trans (hb2.mono hb1.size)).mono HB.out.size)).setCell (p := ⟨w.heap.size + 1, 0, none⟩) (Nat.le_succ _) _).setCell (p := ⟨w.heap.size + 1, 1, none⟩) (Nat.le_succ _) _

end Go.Proofs.Ytoekefbclkmchaa.NextI
