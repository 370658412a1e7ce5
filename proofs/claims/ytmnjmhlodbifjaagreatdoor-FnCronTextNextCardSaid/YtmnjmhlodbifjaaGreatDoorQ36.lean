/- The days that the sets allow, by bits and by sets. Conditions: none. · The next activation as a plain relation; the thin package's Next: its schedule, its answer. Conditions: a plain zone in the window; instants from year 1 on. · The thin package's Next. Conditions: a plain zone in the window; instants from year 1 on; offsets of whole minutes. -/
import Derived.Test.YtmnjmhlodbifjaaGreatDoorQ31
import Derived.Test.YtmnjmhlodbifjaaGreatDoorQ35

namespace Go.Proofs.YtmnjmhlodbifjaaGreatDoor.DayImpl
open Go Go.RowKit Go.Proofs.YtmnjmhlodbifjaaGreatDoor.Moment Go.Proofs.YtmnjmhlodbifjaaGreatDoor.DayM Go.Proofs.YtmnjmhlodbifjaaGreatDoor.TimeNum Go.Proofs.YtmnjmhlodbifjaaGreatDoor.Cal Go.Proofs.YtmnjmhlodbifjaaGreatDoor.Off Go.Proofs.YtmnjmhlodbifjaaGreatDoor.Time Go.Proofs.YtmnjmhlodbifjaaGreatDoor.Time2 Go.Proofs.YtmnjmhlodbifjaaGreatDoor.SpecCal Go.Proofs.YtmnjmhlodbifjaaGreatDoor.Zone Go.Proofs.YtmnjmhlodbifjaaGreatDoor.Zone2 Go.Proofs.YtmnjmhlodbifjaaGreatDoor.Lookup Go.Proofs.YtmnjmhlodbifjaaGreatDoor.DayFits
set_option linter.unusedVariables false
theorem dayFits_eq (dom dow : Int) (n : Int) (st : Nat → Bool) (f : Nat → Nat → Bool) (d wd : Nat) (hd : dOf n = (d : Int)) (hw : wdOf n = (wd : Int)) (h1 : st 3 = has dom 63) (h2 : st 5 = has dow 63) (h3 : f 3 d = has dom (d : Int)) (h4 : f 5 wd = has dow (wd : Int)) : dayFits st f d wd = dayOK dom dow n := by
  unfold dayFits dayOK
  rw [h1, h2, h3, h4, hd, hw]
end Go.Proofs.YtmnjmhlodbifjaaGreatDoor.DayImpl
namespace Go.Proofs.YtmnjmhlodbifjaaGreatDoor.NextI
open Go Go.RowKit Go.Proofs.YtmnjmhlodbifjaaGreatDoor.TimeNum Go.Proofs.YtmnjmhlodbifjaaGreatDoor.Lookup Go.Proofs.YtmnjmhlodbifjaaGreatDoor.Time Go.Proofs.YtmnjmhlodbifjaaGreatDoor.Time2 Go.Proofs.YtmnjmhlodbifjaaGreatDoor.DayM Go.Proofs.YtmnjmhlodbifjaaGreatDoor.Moment Go.Proofs.YtmnjmhlodbifjaaGreatDoor.Cal Go.Proofs.YtmnjmhlodbifjaaGreatDoor.Off Go.Proofs.YtmnjmhlodbifjaaGreatDoor.Search Go.Proofs.YtmnjmhlodbifjaaGreatDoor.NextP Go.Proofs.YtmnjmhlodbifjaaGreatDoor.NextA Go.Proofs.YtmnjmhlodbifjaaGreatDoor.NextB Go.Proofs.YtmnjmhlodbifjaaGreatDoor.NextC Go.Proofs.YtmnjmhlodbifjaaGreatDoor.RegS Go.Proofs.YtmnjmhlodbifjaaGreatDoor.Zone Go.Proofs.YtmnjmhlodbifjaaGreatDoor.DayFits
set_option linter.unusedVariables false
def IsNext (off : Int → Int) (S : Sched) (first Y5 : Int) : Option Int → Prop
  | some x => first ≤ x ∧ Fit off S x ∧ yr off x ≤ Y5 ∧ ∀ y, first ≤ y → y < x → ¬ Fit off S y
  | none => ∀ y, first ≤ y → yr off y ≤ Y5 → ¬ Fit off S y
def ansA : Option Int → Array Value
  | some x => #[.int .i64 x, .int .i64 0]
  | none => #[.int .i64 0, .int .i64 0]
def timeV (loc : Option Addr) : Option Int → Value
  | some t => .agg #[.int .u64 0, .int .i64 (t + 62135596800), .pointer loc]
  | none => .agg #[.int .u64 0, .int .i64 0, .pointer none]
def ansV (o : Option Int) : Value := .tuple #[.agg (ansA o), .bool o.isSome]
section
variable {off : Int → Int} {S : Sched} {first Y5 : Int}
theorem IsNext.uniq {o p : Option Int} (h : IsNext off S first Y5 o) (k : IsNext off S first Y5 p) : o = p := by
  cases o with
  | none =>
    cases p with
    | none => rfl
    | some x => exact absurd k.2.1 (h x k.1 k.2.2.1)
  | some x =>
    cases p with
    | none => exact absurd h.2.1 (k x h.1 h.2.2.1)
    | some y =>
      congr 1
      by_cases c : x < y
      · exact absurd h.2.1 (k.2.2.2 x h.1 c)
      · by_cases c2 : y < x
        · exact absurd k.2.1 (h.2.2.2 y k.1 c2)
        · omega
def EndOf (off : Int → Int) (Y5 : Int) (hi : Int) : Option Int → Prop
  | some x => hi = x
  | none => Y5 < yr off hi
theorem IsNext.ctx {o : Option Int} {A B hi : Int} (h : IsNext off S first Y5 o) (he : EndOf off Y5 hi o) (hP : Plain off A B) (hA : A + 3456000 ≤ first) (hB : hi + 172800 ≤ B) (hf : first ≤ hi) : Ctx off S A B first hi Y5 := by
  refine ⟨hP, hA, hB, hf, ?_⟩
  cases o with
  | none => exact .inr he
  | some x => exact .inl (by rw [show hi = x from he]; exact h.2.1)
theorem IsNext.post {o : Option Int} {A B hi : Int} {w w' : World} {loc : Option Addr} {x : Ending} (h : IsNext off S first Y5 o) (he : EndOf off Y5 hi o) (hP : Plain off A B) (hA : A + 3456000 ≤ first) (hB : hi + 172800 ≤ B)
    (hp : NextPost w loc off S first hi Y5 x w') : x = .returned (timeV loc o) ∧ Below w.heap.size w w' := by
  obtain ⟨t, hs, hlo, ht, hb⟩ := hp
  refine ⟨?_, hb⟩
  rcases ht with ⟨hf, hy, rfl⟩ | ⟨hy, rfl⟩
  · have h1 : first ≤ t := by
      by_cases c : t < first
      · exact absurd hf (hs.aft t (Int.le_refl _) c)
      · omega
    have k : IsNext off S first Y5 (some t) := ⟨h1, hf, hy, hs.bef⟩
    have e := h.uniq k
    subst e
    rfl
  · cases o with
    | none => rfl
    | some z =>
      exfalso
      have e : hi = z := he
      have hle := hs.le
      have hm := day_mono hP (show A ≤ t by omega) hle (by omega)
      have := year_mono hm
      have hz := h.2.2.1
      unfold yr at hy hz
      rw [e] at this
      omega
end
theorem spec_new (w : World) (E : TypeId) (se mi hr dom mon dow : Int) : SpecAt (w.alloc (.cells #[.int .u64 se, .int .u64 mi, .int .u64 hr, .int .u64 dom, .int .u64 mon, .int .u64 dow, .pointer none] E)) w.heap.size se mi hr dom mon dow :=
  have hb := Below.refl (w.alloc (.cells #[.int .u64 se, .int .u64 mi, .int .u64 hr, .int .u64 dom, .int .u64 mon, .int .u64 dow, .pointer none] E)).heap.size (w.alloc (.cells #[.int .u64 se, .int .u64 mi, .int .u64 hr, .int .u64 dom, .int .u64 mon, .int .u64 dow, .pointer none] E))
  ⟨cells_after hb 0 _ rfl, cells_after hb 1 _ rfl, cells_after hb 2 _ rfl, cells_after hb 3 _ rfl, cells_after hb 4 _ rfl, cells_after hb 5 _ rfl, cells_after hb 6 _ rfl⟩
theorem schedule_any (d se mi hr dom mon dow : Int) (w : World) :
    Calls Tryz.prog 35 #[.agg #[.bool false, .int .i64 d, .int .u64 se, .int .u64 mi, .int .u64 hr, .int .u64 dom, .int .u64 mon, .int .u64 dow], .pointer none] w fun x w' => ∃ sb, (x = .returned (.iface 97 (.pointer (some ⟨sb, 0, none⟩))) ∧ SpecAt w' sb se mi hr dom mon dow) ∧ Below w.heap.size w w' := by
  go_enter Tryz.func35, Tryz.ntmps35
  go_wp2_with fail
  go_ret
  exact ⟨w.heap.size + 1, ⟨rfl, by
    have h := spec_new (w.alloc (.cells #[.bool false, .int .i64 d, .int .u64 se, .int .u64 mi, .int .u64 hr, .int .u64 dom, .int .u64 mon, .int .u64 dow] 28)) 100 se mi hr dom mon dow
    rw [show (w.alloc (.cells #[.bool false, .int .i64 d, .int .u64 se, .int .u64 mi, .int .u64 hr, .int .u64 dom, .int .u64 mon, .int .u64 dow] 28)).heap.size = w.heap.size + 1 by simp] at h
    exact h⟩, ((Below.refl _ _).alloc (Nat.le_refl _) _).alloc (by simp) _⟩
theorem box2i {w X : World} {E F : TypeId} {a b c x y : Value} (h : Below ((w.alloc (.cells #[a, b, c] E)).alloc (.cells #[x, y] F)).heap.size ((w.alloc (.cells #[a, b, c] E)).alloc (.cells #[x, y] F)) X) :
    (X.cell? ⟨w.heap.size + 1, 0, none⟩ = some x ∧ X.cell? ⟨w.heap.size + 1, 1, none⟩ = some y) ∧ X.frozen? ⟨w.heap.size + 1, 0, none⟩ = false ∧ X.frozen? ⟨w.heap.size + 1, 1, none⟩ = false := by
  have e : (w.alloc (.cells #[a, b, c] E)).heap.size = w.heap.size + 1 := by simp
  have a0 := cells_after h 0 _ rfl
  have a1 := cells_after h 1 _ rfl
  have b0 := free_after h 0
  have b1 := free_after h 1
  rw [e] at a0 a1 b0 b1
  exact ⟨⟨a0, a1⟩, b0, b1⟩
theorem box3i {w X : World} {E F : TypeId} {a b c x y : Value} (h : Below ((w.alloc (.cells #[a, b, c] E)).alloc (.cells #[x, y] F)).heap.size ((w.alloc (.cells #[a, b, c] E)).alloc (.cells #[x, y] F)) X) :
    X.cell? ⟨w.heap.size, 0, none⟩ = some a ∧ X.cell? ⟨w.heap.size, 1, none⟩ = some b ∧ X.cell? ⟨w.heap.size, 2, none⟩ = some c := by
  have h1 : Below (w.alloc (.cells #[a, b, c] E)).heap.size (w.alloc (.cells #[a, b, c] E)) X := ((Below.refl _ _).alloc (Nat.le_refl _) _).trans (h.mono (by simp))
  exact ⟨cells_after h1 0 _ rfl, cells_after h1 1 _ rfl, cells_after h1 2 _ rfl⟩
theorem isZero_any (n e : Int) (loc : Option Addr) (w : World) : Calls Tryz.prog 71 #[.agg #[.int .u64 n, .int .i64 e, .pointer loc]] w fun x w' => x = .returned (.bool (n == 0 && e == 0)) ∧ Below w.heap.size w w' := by
  have hb : Below w.heap.size w (w.alloc (.cells #[.int .u64 n, .int .i64 e, .pointer loc] 86)) := (Below.refl _ _).alloc (Nat.le_refl _) _
  obtain ⟨p, hp⟩ : ∃ p, (n == 0) = p := ⟨_, rfl⟩
  obtain ⟨q, hq⟩ : ∃ q, (e == 0) = q := ⟨_, rfl⟩
  rw [hp, hq]
  cases p <;> cases q
  all_goals
    go_enter Tryz.func71, Tryz.ntmps71
    go_wp2_with fail
    go_ret
    exact ⟨rfl, hb⟩
set_option maxRecDepth 100000 in
theorem plain_any (t : Int) (loc : Option Addr) (w : World) (ht : Bd t) : Calls Tryz.prog 72 #[.agg #[.int .u64 0, .int .i64 (t + 62135596800), .pointer loc]] w fun x w' => x = .returned (.agg #[.int .i64 t, .int .i64 0]) ∧ Below w.heap.size w w' := by
  obtain ⟨W, hW⟩ : ∃ W, (w.alloc (.cells #[.int .u64 0, .int .i64 (t + 62135596800), .pointer loc] 86)).alloc (.cells #[.int .i64 0, .int .i64 0] 34) = W := ⟨_, rfl⟩
  have hbW : Below w.heap.size w W := by rw [← hW]; exact ((Below.refl _ _).alloc (Nat.le_refl _) _).alloc (by simp) _
  have hsW : W.heap.size = w.heap.size + 2 := by rw [← hW]; simp
  have HB := Lib.hid hbW
  have HK : Hid (∀ X', Below W.heap.size W X' → X'.cell? ⟨w.heap.size, 0, none⟩ = some (.int .u64 0) ∧ X'.cell? ⟨w.heap.size, 1, none⟩ = some (.int .i64 (t + 62135596800)) ∧ X'.cell? ⟨w.heap.size, 2, none⟩ = some (.pointer loc)) := Lib.hid (fun X' h => by
    have h1 : Below (w.alloc (.cells #[.int .u64 0, .int .i64 (t + 62135596800), .pointer loc] 86)).heap.size (w.alloc (.cells #[.int .u64 0, .int .i64 (t + 62135596800), .pointer loc] 86)) X' := (show Below _ _ W by rw [← hW]; exact (Below.refl _ _).alloc (Nat.le_refl _) _).trans (h.mono (by rw [hsW]; simp))
    exact ⟨cells_after h1 0 _ rfl, cells_after h1 1 _ rfl, cells_after h1 2 _ rfl⟩)
  have HD : Hid (∀ X', Below W.heap.size W X' → X'.cell? ⟨w.heap.size + 1, 0, none⟩ = some (.int .i64 0) ∧ X'.cell? ⟨w.heap.size + 1, 1, none⟩ = some (.int .i64 0) ∧ X'.frozen? ⟨w.heap.size + 1, 0, none⟩ = false ∧ X'.frozen? ⟨w.heap.size + 1, 1, none⟩ = false) := Lib.hid (fun X' h => by
    have e : (w.alloc (.cells #[.int .u64 0, .int .i64 (t + 62135596800), .pointer loc] 86)).heap.size = w.heap.size + 1 := by simp
    have h1 : Below ((w.alloc (.cells #[.int .u64 0, .int .i64 (t + 62135596800), .pointer loc] 86)).alloc (.cells #[.int .i64 0, .int .i64 0] 34)).heap.size ((w.alloc (.cells #[.int .u64 0, .int .i64 (t + 62135596800), .pointer loc] 86)).alloc (.cells #[.int .i64 0, .int .i64 0] 34)) X' := by rw [hW]; exact h
    have a0 := cells_after h1 0 _ rfl
    have a1 := cells_after h1 1 _ rfl
    have b0 := free_after h1 0
    have b1 := free_after h1 1
    rw [e] at a0 a1 b0 b1
    exact ⟨a0, a1, b0, b1⟩)
  have HU := Lib.hid (fun X' (h : Below W.heap.size W X') => unix_any (w := X') (loc := loc) nn0 ht.es)
  rw [sec_of] at HU
  have HN := Lib.hid (fun X' (h : Below W.heap.size W X') => nano_any (w := X') (e := t + 62135596800) (loc := loc) nn0)
  clear hbW hsW
  go_enter Tryz.func72, Tryz.ntmps72
  go_wp2_with fail
  clear hW
  refine RegS.region_S (n := 5) (S := fun X' => Below W.heap.size W X') (by kernel_rfl) rfl ((Below.refl _ _).drew) (fun inv => ?_)
  refine RegS.AnyS.take (i := 0) (v := .agg #[.int .u64 0, .int .i64 (t + 62135596800), .pointer loc]) inv (by kernel_rfl) rfl rfl (by omega) (by kernel_rfl) (by kernel_rfl) (by kernel_rfl) (fun _ _ _ h => h) ⟨by rfl, fun X' hX => ?_⟩ (some 3) rfl (fun inv => ?_)
  · obtain ⟨k0, k1, k2⟩ := HK.out X' hX
    go_simp
    exact ⟨rfl, hX⟩
  simp only [Act.put, List.setIfInBounds_toArray, List.set_cons_zero, List.set_cons_succ]
  refine RegS.AnyS.take (i := 1) (v := .int .i64 t) inv (by kernel_rfl) rfl rfl (by omega) (by kernel_rfl) (by kernel_rfl) (by kernel_rfl) (fun _ _ _ h => h) ⟨by rfl, fun X' hX => ?_⟩ (some 4) rfl (fun inv => ?_)
  · go_simp
    exact RegS.gives_call (HU.out _ hX) hX
  simp only [Act.put, List.setIfInBounds_toArray, List.set_cons_zero, List.set_cons_succ]
  refine RegS.AnyS.take (i := 2) (v := .agg #[.int .u64 0, .int .i64 (t + 62135596800), .pointer loc]) inv (by kernel_rfl) rfl rfl (by omega) (by kernel_rfl) (by kernel_rfl) (by kernel_rfl) (fun _ _ _ h => h) ⟨by rfl, fun X' hX => ?_⟩ (some 5) rfl (fun inv => ?_)
  · obtain ⟨k0, k1, k2⟩ := HK.out X' hX
    go_simp
    exact ⟨rfl, hX⟩
  simp only [Act.put, List.setIfInBounds_toArray, List.set_cons_zero, List.set_cons_succ]
  refine RegS.AnyS.take (i := 3) (v := .int .i64 0) inv (by kernel_rfl) rfl rfl (by omega) (by kernel_rfl) (by kernel_rfl) (by kernel_rfl) (fun _ _ _ h => h) ⟨by rfl, fun X' hX => ?_⟩ (some 6) rfl (fun inv => ?_)
  · go_simp
    exact RegS.gives_call (HN.out _ hX) hX
  simp only [Act.put, List.setIfInBounds_toArray, List.set_cons_zero, List.set_cons_succ]
  refine RegS.AnyS.take (i := 4) (v := .agg #[.int .i64 t, .int .i64 0]) inv (by kernel_rfl) rfl rfl (by omega) (by kernel_rfl) (by kernel_rfl) (by kernel_rfl) (fun _ _ _ h => h) ⟨by rfl, fun X' hX => ?_⟩ (some 7) rfl (fun inv => ?_)
  · go_simp
    exact ⟨rfl, hX⟩
  simp only [Act.put, List.setIfInBounds_toArray, List.set_cons_zero, List.set_cons_succ]
  refine RegS.AnyS.last (by kernel_rfl) rfl (by kernel_rfl) (fun X4 hX K hK => ?_)
  obtain ⟨d0, d1, g0, g1⟩ := HD.out X4 hX
  go_simp
  refine hK.out _ _ ?_
  go_wp2_with fail
  refine bodyPost_ret (v := .agg #[.int .i64 t, .int .i64 0]) (by simp [results, Tryz.results72, go_sem, *]) rfl ⟨rfl, ?_⟩
  exact ((HB.out.trans (hX.mono HB.out.size)).setCell (p := ⟨w.heap.size + 1, 0, none⟩) (Nat.le_succ _) _).setCell (p := ⟨w.heap.size + 1, 1, none⟩) (Nat.le_succ _) _
theorem answer_any (o : Option Int) (loc : Option Addr) (w : World) (h : ∀ x, o = some x → -62135596800 < x ∧ x ≤ 270000000000) :
    Calls Tryz.prog 34 #[timeV loc o] w fun x w' => x = .returned (ansV o) ∧ Below w.heap.size w w' := by
  cases o with
  | none =>
    have hb : Below w.heap.size w ((w.alloc (.cells #[.int .u64 0, .int .i64 0, .pointer none] 86)).alloc (.cells #[.int .i64 0, .int .i64 0] 34)) := ((Below.refl _ _).alloc (Nat.le_refl _) _).alloc (by simp) _
    have HB := Lib.hid hb
    have HZ := Lib.hid (fun X => isZero_any 0 0 none X)
    rw [show (((0 : Int) == 0) && ((0 : Int) == 0)) = true from rfl] at HZ
    clear hb
    unfold timeV ansV ansA
    go_enter Tryz.func34, Tryz.ntmps34
    go_wp2_with (go_at_call 71; refine (HZ.out _).mono ?_; rintro x X1 ⟨rfl, hb1⟩; obtain ⟨⟨d0, d1⟩, g0, g1⟩ := box2i hb1)
    refine bodyPost_ret (v := .tuple #[.agg #[.int .i64 0, .int .i64 0], .bool false]) (by simp [results, Tryz.results34, go_sem, *]) rfl ⟨rfl, ?_⟩
    exact ((HB.out.trans (hb1.mono HB.out.size)).setCell (p := ⟨w.heap.size + 1, 0, none⟩) (Nat.le_succ _) _).setCell (p := ⟨w.heap.size + 1, 1, none⟩) (Nat.le_succ _) _
  | some t =>
    obtain ⟨h0, h1⟩ := h t rfl
    have hb : Below w.heap.size w ((w.alloc (.cells #[.int .u64 0, .int .i64 (t + 62135596800), .pointer loc] 86)).alloc (.cells #[.int .i64 0, .int .i64 0] 34)) := ((Below.refl _ _).alloc (Nat.le_refl _) _).alloc (by simp) _
    have HB := Lib.hid hb
    have HZ := Lib.hid (fun X => isZero_any 0 (t + 62135596800) loc X)
    rw [show (((0 : Int) == 0) && (t + 62135596800 == 0)) = false by simp; omega] at HZ
    have HP := Lib.hid (fun X => plain_any t loc X ⟨by omega, by omega⟩)
    clear hb
    unfold timeV ansV ansA
    go_enter Tryz.func34, Tryz.ntmps34
    go_wp2_with (first
      | (go_at_call 71; refine (HZ.out _).mono ?_; rintro x X1 ⟨rfl, hb1⟩; obtain ⟨k0, k1, k2⟩ := box3i hb1)
      | (go_at_call 72; refine (HP.out _).mono ?_; rintro x X2 ⟨rfl, hb2⟩; obtain ⟨⟨d0, d1⟩, g0, g1⟩ := box2i (hb1.trans (hb2.mono hb1.size))))
    refine bodyPost_ret (v := .tuple #[.agg #[.int .i64 t, .int .i64 0], .bool true]) (by simp [results, Tryz.results34, go_sem, *]) rfl ⟨rfl, ?_⟩
    exact ((HB.out.trans ((hb1.trans (hb2.mono hb1.size)).mono HB.out.size)).setCell (p := ⟨w.heap.size + 1, 0, none⟩) (Nat.le_succ _) _).setCell (p := ⟨w.heap.size + 1, 1, none⟩) (Nat.le_succ _) _
end Go.Proofs.YtmnjmhlodbifjaaGreatDoor.NextI
namespace Go.Proofs.YtmnjmhlodbifjaaGreatDoor.NextJ
open Go Go.RowKit Go.Proofs.YtmnjmhlodbifjaaGreatDoor.TimeNum Go.Proofs.YtmnjmhlodbifjaaGreatDoor.Lookup Go.Proofs.YtmnjmhlodbifjaaGreatDoor.Time Go.Proofs.YtmnjmhlodbifjaaGreatDoor.Time2 Go.Proofs.YtmnjmhlodbifjaaGreatDoor.DayM Go.Proofs.YtmnjmhlodbifjaaGreatDoor.Moment Go.Proofs.YtmnjmhlodbifjaaGreatDoor.Cal Go.Proofs.YtmnjmhlodbifjaaGreatDoor.Off Go.Proofs.YtmnjmhlodbifjaaGreatDoor.Search Go.Proofs.YtmnjmhlodbifjaaGreatDoor.NextP Go.Proofs.YtmnjmhlodbifjaaGreatDoor.NextA Go.Proofs.YtmnjmhlodbifjaaGreatDoor.NextB Go.Proofs.YtmnjmhlodbifjaaGreatDoor.NextC Go.Proofs.YtmnjmhlodbifjaaGreatDoor.Zone Go.Proofs.YtmnjmhlodbifjaaGreatDoor.Zone2 Go.Proofs.YtmnjmhlodbifjaaGreatDoor.DayFits Go.Proofs.YtmnjmhlodbifjaaGreatDoor.NextI
set_option linter.unusedVariables false
def U6 (se mi hr dom mon dow : Int) : Prop := U64 se ∧ U64 mi ∧ U64 hr ∧ U64 dom ∧ U64 mon ∧ U64 dow
structure Asked (off : Int → Int) (S : Sched) (s : Int) (Y5 : Int) (o : Option Int) : Prop where
  ans : IsNext off S (s + 1) Y5 o
  low : -62135596800 ≤ s
  top : s ≤ 300000000000
  year : yOf (day off (s + 1)) + 5 = Y5
  min : off (s + 1) % 60 = 0
  win : ∃ A B hi, Plain off A B ∧ A + 3456000 ≤ s + 1 ∧ hi + 172800 ≤ B ∧ s + 1 ≤ hi ∧ hi ≤ 269000000000 ∧ EndOf off Y5 hi o
theorem time_any (sb : Nat) (se mi hr dom mon dow nano s : Int) (loc : Option Addr) (off : Int → Int) (Y5 : Int) (o : Option Int) (w : World)
    (hs : SpecAt w sb se mi hr dom mon dow) (hu : U6 se mi hr dom mon dow) (n0 : 0 ≤ nano) (n1 : nano < 1000000000) (hc : Clock w loc off) (ha : Asked off (sched se mi hr dom mon dow) s Y5 o) :
    Calls Tryz.prog 189 #[.pointer (some ⟨sb, 0, none⟩), .agg #[.int .u64 nano, .int .i64 (s + 62135596800), .pointer loc]] w fun x w' => x = .returned (timeV loc o) ∧ Below w.heap.size w w' := by
  obtain ⟨A, B, hi, hP, hA, hB, hf, ht, he⟩ := ha.win
  obtain ⟨u1, u2, u3, u4, u5, u6⟩ := hu
  refine (next_any sb se mi hr dom mon dow nano s loc off A B hi Y5 w hs u1 u2 u3 u4 u5 u6 n0 n1 hc (ha.ans.ctx he hP hA hB hf) (by have := ha.low; omega) ht ha.year ha.min).mono ?_
  intro x w' hx
  exact ha.ans.post he hP hA hB hx
theorem Asked.bound {off : Int → Int} {S : Sched} {s Y5 : Int} {o : Option Int} (ha : Asked off S s Y5 o) : ∀ x, o = some x → -62135596800 < x ∧ x ≤ 270000000000 := by
  obtain ⟨A, B, hi, hP, hA, hB, hf, ht, he⟩ := ha.win
  rintro x rfl
  have h1 := ha.ans.1
  have h2 := ha.low
  have e : hi = x := he
  omega
theorem set2 {W X : World} (h : Below W.heap.size W X) (x y : Value) : Below W.heap.size W ((X.setCell ⟨W.heap.size, 0, none⟩ x).setCell ⟨W.heap.size, 1, none⟩ y) := (h.setCell (p := ⟨W.heap.size, 0, none⟩) (Nat.le_refl _) _).setCell (p := ⟨W.heap.size, 1, none⟩) (Nat.le_refl _) _
theorem nil_next (a : Addr) (w : World) : (nilAhead 403 97 (.pointer (some a)) "Next").run Tryz.prog w = .ok (some false) w := by kernel_rfl
theorem meth_next (a : Addr) (w : World) : (method 403 97 (.pointer (some a)) "Next").run Tryz.prog w = .ok (189, .pointer (some a)) w := by kernel_rfl
set_option maxHeartbeats 2000000 in
set_option maxRecDepth 100000 in
theorem next_any (r : Raw) (co cd cw ci : Nat) (d se mi hr dom mon dow s nano Y5 : Int) (o : Option Int) (w : World) (h : r.At w) (hok : r.Ok) (hu : U6 se mi hr dom mon dow) (n0 : 0 ≤ nano) (n1 : nano < 1000000000)
    (ha : Asked (Raw.off r) (sched se mi hr dom mon dow) s Y5 o) :
    Calls Tryz.prog 15 #[.agg #[.bool false, .int .i64 d, .int .u64 se, .int .u64 mi, .int .u64 hr, .int .u64 dom, .int .u64 mon, .int .u64 dow], .agg #[.int .i64 s, .int .i64 nano], .agg #[.slice r.ao r.no co, .slice r.ad r.nd cd, .slice r.aw r.nw cw, .slice r.ai r.ni ci]] w fun x w' => x = .returned (ansV o) ∧ Below w.heap.size w w' := by
  obtain ⟨W0, hW0⟩ : ∃ W0, (((w.alloc (.cells #[.bool false, .int .i64 d, .int .u64 se, .int .u64 mi, .int .u64 hr, .int .u64 dom, .int .u64 mon, .int .u64 dow] 28)).alloc (.cells #[.int .i64 s, .int .i64 nano] 34)).alloc (.cells #[.slice r.ao r.no co, .slice r.ad r.nd cd, .slice r.aw r.nw cw, .slice r.ai r.ni ci] 43)) = W0 := ⟨_, rfl⟩
  have hsz : W0.heap.size = w.heap.size + 3 := by rw [← hW0]; simp
  have hb0 : Below w.heap.size w W0 := by rw [← hW0]; exact (((Below.refl _ _).alloc (Nat.le_refl _) _).alloc (by simp) _).alloc (by simp; omega) _
  have HKS : Hid (∀ X, Below W0.heap.size W0 X → X.cell? ⟨w.heap.size, 0, none⟩ = some (.bool false) ∧ X.cell? ⟨w.heap.size, 1, none⟩ = some (.int .i64 d) ∧ X.cell? ⟨w.heap.size, 2, none⟩ = some (.int .u64 se) ∧ X.cell? ⟨w.heap.size, 3, none⟩ = some (.int .u64 mi) ∧ X.cell? ⟨w.heap.size, 4, none⟩ = some (.int .u64 hr) ∧ X.cell? ⟨w.heap.size, 5, none⟩ = some (.int .u64 dom) ∧ X.cell? ⟨w.heap.size, 6, none⟩ = some (.int .u64 mon) ∧ X.cell? ⟨w.heap.size, 7, none⟩ = some (.int .u64 dow) ∧ X.cell? ⟨w.heap.size + 1, 0, none⟩ = some (.int .i64 s) ∧ X.cell? ⟨w.heap.size + 1, 1, none⟩ = some (.int .i64 nano) ∧ X.cell? ⟨w.heap.size + 1 + 1, 0, none⟩ = some (.slice r.ao r.no co) ∧ X.cell? ⟨w.heap.size + 1 + 1, 1, none⟩ = some (.slice r.ad r.nd cd) ∧ X.cell? ⟨w.heap.size + 1 + 1, 2, none⟩ = some (.slice r.aw r.nw cw) ∧ X.cell? ⟨w.heap.size + 1 + 1, 3, none⟩ = some (.slice r.ai r.ni ci)) := Lib.hid (fun X hX => by
    have e1 : (w.alloc (.cells #[.bool false, .int .i64 d, .int .u64 se, .int .u64 mi, .int .u64 hr, .int .u64 dom, .int .u64 mon, .int .u64 dow] 28)).heap.size = w.heap.size + 1 := by simp
    have e2 : ((w.alloc (.cells #[.bool false, .int .i64 d, .int .u64 se, .int .u64 mi, .int .u64 hr, .int .u64 dom, .int .u64 mon, .int .u64 dow] 28)).alloc (.cells #[.int .i64 s, .int .i64 nano] 34)).heap.size = w.heap.size + 1 + 1 := by simp
    have h3 : Below (((w.alloc (.cells #[.bool false, .int .i64 d, .int .u64 se, .int .u64 mi, .int .u64 hr, .int .u64 dom, .int .u64 mon, .int .u64 dow] 28)).alloc (.cells #[.int .i64 s, .int .i64 nano] 34)).alloc (.cells #[.slice r.ao r.no co, .slice r.ad r.nd cd, .slice r.aw r.nw cw, .slice r.ai r.ni ci] 43)).heap.size (((w.alloc (.cells #[.bool false, .int .i64 d, .int .u64 se, .int .u64 mi, .int .u64 hr, .int .u64 dom, .int .u64 mon, .int .u64 dow] 28)).alloc (.cells #[.int .i64 s, .int .i64 nano] 34)).alloc (.cells #[.slice r.ao r.no co, .slice r.ad r.nd cd, .slice r.aw r.nw cw, .slice r.ai r.ni ci] 43)) X := by rw [hW0]; exact hX
    have h2 : Below ((w.alloc (.cells #[.bool false, .int .i64 d, .int .u64 se, .int .u64 mi, .int .u64 hr, .int .u64 dom, .int .u64 mon, .int .u64 dow] 28)).alloc (.cells #[.int .i64 s, .int .i64 nano] 34)).heap.size ((w.alloc (.cells #[.bool false, .int .i64 d, .int .u64 se, .int .u64 mi, .int .u64 hr, .int .u64 dom, .int .u64 mon, .int .u64 dow] 28)).alloc (.cells #[.int .i64 s, .int .i64 nano] 34)) X := ((Below.refl _ _).alloc (Nat.le_refl _) _).trans (h3.mono (by simp))
    have h1 : Below (w.alloc (.cells #[.bool false, .int .i64 d, .int .u64 se, .int .u64 mi, .int .u64 hr, .int .u64 dom, .int .u64 mon, .int .u64 dow] 28)).heap.size (w.alloc (.cells #[.bool false, .int .i64 d, .int .u64 se, .int .u64 mi, .int .u64 hr, .int .u64 dom, .int .u64 mon, .int .u64 dow] 28)) X := ((Below.refl _ _).alloc (Nat.le_refl _) _).trans (h2.mono (by simp))
    have b0 := cells_after h2 0 _ rfl
    have b1 := cells_after h2 1 _ rfl
    have c0 := cells_after h3 0 _ rfl
    have c1 := cells_after h3 1 _ rfl
    have c2 := cells_after h3 2 _ rfl
    have c3 := cells_after h3 3 _ rfl
    rw [e1] at b0 b1
    rw [e2] at c0 c1 c2 c3
    exact ⟨cells_after h1 0 _ rfl, cells_after h1 1 _ rfl, cells_after h1 2 _ rfl, cells_after h1 3 _ rfl, cells_after h1 4 _ rfl, cells_after h1 5 _ rfl, cells_after h1 6 _ rfl, cells_after h1 7 _ rfl, b0, b1, c0, c1, c2, c3⟩)
  have HL := Lib.hid (fun w1 (hb : Below w.heap.size w w1) => impl_location r co cd cw ci w1 (h.below hb) hok)
  have HM := Lib.hid (fun (b : Nat) w1 (hz : ZoneAt w1 b (Raw.off r)) => moment_any s nano b (Raw.off r) w1 hz n0 n1 (by have := ha.low; omega) (by have := ha.top; omega))
  have HN := Lib.hid (fun (sb : Nat) (loc : Option Addr) w1 (hs : SpecAt w1 sb se mi hr dom mon dow) (hc : Clock w1 loc (Raw.off r)) => time_any sb se mi hr dom mon dow nano s loc (Raw.off r) Y5 o w1 hs hu n0 n1 hc ha)
  have HA := Lib.hid (fun (loc : Option Addr) w1 => answer_any o loc w1 ha.bound)
  have HB0 := Lib.hid hb0
  have HSZ := Lib.hid hsz
  obtain ⟨av, hav⟩ : ∃ av, ansV o = av := ⟨_, rfl⟩
  obtain ⟨x0, p0, hop⟩ : ∃ x0 p0, ansV o = .tuple #[.agg #[.int .i64 x0, .int .i64 0], .bool p0] := by
    cases o with
    | none => exact ⟨0, false, rfl⟩
    | some x => exact ⟨x, true, rfl⟩
  rw [hop] at HA
  rw [hop]
  clear hsz hb0 hav hop h hok hu n0 n1 ha
  go_enter Tryz.func15, Tryz.ntmps15
  go_wp2_with fail
  clear hW0
  obtain ⟨V, hV⟩ : ∃ V, W0.alloc (.cells #[.int .i64 0, .int .i64 0] 34) = V := ⟨_, rfl⟩
  have hbV : Below W0.heap.size W0 V := by rw [← hV]; exact (Below.refl _ _).alloc (Nat.le_refl _) _
  have hsV : W0.heap.size < V.heap.size := by rw [← hV]; simp
  have HD : Hid (∀ X, Below V.heap.size V X → X.cell? ⟨W0.heap.size, 0, none⟩ = some (.int .i64 0) ∧ X.cell? ⟨W0.heap.size, 1, none⟩ = some (.int .i64 0) ∧ X.frozen? ⟨W0.heap.size, 0, none⟩ = false ∧ X.frozen? ⟨W0.heap.size, 1, none⟩ = false) := Lib.hid (fun X hX => by
    rw [← hV] at hX
    exact ⟨cells_after hX 0 _ rfl, cells_after hX 1 _ rfl, free_after hX 0, free_after hX 1⟩)
  have HBV := Lib.hid hbV
  have hnil := nil_next
  have hmeth := meth_next
  have HSV := Lib.hid hsV
  rw [hV]
  clear hV hbV hsV
  go_region_held3 (fun X => X.cell? ⟨w.heap.size, 0, none⟩ = some (.bool false) ∧ X.cell? ⟨w.heap.size, 1, none⟩ = some (.int .i64 d) ∧ X.cell? ⟨w.heap.size, 2, none⟩ = some (.int .u64 se) ∧ X.cell? ⟨w.heap.size, 3, none⟩ = some (.int .u64 mi) ∧ X.cell? ⟨w.heap.size, 4, none⟩ = some (.int .u64 hr) ∧ X.cell? ⟨w.heap.size, 5, none⟩ = some (.int .u64 dom) ∧ X.cell? ⟨w.heap.size, 6, none⟩ = some (.int .u64 mon) ∧ X.cell? ⟨w.heap.size, 7, none⟩ = some (.int .u64 dow) ∧ X.cell? ⟨w.heap.size + 1, 0, none⟩ = some (.int .i64 s) ∧ X.cell? ⟨w.heap.size + 1, 1, none⟩ = some (.int .i64 nano) ∧ X.cell? ⟨w.heap.size + 1 + 1, 0, none⟩ = some (.slice r.ao r.no co) ∧ X.cell? ⟨w.heap.size + 1 + 1, 1, none⟩ = some (.slice r.ad r.nd cd) ∧ X.cell? ⟨w.heap.size + 1 + 1, 2, none⟩ = some (.slice r.aw r.nw cw) ∧ X.cell? ⟨w.heap.size + 1 + 1, 3, none⟩ = some (.slice r.ai r.ni ci)) (exact HKS.out _ (by repeat (first | exact Below.refl _ _ | assumption | exact HBV.out | refine Below.drew ?_ | refine set2 ?_ _ _)))
    ((first
      | (go_at_call 35; (with_reducible refine (schedule_any _ _ _ _ _ _ _ _).mono ?_); rintro x w1 ⟨sb, ⟨rfl, hsp⟩, hb⟩; (have hv1 := undrew hb); (have hb1 := HBV.out.trans (hv1.mono (Nat.le_of_lt HSV.out))); clear hb)
      | (go_at_call 37; (with_reducible refine (HL.out _ (HB0.out.trans (hb1.mono HB0.out.size))).mono ?_); rintro x w2 ⟨lb, ⟨rfl, hz⟩, hb⟩; (have hv2 := hv1.trans (hb.mono hv1.size)); (have hb2 := HBV.out.trans (hv2.mono (Nat.le_of_lt HSV.out))); (have hsp2 := hsp.below hb); clear hb)
      | (go_at_call 36; (with_reducible refine (HM.out lb _ hz).mono ?_); rintro x w3 ⟨loc, ⟨rfl, hcl⟩, hb⟩; (have hv3 := hv2.trans (hb.mono hv2.size)); (have hb3 := HBV.out.trans (hv3.mono (Nat.le_of_lt HSV.out))); (have hsp3 := hsp2.below hb); clear hb)
      | (go_at_call 189; (with_reducible refine (HN.out sb loc _ hsp3 hcl).mono ?_); rintro x w4 ⟨rfl, hb⟩; (have hv4 := hv3.trans (hb.mono hv3.size)); (have hb4 := HBV.out.trans (hv4.mono (Nat.le_of_lt HSV.out))); clear hb)
      | (go_at_call 34; (with_reducible refine (HA.out loc _).mono ?_); rintro x w5 ⟨rfl, hb⟩; (have hv5 := hv4.trans (hb.mono hv4.size)); (have hb5 := HBV.out.trans (hv5.mono (Nat.le_of_lt HSV.out))); (obtain ⟨d0, d1, g0, g1⟩ := HD.out _ hv5); clear hb)))
  all_goals
    go_wp2_with fail
    refine bodyPost_ret (v := .tuple #[.agg #[.int .i64 x0, .int .i64 0], .bool p0]) (by simp [results, Tryz.results15, go_sem, *]) rfl ⟨rfl, ?_⟩
    exact HB0.out.trans ((set2 hb5 _ _).mono HB0.out.size)
end Go.Proofs.YtmnjmhlodbifjaaGreatDoor.NextJ
