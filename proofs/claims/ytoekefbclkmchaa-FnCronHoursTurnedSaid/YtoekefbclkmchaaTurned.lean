/- Hours a number of hours later; a schedule on all days. Conditions: at most 100 hours. -/
import Derived.Test.YtoekefbclkmchaaCase
namespace Go.Proofs.Ytoekefbclkmchaa.Turned
open Go Go.RowKit Go.Proofs.Ytoekefbclkmchaa.Bits Go.Proofs.Ytoekefbclkmchaa.Moment Go.Proofs.Ytoekefbclkmchaa.DayM Go.Proofs.Ytoekefbclkmchaa.Bnd Go.Proofs.Ytoekefbclkmchaa.SetOf Go.Proofs.Ytoekefbclkmchaa.Inst Go.Proofs.Ytoekefbclkmchaa.SpecCal Go.Proofs.Ytoekefbclkmchaa.DayFits Go.Proofs.Ytoekefbclkmchaa.Stars Go.Proofs.Ytoekefbclkmchaa.Case
set_option linter.unusedVariables false

/-- The hours h later, of those before the k-th; the star's mark stays. -/
def turnB (p : Nat → Bool) (h : Int) (k : Nat) (u : Nat) : Bool := (decide (u < 24) && decide (((u : Int) - h) % 24 < k) && p (((u : Int) - h) % 24).toNat) || (p u && decide (u = 63))
theorem turn_start (p : Nat → Bool) (h : Int) : Go.bits .and .u64 (bset p) 9223372036854775808 = bset (turnB p h 0) := by
  rw [show (9223372036854775808 : Int) = IntKind.u64.wrap (2 ^ 63) by decide, wrap_pow, bits_and]
  refine bset_congr (fun i _ => ?_)
  unfold turnB
  have : ¬ (((i : Int) - h) % 24 < ((0 : Nat) : Int)) := by omega
  rw [decide_eq_false this]
  simp
theorem turn_skip (p : Nat → Bool) (h : Int) (k : Nat) (hk : k < 24) (hp : p k = false) : bset (turnB p h k) = bset (turnB p h (k + 1)) := by
  refine bset_congr (fun i _ => ?_)
  unfold turnB
  by_cases c : ((i : Int) - h) % 24 = k
  · rw [c, Int.toNat_natCast, hp]; simp
  · have : decide (((i : Int) - h) % 24 < (k : Int)) = decide (((i : Int) - h) % 24 < ((k + 1 : Nat) : Int)) := by simp; omega
    rw [this]
theorem turn_next (p : Nat → Bool) (h : Int) (k m : Nat) (hk : k < 24) (hm : ((k : Int) + h) % 24 = m) (hp : p k = true) : Go.bits .or .u64 (bset (turnB p h k)) (IntKind.u64.wrap (2 ^ m)) = bset (turnB p h (k + 1)) := by
  rw [wrap_pow, bits_or]
  refine bset_congr (fun i _ => ?_)
  unfold turnB
  by_cases c : i = m
  · subst c
    have h1 : ((i : Int) - h) % 24 = k := by omega
    have h2 : i < 24 := by omega
    rw [h1, Int.toNat_natCast, hp]
    simp [h2]
    exact .inl (by omega)
  · have e1 : decide (i = m) = false := by simpa using c
    rw [e1, Bool.or_false]
    by_cases c2 : i < 24
    · have h1 : ¬ ((i : Int) - h) % 24 = k := by omega
      have : decide (((i : Int) - h) % 24 < (k : Int)) = decide (((i : Int) - h) % 24 < ((k + 1 : Nat) : Int)) := by simp; omega
      rw [this]
    · rw [decide_eq_false c2]; simp

set_option maxRecDepth 100000 in
theorem turned_any (S h : Int) (w : World) (hS : U64 S) (h0 : -100 ≤ h) (h1 : h ≤ 100) :
    Calls Try.prog 33 #[.int .i64 2, .int .u64 S, .int .i64 h] w fun e w' => e = .returned (.int .u64 (bset (turnB (fun v => has S (v : Int)) h 24))) ∧ w = w' := by
  have HH : Hid (∀ w1, Calls Try.prog 40 #[.int .i64 2] w1 fun e w' => e = .returned (.int .i64 23) ∧ w1 = w') := Lib.hid (fun w1 => high_any 2 w1 (by omega))
  have HM := Lib.hid (fun (a : Int) w1 (q0 : -1000 ≤ a) (q1 : a ≤ 1000) => floorMod_any a 24 w1 ⟨by omega, by omega⟩ (by omega) (by omega))
  have HB : Hid (∀ v : Nat, v ≤ 63 → (Go.bits .and .u64 (S / 2 ^ v) 1 == 1) = has S (v : Int)) := Lib.hid (fun v hv => shr_bit S v hS hv)
  obtain ⟨p, hp⟩ : ∃ p : Nat → Bool, (fun v : Nat => has S (v : Int)) = p := ⟨_, rfl⟩
  have hpe : ∀ v : Nat, has S (v : Int) = p v := fun v => by rw [← hp]
  have HT0 : Go.bits .and .u64 S 9223372036854775808 = bset (turnB p h 0) := by
    rw [← turn_start p h]
    congr 1
    rw [← hp]
    have := eq_bset S hS.1 (by have := hS.2; omega)
    rw [this]
    refine bset_congr (fun i hi => ?_)
    rw [has_bset _ i hi]
  rw [hp]
  clear hp
  have HPE := Lib.hid hpe
  clear hpe hS
  go_enter Try.func33, Try.ntmps33
  go_wp2_with (go_at_call 40; refine (HH.out _).mono ?_; rintro e w' ⟨rfl, rfl⟩)
  go_loop [8, 16] (fun a b => ∃ k : Nat, a = .int .u64 (bset (turnB p h k)) ∧ b = .int .i64 (k : Int) ∧ k ≤ 24) (fun _ b => (24 - intOf b).toNat)
  case atStart => exact ⟨0, rfl, rfl, by omega⟩
  case round =>
    obtain ⟨k, rfl, rfl, hk⟩ := hrel
    by_cases k24 : k < 24
    · have hb := HB.out k (by omega)
      rw [HPE.out k] at hb
      obtain ⟨m, hm⟩ : ∃ m : Nat, ((k : Int) + h) % 24 = m := ⟨(((k : Int) + h) % 24).toNat, by omega⟩
      have hm24 : m < 24 := by omega
      have HMK : Hid (∀ w1, Calls Try.prog 49 #[.int .i64 ((k : Int) + h), .int .i64 24] w1 fun e w' => e = .returned (.int .i64 (m : Int)) ∧ w1 = w') := Lib.hid (fun w1 => by have := HM.out ((k : Int) + h) w1 (by omega) (by omega); rw [hm] at this; exact this)
      obtain ⟨q, hq⟩ : ∃ q, p k = q := ⟨_, rfl⟩
      rw [hq] at hb
      cases q
      · have HN := Lib.hid (turn_skip p h k k24 hq)
        clear hq hm
        go_wp2_with fail
        refine ⟨⟨k + 1, by rw [HN.out], by go_num, by omega⟩, by simp [intOf]; omega⟩
      · have HN := Lib.hid (turn_next p h k m k24 hm hq)
        have v1 : min ((m : Nat) : Int).toNat 64 = m := by omega
        clear hq hm
        go_wp2_with (go_at_call 49; refine (HMK.out _).mono ?_; rintro e w' ⟨rfl, rfl⟩)
        refine ⟨⟨k + 1, by rw [HN.out], by go_num, by omega⟩, by simp [intOf]; omega⟩
    · obtain rfl : k = 24 := by omega
      go_wp2_with fail
      go_ret
      exact ⟨rfl, rfl⟩

theorem set1 {B b i : Nat} {w X : World} {v : Value} (h : Below B w X) (hb : B ≤ b) : Below B w (X.setCell ⟨b, i, none⟩ v) := h.setCell (p := ⟨b, i, none⟩) hb v
set_option maxHeartbeats 1000000 in
set_option maxRecDepth 100000 in
theorem eachDay_any (ev : Bool) (d se mi hr dom mon dow : Int) (w : World) : Calls Try.prog 32 #[.agg #[.bool ev, .int .i64 d, .int .u64 se, .int .u64 mi, .int .u64 hr, .int .u64 dom, .int .u64 mon, .int .u64 dow]] w fun e w' => e = .returned (.agg #[.bool ev, .int .i64 d, .int .u64 se, .int .u64 mi, .int .u64 hr, .int .u64 (starSet 3), .int .u64 (starSet 4), .int .u64 (starSet 5)]) ∧ Below w.heap.size w w' := by
  obtain ⟨V, hV⟩ : ∃ V, ((w.alloc (.cells #[.bool ev, .int .i64 d, .int .u64 se, .int .u64 mi, .int .u64 hr, .int .u64 dom, .int .u64 mon, .int .u64 dow] 51)).alloc (.cells #[.bool false, .int .i64 0, .int .u64 0, .int .u64 0, .int .u64 0, .int .u64 0, .int .u64 0, .int .u64 0] 51)) = V := ⟨_, rfl⟩
  have hbV : Below w.heap.size w V := by rw [← hV]; exact ((Below.refl _ _).alloc (Nat.le_refl _) _).alloc (by simp) _
  have HKS : Hid (∀ X, Below V.heap.size V X → ((X.cell? ⟨w.heap.size, 0, none⟩ = some (.bool ev) ∧ X.cell? ⟨w.heap.size, 1, none⟩ = some (.int .i64 d) ∧ X.cell? ⟨w.heap.size, 2, none⟩ = some (.int .u64 se) ∧ X.cell? ⟨w.heap.size, 3, none⟩ = some (.int .u64 mi) ∧ X.cell? ⟨w.heap.size, 4, none⟩ = some (.int .u64 hr) ∧ X.cell? ⟨w.heap.size, 5, none⟩ = some (.int .u64 dom) ∧ X.cell? ⟨w.heap.size, 6, none⟩ = some (.int .u64 mon) ∧ X.cell? ⟨w.heap.size, 7, none⟩ = some (.int .u64 dow)) ∧ X.frozen? ⟨w.heap.size, 0, none⟩ = false ∧ X.frozen? ⟨w.heap.size, 1, none⟩ = false ∧ X.frozen? ⟨w.heap.size, 2, none⟩ = false ∧ X.frozen? ⟨w.heap.size, 3, none⟩ = false ∧ X.frozen? ⟨w.heap.size, 4, none⟩ = false ∧ X.frozen? ⟨w.heap.size, 5, none⟩ = false ∧ X.frozen? ⟨w.heap.size, 6, none⟩ = false ∧ X.frozen? ⟨w.heap.size, 7, none⟩ = false) ∧ (X.cell? ⟨w.heap.size + 1, 0, none⟩ = some (.bool false) ∧ X.cell? ⟨w.heap.size + 1, 1, none⟩ = some (.int .i64 0) ∧ X.cell? ⟨w.heap.size + 1, 2, none⟩ = some (.int .u64 0) ∧ X.cell? ⟨w.heap.size + 1, 3, none⟩ = some (.int .u64 0) ∧ X.cell? ⟨w.heap.size + 1, 4, none⟩ = some (.int .u64 0) ∧ X.cell? ⟨w.heap.size + 1, 5, none⟩ = some (.int .u64 0) ∧ X.cell? ⟨w.heap.size + 1, 6, none⟩ = some (.int .u64 0) ∧ X.cell? ⟨w.heap.size + 1, 7, none⟩ = some (.int .u64 0)) ∧ X.frozen? ⟨w.heap.size + 1, 0, none⟩ = false ∧ X.frozen? ⟨w.heap.size + 1, 1, none⟩ = false ∧ X.frozen? ⟨w.heap.size + 1, 2, none⟩ = false ∧ X.frozen? ⟨w.heap.size + 1, 3, none⟩ = false ∧ X.frozen? ⟨w.heap.size + 1, 4, none⟩ = false ∧ X.frozen? ⟨w.heap.size + 1, 5, none⟩ = false ∧ X.frozen? ⟨w.heap.size + 1, 6, none⟩ = false ∧ X.frozen? ⟨w.heap.size + 1, 7, none⟩ = false) := Lib.hid (fun X hX => by
    have e1 : (w.alloc (.cells #[.bool ev, .int .i64 d, .int .u64 se, .int .u64 mi, .int .u64 hr, .int .u64 dom, .int .u64 mon, .int .u64 dow] 51)).heap.size = w.heap.size + 1 := by simp
    have h2 : Below ((w.alloc (.cells #[.bool ev, .int .i64 d, .int .u64 se, .int .u64 mi, .int .u64 hr, .int .u64 dom, .int .u64 mon, .int .u64 dow] 51)).alloc (.cells #[.bool false, .int .i64 0, .int .u64 0, .int .u64 0, .int .u64 0, .int .u64 0, .int .u64 0, .int .u64 0] 51)).heap.size ((w.alloc (.cells #[.bool ev, .int .i64 d, .int .u64 se, .int .u64 mi, .int .u64 hr, .int .u64 dom, .int .u64 mon, .int .u64 dow] 51)).alloc (.cells #[.bool false, .int .i64 0, .int .u64 0, .int .u64 0, .int .u64 0, .int .u64 0, .int .u64 0, .int .u64 0] 51)) X := by rw [hV]; exact hX
    have h1 : Below (w.alloc (.cells #[.bool ev, .int .i64 d, .int .u64 se, .int .u64 mi, .int .u64 hr, .int .u64 dom, .int .u64 mon, .int .u64 dow] 51)).heap.size (w.alloc (.cells #[.bool ev, .int .i64 d, .int .u64 se, .int .u64 mi, .int .u64 hr, .int .u64 dom, .int .u64 mon, .int .u64 dow] 51)) X := ((Below.refl _ _).alloc (Nat.le_refl _) _).trans (h2.mono (by simp))
    have b : ∀ i v, #[.bool false, .int .i64 0, .int .u64 0, .int .u64 0, .int .u64 0, .int .u64 0, .int .u64 0, .int .u64 0][i]? = some v → X.cell? ⟨w.heap.size + 1, i, none⟩ = some v := fun i v hv => by
      have := cells_after h2 i v hv
      rw [e1] at this
      exact this
    have g : ∀ i, X.frozen? ⟨w.heap.size + 1, i, none⟩ = false := fun i => by
      have := free_after h2 i
      rw [e1] at this
      exact this
    exact ⟨⟨⟨cells_after h1 0 _ rfl, cells_after h1 1 _ rfl, cells_after h1 2 _ rfl, cells_after h1 3 _ rfl, cells_after h1 4 _ rfl, cells_after h1 5 _ rfl, cells_after h1 6 _ rfl, cells_after h1 7 _ rfl⟩, free_after h1 0, free_after h1 1, free_after h1 2, free_after h1 3, free_after h1 4, free_after h1 5, free_after h1 6, free_after h1 7⟩, ⟨b 0 _ rfl, b 1 _ rfl, b 2 _ rfl, b 3 _ rfl, b 4 _ rfl, b 5 _ rfl, b 6 _ rfl, b 7 _ rfl⟩, g 0, g 1, g 2, g 3, g 4, g 5, g 6, g 7⟩)
  have HB := Lib.hid hbV
  have H4 := Lib.hid (fun w1 => cronAll_any 4 w1 (by omega))
  have H3 := Lib.hid (fun w1 => cronAll_any 3 w1 (by omega))
  have H5 := Lib.hid (fun w1 => cronAll_any 5 w1 (by omega))
  clear hbV
  go_enter Try.func32, Try.ntmps32
  go_wp2_with fail
  refine (H4.out _).mono ?_
  rintro x w1 ⟨rfl, hb1⟩
  have HB1 := Lib.hid hb1
  clear hV hb1
  go_wp2_with fail
  refine (H3.out _).mono ?_
  rintro x w2 ⟨rfl, hb2⟩
  have HB2 := Lib.hid (HB1.out.trans (hb2.mono HB1.out.size))
  clear hb2
  go_wp2_with fail
  refine (H5.out _).mono ?_
  rintro x w3 ⟨rfl, hb3⟩
  have HB3 := Lib.hid (HB2.out.trans (hb3.mono HB2.out.size))
  obtain ⟨⟨⟨c0, c1, c2, c3, c4, c5, c6, c7⟩, f0, f1, f2, f3, f4, f5, f6, f7⟩, ⟨d0, d1, d2, d3, d4, d5, d6, d7⟩, g0, g1, g2, g3, g4, g5, g6, g7⟩ := HKS.out w3 HB3.out
  clear hb3
  go_wp2_with fail
  refine bodyPost_ret (v := .agg #[.bool ev, .int .i64 d, .int .u64 se, .int .u64 mi, .int .u64 hr, .int .u64 (starSet 3), .int .u64 (starSet 4), .int .u64 (starSet 5)]) (by simp [results, Try.results32, go_sem, *]) rfl ⟨rfl, ?_⟩
  repeat (refine set1 ?_ (by omega))
  exact HB.out.trans (HB3.out.mono HB.out.size)

end Go.Proofs.Ytoekefbclkmchaa.Turned
