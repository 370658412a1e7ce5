/- The reference's cronTime: the least second of a day in the sets. Conditions: a second of a day. -/
import Derived.Test.YtoekefbclkmchaaNever
namespace Go.Proofs.Ytoekefbclkmchaa.CronTime
open Go Go.RowKit Go.Proofs.Ytoekefbclkmchaa.Set Go.Proofs.Ytoekefbclkmchaa.Fields Go.Proofs.Ytoekefbclkmchaa.SetOf Go.Proofs.Ytoekefbclkmchaa.Moment Go.Proofs.Ytoekefbclkmchaa.DayM Go.Proofs.Ytoekefbclkmchaa.DayFits Go.Proofs.Ytoekefbclkmchaa.FieldsOf Go.Proofs.Ytoekefbclkmchaa.Never
set_option linter.unusedVariables false

def tfit (f : Nat → Nat → Bool) (e : Nat) : Bool := f 2 (e / 3600) && f 1 (e % 3600 / 60) && f 0 (e % 60)
def NoT (f : Nat → Nat → Bool) (from' n : Nat) : Prop := ∀ e, from' ≤ e → e < n → tfit f e = false
def TimeRes (f : Nat → Nat → Bool) (from' : Nat) (w : World) (x : Ending) (w' : World) : Prop :=
  (∃ T : Int, x = .returned (.int .i64 T) ∧ ((∃ e : Nat, T = (e : Int) ∧ from' ≤ e ∧ e < 86400 ∧ tfit f e = true ∧ NoT f from' e) ∨ (T = -1 ∧ NoT f from' 86400))) ∧ Below w.heap.size w w'

section
variable {f : Nat → Nat → Bool} {a n : Nat}
theorem NoT.hour {h : Nat} (h0 : NoT f a (3600 * h)) (hp : f 2 h = false) : NoT f a (3600 * (h + 1)) := fun e e1 e2 => by
  by_cases c : e < 3600 * h
  · exact h0 e e1 c
  · unfold tfit
    rw [show e / 3600 = h by omega, hp]
    rfl
theorem NoT.minute {h m : Nat} (h0 : NoT f a (3600 * h + 60 * m)) (hm : m < 60) (hp : f 1 m = false ∨ 3600 * h + 60 * m + 59 < a) : NoT f a (3600 * h + 60 * (m + 1)) := fun e e1 e2 => by
  by_cases c : e < 3600 * h + 60 * m
  · exact h0 e e1 c
  · rcases hp with hp | hp
    · unfold tfit
      rw [show e % 3600 / 60 = m by omega, hp]
      simp
    · omega
theorem NoT.second {h m s : Nat} (h0 : NoT f a (3600 * h + 60 * m + s)) (hm : m < 60) (hs : s < 60) (hp : f 0 s = false) : NoT f a (3600 * h + 60 * m + (s + 1)) := fun e e1 e2 => by
  by_cases c : e < 3600 * h + 60 * m + s
  · exact h0 e e1 c
  · unfold tfit
    rw [show e % 60 = s by omega, hp]
    simp
end

set_option maxHeartbeats 2000000 in
set_option maxRecDepth 100000 in
theorem time_any (st : Nat → Bool) (f : Nat → Nat → Bool) (a : Nat) (w : World) (ha : a < 86400) :
    Calls Try.prog 68 #[.agg (fldArr st f), .int .i64 (a : Int)] w (TimeRes f a w) := by
  have hF := FldAt.new w st f
  have hb : Below w.heap.size w (w.alloc (.cells (fldArr st f) 39)) := (Below.refl _ _).alloc (Nat.le_refl _) _
  have HF := Lib.hid hF
  have HB := Lib.hid hb
  have v0 : IntKind.i64.wrap ((a : Int).tdiv 3600) = ((a / 3600 : Nat) : Int) := by
    rw [Int.tdiv_eq_ediv_of_nonneg (by omega)]
    exact IntWalk.i64_in _ (by omega)
  obtain ⟨a0, ha0⟩ : ∃ a0, a / 3600 = a0 := ⟨_, rfl⟩
  have HA0 := Lib.hid ha0
  rw [ha0] at v0
  have ha1 : a0 < 24 := by omega
  clear hF hb ha0
  go_enter Try.func68, Try.ntmps68
  go_wp2_with (with_reducible refine wpList_box_fields rfl (.tmp 0) rfl st f rfl ?_)
  go_loop [5] (fun v => ∃ k : Nat, v = .int .i64 (k : Int) ∧ a0 ≤ k ∧ k ≤ 24 ∧ Hid (NoT f a (3600 * k))) (fun v => (24 - intOf v).toNat)
  case atStart => exact ⟨a0, by have := HA0.out; congr 1; omega, by omega, by omega, Lib.hid (fun e e1 e2 => by have := HA0.out; omega)⟩
  case round =>
    obtain ⟨k, rfl, k0, k1, HN⟩ := hrel
    by_cases k24 : k < 24
    · have c2 : (w.alloc (.cells (fldArr st f) 39)).cell? ⟨w.heap.size, 129 + k, none⟩ = some (.bool (f 2 k)) := HF.out.val 2 k (by omega) (by omega)
      have i1 : (k : Int) < 63 := by omega
      obtain ⟨p, hp⟩ : ∃ p, f 2 k = p := ⟨_, rfl⟩
      rw [hp] at c2
      have HP := Lib.hid hp
      clear hp
      cases p
      · go_wp2_with fail
        refine ⟨⟨k + 1, by go_num, by omega, by omega, Lib.hid (HN.out.hour HP.out)⟩, by simp [intOf]; omega⟩
      · go_wp2_with fail
        go_loop [21] (fun v => ∃ m : Nat, v = .int .i64 (m : Int) ∧ m ≤ 60 ∧ Hid (NoT f a (3600 * k + 60 * m))) (fun v => (60 - intOf v).toNat)
        case atStart => exact ⟨0, rfl, by omega, Lib.hid HN.out⟩
        case round =>
          obtain ⟨m, rfl, m1, HM⟩ := hrel
          by_cases m60 : m < 60
          · have c1 : (w.alloc (.cells (fldArr st f) 39)).cell? ⟨w.heap.size, 65 + m, none⟩ = some (.bool (f 1 m)) := HF.out.val 1 m (by omega) (by omega)
            have i2 : (m : Int) < 63 := by omega
            obtain ⟨q, hq⟩ : ∃ q, f 1 m = q := ⟨_, rfl⟩
            rw [hq] at c1
            have HQ := Lib.hid hq
            clear hq
            cases q
            · go_wp2_with fail
              refine ⟨⟨m + 1, by go_num, by omega, Lib.hid (HM.out.minute m60 (.inl HQ.out))⟩, by simp [intOf]; omega⟩
            · by_cases hlt : (3600 * (k : Int) + 60 * (m : Int) + 59 < (a : Int))
              · go_wp2_with fail
                refine ⟨⟨m + 1, by go_num, by omega, Lib.hid (HM.out.minute m60 (.inr (by omega)))⟩, by simp [intOf]; omega⟩
              · obtain ⟨s0, hs0⟩ : ∃ s0 : Nat, max 0 ((a : Int) - (3600 * (k : Int) + 60 * (m : Int))) = (s0 : Int) := ⟨(max 0 ((a : Int) - (3600 * (k : Int) + 60 * (m : Int)))).toNat, by omega⟩
                have hs1 : s0 ≤ 59 := by omega
                have HS0 : Hid (NoT f a (3600 * k + 60 * m + s0)) := Lib.hid (fun e e1 e2 => by
                  by_cases c : e < 3600 * k + 60 * m
                  · exact HM.out e e1 c
                  · omega)
                have HS1 : Hid (a ≤ 3600 * k + 60 * m + s0) := Lib.hid (by omega)
                have HS2 := Lib.hid hs0
                clear hs0
                go_wp2_with fail
                all_goals
                  go_loop [8] (fun v => ∃ s : Nat, v = .int .i64 (s : Int) ∧ s ≤ 60 ∧ Hid (a ≤ 3600 * k + 60 * m + s) ∧ Hid (NoT f a (3600 * k + 60 * m + s))) (fun v => (60 - intOf v).toNat)
                  case atStart => exact ⟨s0, by have := HS2.out; congr 1; omega, by omega, HS1, HS0⟩
                  case round =>
                    obtain ⟨s, rfl, s1, HS, HO⟩ := hrel
                    by_cases s60 : s < 60
                    · have c0 : (w.alloc (.cells (fldArr st f) 39)).cell? ⟨w.heap.size, 1 + s, none⟩ = some (.bool (f 0 s)) := by
                        have := HF.out.val 0 s (by omega) (by omega)
                        simpa using this
                      have i3 : (s : Int) < 63 := by omega
                      obtain ⟨r, hr⟩ : ∃ r, f 0 s = r := ⟨_, rfl⟩
                      rw [hr] at c0
                      have HR := Lib.hid hr
                      clear hr
                      cases r
                      · go_wp2_with fail
                        refine ⟨⟨s + 1, by go_num, by omega, Lib.hid (by have := HS.out; omega), Lib.hid (HO.out.second m60 s60 HR.out)⟩, by simp [intOf]; omega⟩
                      · go_wp2_with fail
                        go_ret
                        refine ⟨⟨_, rfl, .inl ⟨3600 * k + 60 * m + s, by go_num, HS.out, by omega, ?_, HO.out⟩⟩, HB.out⟩
                        unfold tfit
                        rw [show (3600 * k + 60 * m + s) / 3600 = k by omega, show (3600 * k + 60 * m + s) % 3600 / 60 = m by omega, show (3600 * k + 60 * m + s) % 60 = s by omega, HP.out, HQ.out, HR.out]
                        rfl
                    · obtain rfl : s = 60 := by omega
                      go_wp2_with fail
                      refine ⟨⟨m + 1, by go_num, by omega, Lib.hid (by have := HO.out; rw [show 3600 * k + 60 * (m + 1) = 3600 * k + 60 * m + 60 by omega]; exact this)⟩, by simp [intOf]; omega⟩
          · obtain rfl : m = 60 := by omega
            go_wp2_with fail
            refine ⟨⟨k + 1, by go_num, by omega, by omega, Lib.hid (by have := HM.out; rw [show 3600 * (k + 1) = 3600 * k + 60 * 60 by omega]; exact this)⟩, by simp [intOf]; omega⟩
    · obtain rfl : k = 24 := by omega
      go_wp2_with fail
      go_ret
      exact ⟨⟨_, rfl, .inr ⟨rfl, HN.out⟩⟩, HB.out⟩

end Go.Proofs.Ytoekefbclkmchaa.CronTime
