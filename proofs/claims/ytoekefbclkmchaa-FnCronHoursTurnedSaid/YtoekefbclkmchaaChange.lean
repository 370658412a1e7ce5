/- The reference's CronChange, and what lies between two changes. Conditions: UTC or a zone in order. -/
import Derived.Test.YtoekefbclkmchaaZone3
import Derived.Test.YtoekefbclkmchaaDayFits
namespace Go.Proofs.Ytoekefbclkmchaa.Change
open Go Go.RowKit Go.Proofs.Ytoekefbclkmchaa.Cal Go.Proofs.Ytoekefbclkmchaa.Off Go.Proofs.Ytoekefbclkmchaa.TimeNum Go.Proofs.Ytoekefbclkmchaa.Lookup Go.Proofs.Ytoekefbclkmchaa.Zone Go.Proofs.Ytoekefbclkmchaa.Zone2 Go.Proofs.Ytoekefbclkmchaa.DayFits
set_option linter.unusedVariables false

/-- The first transition behind an instant, if there is one. -/
def ChangeIs (r : Raw) (s : Int) (x : Int) (b : Bool) : Prop :=
  (b = true ∧ s < x ∧ (∃ i, i < r.nw ∧ r.wh i = x) ∧ ∀ i, i < r.nw → r.wh i ≤ s ∨ x ≤ r.wh i) ∨ (b = false ∧ ∀ i, i < r.nw → r.wh i ≤ s)
def ChangeRes (r : Raw) (s : Int) (w : World) (e : Ending) (w' : World) : Prop := (∃ x b, e = .returned (.tuple #[.int .i64 x, .bool b]) ∧ ChangeIs r s x b) ∧ Below w.heap.size w w'

set_option maxHeartbeats 1000000 in
theorem change_any (r : Raw) (co cd cw ci : Nat) (s : Int) (w : World) (h : r.At w) (hok : r.Ok) :
    Calls Try.prog 27 #[.agg #[.slice r.ao r.no co, .slice r.ad r.nd cd, .slice r.aw r.nw cw, .slice r.ai r.ni ci], .int .i64 s] w (ChangeRes r s w) := by
  obtain ⟨ao, ad, aw, ai, no, nd, nw, ni, o, d, wh, ix⟩ := r
  obtain ⟨ro, rd, rw', ri, -, -, lw, -, bo, bw, bi⟩ := h
  simp only at *
  have HA : Hid (∀ i j, i ≤ j → j < nw → wh i ≤ wh j) := Lib.hid (fun i j hij hj => by
    rcases hok with ⟨-, -, z2, -⟩ | ⟨hg, -, -, -⟩
    · simp only at z2; omega
    · exact hg.asc' hij hj)
  have hbw : Below w.heap.size w (w.alloc (.cells #[.slice ao no co, .slice ad nd cd, .slice aw nw cw, .slice ai ni ci] 29)) := (Below.refl _ _).alloc (Nat.le_refl _) _
  have HW := Lib.hid (rw'.below hbw)
  have HB := Lib.hid hbw
  clear hok ro rd rw' ri bo bi hbw
  have HLW := Lib.hid lw
  clear bw
  go_enter Try.func27, Try.ntmps27
  go_wp2
  go_loop [11] (fun i => ∃ k : Nat, k ≤ nw ∧ i = .int .i64 (k : Int) ∧ Hid (∀ j, j < k → wh j ≤ s)) (fun i => nw - (intOf i).toNat)
  case atStart => exact ⟨0, Nat.zero_le _, rfl, Lib.hid (fun j hj => absurd hj (Nat.not_lt_zero j))⟩
  case round =>
    obtain ⟨k, hk, rfl, HK⟩ := hrel
    by_cases hlt : k < nw
    · obtain ⟨x, hx, hc⟩ := HW.out k hlt
      subst hx
      by_cases hs : s < wh k
      · go_wp2
        exact bodyPost_ret (v := .tuple #[.int .i64 (wh k), .bool true]) (by simp [results, Try.results27, go_sem, *]) rfl ⟨⟨_, _, rfl, .inl ⟨rfl, hs, ⟨k, hlt, rfl⟩, fun i hi => by
          by_cases c : i < k
          · exact .inl (HK.out i c)
          · exact .inr (HA.out k i (by omega) hi)⟩⟩, HB.out⟩
      · go_wp2
        refine ⟨⟨k + 1, by omega, by go_num, Lib.hid (fun j hj => by
          by_cases c : j < k
          · exact HK.out j c
          · obtain rfl : j = k := by omega
            omega)⟩, by simp [intOf]; omega⟩
    · obtain rfl : k = nw := by omega
      have hd : decide ((k : Int) < (k : Int)) = false := by simp
      go_wp2
      exact bodyPost_ret (v := .tuple #[.int .i64 0, .bool false]) (by simp [results, Try.results27, go_sem, *]) rfl ⟨⟨_, _, rfl, .inr ⟨rfl, HK.out⟩⟩, HB.out⟩

/-! ### Between changes -/
theorem offK_same (o : Nat → Int) (wh : Nat → Int) (ix : Nat → Nat) (y z : Int) : ∀ k, (∀ i, i < k → (wh i ≤ y ↔ wh i ≤ z)) → offK o wh ix y k = offK o wh ix z k := by
  intro k
  induction k with
  | zero => intro _; rfl
  | succ k ih =>
    intro h
    have h1 := h k (by omega)
    unfold offK
    by_cases c : wh k ≤ y
    · rw [if_pos c, if_pos (h1.1 c)]
    · rw [if_neg c, if_neg (fun c2 => c (h1.2 c2)), ih (fun i hi => h i (by omega))]
theorem off_same (r : Raw) {y z : Int} (hyz : y ≤ z) (h : ∀ i, i < r.nw → r.wh i ≤ y ∨ z < r.wh i) : Raw.off r y = Raw.off r z := by
  unfold Raw.off ZoneD.off
  refine offK_same _ _ _ _ _ _ (fun i hi => ?_)
  have : r.toD.wh i = r.wh i := rfl
  rw [this]
  rcases h i hi with c | c
  · exact ⟨fun _ => by omega, fun _ => c⟩
  · exact ⟨fun c2 => by omega, fun c2 => by omega⟩
/-- Before the first change behind s the clocks are as at s. -/
theorem ChangeIs.before {r : Raw} {s x y : Int} (h : ChangeIs r s x true) (h1 : s ≤ y) (h2 : y < x) : Raw.off r y = Raw.off r s := by
  rcases h with ⟨-, h3, -, h4⟩ | ⟨h3, -⟩
  · refine (off_same r h1 (fun i hi => ?_)).symm
    rcases h4 i hi with c | c
    · exact .inl c
    · exact .inr (by omega)
  · cases h3
theorem ChangeIs.after {r : Raw} {s x y : Int} (h : ChangeIs r s x false) (h1 : s ≤ y) : Raw.off r y = Raw.off r s := by
  rcases h with ⟨h3, -⟩ | ⟨-, h4⟩
  · cases h3
  · exact (off_same r h1 (fun i hi => .inl (h4 i hi))).symm

end Go.Proofs.Ytoekefbclkmchaa.Change
