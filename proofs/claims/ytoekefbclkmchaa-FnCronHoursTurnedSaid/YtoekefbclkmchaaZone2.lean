/- Zones that come in: the reference's offset, and the program's place. Conditions: UTC or a zone in order. -/
import Derived.Test.YtoekefbclkmchaaZone
import Derived.Test.YtoekefbclkmchaaTime2
import Derived.Test.YtoekefbclkmchaaMem
namespace Go.Proofs.Ytoekefbclkmchaa.Zone2
open Go Go.RowKit Go.Proofs.Ytoekefbclkmchaa.Cal Go.Proofs.Ytoekefbclkmchaa.Off Go.Proofs.Ytoekefbclkmchaa.TimeNum Go.Proofs.Ytoekefbclkmchaa.Lookup Go.Proofs.Ytoekefbclkmchaa.Time Go.Proofs.Ytoekefbclkmchaa.Time2 Go.Proofs.Ytoekefbclkmchaa.SpecCal Go.Proofs.Ytoekefbclkmchaa.Zone
set_option linter.unusedVariables false

def FitRes (r : Raw) (w : World) (e : Ending) (w' : World) : Prop := ∃ g : Bool, e = .returned (.bool g) ∧ (g = true → r.no ≤ 2147483647 ∧ r.nd ≤ 2147483647 ∧ r.nw ≤ 2147483647 ∧ r.ni ≤ 2147483647) ∧ Below w.heap.size w w'
set_option maxHeartbeats 1000000 in
theorem fits_any (r : Raw) (co cd cw ci : Nat) (w : World) :
    Calls Try.prog 10 #[.agg #[.slice r.ao r.no co, .slice r.ad r.nd cd, .slice r.aw r.nw cw, .slice r.ai r.ni ci]] w (FitRes r w) := by
  obtain ⟨ao, ad, aw, ai, no, nd, nw, ni, o, d, wh, ix⟩ := r
  simp only
  by_cases h0 : 2147483647 < no
  · go_enter Try.func10, Try.ntmps10
    go_wp2
    go_ret
    exact ⟨_, rfl, (fun h => by cases h), (Below.refl _ _).alloc (Nat.le_refl _) _⟩
  by_cases h1 : 2147483647 < nd
  · go_enter Try.func10, Try.ntmps10
    go_wp2
    go_ret
    exact ⟨_, rfl, (fun h => by cases h), (Below.refl _ _).alloc (Nat.le_refl _) _⟩
  by_cases h2 : 2147483647 < nw
  · go_enter Try.func10, Try.ntmps10
    go_wp2
    go_ret
    exact ⟨_, rfl, (fun h => by cases h), (Below.refl _ _).alloc (Nat.le_refl _) _⟩
  by_cases h3 : 2147483647 < ni
  · go_enter Try.func10, Try.ntmps10
    go_wp2
    go_ret
    exact ⟨_, rfl, (fun h => by cases h), (Below.refl _ _).alloc (Nat.le_refl _) _⟩
  go_enter Try.func10, Try.ntmps10
  go_wp2
  go_ret
  exact ⟨_, rfl, (fun _ => ⟨by show no ≤ _; omega, by show nd ≤ _; omega, by show nw ≤ _; omega, by show ni ≤ _; omega⟩), (Below.refl _ _).alloc (Nat.le_refl _) _⟩

/-- A zone's clocks. -/
def Raw.off (r : Raw) : Int → Int := r.toD.off
theorem off_utc {r : Raw} (h : r.nw = 0) : Raw.off r = zero := by
  funext s
  unfold Raw.off ZoneD.off Raw.toD zero
  simp only
  rw [h]; rfl

set_option maxHeartbeats 1000000 in
theorem offset_any (r : Raw) (co cd cw ci : Nat) (sec : Int) (w : World) (h : r.At w) (hok : r.Ok) :
    Calls Try.prog 25 #[.agg #[.slice r.ao r.no co, .slice r.ad r.nd cd, .slice r.aw r.nw cw, .slice r.ai r.ni ci], .int .i64 sec] w fun e w' => e = .returned (.int .i64 (Raw.off r sec)) ∧ Below w.heap.size w w' := by
  obtain ⟨ao, ad, aw, ai, no, nd, nw, ni, o, d, wh, ix⟩ := r
  obtain ⟨ro, rd, rw', ri, -, -, -, -, bo, bw, bi⟩ := h
  rcases hok with ⟨z0, z1, z2, z3⟩ | ⟨hg, z1, z2, z3⟩
  · simp only at *
    subst z0; subst z1; subst z2; subst z3
    have HO := Lib.hid (off_utc (r := ⟨ao, ad, aw, ai, 0, 0, 0, 0, o, d, wh, ix⟩) rfl)
    clear ro rd rw' ri bo bw bi
    go_enter Try.func25, Try.ntmps25
    go_wp2
    go_loop [5, 11] (fun a i => a = .int .i64 0 ∧ i = .int .i64 0) (fun _ _ => 0)
    case atStart => exact ⟨rfl, rfl⟩
    case round =>
      obtain ⟨rfl, rfl⟩ := hrel
      go_wp2
      go_ret
      exact ⟨ret_i (by rw [HO.out]; rfl), (Below.refl _ _).alloc (Nat.le_refl _) _⟩
  · simp only at *
    subst z1; subst z2
    have hn1 : 1 ≤ nd := hg.n1
    have hn2 : nd ≤ 64 := hg.n64
    have hm1 : 1 ≤ ni := hg.m1
    have hm2 : ni ≤ 4096 := hg.m4096
    obtain ⟨xo, rfl, -⟩ := ro 0 (by omega)
    obtain ⟨xw, rfl, -⟩ := rw' 0 (by omega)
    obtain ⟨xi, rfl, -⟩ := ri 0 (by omega)
    have hbw : Below w.heap.size w (w.alloc (.cells #[.slice (some xo) nd co, .slice ad nd cd, .slice (some xw) ni cw, .slice (some xi) ni ci] 29)) := (Below.refl _ _).alloc (Nat.le_refl _) _
    have HO := Lib.hid (ro.below hbw)
    have HW := Lib.hid (rw'.below hbw)
    have HI := Lib.hid (ri.below hbw)
    have HZ := Lib.hid z3
    have HG := Lib.hid hg
    have HBO := Lib.hid bo
    have HBW := Lib.hid bw
    clear ro rd rw' ri bo bw bi z3 hg
    go_enter Try.func25, Try.ntmps25
    go_wp2
    go_loopw [5, 11] (fun a i wr => ∃ k : Nat, k ≤ ni ∧ i = .int .i64 (k : Int) ∧ a = .int .i64 (offK o wh (fun i => (ix i).toNat) sec k) ∧ Hid (Below (w.alloc (.cells #[.slice (some xo) nd co, .slice ad nd cd, .slice (some xw) ni cw, .slice (some xi) ni ci] 29)).heap.size (w.alloc (.cells #[.slice (some xo) nd co, .slice ad nd cd, .slice (some xw) ni cw, .slice (some xi) ni ci] 29)) wr)) (fun _ i _ => ni - (intOf i).toNat)
    case atStart => exact ⟨0, Nat.zero_le _, rfl, rfl, Lib.hid (Below.refl _ _)⟩
    case round =>
      obtain ⟨k, hk, rfl, rfl, HX⟩ := hrel
      obtain ⟨q0, q1, q2, q3⟩ := box4_after HX.out
      by_cases hlt : k < ni
      · have hcw := (HW.out.below HX.out).cell hlt
        have hwb := HBW.out k hlt
        by_cases hs : wh k ≤ sec
        · have hci := (HI.out.below HX.out).cell hlt
          have hix := HZ.out k hlt
          obtain ⟨q, hq⟩ : ∃ q : Nat, ix k = q := ⟨(ix k).toNat, by omega⟩
          have hqn : q < nd := by have := HG.out.ixn k hlt; simp only [Raw.toD] at this; omega
          have hco := (HO.out.below HX.out).cell hqn
          rw [hq] at hci
          have HF := Lib.hid (show offK o wh (fun i => (ix i).toNat) sec (k + 1) = o q by
            rw [offK]; rw [if_pos hs, hq]; simp)
          clear hq hix
          go_wp2
          go_quiet (fail)
          go_wp2
          go_roundw
          case rel => exact ⟨k + 1, by omega, by go_num, by rw [HF.out], Lib.hid (HX.out.trans (below_drewN _ nq))⟩
          case measure => simp [intOf]; omega
        · have HF := Lib.hid (show offK o wh (fun i => (ix i).toNat) sec (k + 1) = offK o wh (fun i => (ix i).toNat) sec k by
            rw [offK]; rw [if_neg hs])
          go_wp2
          go_roundw
          case rel => exact ⟨k + 1, by omega, by go_num, by rw [HF.out], HX⟩
          case measure => simp [intOf]; omega
      · obtain rfl : k = ni := by omega
        have hd : decide ((k : Int) < (k : Int)) = false := by simp
        go_wp2
        go_ret
        exact ⟨rfl, hbw.trans (HX.out.mono hbw.size)⟩

end Go.Proofs.Ytoekefbclkmchaa.Zone2
