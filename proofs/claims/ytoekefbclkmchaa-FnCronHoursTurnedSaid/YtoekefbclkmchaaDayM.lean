/- cron's dayMatches. Conditions: instants within 8*10^11 seconds of 1970. -/
import Derived.Test.YtoekefbclkmchaaMoment
namespace Go.Proofs.Ytoekefbclkmchaa.DayM
open Go Go.RowKit Go.Proofs.Ytoekefbclkmchaa.Cal Go.Proofs.Ytoekefbclkmchaa.Off Go.Proofs.Ytoekefbclkmchaa.TimeNum Go.Proofs.Ytoekefbclkmchaa.Lookup Go.Proofs.Ytoekefbclkmchaa.Time Go.Proofs.Ytoekefbclkmchaa.Time2 Go.Proofs.Ytoekefbclkmchaa.Time4 Go.Proofs.Ytoekefbclkmchaa.Moment
set_option linter.unusedVariables false

/-- The rule of the two fields of days. -/
def dayOK (dom dow : Int) (n : Int) : Bool :=
  if has dom 63 || has dow 63 then has dom (dOf n) && has dow (wdOf n) else has dom (dOf n) || has dow (wdOf n)

def U64 (S : Int) : Prop := 0 ≤ S ∧ S ≤ 18446744073709551615

/-- A bit asked for. -/
theorem bit_of (S : Int) (k : Nat) (hS : U64 S) (hk : k ≤ 63) : ∃ V : Int, Go.bits .and .u64 (IntKind.u64.wrap (2 ^ k)) S = V ∧ decide (0 < V) = has S (k : Int) ∧ (V == 0) = !has S (k : Int) := by
  have h := and_bit S k hS.1 hS.2 (by omega) (by omega)
  rw [Int.toNat_natCast] at h
  refine ⟨_, h, ?_, ?_⟩
  · cases has S (k : Int)
    · simp
    · have : (0 : Int) < 2 ^ k := Int.pow_pos (by decide)
      simpa using this
  · cases has S (k : Int)
    · simp
    · have : (0 : Int) < 2 ^ k := Int.pow_pos (by decide)
      simp
      omega
theorem star_of (S : Int) (hS : U64 S) : ∃ V : Int, Go.bits .and .u64 S 9223372036854775808 = V ∧ decide (0 < V) = has S 63 ∧ (V != 0) = has S 63 := by
  have h := and_bit S 63 hS.1 hS.2 (by omega) (by omega)
  have hc : Go.bits .and .u64 S 9223372036854775808 = Go.bits .and .u64 (IntKind.u64.wrap (2 ^ (63 : Int).toNat)) S := by
    have e := Bits.eq_bset S hS.1 (by have := hS.2; omega)
    rw [Bits.wrap_pow]
    have e2 : (9223372036854775808 : Int) = Bits.bset fun i => decide (i = 63) := by rw [← Bits.wrap_pow]; decide
    rw [e2]
    conv => lhs; rw [e]
    conv => rhs; rw [e]
    rw [Bits.bits_and, Bits.bits_and]
    exact Bits.bset_congr fun i _ => by rw [Bool.and_comm]; rfl
  rw [hc]
  refine ⟨_, h, ?_, ?_⟩
  · cases has S 63 <;> simp
  · cases has S 63 <;> simp

theorem undrew {B : Nat} {w w' : World} (h : Below B w.drew w') : Below B w w' := (Below.refl B w).drew.trans h

set_option maxRecDepth 100000 in
set_option maxHeartbeats 2000000 in
theorem dayMatches_any (sb : Nat) (dom dow n e : Int) (loc : Option Addr) (off : Int → Int) (w : World) (hd : U64 dom) (hw : U64 dow) (c3 : w.cell? ⟨sb, 3, none⟩ = some (.int .u64 dom)) (c5 : w.cell? ⟨sb, 5, none⟩ = some (.int .u64 dow)) (hn : Nn n) (he : Es e) (hc : Clock w loc off) :
    Calls Try.prog 58 #[.pointer (some ⟨sb, 0, none⟩), .agg #[.int .u64 n, .int .i64 e, .pointer loc]] w fun x w' => x = .returned (.bool (dayOK dom dow (day off (sec e)))) ∧ Below w.heap.size w w' := by
  have hlt := World.block_lt_of_cell? w _ c3
  simp only at hlt
  have hbw : Below w.heap.size w (w.alloc (.cells #[.int .u64 n, .int .i64 e, .pointer loc] 78)) := (Below.refl _ _).alloc (Nat.le_refl _) _
  have hbx := box_new w 78 (.int .u64 n) (.int .i64 e) (.pointer loc)
  have hv := (date_of (day off (sec e))).1
  have hml := mlen_bd (yOf (day off (sec e))) (mOf (day off (sec e)))
  obtain ⟨dn, hdn⟩ : ∃ dn : Nat, dOf (day off (sec e)) = dn := ⟨(dOf (day off (sec e))).toNat, by have := hv.2.2.1; omega⟩
  obtain ⟨wn, hwn⟩ : ∃ wn : Nat, wdOf (day off (sec e)) = wn := ⟨(wdOf (day off (sec e))).toNat, by unfold wdOf; omega⟩
  have hdb : dn ≤ 31 := by have := hv.2.2.2; omega
  have hwb : wn ≤ 6 := by unfold wdOf at hwn; omega
  have HD := Lib.hid (fun w1 (h : Below w.heap.size w w1) => day_any (n := n) (w := w1) hn he (hc.below h))
  have HW := Lib.hid (fun w1 (h : Below w.heap.size w w1) => weekday_any (n := n) (w := w1) hn he (hc.below h))
  rw [hdn] at HD
  rw [hwn] at HW
  have HF : Hid (dayOK dom dow (day off (sec e)) = if has dom 63 || has dow 63 then has dom dn && has dow wn else has dom dn || has dow wn) := Lib.hid (by unfold dayOK; rw [hdn, hwn])
  obtain ⟨V1, a1, a2, -⟩ := bit_of dom dn hd (by omega)
  obtain ⟨V2, b1, b2, -⟩ := bit_of dow wn hw (by omega)
  obtain ⟨V3, s1, s2, -⟩ := star_of dom hd
  obtain ⟨V4, t1, t2, -⟩ := star_of dow hw
  generalize has dom (dn : Int) = m1 at *
  generalize has dow (wn : Int) = m2 at *
  generalize has dom 63 = m3 at *
  generalize has dow 63 = m4 at *
  have v1 : min (IntKind.u64.wrap ((dn : Nat) : Int)).toNat 64 = dn := by rw [IntWalk.u64_in _ (by omega)]; omega
  have v2 : min (IntKind.u64.wrap ((wn : Nat) : Int)).toNat 64 = wn := by rw [IntWalk.u64_in _ (by omega)]; omega
  have HBX := Lib.hid hbx
  have HBW := Lib.hid hbw
  have e3 : (w.alloc (.cells #[.int .u64 n, .int .i64 e, .pointer loc] 78)).cell? ⟨sb, 3, none⟩ = some (.int .u64 dom) := (hbw.cell (p := ⟨sb, 3, none⟩) hlt).trans c3
  have e5 : (w.alloc (.cells #[.int .u64 n, .int .i64 e, .pointer loc] 78)).cell? ⟨sb, 5, none⟩ = some (.int .u64 dow) := (hbw.cell (p := ⟨sb, 5, none⟩) hlt).trans c5
  have E3 := Lib.hid e3
  have E5 := Lib.hid e5
  clear hn he hc hv hml hdn hwn hbx hbw c3 c5
  go_enter Try.func58, Try.ntmps58
  go_wp2_with fail
  go_region_held3 (fun w' => w'.cell? ⟨w.heap.size, 0, none⟩ = some (.int .u64 n) ∧ w'.cell? ⟨w.heap.size, 1, none⟩ = some (.int .i64 e) ∧ w'.cell? ⟨w.heap.size, 2, none⟩ = some (.pointer loc) ∧ w'.cell? ⟨sb, 3, none⟩ = some (.int .u64 dom)) (go_keep)
    ((go_at_call 70; refine (HD.out _ (by repeat (first | exact HBW.out | refine Below.drew ?_))).mono ?_; rintro x w1 ⟨rfl, hb0⟩; (have hb1 := undrew hb0); (have q1 := hb1.size); (have k0 := (HBX.out.below hb1 (by simp)).2.1); (have k1 := (HBX.out.below hb1 (by simp)).2.2.1); (have k2 := (HBX.out.below hb1 (by simp)).2.2.2); (have k3 := (hb1.cell (p := ⟨sb, 3, none⟩) (by simp; omega)).trans E3.out)))
  all_goals
    have HX1 := Lib.hid (HBX.out.below hb1 (by simp))
    have HB1 := Lib.hid (HBW.out.trans (hb1.mono HBW.out.size))
    have e31 := (hb1.cell (p := ⟨sb, 3, none⟩) (by simp; omega)).trans E3.out
    have e51 := (hb1.cell (p := ⟨sb, 5, none⟩) (by simp; omega)).trans E5.out
    have E31 := Lib.hid e31
    have E51 := Lib.hid e51
    have hl1 : w.heap.size < w1.heap.size := HX1.out.1
    have hl2 : sb < w1.heap.size := by have := World.block_lt_of_cell? w1 _ e31; simpa using this
    clear hb0 hb1 k3 q1
    go_wp2_with fail
    go_region_held3 (fun w' => w'.cell? ⟨w.heap.size, 0, none⟩ = some (.int .u64 n) ∧ w'.cell? ⟨w.heap.size, 1, none⟩ = some (.int .i64 e) ∧ w'.cell? ⟨w.heap.size, 2, none⟩ = some (.pointer loc) ∧ w'.cell? ⟨sb, 5, none⟩ = some (.int .u64 dow)) (go_keep)
      ((go_at_call 71; refine (HW.out _ (by repeat (first | exact HB1.out | refine Below.drew ?_))).mono ?_; rintro x w2 ⟨rfl, hb0⟩; (have hb1 := undrew hb0); (have q1 := hb1.size); (have k0 := (HX1.out.below hb1 hl1).2.1); (have k1 := (HX1.out.below hb1 hl1).2.2.1); (have k2 := (HX1.out.below hb1 hl1).2.2.2); (have k3 := (hb1.cell (p := ⟨sb, 5, none⟩) hl2).trans E51.out)))
    all_goals
      have HB2 := Lib.hid (HB1.out.trans (hb1.mono HB1.out.size))
      have e32 := (hb1.cell (p := ⟨sb, 3, none⟩) hl2).trans E31.out
      have e52 := (hb1.cell (p := ⟨sb, 5, none⟩) hl2).trans E51.out
      clear hb0 hb1 k0 k1 k2 k3 q1 e31 e51
      cases m3 <;> cases m4 <;> cases m1
      all_goals
        go_wp2_with fail
        go_ret
        exact ⟨by rw [HF.out]; simp, HB2.out⟩

end Go.Proofs.Ytoekefbclkmchaa.DayM
