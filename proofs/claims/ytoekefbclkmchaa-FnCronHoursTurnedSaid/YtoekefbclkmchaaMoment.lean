/- The thin package's places and moments. Conditions: UTC or a zone in order; instants within 8*10^11 seconds of 1970. -/
import Derived.Test.YtoekefbclkmchaaZone3
import Derived.Test.YtoekefbclkmchaaTime4
import Derived.Test.YtoekefbclkmchaaBits
namespace Go.Proofs.Ytoekefbclkmchaa.Moment
open Go Go.RowKit Go.Proofs.Ytoekefbclkmchaa.Cal Go.Proofs.Ytoekefbclkmchaa.Off Go.Proofs.Ytoekefbclkmchaa.TimeNum Go.Proofs.Ytoekefbclkmchaa.Lookup Go.Proofs.Ytoekefbclkmchaa.Time Go.Proofs.Ytoekefbclkmchaa.Time2 Go.Proofs.Ytoekefbclkmchaa.SpecCal Go.Proofs.Ytoekefbclkmchaa.Zone Go.Proofs.Ytoekefbclkmchaa.Zone2 Go.Proofs.Ytoekefbclkmchaa.Zone3
set_option linter.unusedVariables false

theorem pair_of {w : World} {b : Nat} {off : Int → Int} (h : ZoneAt w b off) : ∃ loc, Pair w loc b off := by
  rcases h with ⟨h, e⟩ | ⟨z, h1, h2, e⟩
  · exact ⟨none, .inl ⟨rfl, h, e⟩⟩
  · exact ⟨_, .inr ⟨z, rfl, h1, h2, e⟩⟩

theorem impl_location (r : Raw) (co cd cw ci : Nat) (w : World) (h : r.At w) (hok : r.Ok) :
    Calls Try.prog 43 #[.agg #[.slice r.ao r.no co, .slice r.ad r.nd cd, .slice r.aw r.nw cw, .slice r.ai r.ni ci]] w (PlaceOf (Raw.off r) w) := by
  obtain ⟨ao, ad, aw, ai, no, nd, nw, ni, o, d, wh, ix⟩ := r
  obtain ⟨ro, rd, rw', ri, -, -, -, -, -, -, -⟩ := h
  rcases hok with ⟨z0, z1, z2, z3⟩ | ⟨hg, z1, z2, z3⟩
  · simp only at *
    subst z0; subst z1; subst z2; subst z3
    have HO := Lib.hid (off_utc (r := ⟨ao, ad, aw, ai, 0, 0, 0, 0, o, d, wh, ix⟩) rfl)
    clear ro rd rw' ri
    go_enter Try.func43, Try.ntmps43
    go_wp2_with (go_at_call 55; refine (utc_any _).mono ?_; rintro e w' ⟨b, ⟨rfl, hu⟩, hb⟩)
    go_ret
    exact ⟨b, ⟨rfl, .inl ⟨hu, HO.out⟩⟩, ((Below.refl _ _).alloc (Nat.le_refl _) _).trans (hb.mono (by simp))⟩
  · simp only at *
    subst z1; subst z2
    have hn1 : 1 ≤ nd := hg.n1
    have hm1 : 1 ≤ ni := hg.m1
    obtain ⟨xo, rfl, -⟩ := ro 0 (by omega)
    obtain ⟨xd, rfl, -⟩ := rd 0 (by omega)
    obtain ⟨xw, rfl, -⟩ := rw' 0 (by omega)
    obtain ⟨xi, rfl, -⟩ := ri 0 (by omega)
    have hbw : Below w.heap.size w (w.alloc (.cells #[.slice (some xo) nd co, .slice (some xd) nd cd, .slice (some xw) ni cw, .slice (some xi) ni ci] 29)) := (Below.refl _ _).alloc (Nat.le_refl _) _
    have hri : Row w (some xi) ni (fun k => .int .i64 (((ix k).toNat : Nat) : Int)) := fun k hk => by
      obtain ⟨x, h1, h2⟩ := ri k hk
      refine ⟨x, h1, ?_⟩
      have := z3 k hk
      show w.cell? (x.add k) = some (.int .i64 (((ix k).toNat : Nat) : Int))
      rw [h2, show (((ix k).toNat : Nat) : Int) = ix k by omega]
    have HC := Lib.hid (zone_any xo xd xw xi co cd cw ci ⟨nd, ni, o, d, wh, fun i => (ix i).toNat⟩ _ hg (ro.below hbw) (rd.below hbw) (rw'.below hbw) (hri.below hbw))
    have HG := Lib.hid hg
    have b0 : (((nd : Nat) : Int) == 0) = false := beq_eq_false_iff_ne.2 (by omega)
    clear ro rd rw' ri hri hg z3
    go_enter Try.func43, Try.ntmps43
    go_wp2_with (go_at_call 61; refine HC.out.mono ?_; rintro e w' ⟨b, ⟨rfl, hl⟩, hb⟩)
    go_ret
    exact ⟨b, ⟨rfl, .inr ⟨_, HG.out, hl, rfl⟩⟩, hbw.trans (hb.mono hbw.size)⟩

/-- A time with clocks. -/
def TimeOf (n e : Int) (off : Int → Int) (w : World) (x : Ending) (w' : World) : Prop := ∃ loc, (x = .returned (.agg #[.int .u64 n, .int .i64 e, .pointer loc]) ∧ Clock w' loc off) ∧ Below w.heap.size w w'

theorem moment_any (s n : Int) (b : Nat) (off : Int → Int) (w : World) (hz : ZoneAt w b off) (h0 : 0 ≤ n) (h1 : n < 1000000000) (hs0 : -700000000000 ≤ s) (hs1 : s ≤ 700000000000) :
    Calls Try.prog 42 #[.agg #[.int .i64 s, .int .i64 n], .pointer (some ⟨b, 0, none⟩)] w (TimeOf n (s + 62135596800) off w) := by
  obtain ⟨loc, hp⟩ := pair_of hz
  have hbw : Below w.heap.size w ((w.alloc (.cells #[.int .i64 s, .int .i64 n] 24)).alloc (.cells #[.int .u64 0, .int .i64 0, .pointer none] 78)) := ((Below.refl _ _).alloc (Nat.le_refl _) _).alloc (by simp) _
  have HP := Lib.hid hp
  have HN : Nn n := ⟨h0, by omega⟩
  have HNn := Lib.hid HN
  clear hz hp HN
  go_enter Try.func42, Try.ntmps42
  go_wp2_with fail
  refine (unix_any' s n _ h0 h1 (by omega) (by omega)).mono ?_
  rintro x w1 ⟨rfl, hb1⟩
  have HB1 := Lib.hid hb1
  clear hb1
  go_wp2_with fail
  refine (in_any n (s + 62135596800) none loc b off _ HNn.out ((HP.out.below hbw).below HB1.out)).mono ?_
  rintro x w2 ⟨rfl, hb2⟩
  have hb3 := HB1.out.trans (hb2.mono HB1.out.size)
  have hlt : w.heap.size + 1 < w2.heap.size := Nat.lt_of_lt_of_le (by simp) hb3.size
  have HB3 := Lib.hid hb3
  clear hb2
  obtain ⟨c0, c1, c2, f0, f1, f2⟩ := Time4.box2_after hb3
  clear hb3
  go_wp2_with fail
  refine bodyPost_ret (v := .agg #[.int .u64 n, .int .i64 (s + 62135596800), .pointer loc]) (by simp [results, Try.results42, go_sem, *]) rfl ⟨loc, ⟨rfl, ?_⟩, ?_⟩
  · exact HP.out.clock.below (below_set3 (hbw.trans (HB3.out.mono hbw.size)) (Nat.le_succ _))
  · exact below_set3 (hbw.trans (HB3.out.mono hbw.size)) (Nat.le_succ _)

/-- Bits that are there. -/
def has (S : Int) (k : Int) : Bool := (S.toNat).testBit k.toNat

theorem and_bit (S k : Int) (s0 : 0 ≤ S) (s1 : S ≤ 18446744073709551615) (k0 : 0 ≤ k) (k1 : k ≤ 63) :
    Go.bits .and .u64 (IntKind.u64.wrap (2 ^ k.toNat)) S = if has S k then 2 ^ k.toNat else 0 := by
  have hS := Bits.eq_bset S s0 (by omega)
  rw [Bits.wrap_pow]
  conv => lhs; rw [hS]
  rw [Bits.bits_and]
  unfold has
  by_cases h : S.toNat.testBit k.toNat = true
  · rw [if_pos h]
    have hw : (2 : Int) ^ k.toNat = IntKind.u64.wrap (2 ^ k.toNat) := by
      rw [Bits.wrap_u64_in]
      · exact Int.le_of_lt (Int.pow_pos (by decide))
      · have : (2 : Int) ^ k.toNat ≤ 2 ^ 63 := by
          have := Nat.pow_le_pow_right (n := 2) (by decide) (show k.toNat ≤ 63 by omega)
          exact_mod_cast this
        exact Int.lt_of_le_of_lt this (by decide)
    rw [hw, Bits.wrap_pow]
    exact Bits.bset_congr fun i _ => by
      by_cases e : i = k.toNat
      · subst e; simp [h]
      · simp [e]
  · rw [if_neg h, Bits.zero_eq]
    exact Bits.bset_congr fun i _ => by
      by_cases e : i = k.toNat
      · subst e; simp; simpa using h
      · simp [e]

end Go.Proofs.Ytoekefbclkmchaa.Moment
