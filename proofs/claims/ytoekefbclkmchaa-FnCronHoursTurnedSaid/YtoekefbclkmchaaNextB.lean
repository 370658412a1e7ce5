/- What (*SpecSchedule).Next keeps: its time in a box, its schedule; the contracts of package time's methods at this time. Conditions: seconds between -63 and 270 milliards. -/
import Derived.Test.YtoekefbclkmchaaNextA
import Derived.Test.YtoekefbclkmchaaNextP
import Derived.Test.YtoekefbclkmchaaRegS
namespace Go.Proofs.Ytoekefbclkmchaa.NextB
open Go Go.RowKit Go.Proofs.Ytoekefbclkmchaa.TimeNum Go.Proofs.Ytoekefbclkmchaa.Lookup Go.Proofs.Ytoekefbclkmchaa.Time Go.Proofs.Ytoekefbclkmchaa.Time2 Go.Proofs.Ytoekefbclkmchaa.DayM Go.Proofs.Ytoekefbclkmchaa.Moment Go.Proofs.Ytoekefbclkmchaa.Cal Go.Proofs.Ytoekefbclkmchaa.Off Go.Proofs.Ytoekefbclkmchaa.Search Go.Proofs.Ytoekefbclkmchaa.NextP Go.Proofs.Ytoekefbclkmchaa.RegS Go.Proofs.Ytoekefbclkmchaa.NextA
set_option linter.unusedVariables false

/-- A schedule's cells. -/
def SpecAt (w : World) (sb : Nat) (se mi hr dom mon dow : Int) : Prop :=
  w.cell? ⟨sb, 0, none⟩ = some (.int .u64 se) ∧ w.cell? ⟨sb, 1, none⟩ = some (.int .u64 mi) ∧ w.cell? ⟨sb, 2, none⟩ = some (.int .u64 hr) ∧ w.cell? ⟨sb, 3, none⟩ = some (.int .u64 dom) ∧ w.cell? ⟨sb, 4, none⟩ = some (.int .u64 mon) ∧ w.cell? ⟨sb, 5, none⟩ = some (.int .u64 dow) ∧ w.cell? ⟨sb, 6, none⟩ = some (.pointer none)
theorem SpecAt.below {w w' : World} {sb : Nat} {se mi hr dom mon dow : Int} (h : SpecAt w sb se mi hr dom mon dow) (hb : Below w.heap.size w w') : SpecAt w' sb se mi hr dom mon dow := by
  have old : ∀ {p : Addr} {v : Value}, w.cell? p = some v → w'.cell? p = some v := fun hv => (hb.cell (World.block_lt_of_cell? w _ hv)).trans hv
  obtain ⟨h0, h1, h2, h3, h4, h5, h6⟩ := h
  exact ⟨old h0, old h1, old h2, old h3, old h4, old h5, old h6⟩

/-- Three cells that may be written. -/
def Free3 (X : World) (b : Nat) : Prop := X.frozen? ⟨b, 0, none⟩ = false ∧ X.frozen? ⟨b, 1, none⟩ = false ∧ X.frozen? ⟨b, 2, none⟩ = false
theorem Free3.below {X X' : World} {b : Nat} (h : Free3 X b) (hb : Below X.heap.size X X') (hlt : b < X.heap.size) : Free3 X' b :=
  ⟨(hb.frozen (p := ⟨b, 0, none⟩) hlt).trans h.1, (hb.frozen (p := ⟨b, 1, none⟩) hlt).trans h.2.1, (hb.frozen (p := ⟨b, 2, none⟩) hlt).trans h.2.2⟩

/-- The time in hand lies in the first box that Next made, its result in the second. -/
def At (w : World) (loc : Option Addr) (X : World) (t : Int) : Prop :=
  Below w.heap.size w X ∧ Box X w.heap.size (.int .u64 0) (.int .i64 (t + 62135596800)) (.pointer loc) ∧ Free3 X w.heap.size ∧ Box X (w.heap.size + 1) (.int .u64 0) (.int .i64 0) (.pointer none) ∧ Free3 X (w.heap.size + 1)

variable {w X X' : World} {loc : Option Addr} {t t1 : Int}
theorem At.below (h : At w loc X t) (hb : Below X.heap.size X X') : At w loc X' t :=
  ⟨h.1.trans (hb.mono h.1.size), h.2.1.below hb h.2.1.1, h.2.2.1.below hb h.2.1.1, h.2.2.2.1.below hb h.2.2.2.1.1, h.2.2.2.2.below hb h.2.2.2.1.1⟩

theorem cell_set3 (X : World) (b : Nat) (x y z : Value) (h0 : ∃ v, X.cell? ⟨b, 0, none⟩ = some v) (h1 : ∃ v, X.cell? ⟨b, 1, none⟩ = some v) (h2 : ∃ v, X.cell? ⟨b, 2, none⟩ = some v) :
    (((X.setCell ⟨b, 0, none⟩ x).setCell ⟨b, 1, none⟩ y).setCell ⟨b, 2, none⟩ z).cell? ⟨b, 0, none⟩ = some x ∧ (((X.setCell ⟨b, 0, none⟩ x).setCell ⟨b, 1, none⟩ y).setCell ⟨b, 2, none⟩ z).cell? ⟨b, 1, none⟩ = some y ∧ (((X.setCell ⟨b, 0, none⟩ x).setCell ⟨b, 1, none⟩ y).setCell ⟨b, 2, none⟩ z).cell? ⟨b, 2, none⟩ = some z := by
  obtain ⟨v0, h0⟩ := h0
  obtain ⟨v1, h1⟩ := h1
  obtain ⟨v2, h2⟩ := h2
  refine ⟨?_, ?_, ?_⟩ <;> simp [go_sem, h0, h1, h2]

/-- The same with nanoseconds. -/
def AtN (w : World) (n e : Int) (loc : Option Addr) (X : World) : Prop :=
  Below w.heap.size w X ∧ Box X w.heap.size (.int .u64 n) (.int .i64 e) (.pointer loc) ∧ Free3 X w.heap.size ∧ Box X (w.heap.size + 1) (.int .u64 0) (.int .i64 0) (.pointer none) ∧ Free3 X (w.heap.size + 1)
theorem AtN.below {n e : Int} (h : AtN w n e loc X) (hb : Below X.heap.size X X') : AtN w n e loc X' :=
  ⟨h.1.trans (hb.mono h.1.size), h.2.1.below hb h.2.1.1, h.2.2.1.below hb h.2.1.1, h.2.2.2.1.below hb h.2.2.2.1.1, h.2.2.2.2.below hb h.2.2.2.1.1⟩
theorem AtN.cells {n e : Int} (h : AtN w n e loc X) : X.cell? ⟨w.heap.size, 0, none⟩ = some (.int .u64 n) ∧ X.cell? ⟨w.heap.size, 1, none⟩ = some (.int .i64 e) ∧ X.cell? ⟨w.heap.size, 2, none⟩ = some (.pointer loc) := h.2.1.2
theorem AtN.free {n e : Int} (h : AtN w n e loc X) : X.frozen? ⟨w.heap.size, 0, none⟩ = false ∧ X.frozen? ⟨w.heap.size, 1, none⟩ = false ∧ X.frozen? ⟨w.heap.size, 2, none⟩ = false := h.2.2.1
theorem AtN.put {n e : Int} (h : AtN w n e loc X) : At w loc (((X.setCell ⟨w.heap.size, 0, none⟩ (.int .u64 0)).setCell ⟨w.heap.size, 1, none⟩ (.int .i64 (t1 + 62135596800))).setCell ⟨w.heap.size, 2, none⟩ (.pointer loc)) t1 := by
  obtain ⟨h1, ⟨h2, c0, c1, c2⟩, ⟨f0, f1, f2⟩, ⟨h3, d0, d1, d2⟩, ⟨g0, g1, g2⟩⟩ := h
  obtain ⟨e0, e1, e2⟩ := cell_set3 X w.heap.size (.int .u64 0) (.int .i64 (t1 + 62135596800)) (.pointer loc) ⟨_, c0⟩ ⟨_, c1⟩ ⟨_, c2⟩
  refine ⟨below_set3 h1 (Nat.le_refl _), ⟨by simpa using h2, e0, e1, e2⟩, ⟨?_, ?_, ?_⟩, ⟨by simpa using h3, ?_, ?_, ?_⟩, ⟨?_, ?_, ?_⟩⟩
  all_goals simp [go_sem, *]
theorem At.put (h : At w loc X t) : At w loc (((X.setCell ⟨w.heap.size, 0, none⟩ (.int .u64 0)).setCell ⟨w.heap.size, 1, none⟩ (.int .i64 (t1 + 62135596800))).setCell ⟨w.heap.size, 2, none⟩ (.pointer loc)) t1 :=
  AtN.put (n := 0) (e := t + 62135596800) h
theorem AtN.of (w : World) (E : TypeId) (n e : Int) (loc : Option Addr) : AtN w n e loc ((w.alloc (.cells #[.int .u64 n, .int .i64 e, .pointer loc] E)).alloc (.cells #[.int .u64 0, .int .i64 0, .pointer none] E)) := by
  obtain ⟨h1, h2, h3⟩ := box2 w E (.int .u64 n) (.int .i64 e) (.pointer loc) (.int .u64 0) (.int .i64 0) (.pointer none)
  obtain ⟨a0, a1, a2, b0, b1, b2⟩ := Time4.box2_after (A := .cells #[.int .u64 n, .int .i64 e, .pointer loc] E) (Below.refl ((w.alloc (.cells #[.int .u64 n, .int .i64 e, .pointer loc] E)).alloc (.cells #[.int .u64 0, .int .i64 0, .pointer none] E)).heap.size _)
  exact ⟨h3, h1, ⟨h2 0, h2 1, h2 2⟩, ⟨by simp, a0, a1, a2⟩, ⟨b0, b1, b2⟩⟩
/-- On to the next whole second. -/
theorem whole_t {n e : Int} (h0 : 0 ≤ n) (h1 : n < 1000000000) (he : Es e) : Calls Try.prog 133 #[.agg #[.int .u64 n, .int .i64 e, .pointer loc], .int .i64 (1000000000 - n)] X fun x X' => x = .returned (.agg #[.int .u64 0, .int .i64 (e + 1), .pointer loc]) ∧ Below X.heap.size X X' := by
  by_cases h : n = 0
  · subst h
    have := add_A 0 e (1000000000 - 0) 1 0 loc X (by omega) (by omega) he (by decide) (by decide) (by omega) (by omega) (by omega) (by omega) (by omega) (by omega)
    exact this
  · have e1 : (1000000000 - n).tdiv 1000000000 = 0 := Int.tdiv_eq_zero_of_lt (by omega) (by omega)
    have e2 : (1000000000 - n).tmod 1000000000 = 1000000000 - n := Int.tmod_eq_of_lt (by omega) (by omega)
    have := add_B n e (1000000000 - n) 0 (1000000000 - n) loc X h0 h1 he e1 e2 (by omega) (by omega) (by omega) (by omega) (by omega) (by omega)
    rw [show n + (1000000000 - n) - 1000000000 = 0 by omega, show e + (0 + 1) = e + 1 by omega] at this
    exact this

theorem sec_of (t : Int) : sec (t + 62135596800) = t := by unfold sec; omega
def Bd (t : Int) : Prop := -63000000000 ≤ t ∧ t ≤ 270000000000
theorem Bd.es (h : Bd t) : Es (t + 62135596800) := by unfold Bd at h; unfold Es; omega
theorem nn0 : Nn 0 := ⟨by omega, by omega⟩

section
variable {off : Int → Int} (hc : Clock w loc off) (ht : Bd t) (hb : Below w.heap.size w X)
include hc ht hb
theorem year_t : Calls Try.prog 134 #[.agg #[.int .u64 0, .int .i64 (t + 62135596800), .pointer loc]] X fun x w' => x = .returned (.int .i64 (yOf (day off t))) ∧ Below X.heap.size X w' := by
  have := year_any' (n := 0) (w := X) nn0 ht.es (hc.below hb)
  rw [sec_of] at this; exact this
theorem month_t : Calls Try.prog 135 #[.agg #[.int .u64 0, .int .i64 (t + 62135596800), .pointer loc]] X fun x w' => x = .returned (.int .i64 (mOf (day off t))) ∧ Below X.heap.size X w' := by
  have := month_any' (n := 0) (w := X) nn0 ht.es (hc.below hb)
  rw [sec_of] at this; exact this
theorem day_t : Calls Try.prog 70 #[.agg #[.int .u64 0, .int .i64 (t + 62135596800), .pointer loc]] X fun x w' => x = .returned (.int .i64 (dOf (day off t))) ∧ Below X.heap.size X w' := by
  have := day_any (n := 0) (w := X) nn0 ht.es (hc.below hb)
  rw [sec_of] at this; exact this
theorem hour_t : Calls Try.prog 138 #[.agg #[.int .u64 0, .int .i64 (t + 62135596800), .pointer loc]] X fun x w' => x = .returned (.int .i64 (tod off t / 3600)) ∧ Below X.heap.size X w' := by
  have := hour_any (n := 0) (w := X) nn0 ht.es (hc.below hb)
  rw [sec_of] at this; exact this
theorem minute_t : Calls Try.prog 139 #[.agg #[.int .u64 0, .int .i64 (t + 62135596800), .pointer loc]] X fun x w' => x = .returned (.int .i64 (tod off t % 3600 / 60)) ∧ Below X.heap.size X w' := by
  have := minute_any (n := 0) (w := X) nn0 ht.es (hc.below hb)
  rw [sec_of] at this; exact this
theorem second_t : Calls Try.prog 141 #[.agg #[.int .u64 0, .int .i64 (t + 62135596800), .pointer loc]] X fun x w' => x = .returned (.int .i64 (tod off t % 60)) ∧ Below X.heap.size X w' := by
  have := second_any (n := 0) (w := X) nn0 ht.es (hc.below hb)
  rw [sec_of] at this; exact this
theorem addDate_t (dm dd : Int) (m0 : 0 ≤ dm) (m1 : dm ≤ 1) (d0 : 0 ≤ dd) (d1 : dd ≤ 1) (r : Int) (hr : Time3.dateE off (yOf (day off t)) (mOf (day off t) + dm) (dOf (day off t) + dd) (tod off t / 3600) (tod off t % 3600 / 60) (tod off t % 60) = r + 62135596800) :
    Calls Try.prog 137 #[.agg #[.int .u64 0, .int .i64 (t + 62135596800), .pointer loc], .int .i64 0, .int .i64 dm, .int .i64 dd] X fun x w' => x = .returned (.agg #[.int .u64 0, .int .i64 (r + 62135596800), .pointer loc]) ∧ Below X.heap.size X w' := by
  have := Time4.addDate_any (t + 62135596800) dm dd loc off X (hc.below hb) (by rw [sec_of]; unfold Bd at ht; omega) (by rw [sec_of]; unfold Bd at ht; omega) m0 m1 d0 d1
  rw [sec_of, hr] at this; exact this
theorem dayMatches_t (sb : Nat) (se mi hr dom mon dow : Int) (hs : SpecAt w sb se mi hr dom mon dow) (hd : U64 dom) (hw : U64 dow) :
    Calls Try.prog 58 #[.pointer (some ⟨sb, 0, none⟩), .agg #[.int .u64 0, .int .i64 (t + 62135596800), .pointer loc]] X fun x w' => x = .returned (.bool (dayOK dom dow (day off t))) ∧ Below X.heap.size X w' := by
  have hs' := hs.below hb
  have := dayMatches_any sb dom dow 0 (t + 62135596800) loc off X hd hw hs'.2.2.2.1 hs'.2.2.2.2.2.1 nn0 ht.es (hc.below hb)
  rw [sec_of] at this; exact this
end

theorem year_b {off : Int → Int} (hc : Clock w loc off) (ht : Bd t) : -1000 ≤ yOf (day off t) ∧ yOf (day off t) ≤ 12000 := by
  have := Time4.year_bd (e := t + 62135596800) (by rw [sec_of]; unfold Bd at ht; omega) (by rw [sec_of]; unfold Bd at ht; omega) hc
  rw [sec_of] at this; exact this
/-- Go's Date on the zone in hand. -/
theorem date_t {off : Int → Int} {lb : Nat} (hp : Time2.Pair X loc lb off) (y m d h : Int)
    (y0 : -5000 ≤ y) (y1 : y ≤ 15000) (m0 : 1 ≤ m) (m1 : m ≤ 13) (d0 : 0 ≤ d) (d1 : d ≤ 100) (h0 : 0 ≤ h) (h1 : h < 24) (r : Int) (hr : Time3.dateE off y m d h 0 0 = r + 62135596800) :
    Calls Try.prog 136 #[.int .i64 y, .int .i64 m, .int .i64 d, .int .i64 h, .int .i64 0, .int .i64 0, .int .i64 0, .pointer (some ⟨lb, 0, none⟩)] X fun x w' => x = .returned (.agg #[.int .u64 0, .int .i64 (r + 62135596800), .pointer loc]) ∧ Below X.heap.size X w' := by
  have := Time3.date_any y m d h 0 0 loc lb off X hp y0 y1 m0 m1 d0 d1 h0 h1 (by omega) (by omega) (by omega) (by omega)
  rw [hr] at this; exact this

/-- Add of whole seconds. -/
theorem add_t (k q : Int) (ht : Bd t) (hk : k = q * 1000000000) (q0 : -10000000 ≤ q) (q1 : q ≤ 10000000) :
    Calls Try.prog 133 #[.agg #[.int .u64 0, .int .i64 (t + 62135596800), .pointer loc], .int .i64 k] X fun x w' => x = .returned (.agg #[.int .u64 0, .int .i64 (t + q + 62135596800), .pointer loc]) ∧ Below X.heap.size X w' := by
  have := add_A 0 (t + 62135596800) k q 0 loc X (by omega) (by omega) ht.es (by rw [hk, Int.mul_tdiv_cancel _ (by decide)]) (by rw [hk, Int.mul_tmod_left]) (by omega) (by omega) q0 q1 (by omega) (by omega)
  rw [show t + 62135596800 + q = t + q + 62135596800 by omega, show (0 : Int) + 0 = 0 from rfl] at this; exact this

/-- Truncate. -/
theorem trunc_t (k d : Int) (ht : Bd t) (h0 : 0 ≤ t + 62135596800) (hk : (d = 1000000000 ∧ k = 1) ∨ (d = 60000000000 ∧ k = 60)) (r : Int) (hr : t + 62135596800 - (t + 62135596800) % k = r + 62135596800) :
    Calls Try.prog 140 #[.agg #[.int .u64 0, .int .i64 (t + 62135596800), .pointer loc], .int .i64 d] X fun x w' => x = .returned (.agg #[.int .u64 0, .int .i64 (r + 62135596800), .pointer loc]) ∧ Below X.heap.size X w' := by
  have := Time4.truncate_any (t + 62135596800) k d loc X h0 (by unfold Bd at ht; omega) hk
  rw [hr] at this; exact this

/-- What has a bit of a set: as the program asks it. -/
theorem bit_no (S k : Int) (hS : U64 S) (k0 : 0 ≤ k) (k1 : k ≤ 63) : (Go.bits .and .u64 (IntKind.u64.wrap (2 ^ (min (IntKind.u64.wrap k).toNat 64))) S == 0) = !has S k := by
  obtain ⟨V, h1, -, h3⟩ := bit_of S k.toNat hS (by omega)
  rw [show IntKind.u64.wrap k = k from IntWalk.u64_in _ (by omega), show min k.toNat 64 = k.toNat by omega, h1, h3, show ((k.toNat : Nat) : Int) = k by omega]

/-! ### The time's place, as the program holds it -/
/-- The place that Location answers with: the time's own, or one that UTC made, apart from the two boxes. -/
def PlaceIn (w : World) (loc : Option Addr) (off : Int → Int) (lb : Nat) (X : World) : Prop :=
  (loc = none ∧ off = zero ∧ UtcAt X lb ∧ lb ≠ w.heap.size ∧ lb ≠ w.heap.size + 1) ∨ ∃ z : ZoneD, loc = some ⟨lb, 0, none⟩ ∧ ZoneD.Good z ∧ LocAt w lb z ∧ off = z.off
section
variable {off : Int → Int} {lb : Nat}
theorem PlaceIn.below (h : PlaceIn w loc off lb X) (hb : Below X.heap.size X X') : PlaceIn w loc off lb X' := by
  rcases h with ⟨h1, h2, h3, h4⟩ | h
  · exact .inl ⟨h1, h2, h3.below hb, h4⟩
  · exact .inr h
theorem PlaceIn.put (h : PlaceIn w loc off lb X) (x y z : Value) : PlaceIn w loc off lb (((X.setCell ⟨w.heap.size, 0, none⟩ x).setCell ⟨w.heap.size, 1, none⟩ y).setCell ⟨w.heap.size, 2, none⟩ z) := by
  rcases h with ⟨h1, h2, h3, h4, h5⟩ | h
  · refine .inl ⟨h1, h2, ⟨by simpa using h3.lt, ?_, ?_⟩, h4, h5⟩
    · rw [World.cell?_setCell_far _ _ _ _ (by exact Ne.symm h4), World.cell?_setCell_far _ _ _ _ (by exact Ne.symm h4), World.cell?_setCell_far _ _ _ _ (by exact Ne.symm h4)]
      exact h3.utc
    · rw [World.cell?_setCell_far _ _ _ _ (by exact Ne.symm h4), World.cell?_setCell_far _ _ _ _ (by exact Ne.symm h4), World.cell?_setCell_far _ _ _ _ (by exact Ne.symm h4)]
      exact h3.row
  · exact .inr h
theorem PlaceIn.pair (h : PlaceIn w loc off lb X) (hb : Below w.heap.size w X) : Time2.Pair X loc lb off := by
  rcases h with ⟨h1, h2, h3, h4⟩ | ⟨z, h1, h2, h3, h4⟩
  · exact .inl ⟨h1, h3, h2⟩
  · exact .inr ⟨z, h1, h2, h3.below hb, h4⟩
/-- Location. -/
theorem place_t {n e x y : Int} {k l : IntKind} (hc : Clock w loc off) (c0 : X.cell? ⟨w.heap.size, 0, none⟩ = some (.int k x)) (c1 : X.cell? ⟨w.heap.size + 1, 0, none⟩ = some (.int l y)) :
    Calls Try.prog 132 #[.agg #[.int .u64 n, .int .i64 e, .pointer loc]] X fun x X' => ∃ lb, (x = .returned (.pointer (some ⟨lb, 0, none⟩)) ∧ PlaceIn w loc off lb X') ∧ Below X.heap.size X X' := by
  rcases hc with ⟨rfl, rfl⟩ | ⟨b, z, rfl, hz, hl, rfl⟩
  · refine location_utc.mono ?_
    rintro x X' ⟨b, ⟨rfl, hu⟩, hb⟩
    refine ⟨b, ⟨rfl, .inl ⟨rfl, rfl, hu, fun h => ?_, fun h => ?_⟩⟩, hb⟩
    · have h1 := (hb.cell (World.block_lt_of_cell? X _ c0)).trans c0
      have h2 := hu.utc
      rw [h, h1] at h2
      cases h2
    · have h1 := (hb.cell (World.block_lt_of_cell? X _ c1)).trans c1
      have h2 := hu.utc
      rw [h, h1] at h2
      cases h2
  · refine location_zone.mono ?_
    rintro x X' ⟨rfl, hb⟩
    exact ⟨b, ⟨rfl, .inr ⟨z, rfl, hz, hl, rfl⟩⟩, hb⟩
end

/-- What holds at each point of the search. -/
def Hold (w : World) (loc : Option Addr) (off : Int → Int) (ol lb : Nat) (X : World) (t : Int) : Prop := At w loc X t ∧ PlaceIn w loc off ol X ∧ PlaceIn w loc off lb X
section
variable {off : Int → Int} {ol lb : Nat}
theorem Hold.below (h : Hold w loc off ol lb X t) (hb : Below X.heap.size X X') : Hold w loc off ol lb X' t := ⟨h.1.below hb, h.2.1.below hb, h.2.2.below hb⟩
theorem Hold.put (h : Hold w loc off ol lb X t) : Hold w loc off ol lb (((X.setCell ⟨w.heap.size, 0, none⟩ (.int .u64 0)).setCell ⟨w.heap.size, 1, none⟩ (.int .i64 (t1 + 62135596800))).setCell ⟨w.heap.size, 2, none⟩ (.pointer loc)) t1 := ⟨h.1.put, h.2.1.put _ _ _, h.2.2.put _ _ _⟩
theorem Hold.cells (h : Hold w loc off ol lb X t) : X.cell? ⟨w.heap.size, 0, none⟩ = some (.int .u64 0) ∧ X.cell? ⟨w.heap.size, 1, none⟩ = some (.int .i64 (t + 62135596800)) ∧ X.cell? ⟨w.heap.size, 2, none⟩ = some (.pointer loc) := h.1.2.1.2
theorem Hold.free (h : Hold w loc off ol lb X t) : X.frozen? ⟨w.heap.size, 0, none⟩ = false ∧ X.frozen? ⟨w.heap.size, 1, none⟩ = false ∧ X.frozen? ⟨w.heap.size, 2, none⟩ = false := h.1.2.2.1
theorem Hold.res (h : Hold w loc off ol lb X t) : X.cell? ⟨w.heap.size + 1, 0, none⟩ = some (.int .u64 0) ∧ X.cell? ⟨w.heap.size + 1, 1, none⟩ = some (.int .i64 0) ∧ X.cell? ⟨w.heap.size + 1, 2, none⟩ = some (.pointer none) := h.1.2.2.2.1.2
theorem Hold.rfree (h : Hold w loc off ol lb X t) : X.frozen? ⟨w.heap.size + 1, 0, none⟩ = false ∧ X.frozen? ⟨w.heap.size + 1, 1, none⟩ = false ∧ X.frozen? ⟨w.heap.size + 1, 2, none⟩ = false := h.1.2.2.2.2
theorem Hold.pair (h : Hold w loc off ol lb X t) : Time2.Pair X loc lb off := h.2.2.pair h.1.1
theorem Hold.opair (h : Hold w loc off ol lb X t) : Time2.Pair X loc ol off := h.2.1.pair h.1.1
theorem Hold.base (h : Hold w loc off ol lb X t) : Below w.heap.size w X := h.1.1
end

end Go.Proofs.Ytoekefbclkmchaa.NextB
