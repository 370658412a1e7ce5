/- Times and their parts. Conditions: instants within 10^12 seconds of 1970, nanoseconds below 2^30, zones in order. -/
import Derived.Test.YtoekefbclkmchaaLookup
import Derived.Deep.RegionHeld3
namespace Go.Proofs.Ytoekefbclkmchaa.Time
open Go Go.RowKit Go.Proofs.Ytoekefbclkmchaa.Cal Go.Proofs.Ytoekefbclkmchaa.Off Go.Proofs.Ytoekefbclkmchaa.TimeNum Go.Proofs.Ytoekefbclkmchaa.Lookup
set_option linter.unusedVariables false

/-! ### Bits of the wall -/
theorem big_and (n : Int) (h0 : 0 ≤ n) (h1 : n < 1073741824) : Go.bits .and .u64 n 9223372036854775808 = 0 := by
  obtain ⟨n, rfl⟩ := Int.eq_ofNat_of_zero_le h0
  show IntKind.u64.wrap (((BitVec.ofInt 64 (n : Int)) &&& (BitVec.ofInt 64 9223372036854775808)).toNat : Int) = _
  have e : (BitVec.ofInt 64 (n : Int) &&& BitVec.ofInt 64 9223372036854775808).toNat = 0 := by
    rw [BitVec.ofInt_natCast, BitVec.toNat_and, BitVec.toNat_ofNat, Nat.mod_eq_of_lt (by omega), show (BitVec.ofInt 64 9223372036854775808).toNat = 2 ^ 63 by decide]
    apply Nat.eq_of_testBit_eq
    intro i
    rw [Nat.testBit_and, Nat.testBit_two_pow]
    by_cases hi : 63 = i
    · subst hi
      rw [Nat.testBit_lt_two_pow (Nat.lt_of_lt_of_le (m := 2 ^ 30) (by omega) (Nat.pow_le_pow_right (by decide) (by decide)))]
      simp
    · simp [hi]
  rw [e]; rfl
theorem mask_and (n : Int) (h0 : 0 ≤ n) (h1 : n < 1073741824) : Go.bits .and .u64 n 1073741823 = n := by
  obtain ⟨n, rfl⟩ := Int.eq_ofNat_of_zero_le h0
  show IntKind.u64.wrap (((BitVec.ofInt 64 (n : Int)) &&& (BitVec.ofInt 64 1073741823)).toNat : Int) = _
  have e : (BitVec.ofInt 64 (n : Int) &&& BitVec.ofInt 64 1073741823).toNat = n := by
    rw [BitVec.ofInt_natCast, BitVec.toNat_and, BitVec.toNat_ofNat, Nat.mod_eq_of_lt (by omega), show (BitVec.ofInt 64 1073741823).toNat = 2 ^ 30 - 1 by decide, Nat.and_two_pow_sub_one_eq_mod, Nat.mod_eq_of_lt (by omega)]
  rw [e]
  rw [IntWalk.u64_in _ (by omega)]
theorem mask_not (n : Int) (h0 : 0 ≤ n) (h1 : n < 1073741824) : Go.bits .andNot .u64 n 1073741823 = 0 := by
  obtain ⟨n, rfl⟩ := Int.eq_ofNat_of_zero_le h0
  show IntKind.u64.wrap (((BitVec.ofInt 64 (n : Int)) &&& ~~~(BitVec.ofInt 64 1073741823)).toNat : Int) = _
  have e : (BitVec.ofInt 64 (n : Int) &&& ~~~(BitVec.ofInt 64 1073741823)).toNat = 0 := by
    apply Nat.eq_of_testBit_eq
    intro i
    rw [← BitVec.getLsbD, BitVec.getLsbD_and, BitVec.getLsbD_not, BitVec.getLsbD, BitVec.getLsbD, BitVec.ofInt_natCast, BitVec.toNat_ofNat, Nat.mod_eq_of_lt (by omega), show (BitVec.ofInt 64 1073741823).toNat = 2 ^ 30 - 1 by decide, Nat.testBit_two_pow_sub_one]
    by_cases hi : i < 30
    · simp [hi]
    · rw [Nat.testBit_lt_two_pow (Nat.lt_of_lt_of_le (m := 2 ^ 30) (by omega) (Nat.pow_le_pow_right (by decide) (by omega)))]
      simp
  rw [e]; rfl
theorem or_zero (n : Int) (h0 : 0 ≤ n) (h1 : n < 1073741824) : Go.bits .or .u64 0 n = n := by
  obtain ⟨n, rfl⟩ := Int.eq_ofNat_of_zero_le h0
  show IntKind.u64.wrap (((BitVec.ofInt 64 0) ||| (BitVec.ofInt 64 (n : Int))).toNat : Int) = _
  have e : (BitVec.ofInt 64 0 ||| BitVec.ofInt 64 (n : Int)).toNat = n := by
    rw [BitVec.ofInt_natCast, BitVec.toNat_or, BitVec.toNat_ofNat, Nat.mod_eq_of_lt (by omega), show (BitVec.ofInt 64 0).toNat = 0 by decide, Nat.zero_or]
  rw [e]
  rw [IntWalk.u64_in _ (by omega)]

/-- Nanoseconds. -/
def Nn (n : Int) : Prop := 0 ≤ n ∧ n < 1073741824

/-- Seconds since 1970 of a time's own count. -/
def sec (e : Int) : Int := e - 62135596800

section
variable {w : World} {b : Nat} {n e : Int}
theorem sec_at (hc0 : w.cell? ⟨b, 0, none⟩ = some (.int .u64 n)) (hc1 : w.cell? ⟨b, 1, none⟩ = some (.int .i64 e)) (hn : Nn n) :
    Calls Try.prog 106 #[.pointer (some ⟨b, 0, none⟩)] w fun x w' => x = .returned (.int .i64 e) ∧ w = w' := by
  have hb := big_and n hn.1 hn.2
  go_enter Try.func106, Try.ntmps106
  go_wp2
  go_ret
  exact ⟨rfl, rfl⟩
theorem unixSec_at (hc0 : w.cell? ⟨b, 0, none⟩ = some (.int .u64 n)) (hc1 : w.cell? ⟨b, 1, none⟩ = some (.int .i64 e)) (hn : Nn n) (h0 : -1000000000000 ≤ e) (h1 : e ≤ 1000000000000) :
    Calls Try.prog 91 #[.pointer (some ⟨b, 0, none⟩)] w fun x w' => x = .returned (.int .i64 (sec e)) ∧ w = w' := by
  have HS := Lib.hid (sec_at hc0 hc1 hn)
  clear hc0 hc1
  go_enter Try.func91, Try.ntmps91
  go_wp2_with (go_at_call 106; refine HS.out.mono ?_; rintro e w' ⟨rfl, rfl⟩)
  go_ret
  exact ⟨ret_i (by unfold sec; omega), rfl⟩
theorem nsec_at (hc0 : w.cell? ⟨b, 0, none⟩ = some (.int .u64 n)) (hn : Nn n) :
    Calls Try.prog 92 #[.pointer (some ⟨b, 0, none⟩)] w fun x w' => x = .returned (.int .i32 n) ∧ w = w' := by
  have hb := mask_and n hn.1 hn.2
  have h1 := hn.1
  have h2 := hn.2
  go_enter Try.func92, Try.ntmps92
  go_wp2
  go_ret
  exact ⟨rfl, rfl⟩
theorem strip_at (hc0 : w.cell? ⟨b, 0, none⟩ = some (.int .u64 n)) (hn : Nn n) :
    Calls Try.prog 90 #[.pointer (some ⟨b, 0, none⟩)] w fun x w' => x = .returned (.tuple #[]) ∧ w = w' := by
  have hb := big_and n hn.1 hn.2
  go_enter Try.func90, Try.ntmps90
  go_wp2
  go_end0
  exact ⟨rfl, rfl⟩
end

/-! ### Clocks -/
/-- The place that UTC makes. -/
structure UtcAt (w : World) (b : Nat) : Prop where
  lt : b < w.heap.size
  utc : w.cell? ⟨b, 0, none⟩ = some (.bool true)
  row : w.cell? ⟨b, 2, none⟩ = some (.slice none 0 0)
def zero : Int → Int := fun _ => 0
/-- A place whose clocks are off ahead of UTC. -/
def ZoneAt (w : World) (b : Nat) (off : Int → Int) : Prop := (UtcAt w b ∧ off = zero) ∨ ∃ z : ZoneD, z.Good ∧ LocAt w b z ∧ off = z.off
/-- A time's own place: none for UTC. -/
def Clock (w : World) (loc : Option Addr) (off : Int → Int) : Prop := (loc = none ∧ off = zero) ∨ ∃ b z, loc = some ⟨b, 0, none⟩ ∧ ZoneD.Good z ∧ LocAt w b z ∧ off = z.off

theorem UtcAt.below {w w' : World} {b : Nat} (h : UtcAt w b) (hb : Below w.heap.size w w') : UtcAt w' b :=
  ⟨Nat.lt_of_lt_of_le h.lt hb.size, (hb.cell (World.block_lt_of_cell? w _ h.utc)).trans h.utc, (hb.cell (World.block_lt_of_cell? w _ h.row)).trans h.row⟩
theorem ZoneAt.below {w w' : World} {b : Nat} {off : Int → Int} (h : ZoneAt w b off) (hb : Below w.heap.size w w') : ZoneAt w' b off := by
  rcases h with ⟨h, e⟩ | ⟨z, h1, h2, e⟩
  · exact .inl ⟨h.below hb, e⟩
  · exact .inr ⟨z, h1, h2.below hb, e⟩
theorem Clock.below {w w' : World} {loc : Option Addr} {off : Int → Int} (h : Clock w loc off) (hb : Below w.heap.size w w') : Clock w' loc off := by
  rcases h with h | ⟨b, z, h1, h2, h3, e⟩
  · exact .inl h
  · exact .inr ⟨b, z, h1, h2, h3.below hb, e⟩
theorem Clock.bd {w : World} {loc : Option Addr} {off : Int → Int} (h : Clock w loc off) (s : Int) : -86400 ≤ off s ∧ off s ≤ 86400 := by
  rcases h with ⟨-, rfl⟩ | ⟨b, z, h1, h2, h3, rfl⟩
  · unfold zero; omega
  · exact h2.bd s

/-- UTC makes such a place. -/
theorem utc_any (w : World) : Calls Try.prog 55 #[] w fun e w' => ∃ b, (e = .returned (.pointer (some ⟨b, 0, none⟩)) ∧ UtcAt w' b) ∧ Below w.heap.size w w' := by
  go_enter Try.func55, Try.ntmps55
  go_wp2
  go_ret
  have hh : ∀ (cs : Array Value) (E : TypeId), (w.alloc (.cells cs E)).heap[w.heap.size]? = some (.cells cs E) := fun cs E => heap_alloc_new w _
  refine ⟨w.heap.size, ⟨rfl, by simp, ?_, ?_⟩, (Below.refl _ _).alloc (Nat.le_refl _) _⟩ <;> (unfold World.cell?; simp only [hh]; rfl)

/-- The offset in use at a place. -/
def FoundAt (off : Int → Int) (x : Int) (w : World) (e : Ending) (w' : World) : Prop :=
  ∃ (s : ByteArray) (start stop : Int) (d : Bool), e = .returned (.tuple #[.string s, .int .i64 (off x), .int .i64 start, .int .i64 stop, .bool d]) ∧ (∀ y, start ≤ y → y < stop → off y = off x) ∧
    (-9223372036854775808 ≤ start ∧ start ≤ 9223372036854775807 ∧ -9223372036854775808 ≤ stop ∧ stop ≤ 9223372036854775807) ∧ Below w.heap.size w w'

set_option maxRecDepth 100000 in
theorem lookup_at (b : Nat) (off : Int → Int) (x : Int) (w : World) (h : ZoneAt w b off) (h0 : -1000000000000000 ≤ x) (h1 : x ≤ 1000000000000000) :
    Calls Try.prog 104 #[.pointer (some ⟨b, 0, none⟩), .int .i64 x] w (FoundAt off x w) := by
  rcases h with ⟨h, rfl⟩ | ⟨z, h1', h2, rfl⟩
  · have hc := h.row
    go_enter Try.func104, Try.ntmps104
    go_wp2_with (go_at_call 103; refine (get_some b _).mono ?_; rintro e w' ⟨rfl, rfl⟩)
    exact bodyPost_ret (v := .tuple #[.string ⟨#[85, 84, 67]⟩, .int .i64 0, .int .i64 (-9223372036854775808), .int .i64 9223372036854775807, .bool false]) (by simp [results, Try.results104, go_sem]) rfl ⟨_, _, _, _, rfl, fun y _ _ => rfl, by omega, Below.refl _ _⟩
  · exact lookup_any b z x w h1' h2 (by omega) (by omega)

theorem get_none (w : World) : Calls Try.prog 103 #[.pointer none] w fun e w' => ∃ b, (e = .returned (.pointer (some ⟨b, 0, none⟩)) ∧ UtcAt w' b) ∧ Below w.heap.size w w' := by
  go_enter Try.func103, Try.ntmps103
  go_wp2_with (go_at_call 55; refine (utc_any _).mono ?_; rintro e w' ⟨b, ⟨rfl, hu⟩, hb⟩)
  go_ret
  exact ⟨b, ⟨rfl, hu⟩, hb⟩

/-! ### A boxed time -/
def Box (w : World) (b : Nat) (x y z : Value) : Prop := b < w.heap.size ∧ w.cell? ⟨b, 0, none⟩ = some x ∧ w.cell? ⟨b, 1, none⟩ = some y ∧ w.cell? ⟨b, 2, none⟩ = some z
theorem Box.below {w w' : World} {b : Nat} {x y z : Value} {B : Nat} (h : Box w b x y z) (hb : Below B w w') (hB : b < B) : Box w' b x y z :=
  ⟨Nat.lt_of_lt_of_le h.1 hb.size, (hb.cell (p := ⟨b, 0, none⟩) hB).trans h.2.1, (hb.cell (p := ⟨b, 1, none⟩) hB).trans h.2.2.1, (hb.cell (p := ⟨b, 2, none⟩) hB).trans h.2.2.2⟩
theorem box_new (w : World) (E : TypeId) (x y z : Value) : Box (w.alloc (.cells #[x, y, z] E)) w.heap.size x y z := by
  have hh : (w.alloc (.cells #[x, y, z] E)).heap[w.heap.size]? = some (.cells #[x, y, z] E) := heap_alloc_new w _
  refine ⟨by simp, ?_, ?_, ?_⟩ <;> (unfold World.cell?; simp only [hh]; rfl)

/-! ### absSec -/
def Es (e : Int) : Prop := -900000000000 ≤ e ∧ e ≤ 900000000000
set_option maxRecDepth 100000 in
theorem absSec_any (n e : Int) (loc : Option Addr) (off : Int → Int) (w : World) (hn : Nn n) (he : Es e) (hc : Clock w loc off) :
    Calls Try.prog 85 #[.agg #[.int .u64 n, .int .i64 e, .pointer loc]] w fun x w' => x = .returned (.int .u64 (abs (lo off (sec e)))) ∧ Below w.heap.size w w' := by
  have hE := Lib.hid he
  have hN := Lib.hid hn
  have hs0 : -1000000000000 ≤ sec e := by unfold sec; have := he.1; omega
  have hs1 : sec e ≤ 1000000000000 := by unfold sec; have := he.2; omega
  have hbd := Lib.hid (hc.bd (sec e))
  clear he hn
  rcases hc with ⟨rfl, rfl⟩ | ⟨b, z, rfl, hz, hl, rfl⟩
  · go_enter Try.func85, Try.ntmps85
    go_wp2_with fail
    refine (get_none _).mono ?_
    rintro x w1 ⟨b, ⟨rfl, hu⟩, hb⟩
    have hb0 := hu.utc
    have HX := Lib.hid ((box_new w 78 (.int .u64 n) (.int .i64 e) (.pointer none)).below hb (by simp))
    have HU := Lib.hid (hu)
    clear hu
    go_wp2_with fail
    refine (unixSec_at HX.out.2.1 HX.out.2.2.1 hN.out (by have := hE.out.1; omega) (by have := hE.out.2; omega)).mono ?_
    rintro x w2 ⟨rfl, rfl⟩
    go_wp2_with fail
    go_ret
    refine ⟨ret_i ?_, ((Below.refl _ _).alloc (Nat.le_refl _) _).trans (hb.mono (by simp))⟩
    simp only [u64_mod, wrap64, abs, lo, zero]
    omega
  · have hbw : Below w.heap.size w (w.alloc (.cells #[.int .u64 n, .int .i64 e, .pointer (some ⟨b, 0, none⟩)] 78)) := (Below.refl _ _).alloc (Nat.le_refl _) _
    have hl2 := hl.below hbw
    have HL := Lib.hid hl2
    have hb0 := hl2.utc
    have hb7 := hl2.cache
    have HZ := Lib.hid (lookup_any b z (sec e) · hz)
    clear hl hl2 hz
    go_enter Try.func85, Try.ntmps85
    go_wp2_with fail
    refine (unixSec_at (box_new _ _ _ _ _).2.1 (box_new _ _ _ _ _).2.2.1 hN.out (by have := hE.out.1; omega) (by have := hE.out.2; omega)).mono ?_
    rintro x w2 ⟨rfl, rfl⟩
    go_wp2_with fail
    refine (HZ.out _ HL.out (by omega) (by omega)).mono ?_
    rintro x w2 ⟨s, st, en, d, rfl, -, -, hb⟩
    go_wp2_with fail
    go_ret
    refine ⟨ret_i ?_, ((Below.refl _ _).alloc (Nat.le_refl _) _).trans (hb.mono (by simp))⟩
    have := hbd.out
    simp only [u64_mod, wrap64, abs, lo]
    omega

/-! ### The parts of a time -/
section
variable {n e : Int} {loc : Option Addr} {off : Int → Int} {w : World}

theorem lo_bd (he : Es e) (hc : Clock w loc off) : -1728000000000 ≤ lo off (sec e) ∧ lo off (sec e) ≤ 1728000000000 := by
  have h1 := hc.bd (sec e)
  obtain ⟨h2, h3⟩ := he
  unfold lo sec at *; omega
theorem dn_of (he : Es e) (hc : Clock w loc off) : Dn (day off (sec e)) := by
  have h := hc.bd (sec e)
  obtain ⟨h2, h3⟩ := he
  unfold Dn day lo sec at *; omega

theorem day_any (hn : Nn n) (he : Es e) (hc : Clock w loc off) :
    Calls Try.prog 70 #[.agg #[.int .u64 n, .int .i64 e, .pointer loc]] w fun x w' => x = .returned (.int .i64 (dOf (day off (sec e)))) ∧ Below w.heap.size w w' := by
  have hbw : Below w.heap.size w (w.alloc (.cells #[.int .u64 n, .int .i64 e, .pointer loc] 78)) := (Below.refl _ _).alloc (Nat.le_refl _) _
  have HA := Lib.hid (fun w1 (h : Below w.heap.size w w1) => absSec_any n e loc off w1 hn he (hc.below h))
  have HL := Lib.hid (lo_bd he hc)
  have HD := Lib.hid (dn_of he hc)
  clear hn he hc
  go_enter Try.func70, Try.ntmps70
  go_wp2_with (first
    | (go_at_call 85; refine (HA.out _ hbw).mono ?_; rintro x w1 ⟨rfl, hb⟩)
    | (go_at_call 86; refine (days_any (lo off (sec e)) _ HL.out.1 HL.out.2).mono ?_; rintro x w' ⟨rfl, rfl⟩)
    | (go_at_call 87; refine (split_cal (day off (sec e)) _ HD.out).mono ?_; rintro x w' ⟨rfl, rfl⟩)
    | (go_at_call 88; refine (ysplit_cal (day off (sec e)) _).mono ?_; rintro x w' ⟨rfl, rfl⟩))
  go_ret
  exact ⟨rfl, hbw.trans (hb.mono hbw.size)⟩

theorem year_any' (hn : Nn n) (he : Es e) (hc : Clock w loc off) :
    Calls Try.prog 134 #[.agg #[.int .u64 n, .int .i64 e, .pointer loc]] w fun x w' => x = .returned (.int .i64 (yOf (day off (sec e)))) ∧ Below w.heap.size w w' := by
  have hbw : Below w.heap.size w (w.alloc (.cells #[.int .u64 n, .int .i64 e, .pointer loc] 78)) := (Below.refl _ _).alloc (Nat.le_refl _) _
  have HA := Lib.hid (fun w1 (h : Below w.heap.size w w1) => absSec_any n e loc off w1 hn he (hc.below h))
  have HL := Lib.hid (lo_bd he hc)
  have HD := Lib.hid (dn_of he hc)
  clear hn he hc
  go_enter Try.func134, Try.ntmps134
  go_wp2_with (first
    | (go_at_call 85; refine (HA.out _ hbw).mono ?_; rintro x w1 ⟨rfl, hb⟩)
    | (go_at_call 86; refine (days_any (lo off (sec e)) _ HL.out.1 HL.out.2).mono ?_; rintro x w' ⟨rfl, rfl⟩)
    | (go_at_call 87; refine (split_cal (day off (sec e)) _ HD.out).mono ?_; rintro x w' ⟨rfl, rfl⟩)
    | (go_at_call 143; refine (jf_cal (day off (sec e)) _).mono ?_; rintro x w' ⟨rfl, rfl⟩)
    | (go_at_call 144; refine (year_cal (day off (sec e)) _ HD.out).mono ?_; rintro x w' ⟨rfl, rfl⟩))
  go_ret
  exact ⟨rfl, hbw.trans (hb.mono hbw.size)⟩

theorem month_any' (hn : Nn n) (he : Es e) (hc : Clock w loc off) :
    Calls Try.prog 135 #[.agg #[.int .u64 n, .int .i64 e, .pointer loc]] w fun x w' => x = .returned (.int .i64 (mOf (day off (sec e)))) ∧ Below w.heap.size w w' := by
  have hbw : Below w.heap.size w (w.alloc (.cells #[.int .u64 n, .int .i64 e, .pointer loc] 78)) := (Below.refl _ _).alloc (Nat.le_refl _) _
  have HA := Lib.hid (fun w1 (h : Below w.heap.size w w1) => absSec_any n e loc off w1 hn he (hc.below h))
  have HL := Lib.hid (lo_bd he hc)
  have HD := Lib.hid (dn_of he hc)
  clear hn he hc
  go_enter Try.func135, Try.ntmps135
  go_wp2_with (first
    | (go_at_call 85; refine (HA.out _ hbw).mono ?_; rintro x w1 ⟨rfl, hb⟩)
    | (go_at_call 86; refine (days_any (lo off (sec e)) _ HL.out.1 HL.out.2).mono ?_; rintro x w' ⟨rfl, rfl⟩)
    | (go_at_call 87; refine (split_cal (day off (sec e)) _ HD.out).mono ?_; rintro x w' ⟨rfl, rfl⟩)
    | (go_at_call 88; refine (ysplit_cal (day off (sec e)) _).mono ?_; rintro x w' ⟨rfl, rfl⟩)
    | (go_at_call 143; refine (jf_cal (day off (sec e)) _).mono ?_; rintro x w' ⟨rfl, rfl⟩)
    | (go_at_call 145; refine (month_cal (day off (sec e)) _).mono ?_; rintro x w' ⟨rfl, rfl⟩))
  go_ret
  exact ⟨rfl, hbw.trans (hb.mono hbw.size)⟩

theorem weekday_any (hn : Nn n) (he : Es e) (hc : Clock w loc off) :
    Calls Try.prog 71 #[.agg #[.int .u64 n, .int .i64 e, .pointer loc]] w fun x w' => x = .returned (.int .i64 (wdOf (day off (sec e)))) ∧ Below w.heap.size w w' := by
  have hbw : Below w.heap.size w (w.alloc (.cells #[.int .u64 n, .int .i64 e, .pointer loc] 78)) := (Below.refl _ _).alloc (Nat.le_refl _) _
  have HA := Lib.hid (fun w1 (h : Below w.heap.size w w1) => absSec_any n e loc off w1 hn he (hc.below h))
  have HL := Lib.hid (lo_bd he hc)
  have HD := Lib.hid (dn_of he hc)
  clear hn he hc
  go_enter Try.func71, Try.ntmps71
  go_wp2_with (first
    | (go_at_call 85; refine (HA.out _ hbw).mono ?_; rintro x w1 ⟨rfl, hb⟩)
    | (go_at_call 86; refine (days_any (lo off (sec e)) _ HL.out.1 HL.out.2).mono ?_; rintro x w' ⟨rfl, rfl⟩)
    | (go_at_call 89; refine (weekday_cal (day off (sec e)) _ HD.out).mono ?_; rintro x w' ⟨rfl, rfl⟩))
  go_ret
  exact ⟨rfl, hbw.trans (hb.mono hbw.size)⟩

theorem hour_any (hn : Nn n) (he : Es e) (hc : Clock w loc off) :
    Calls Try.prog 138 #[.agg #[.int .u64 n, .int .i64 e, .pointer loc]] w fun x w' => x = .returned (.int .i64 (tod off (sec e) / 3600)) ∧ Below w.heap.size w w' := by
  have hbw : Below w.heap.size w (w.alloc (.cells #[.int .u64 n, .int .i64 e, .pointer loc] 78)) := (Below.refl _ _).alloc (Nat.le_refl _) _
  have HA := Lib.hid (fun w1 (h : Below w.heap.size w w1) => absSec_any n e loc off w1 hn he (hc.below h))
  have HL := Lib.hid (lo_bd he hc)
  have HD := Lib.hid (dn_of he hc)
  have hab : 0 ≤ abs (lo off (sec e)) ∧ abs (lo off (sec e)) ≤ 18446744073709551615 := by have := HL.out; unfold abs; omega
  have HE : Hid (abs (lo off (sec e)) % 86400 = tod off (sec e) ∧ abs (lo off (sec e)) % 3600 = tod off (sec e) % 3600 ∧ abs (lo off (sec e)) % 60 = tod off (sec e) % 60) := Lib.hid (by unfold abs tod; omega)
  clear hn he hc
  go_enter Try.func138, Try.ntmps138
  go_wp2_with (first
    | (go_at_call 85; refine (HA.out _ hbw).mono ?_; rintro x w1 ⟨rfl, hb⟩))
  go_ret
  exact ⟨ret_i (by rw [HE.out.1]), hbw.trans (hb.mono hbw.size)⟩

theorem minute_any (hn : Nn n) (he : Es e) (hc : Clock w loc off) :
    Calls Try.prog 139 #[.agg #[.int .u64 n, .int .i64 e, .pointer loc]] w fun x w' => x = .returned (.int .i64 (tod off (sec e) % 3600 / 60)) ∧ Below w.heap.size w w' := by
  have hbw : Below w.heap.size w (w.alloc (.cells #[.int .u64 n, .int .i64 e, .pointer loc] 78)) := (Below.refl _ _).alloc (Nat.le_refl _) _
  have HA := Lib.hid (fun w1 (h : Below w.heap.size w w1) => absSec_any n e loc off w1 hn he (hc.below h))
  have HL := Lib.hid (lo_bd he hc)
  have HD := Lib.hid (dn_of he hc)
  have hab : 0 ≤ abs (lo off (sec e)) ∧ abs (lo off (sec e)) ≤ 18446744073709551615 := by have := HL.out; unfold abs; omega
  have HE : Hid (abs (lo off (sec e)) % 86400 = tod off (sec e) ∧ abs (lo off (sec e)) % 3600 = tod off (sec e) % 3600 ∧ abs (lo off (sec e)) % 60 = tod off (sec e) % 60) := Lib.hid (by unfold abs tod; omega)
  clear hn he hc
  go_enter Try.func139, Try.ntmps139
  go_wp2_with (first
    | (go_at_call 85; refine (HA.out _ hbw).mono ?_; rintro x w1 ⟨rfl, hb⟩))
  go_ret
  exact ⟨ret_i (by rw [HE.out.2.1]), hbw.trans (hb.mono hbw.size)⟩

theorem second_any (hn : Nn n) (he : Es e) (hc : Clock w loc off) :
    Calls Try.prog 141 #[.agg #[.int .u64 n, .int .i64 e, .pointer loc]] w fun x w' => x = .returned (.int .i64 (tod off (sec e) % 60)) ∧ Below w.heap.size w w' := by
  have hbw : Below w.heap.size w (w.alloc (.cells #[.int .u64 n, .int .i64 e, .pointer loc] 78)) := (Below.refl _ _).alloc (Nat.le_refl _) _
  have HA := Lib.hid (fun w1 (h : Below w.heap.size w w1) => absSec_any n e loc off w1 hn he (hc.below h))
  have HL := Lib.hid (lo_bd he hc)
  have HD := Lib.hid (dn_of he hc)
  have hab : 0 ≤ abs (lo off (sec e)) ∧ abs (lo off (sec e)) ≤ 18446744073709551615 := by have := HL.out; unfold abs; omega
  have HE : Hid (abs (lo off (sec e)) % 86400 = tod off (sec e) ∧ abs (lo off (sec e)) % 3600 = tod off (sec e) % 3600 ∧ abs (lo off (sec e)) % 60 = tod off (sec e) % 60) := Lib.hid (by unfold abs tod; omega)
  clear hn he hc
  go_enter Try.func141, Try.ntmps141
  go_wp2_with (first
    | (go_at_call 85; refine (HA.out _ hbw).mono ?_; rintro x w1 ⟨rfl, hb⟩))
  go_ret
  exact ⟨ret_i (by rw [HE.out.2.2]), hbw.trans (hb.mono hbw.size)⟩

theorem date_any (hn : Nn n) (he : Es e) (hc : Clock w loc off) :
    Calls Try.prog 148 #[.agg #[.int .u64 n, .int .i64 e, .pointer loc]] w fun x w' => x = .returned (.tuple #[.int .i64 (yOf (day off (sec e))), .int .i64 (mOf (day off (sec e))), .int .i64 (dOf (day off (sec e)))]) ∧ Below w.heap.size w w' := by
  have hbw : Below w.heap.size w (w.alloc (.cells #[.int .u64 n, .int .i64 e, .pointer loc] 78)) := (Below.refl _ _).alloc (Nat.le_refl _) _
  have HA := Lib.hid (fun w1 (h : Below w.heap.size w w1) => absSec_any n e loc off w1 hn he (hc.below h))
  have HL := Lib.hid (lo_bd he hc)
  have HD := Lib.hid (dn_of he hc)
  clear hn he hc
  go_enter Try.func148, Try.ntmps148
  go_wp2_with (first
    | (go_at_call 85; refine (HA.out _ hbw).mono ?_; rintro x w1 ⟨rfl, hb⟩)
    | (go_at_call 86; refine (days_any (lo off (sec e)) _ HL.out.1 HL.out.2).mono ?_; rintro x w' ⟨rfl, rfl⟩)
    | (go_at_call 151; refine (date_cal (day off (sec e)) _ HD.out).mono ?_; rintro x w' ⟨rfl, rfl⟩))
  go_ret3
  exact ⟨rfl, hbw.trans (hb.mono hbw.size)⟩

theorem clock_any' (hn : Nn n) (he : Es e) (hc : Clock w loc off) :
    Calls Try.prog 149 #[.agg #[.int .u64 n, .int .i64 e, .pointer loc]] w fun x w' => x = .returned (.tuple #[.int .i64 (tod off (sec e) / 3600), .int .i64 (tod off (sec e) % 3600 / 60), .int .i64 (tod off (sec e) % 60)]) ∧ Below w.heap.size w w' := by
  have hbw : Below w.heap.size w (w.alloc (.cells #[.int .u64 n, .int .i64 e, .pointer loc] 78)) := (Below.refl _ _).alloc (Nat.le_refl _) _
  have HA := Lib.hid (fun w1 (h : Below w.heap.size w w1) => absSec_any n e loc off w1 hn he (hc.below h))
  have HL := Lib.hid (lo_bd he hc)
  have HD := Lib.hid (dn_of he hc)
  clear hn he hc
  go_enter Try.func149, Try.ntmps149
  go_wp2_with (first
    | (go_at_call 85; refine (HA.out _ hbw).mono ?_; rintro x w1 ⟨rfl, hb⟩)
    | (go_at_call 152; refine (clock_any (lo off (sec e)) _ HL.out.1 HL.out.2).mono ?_; rintro x w' ⟨rfl, rfl⟩))
  go_ret3
  exact ⟨ret_3 (by unfold tod; omega) (by unfold tod; omega) (by unfold tod; omega), hbw.trans (hb.mono hbw.size)⟩

theorem nano_any (hn : Nn n) : Calls Try.prog 82 #[.agg #[.int .u64 n, .int .i64 e, .pointer loc]] w fun x w' => x = .returned (.int .i64 n) ∧ Below w.heap.size w w' := by
  have hbw : Below w.heap.size w (w.alloc (.cells #[.int .u64 n, .int .i64 e, .pointer loc] 78)) := (Below.refl _ _).alloc (Nat.le_refl _) _
  have h1 := hn.1
  have h2 := hn.2
  go_enter Try.func82, Try.ntmps82
  go_wp2_with (go_at_call 92; refine (nsec_at (box_new _ _ _ _ _).2.1 hn).mono ?_; rintro x w1 ⟨rfl, rfl⟩)
  go_ret
  exact ⟨rfl, hbw⟩
theorem unix_any (hn : Nn n) (he : Es e) : Calls Try.prog 81 #[.agg #[.int .u64 n, .int .i64 e, .pointer loc]] w fun x w' => x = .returned (.int .i64 (sec e)) ∧ Below w.heap.size w w' := by
  have hbw : Below w.heap.size w (w.alloc (.cells #[.int .u64 n, .int .i64 e, .pointer loc] 78)) := (Below.refl _ _).alloc (Nat.le_refl _) _
  have hE := Lib.hid he
  go_enter Try.func81, Try.ntmps81
  go_wp2_with (go_at_call 91; refine (unixSec_at (box_new _ _ _ _ _).2.1 (box_new _ _ _ _ _).2.2.1 hn (by have := hE.out.1; omega) (by have := hE.out.2; omega)).mono ?_; rintro x w1 ⟨rfl, rfl⟩)
  go_ret
  exact ⟨rfl, hbw⟩
/-- Location: a place for UTC is made. -/
theorem location_utc : Calls Try.prog 132 #[.agg #[.int .u64 n, .int .i64 e, .pointer none]] w fun x w' => ∃ b, (x = .returned (.pointer (some ⟨b, 0, none⟩)) ∧ UtcAt w' b) ∧ Below w.heap.size w w' := by
  have hbw : Below w.heap.size w (w.alloc (.cells #[.int .u64 n, .int .i64 e, .pointer none] 78)) := (Below.refl _ _).alloc (Nat.le_refl _) _
  go_enter Try.func132, Try.ntmps132
  go_wp2_with (go_at_call 55; refine (utc_any _).mono ?_; rintro x w' ⟨b, ⟨rfl, hu⟩, hb⟩)
  go_ret
  exact ⟨b, ⟨rfl, hu⟩, hbw.trans (hb.mono hbw.size)⟩
theorem location_zone {b : Nat} : Calls Try.prog 132 #[.agg #[.int .u64 n, .int .i64 e, .pointer (some ⟨b, 0, none⟩)]] w fun x w' => x = .returned (.pointer (some ⟨b, 0, none⟩)) ∧ Below w.heap.size w w' := by
  have hbw : Below w.heap.size w (w.alloc (.cells #[.int .u64 n, .int .i64 e, .pointer (some ⟨b, 0, none⟩)] 78)) := (Below.refl _ _).alloc (Nat.le_refl _) _
  go_enter Try.func132, Try.ntmps132
  go_wp2
  go_ret
  exact ⟨rfl, hbw⟩
/-- A time's place. -/
def PlaceOf (off : Int → Int) (w : World) (x : Ending) (w' : World) : Prop := ∃ b, (x = .returned (.pointer (some ⟨b, 0, none⟩)) ∧ ZoneAt w' b off) ∧ Below w.heap.size w w'
theorem location_any (hc : Clock w loc off) : Calls Try.prog 132 #[.agg #[.int .u64 n, .int .i64 e, .pointer loc]] w (PlaceOf off w) := by
  rcases hc with ⟨rfl, rfl⟩ | ⟨b, z, rfl, hz, hl, rfl⟩
  · refine location_utc.mono ?_
    rintro x w' ⟨b, ⟨rfl, hu⟩, hb⟩
    exact ⟨b, ⟨rfl, .inl ⟨hu, rfl⟩⟩, hb⟩
  · refine location_zone.mono ?_
    rintro x w' ⟨rfl, hb⟩
    exact ⟨b, ⟨rfl, .inr ⟨z, hz, hl.below hb, rfl⟩⟩, hb⟩

end

end Go.Proofs.Ytoekefbclkmchaa.Time
