/- A zone in memory, and what the program looks up in it. Conditions: transitions in order, the first ahead of all instants. · The reference's calendar. Conditions: numbers within 10^15. · Zones that come in: what the statements ask of them, the reference's offset. Conditions: none but lengths below 2^31. · The arguments of kinds impl.Instant and impl.Zone, opened. · Laws on memory for walks: a slice that came in, append to an owned row as a step of a region that draws its order. Conditions: none. · Small laws on blocks behind an opaque call. Conditions: none. · Whole structs of many cells: their making, storing and loading as single steps of a walk. Conditions: none. -/
import Derived.Test.YtmnjmhlodbifjaaGreatDoorR1
import Derived.Deep.QuietTactic
import Derived.BigQuiet
import Derived.WalkSpells
import Derived.Below
import Derived.BigFrame
import Derived.Deep.RegionHeld3
import Derived.Deep.DeepCutAuto
import Derived.Lib.SmallJoins
import Derived.Deep.Grids
import Derived.ChangeSlices
import Derived.WalkKit
import Derived.ProofKit
import Derived.OpenShut
import Derived.Deep.RegionLaw
import Derived.Deep.RegionLawGrows
import Derived.Laws.OwnMore
import Derived.Laws.BytesArg
import Derived.Test.YtmnjmhlodbifjaaGreatDoorChecked
import Derived.Lib.Hide
import Derived.WalkSmall
import Derived.Deep.MidRow
import Derived.Laws.Tables
import Derived.Laws.Rows
import Derived.Deep.Upon

namespace Go.Proofs.YtmnjmhlodbifjaaGreatDoor.Lookup
open Go Go.RowKit Go.Proofs.YtmnjmhlodbifjaaGreatDoor.Cal Go.Proofs.YtmnjmhlodbifjaaGreatDoor.Off Go.Proofs.YtmnjmhlodbifjaaGreatDoor.TimeNum
set_option linter.unusedVariables false
def offK (o : Nat → Int) (wh : Nat → Int) (ix : Nat → Nat) (sec : Int) : Nat → Int
  | 0 => 0
  | k + 1 => if wh k ≤ sec then o (ix k) else offK o wh ix sec k
structure ZoneD where
  n : Nat
  m : Nat
  o : Nat → Int
  d : Nat → Bool
  wh : Nat → Int
  ix : Nat → Nat
structure ZoneD.Good (z : ZoneD) : Prop where
  n1 : 1 ≤ z.n
  n64 : z.n ≤ 64
  m1 : 1 ≤ z.m
  m4096 : z.m ≤ 4096
  w0 : z.wh 0 = -9223372036854775808
  asc : ∀ i j, i < j → j < z.m → z.wh i < z.wh j
  w64 : ∀ i, i < z.m → -9223372036854775808 ≤ z.wh i ∧ z.wh i ≤ 9223372036854775807
  o1 : ∀ k, k < z.n → -86400 ≤ z.o k ∧ z.o k ≤ 86400
  ixn : ∀ i, i < z.m → z.ix i < z.n
def ZoneD.off (z : ZoneD) (sec : Int) : Int := offK z.o z.wh z.ix sec z.m
theorem ZoneD.Good.asc' {z : ZoneD} (h : z.Good) {i j : Nat} (hij : i ≤ j) (hj : j < z.m) : z.wh i ≤ z.wh j := by
  rcases Nat.lt_or_ge i j with h1 | h1
  · exact Int.le_of_lt (h.asc i j h1 hj)
  · obtain rfl : i = j := by omega
    exact Int.le_refl _
theorem offK_at {z : ZoneD} (h : z.Good) (sec : Int) (j : Nat) (hj : z.wh j ≤ sec) : ∀ k, j < k → k ≤ z.m → (∀ i, j < i → i < k → sec < z.wh i) → offK z.o z.wh z.ix sec k = z.o (z.ix j) := by
  intro k
  induction k with
  | zero => intro h1; omega
  | succ k ih =>
    intro h1 h2 h3
    unfold offK
    by_cases hk : j = k
    · subst hk; rw [if_pos hj]
    · rw [if_neg (by have := h3 k (by omega) (by omega); omega)]
      exact ih (by omega) (by omega) (fun i a b => h3 i a (by omega))
theorem off_at {z : ZoneD} (h : z.Good) (sec : Int) (j : Nat) (hj : j < z.m) (h1 : z.wh j ≤ sec) (h2 : j + 1 = z.m ∨ sec < z.wh (j + 1)) : z.off sec = z.o (z.ix j) :=
  offK_at h sec j h1 z.m hj (Nat.le_refl _) fun i a b => by
    rcases h2 with h2 | h2
    · omega
    · exact Int.lt_of_lt_of_le h2 (h.asc' (by omega) b)
theorem ZoneD.Good.bd {z : ZoneD} (h : z.Good) (sec : Int) : -86400 ≤ z.off sec ∧ z.off sec ≤ 86400 := by
  have key : ∀ k, k ≤ z.m → -86400 ≤ offK z.o z.wh z.ix sec k ∧ offK z.o z.wh z.ix sec k ≤ 86400 := by
    intro k
    induction k with
    | zero => intro _; simp [offK]
    | succ k ih =>
      intro hk
      unfold offK
      split
      · exact h.o1 _ (h.ixn k (by omega))
      · exact ih (by omega)
  exact key z.m (Nat.le_refl _)
structure LocAt (w : World) (b : Nat) (z : ZoneD) : Prop where
  lt : b < w.heap.size
  utc : w.cell? ⟨b, 0, none⟩ = some (.bool false)
  rows : ∃ g cg h ch, w.cell? ⟨b, 2, none⟩ = some (.slice (some ⟨g, 0, none⟩) z.n cg) ∧ w.cell? ⟨b, 3, none⟩ = some (.slice (some ⟨h, 0, none⟩) z.m ch) ∧ z.n ≤ cg ∧ z.m ≤ ch ∧
    (∀ k, k < z.n → (∃ s, w.cell? ⟨g, k * 3, none⟩ = some (.string s)) ∧ w.cell? ⟨g, k * 3 + 1, none⟩ = some (.int .i64 (z.o k)) ∧ w.cell? ⟨g, k * 3 + 2, none⟩ = some (.bool (z.d k))) ∧
    (∀ i, i < z.m → w.cell? ⟨h, i * 4, none⟩ = some (.int .i64 (z.wh i)) ∧ w.cell? ⟨h, i * 4 + 1, none⟩ = some (.int .u8 (z.ix i : Int)))
  cache : w.cell? ⟨b, 7, none⟩ = some (.pointer none)
theorem LocAt.below {w w' : World} {b : Nat} {z : ZoneD} (h : LocAt w b z) (hb : Below w.heap.size w w') : LocAt w' b z := by
  obtain ⟨g, cg, hh, ch, r1, r2, r3, r4, r5, r6⟩ := h.rows
  have old : ∀ {p : Addr} {v : Value}, w.cell? p = some v → w'.cell? p = some v := fun hv => (hb.cell (World.block_lt_of_cell? w _ hv)).trans hv
  refine ⟨Nat.lt_of_lt_of_le h.lt hb.size, old h.utc, ⟨g, cg, hh, ch, old r1, old r2, r3, r4, fun k hk => ?_, fun i hi => ?_⟩, old h.cache⟩
  · obtain ⟨⟨s, q1⟩, q2, q3⟩ := r5 k hk
    exact ⟨⟨s, old q1⟩, old q2, old q3⟩
  · obtain ⟨q1, q2⟩ := r6 i hi
    exact ⟨old q1, old q2⟩
theorem below_drewN {B : Nat} (w : World) (n : Nat) : Below B w (w.drewN n) := ⟨rfl, rfl, rfl, Nat.le_refl _, fun _ _ => rfl⟩
theorem get_some (b : Nat) (w : World) : Calls Tryz.prog 216 #[.pointer (some ⟨b, 0, none⟩)] w fun e w' => e = .returned (.pointer (some ⟨b, 0, none⟩)) ∧ w = w' := by
  go_enter Tryz.func216, Tryz.ntmps216
  go_wp2
  go_ret
  exact ⟨rfl, rfl⟩
def Found (z : ZoneD) (sec : Int) (w : World) (e : Ending) (w' : World) : Prop :=
  ∃ (s : ByteArray) (start stop : Int) (d : Bool), e = .returned (.tuple #[.string s, .int .i64 (z.off sec), .int .i64 start, .int .i64 stop, .bool d]) ∧ (∀ x, start ≤ x → x < stop → z.off x = z.off sec) ∧
    (-9223372036854775808 ≤ start ∧ start ≤ 9223372036854775807 ∧ -9223372036854775808 ≤ stop ∧ stop ≤ 9223372036854775807) ∧ Below w.heap.size w w'
set_option maxHeartbeats 1000000 in
set_option maxRecDepth 100000 in
theorem lookup_any (b : Nat) (z : ZoneD) (sec : Int) (w : World) (hz : z.Good) (hl : LocAt w b z) (h0 : -9223372036854775808 ≤ sec) (h1 : sec ≤ 9223372036854775806) :
    Calls Tryz.prog 211 #[.pointer (some ⟨b, 0, none⟩), .int .i64 sec] w (Found z sec w) := by
  obtain ⟨g, cg, hh, ch, r1, r2, r3, r4, r5, r6⟩ := hl.rows
  have hc7 := hl.cache
  have hn1 := hz.n1
  have hm1 := hz.m1
  have hm2 := hz.m4096
  have hn2 := hz.n64
  have hw0 := (r6 0 (by omega)).1
  rw [hz.w0] at hw0
  have hn0 : (((z.n : Nat) : Int) == 0) = false := beq_eq_false_iff_ne.2 (by omega)
  have hm0 : (((z.m : Nat) : Int) == 0) = false := beq_eq_false_iff_ne.2 (by omega)
  have HR := Lib.hid r6
  have HO := Lib.hid r5
  have HZ := Lib.hid hz
  clear r5 r6 hz hl
  go_enter Tryz.func211, Tryz.ntmps211
  go_wp2_with (go_at_call 216; refine (get_some b _).mono ?_; rintro e w' ⟨rfl, rfl⟩)
  go_loop [7, 12, 13] (fun en lo hi => ∃ (i j : Nat) (x : Int), i < j ∧ j ≤ z.m ∧ lo = .int .i64 (i : Int) ∧ hi = .int .i64 (j : Int) ∧ en = .int .i64 x ∧ Hid (z.wh i ≤ sec) ∧ Hid ((j = z.m ∧ x = 9223372036854775807) ∨ (j < z.m ∧ x = z.wh j ∧ sec < x))) (fun en lo hi => (intOf hi - intOf lo).toNat)
  case atStart => exact ⟨0, z.m, _, hm1, Nat.le_refl _, rfl, rfl, rfl, Lib.hid (by rw [HZ.out.w0]; exact h0), Lib.hid (.inl ⟨rfl, rfl⟩)⟩
  case round =>
    obtain ⟨i, j, x, hij, hj, rfl, rfl, rfl, HI, HJ⟩ := hrel
    by_cases hlt : i + 1 < j
    · obtain ⟨k, hk⟩ : ∃ k : Nat, (i + j) / 2 = k := ⟨_, rfl⟩
      have hk1 : i < k := by omega
      have hk2 : k < j := by omega
      have e1 : ((i : Int) + (j : Int)) / 2 = (k : Int) := by omega
      have hd : decide (1 < (j : Int) - (i : Int)) = true := by simp; omega
      have hc := (HR.out k (by omega)).1
      have H64 := Lib.hid (HZ.out.w64 k (by omega))
      clear hk
      by_cases hs : sec < z.wh k
      · go_wp2
        go_round
        case rel => exact ⟨i, k, z.wh k, by omega, by omega, rfl, rfl, rfl, HI, Lib.hid (.inr ⟨by omega, rfl, hs⟩)⟩
        case measure => simp [intOf]; omega
      · go_wp2
        go_round
        case rel => exact ⟨k, j, x, by omega, by omega, rfl, rfl, rfl, Lib.hid (by omega), HJ⟩
        case measure => simp [intOf]; omega
    · obtain rfl : j = i + 1 := by omega
      have hd : decide (1 < ((i + 1 : Nat) : Int) - (i : Int)) = false := by simp; omega
      obtain ⟨q1, q2⟩ := HR.out i (by omega)
      have hix := HZ.out.ixn i (by omega)
      obtain ⟨⟨s, p1⟩, p2, p3⟩ := HO.out (z.ix i) hix
      go_wp2
      go_quiet (fail)
      go_wp2
      have hoff : z.off sec = z.o (z.ix i) := off_at HZ.out sec i (by omega) HI.out (by
        rcases HJ.out with ⟨e1, e2⟩ | ⟨e1, e2, e3⟩
        · exact .inl e1
        · exact .inr (by omega))
      refine bodyPost_ret (v := .tuple #[.string s, .int .i64 (z.o (z.ix i)), .int .i64 (z.wh i), .int .i64 x, .bool (z.d (z.ix i))]) (by simp [results, Tryz.results211, go_sem]) rfl ⟨s, z.wh i, x, z.d (z.ix i), by rw [hoff], fun y y1 y2 => ?_, ?_, below_drewN w nq⟩
      · rw [hoff]
        exact off_at HZ.out y i (by omega) y1 (by
          rcases HJ.out with ⟨e1, e2⟩ | ⟨e1, e2, e3⟩
          · exact .inl e1
          · exact .inr (by omega))
      · have a1 := HZ.out.w64 i (by omega)
        refine ⟨a1.1, a1.2, ?_⟩
        rcases HJ.out with ⟨e1, e2⟩ | ⟨e1, e2, e3⟩
        · omega
        · have a2 := HZ.out.w64 (i + 1) (by omega); omega
end Go.Proofs.YtmnjmhlodbifjaaGreatDoor.Lookup
namespace Go.Proofs.YtmnjmhlodbifjaaGreatDoor.SpecCal
open Go Go.RowKit Go.Proofs.YtmnjmhlodbifjaaGreatDoor.Cal Go.Proofs.YtmnjmhlodbifjaaGreatDoor.TimeNum
set_option linter.unusedVariables false
def Sm (a : Int) : Prop := -1000000000000000 ≤ a ∧ a ≤ 1000000000000000
theorem neg_div (c b q r : Int) (hq : c / b = q) (hr : c % b = r) (hb : 0 < b) : (r = 0 → -c / b = -q) ∧ (0 < r → -c / b = -q - 1) := by
  have e := Int.emod_add_mul_ediv c b
  have hr1 := Int.emod_nonneg c (show b ≠ 0 by omega)
  have hr2 := Int.emod_lt_of_pos c hb
  rw [hq, hr] at e
  rw [hr] at hr1 hr2
  constructor
  · intro h0
    rw [Int.ediv_eq_iff_of_pos hb, Int.neg_mul, Int.mul_comm q b]
    generalize b * q = m at *
    omega
  · intro h0
    rw [Int.ediv_eq_iff_of_pos hb, Int.sub_mul, Int.neg_mul, Int.mul_comm q b]
    generalize b * q = m at *
    omega
theorem floorDiv_any (a b : Int) (w : World) (ha : Sm a) (hb : 0 < b) (hb2 : b ≤ 1000000) :
    Calls Tryz.prog 77 #[.int .i64 a, .int .i64 b] w fun e w' => e = .returned (.int .i64 (a / b)) ∧ w = w' := by
  obtain ⟨h1, h2⟩ := ha
  by_cases h : 0 ≤ a
  · have hq := Int.ediv_le_self b h
    have hq0 := Int.ediv_nonneg h (show 0 ≤ b by omega)
    have hm := Int.emod_nonneg a (show b ≠ 0 by omega)
    go_enter Tryz.func77, Tryz.ntmps77
    go_wp2
    go_ret
    exact ⟨rfl, rfl⟩
  · obtain ⟨c, hc⟩ : ∃ c, a = -c := ⟨-a, by omega⟩
    subst hc
    have h3 : 0 ≤ c := by omega
    have hq := Int.ediv_le_self b h3
    have hq0 := Int.ediv_nonneg h3 (show 0 ≤ b by omega)
    have hm0 := Int.emod_nonneg c (show b ≠ 0 by omega)
    have hm1 := Int.emod_lt_of_pos c hb
    have e1 : (-c).tdiv b = -(c / b) := by rw [Int.neg_tdiv, Int.tdiv_eq_ediv_of_nonneg h3]
    have e2 : (-c).tmod b = -(c % b) := by rw [Int.neg_tmod, Int.tmod_eq_emod_of_nonneg h3]
    have HE := Lib.hid (neg_div c b _ _ rfl rfl hb)
    by_cases h0 : 0 < c % b
    · go_enter Tryz.func77, Tryz.ntmps77
      go_wp2
      go_ret
      exact ⟨ret_i (HE.out.2 h0).symm, rfl⟩
    · have h00 : c % b = 0 := by omega
      go_enter Tryz.func77, Tryz.ntmps77
      go_wp2
      go_ret
      exact ⟨ret_i (HE.out.1 h00).symm, rfl⟩
theorem floorMod_any (a b : Int) (w : World) (ha : Sm a) (hb : 0 < b) (hb2 : b ≤ 1000000) :
    Calls Tryz.prog 109 #[.int .i64 a, .int .i64 b] w fun e w' => e = .returned (.int .i64 (a % b)) ∧ w = w' := by
  have HE := Lib.hid (Int.emod_def a b)
  have hm0 := Int.emod_nonneg a (show b ≠ 0 by omega)
  have hm1 := Int.emod_lt_of_pos a hb
  have hs : a - b * (a / b) = a % b := (Int.emod_def a b).symm
  have hx : -2000000000000000 ≤ b * (a / b) ∧ b * (a / b) ≤ 2000000000000000 := by obtain ⟨h1, h2⟩ := ha; omega
  go_enter Tryz.func109, Tryz.ntmps109
  go_wp2_with (go_at_call 77; refine (floorDiv_any a b _ ha hb hb2).mono ?_; rintro e w' ⟨rfl, rfl⟩)
  go_ret
  exact ⟨rfl, rfl⟩
theorem tmod_zero (y k : Int) : y.tmod k = 0 ↔ y % k = 0 :=
  ⟨fun h => Int.emod_eq_zero_of_dvd (Int.dvd_of_tmod_eq_zero h), fun h => Int.tmod_eq_zero_of_dvd (Int.dvd_of_emod_eq_zero h)⟩
theorem leap_any (y : Int) (w : World) (h0 : -1000000000000 ≤ y) (h1 : y ≤ 1000000000000) :
    Calls Tryz.prog 41 #[.int .i64 y] w fun e w' => e = .returned (.bool (decide (lp y = 1))) ∧ w = w' := by
  have m4 := tmod_zero y 4
  have m100 := tmod_zero y 100
  have m400 := tmod_zero y 400
  by_cases c4 : y % 4 = 0
  · have b4 : (y.tmod 4 == 0) = true := beq_iff_eq.2 (m4.2 c4)
    by_cases c100 : y % 100 = 0
    · have b100 : (y.tmod 100 != 0) = false := by rw [bne_eq_false_iff_eq]; exact m100.2 c100
      by_cases c400 : y % 400 = 0
      · have b400 : (y.tmod 400 == 0) = true := beq_iff_eq.2 (m400.2 c400)
        have HF := Lib.hid (show lp y = 1 by unfold lp; rw [if_pos (by omega)])
        clear m4 m100 m400 c4 c100 c400
        go_enter Tryz.func41, Tryz.ntmps41
        go_wp2
        go_ret
        exact ⟨by rw [HF.out]; rfl, rfl⟩
      · have b400 : (y.tmod 400 == 0) = false := beq_eq_false_iff_ne.2 (fun h => c400 (m400.1 h))
        have HF := Lib.hid (show lp y = 0 by unfold lp; rw [if_neg (by omega)])
        clear m4 m100 m400 c4 c100 c400
        go_enter Tryz.func41, Tryz.ntmps41
        go_wp2
        go_ret
        exact ⟨by rw [HF.out]; rfl, rfl⟩
    · have b100 : (y.tmod 100 != 0) = true := by rw [bne_iff_ne]; exact fun h => c100 (m100.1 h)
      have HF := Lib.hid (show lp y = 1 by unfold lp; rw [if_pos (by omega)])
      clear m4 m100 m400 c4 c100
      go_enter Tryz.func41, Tryz.ntmps41
      go_wp2
      go_ret
      exact ⟨by rw [HF.out]; rfl, rfl⟩
  · have b4 : (y.tmod 4 == 0) = false := beq_eq_false_iff_ne.2 (fun h => c4 (m4.1 h))
    have HF := Lib.hid (show lp y = 0 by unfold lp; rw [if_neg (by omega)])
    clear m4 m100 m400 c4
    go_enter Tryz.func41, Tryz.ntmps41
    go_wp2
    go_ret
    exact ⟨by rw [HF.out]; rfl, rfl⟩
theorem monthDays_any (y m : Int) (w : World) (h0 : -1000000000000 ≤ y) (h1 : y ≤ 1000000000000) (m0 : 1 ≤ m) (m1 : m ≤ 12) :
    Calls Tryz.prog 19 #[.int .i64 y, .int .i64 m] w fun e w' => e = .returned (.int .i64 (mlen y m)) ∧ w = w' := by
  have HL := Lib.hid (fun w => leap_any y w h0 h1)
  have hm : m = 1 ∨ m = 2 ∨ m = 3 ∨ m = 4 ∨ m = 5 ∨ m = 6 ∨ m = 7 ∨ m = 8 ∨ m = 9 ∨ m = 10 ∨ m = 11 ∨ m = 12 := by omega
  rcases hm with rfl | rfl | rfl | rfl | rfl | rfl | rfl | rfl | rfl | rfl | rfl | rfl
  case inr.inl =>
    rcases lp_01 y with h | h
    · have HF := Lib.hid (show mlen y 2 = 28 by simp [mlen, h])
      rw [h] at HL
      go_enter Tryz.func19, Tryz.ntmps19
      go_wp2_with (go_at_call 41; refine (HL.out _).mono ?_; rintro e w' ⟨rfl, rfl⟩)
      go_ret
      exact ⟨ret_i HF.out.symm, rfl⟩
    · have HF := Lib.hid (show mlen y 2 = 29 by simp [mlen, h])
      rw [h] at HL
      go_enter Tryz.func19, Tryz.ntmps19
      go_wp2_with (go_at_call 41; refine (HL.out _).mono ?_; rintro e w' ⟨rfl, rfl⟩)
      go_ret
      exact ⟨ret_i HF.out.symm, rfl⟩
  all_goals
    go_enter Tryz.func19, Tryz.ntmps19
    go_wp2
    go_ret
    exact ⟨rfl, rfl⟩
theorem yearStart_any (y : Int) (w : World) (h0 : -1000000000 ≤ y) (h1 : y ≤ 1000000000) :
    Calls Tryz.prog 80 #[.int .i64 y] w fun e w' => e = .returned (.int .i64 (ys y)) ∧ w = w' := by
  have HY : Hid (ys y = 365 * (y - 1) + (y - 1) / 4 - (y - 1) / 100 + (y - 1) / 400 - 719162) := Lib.hid rfl
  go_enter Tryz.func80, Tryz.ntmps80
  go_wp2_with (go_at_call 77; refine (floorDiv_any _ _ _ ⟨by omega, by omega⟩ (by omega) (by omega)).mono ?_; rintro e w' ⟨rfl, rfl⟩)
  go_ret
  exact ⟨ret_i HY.out.symm, rfl⟩
theorem weekday_any (n : Int) (w : World) (hn : Dn n) :
    Calls Tryz.prog 79 #[.int .i64 n] w fun e w' => e = .returned (.int .i64 (wdOf n)) ∧ w = w' := by
  obtain ⟨h0, h1⟩ := hn
  go_enter Tryz.func79, Tryz.ntmps79
  go_wp2_with (go_at_call 109; refine (floorMod_any _ _ _ ⟨by omega, by omega⟩ (by omega) (by omega)).mono ?_; rintro e w' ⟨rfl, rfl⟩)
  go_ret
  exact ⟨rfl, rfl⟩
theorem year_of {n y : Int} (h1 : ys y ≤ n) (h2 : n < ys (y + 1)) : yOf n = y := by
  have h := year_in n
  by_cases c : yOf n < y
  · have := ys_mono (yOf n) y c
    have := ys_succ (yOf n)
    omega
  · by_cases c' : y < yOf n
    · have := ys_mono y (yOf n) c'
      have := ys_succ y
      omega
    · omega
theorem date_from {n y m r : Int} (hy : yOf n = y) (h1 : 1 ≤ m) (h2 : m ≤ 12) (hr : r = n - ys y - cum y m) (h3 : 0 ≤ r) (h4 : r < mlen y m) : mOf n = m ∧ dOf n = r + 1 := by
  have := of_eq (n := n) (y := y) (m := m) (d := r + 1) ⟨h1, h2, by omega, by omega⟩ (by unfold dnum; omega)
  exact ⟨this.2.1, this.2.2⟩
theorem guess_le {n : Int} : (0 ≤ n → ys (1970 + n / 366) ≤ n) ∧ (n < 0 → ys (1970 + n / 365 - 1) ≤ n) := by
  unfold ys
  constructor
  · intro h; omega
  · intro h; omega
set_option maxHeartbeats 1000000 in
theorem dateOf_any (n : Int) (w : World) (hn : Dn n) :
    Calls Tryz.prog 78 #[.int .i64 n] w fun e w' => e = .returned (.agg #[.int .i64 (yOf n), .int .i64 (mOf n), .int .i64 (dOf n)]) ∧ Below w.heap.size w w' := by
  obtain ⟨h0, h1⟩ := hn
  have HG := Lib.hid (guess_le (n := n))
  have HF := Lib.hid (fun a b w ha hb hb2 => floorDiv_any a b w ha hb hb2)
  by_cases hs : 0 ≤ n
  all_goals
    go_enter Tryz.func78, Tryz.ntmps78
    go_wp2_with (go_at_call 77; refine (HF.out _ _ _ ⟨by omega, by omega⟩ (by omega) (by omega)).mono ?_; rintro e w' ⟨rfl, rfl⟩)
    go_loop [3] (fun y => ∃ k : Int, y = .int .i64 k ∧ -100000 ≤ k ∧ k ≤ 100000 ∧ Hid (ys k ≤ n)) (fun y => (100000 - intOf y).toNat)
    case atStart =>
      first
        | exact ⟨_, rfl, by omega, by omega, Lib.hid (HG.out.1 (by omega))⟩
        | exact ⟨_, rfl, by omega, by omega, Lib.hid (HG.out.2 (by omega))⟩
    case round =>
      obtain ⟨y, rfl, y0, y1, HY⟩ := hrel
      have HB := Lib.hid (show y ≤ 90000 by have := HY.out; unfold ys at this; omega)
      by_cases hlt : ys (y + 1) ≤ n
      · have hy2 := HB.out
        go_wp2_with (go_at_call 80; refine (yearStart_any _ _ (by omega) (by omega)).mono ?_; rintro e w' ⟨rfl, rfl⟩)
        go_round
        case rel => exact ⟨y + 1, rfl, by omega, by omega, Lib.hid hlt⟩
        case measure => simp [intOf]; omega
      · have HYo := Lib.hid (year_of HY.out (by omega))
        have hy2 := HB.out
        have hyb : -100000000 ≤ ys y ∧ ys y ≤ n := ⟨by unfold ys; omega, HY.out⟩
        have HS := Lib.hid (ys_succ y)
        go_wp2_with (go_at_call 80; refine (yearStart_any _ _ (by omega) (by omega)).mono ?_; rintro e w' ⟨rfl, rfl⟩)
        go_loop [4, 5] (fun r m => ∃ a b : Int, r = .int .i64 a ∧ m = .int .i64 b ∧ 1 ≤ b ∧ b ≤ 12 ∧ 0 ≤ a ∧ a ≤ 400 ∧ Hid (a = n - ys y - cum y b)) (fun _ m => (13 - intOf m).toNat)
        case atStart => exact ⟨_, 1, rfl, rfl, by omega, by omega, by omega, by have := lp_01 y; have := HS.out; omega, Lib.hid (by rw [cum_one]; omega)⟩
        case round =>
          obtain ⟨a, m, rfl, rfl, m1, m2, a0, a1, HA⟩ := hrel
          have hml := mlen_bd y m
          by_cases hd : mlen y m ≤ a
          · have HC := Lib.hid (cum_succ y m m1 m2)
            have hm12 : m < 12 := by
              by_cases e : m = 12
              · subst e
                have := cum_13 y
                have h2 := HC.out
                rw [show (12 : Int) + 1 = 13 from rfl] at h2
                have := HA.out
                have := HS.out
                omega
              · omega
            go_wp2_with (go_at_call 19; refine (monthDays_any y m _ (by omega) (by omega) m1 m2).mono ?_; rintro e w' ⟨rfl, rfl⟩)
            go_round
            case rel => exact ⟨a - mlen y m, m + 1, rfl, rfl, by omega, by omega, by omega, by omega, Lib.hid (by rw [HC.out, HA.out]; omega)⟩
            case measure => simp [intOf]; omega
          · have HD := Lib.hid (date_from HYo.out m1 m2 HA.out a0 (by omega))
            go_wp2_with (go_at_call 19; refine (monthDays_any y m _ (by omega) (by omega) m1 m2).mono ?_; rintro e w' ⟨rfl, rfl⟩)
            refine bodyPost_ret (v := .agg #[.int .i64 y, .int .i64 m, .int .i64 (a + 1)]) (by simp [results, Tryz.results78, go_sem]) rfl ⟨by rw [HYo.out, HD.out.1, HD.out.2], ?_⟩
            exact (Below.refl _ _).alloc (Nat.le_refl _) _
end Go.Proofs.YtmnjmhlodbifjaaGreatDoor.SpecCal
namespace Go.Proofs.YtmnjmhlodbifjaaGreatDoor.Zone
open Go Go.RowKit Go.Proofs.YtmnjmhlodbifjaaGreatDoor.Cal Go.Proofs.YtmnjmhlodbifjaaGreatDoor.Off Go.Proofs.YtmnjmhlodbifjaaGreatDoor.TimeNum Go.Proofs.YtmnjmhlodbifjaaGreatDoor.Lookup Go.Proofs.YtmnjmhlodbifjaaGreatDoor.SpecCal
set_option linter.unusedVariables false
def Row (w : World) (a : Option Addr) (n : Nat) (f : Nat → Value) : Prop := ∀ k, k < n → ∃ x, a = some x ∧ w.cell? (x.add k) = some (f k)
theorem Row.below {w w' : World} {a : Option Addr} {n : Nat} {f : Nat → Value} (h : Row w a n f) (hb : Below w.heap.size w w') : Row w' a n f := fun k hk => by
  obtain ⟨x, h1, h2⟩ := h k hk
  exact ⟨x, h1, (hb.cell (World.block_lt_of_cell? w _ h2)).trans h2⟩
theorem Row.cell {w : World} {x : Addr} {n : Nat} {f : Nat → Value} (h : Row w (some x) n f) {k : Nat} (hk : k < n) : w.cell? (x.add k) = some (f k) := by
  obtain ⟨y, h1, h2⟩ := h k hk
  cases h1; exact h2
structure Raw where
  ao : Option Addr
  ad : Option Addr
  aw : Option Addr
  ai : Option Addr
  no : Nat
  nd : Nat
  nw : Nat
  ni : Nat
  o : Nat → Int
  d : Nat → Bool
  wh : Nat → Int
  ix : Nat → Int
structure Raw.At (r : Raw) (w : World) : Prop where
  ro : Row w r.ao r.no (fun k => .int .i64 (r.o k))
  rd : Row w r.ad r.nd (fun k => .bool (r.d k))
  rw' : Row w r.aw r.nw (fun k => .int .i64 (r.wh k))
  ri : Row w r.ai r.ni (fun k => .int .i64 (r.ix k))
  lo : r.no ≤ 2147483647
  ld : r.nd ≤ 2147483647
  lw : r.nw ≤ 2147483647
  li : r.ni ≤ 2147483647
  bo : ∀ k, k < r.no → -9223372036854775808 ≤ r.o k ∧ r.o k ≤ 9223372036854775807
  bw : ∀ k, k < r.nw → -9223372036854775808 ≤ r.wh k ∧ r.wh k ≤ 9223372036854775807
  bi : ∀ k, k < r.ni → -9223372036854775808 ≤ r.ix k ∧ r.ix k ≤ 9223372036854775807
theorem Raw.At.below {r : Raw} {w w' : World} (h : r.At w) (hb : Below w.heap.size w w') : r.At w' :=
  ⟨h.ro.below hb, h.rd.below hb, h.rw'.below hb, h.ri.below hb, h.lo, h.ld, h.lw, h.li, h.bo, h.bw, h.bi⟩
def Raw.toD (r : Raw) : ZoneD := ⟨r.no, r.nw, r.o, r.d, r.wh, fun i => (r.ix i).toNat⟩
def Raw.Ok (r : Raw) : Prop := (r.no = 0 ∧ r.nd = 0 ∧ r.nw = 0 ∧ r.ni = 0) ∨ (r.toD.Good ∧ r.nd = r.no ∧ r.ni = r.nw ∧ ∀ i, i < r.nw → 0 ≤ r.ix i)
theorem box4_after {w w1 : World} {E : TypeId} {a b c d : Value} (hb : Below (w.alloc (.cells #[a, b, c, d] E)).heap.size (w.alloc (.cells #[a, b, c, d] E)) w1) :
    w1.cell? ⟨w.heap.size, 0, none⟩ = some a ∧ w1.cell? ⟨w.heap.size, 1, none⟩ = some b ∧ w1.cell? ⟨w.heap.size, 2, none⟩ = some c ∧ w1.cell? ⟨w.heap.size, 3, none⟩ = some d := by
  have hh : (w.alloc (.cells #[a, b, c, d] E)).heap[w.heap.size]? = some (.cells #[a, b, c, d] E) := heap_alloc_new w _
  have f : ∀ j, w1.cell? ⟨w.heap.size, j, none⟩ = (w.alloc (.cells #[a, b, c, d] E)).cell? ⟨w.heap.size, j, none⟩ := fun j => hb.cell (p := ⟨w.heap.size, j, none⟩) (by simp)
  refine ⟨(f 0).trans ?_, (f 1).trans ?_, (f 2).trans ?_, (f 3).trans ?_⟩ <;> (unfold World.cell?; simp only [hh]; rfl)
end Go.Proofs.YtmnjmhlodbifjaaGreatDoor.Zone
namespace Go.Proofs.YtmnjmhlodbifjaaGreatDoor.Open
open Go Go.Joins Go.ChangeShapes Go.WideShapes Go.RowKit Go.Deep Go.Proofs.YtmnjmhlodbifjaaGreatDoor.Zone
set_option linter.unusedVariables false
variable {H : Type} {enc : TypeId × Value → H} {w : World} {base : Nat} {held : Bool}
theorem i64_of {n : Int} (h : (Lit.int .i64 n).wf = true) : -9223372036854775808 ≤ n ∧ n ≤ 9223372036854775807 := by
  have h1 : IntKind.i64.min = -9223372036854775808 := rfl
  have h2 : IntKind.i64.max = 9223372036854775807 := rfl
  simp [Lit.wf, h1, h2] at h
  omega
set_option maxRecDepth 100000 in
theorem open_instant {r : Reach} {b0 : Nat} {v : Value} {d : DataW H} {p : List MemPlace} (hv : Value.okWide Tryz.prog w r b0 34 v)
    (h : DataW.Trod enc Tryz.prog w base (fun _ => true) held 34 v d p) :
    ∃ s n : Int, v = .agg #[.int .i64 s, .int .i64 n] ∧ (-9223372036854775808 ≤ s ∧ s ≤ 9223372036854775807) ∧ (-9223372036854775808 ≤ n ∧ n ≤ 9223372036854775807) := by
  obtain ⟨v0, v1, y0, y1, n, rfl, -, -, h0, h1⟩ := open_agg2 Tryz.underlying34 (by kernel_rfl) (by kernel_rfl) hv h
  obtain ⟨s, hs, -, ws⟩ := DataW.trod_int (k := .i64) (by kernel_rfl) h0
  obtain ⟨m, hm, -, wm⟩ := DataW.trod_int (k := .i64) (by kernel_rfl) h1
  cases hs; cases hm
  exact ⟨s, m, rfl, i64_of ws, i64_of wm⟩
end Go.Proofs.YtmnjmhlodbifjaaGreatDoor.Open
namespace Go.Proofs.YtmnjmhlodbifjaaGreatDoor.Mem
open Go Go.RowKit
def IsRow (k : IntKind) (w : World) (a : Option Addr) (len cap : Nat) (zs : List Int) : Prop :=
  (a = none ∧ len = 0 ∧ cap = 0 ∧ zs = []) ∨
  ∃ x, a = some x ∧ len ≤ cap ∧ cap ≤ maxLen ∧ zs.length = cap ∧ (∀ i, i < zs.length → w.cell? (x.add i) = some (.int k (zs.getD i 0))) ∧ ∀ n ∈ zs, (Lit.int k n).wf = true
theorem IsRow.below {k : IntKind} {w w' : World} {a : Option Addr} {len cap : Nat} {zs : List Int} (h : IsRow k w a len cap zs) (hb : Below w.heap.size w w') : IsRow k w' a len cap zs := by
  rcases h with h | ⟨x, rfl, h1, h2, h3, h4, h5⟩
  · exact .inl h
  · exact .inr ⟨x, rfl, h1, h2, h3, fun i hi => (hb.cell (World.block_lt_of_cell? w _ (h4 i hi))).trans (h4 i hi), h5⟩
theorem run_convert_own {P : Program} (w : World) (src e dst : TypeId) (hs : P.underlying src = some (.slice e)) (he : P.underlying e = some (.int .u8)) (hd : P.underlying dst = some .string)
    {base e' n : Nat} {v : Value} {xs : List Int} (h : w.ownsRow base e' 1 v n (xs.map (Value.int .u8))) : (convert src dst v).run P w = .ok (.string (strOfNums xs)) w := by
  have hn : xs.length = n := by simpa using h.1
  rcases h.2 with ⟨rfl, rfl⟩ | ⟨g, cap, cur, rfl, hb, hg, hle, hm, hcur, htake⟩
  · obtain rfl : xs = [] := List.eq_nil_of_length_eq_zero hn
    exact run_convert_bytes_nil w src e hs he 0 0 dst hd
  · refine run_convert_bytes_arg w src e hs he g 0 n cap xs hn (fun i hi => ?_) dst hd
    have h2 := World.ownsRow.cells h (g := g) rfl i (.int .u8 (xs.getD i 0)) (by
      rw [List.getElem?_map, List.getElem?_eq_getElem (by omega)]
      simp [List.getD, List.getElem?_eq_getElem (show i < xs.length by omega)])
    rw [← h2]
    congr 1
    unfold Addr.add; split <;> simp_all
end Go.Proofs.YtmnjmhlodbifjaaGreatDoor.Mem
namespace Go.Proofs.YtmnjmhlodbifjaaGreatDoor.Aid
open Go Go.RowKit Go.Proofs.YtmnjmhlodbifjaaGreatDoor.Mem
set_option linter.unusedVariables false
theorem name_world {P : Program} {c : Code} {Q : Exit → Act → World → Prop} {a : Act} {w : World} (h : ∀ X, X = w → c.wp P Q a X) : c.wp P Q a w := h w rfl
def Blk (w : World) (b : Nat) (cs : Array Value) : Prop := ∃ E, w.heap[b]? = some (.cells cs E)
theorem Blk.lt {w : World} {b : Nat} {cs : Array Value} (h : Blk w b cs) : b < w.heap.size := by
  obtain ⟨E, h⟩ := h
  exact (Array.getElem?_eq_some_iff.1 h).1
theorem Blk.cell {w : World} {b : Nat} {cs : Array Value} (h : Blk w b cs) {j : Nat} {v : Value} (hv : cs[j]? = some v) : w.cell? ⟨b, j, none⟩ = some v := by
  obtain ⟨E, h⟩ := h
  unfold World.cell?
  simp only [h]
  exact hv
theorem Blk.free {w : World} {b : Nat} {cs : Array Value} (h : Blk w b cs) (j : Nat) : w.frozen? ⟨b, j, none⟩ = false := by
  obtain ⟨E, h⟩ := h
  exact frozen_of_row _ _ _ _ _ h
theorem Blk.below {w w' : World} {b B : Nat} {cs : Array Value} (h : Blk w b cs) (hb : Below B w w') (hB : b < B) : Blk w' b cs := by
  obtain ⟨E, h⟩ := h
  exact ⟨E, (hb.block b hB).trans h⟩
theorem Blk.after {w w' : World} {b : Nat} {cs : Array Value} (h : Blk w b cs) (hb : Below w.heap.size w w') : Blk w' b cs := h.below hb h.lt
theorem Blk.new (w : World) (cs : Array Value) (E : TypeId) : Blk (w.alloc (.cells cs E)) w.heap.size cs := ⟨E, heap_alloc_new w _⟩
theorem Blk.alloc {w : World} {b : Nat} {cs : Array Value} (h : Blk w b cs) (o : Obj) : Blk (w.alloc o) b cs := by
  have hl := h.lt
  obtain ⟨E, h⟩ := h
  exact ⟨E, (Below.heap_alloc w o b hl).trans h⟩
theorem Blk.set {w : World} {b : Nat} {cs : Array Value} (h : Blk w b cs) (j : Nat) (v : Value) : Blk (w.setCell ⟨b, j, none⟩ v) b (cs.setIfInBounds j v) := by
  obtain ⟨E, h⟩ := h
  exact ⟨E, heap_setCell_same w b j cs E v h⟩
theorem Blk.other {w : World} {b : Nat} {cs : Array Value} (h : Blk w b cs) (p : Addr) (v : Value) (hp : b ≠ p.block) : Blk (w.setCell p v) b cs := by
  obtain ⟨E, h⟩ := h
  exact ⟨E, (heap_setCell_other w p b v hp).trans h⟩
theorem Blk.drew {w : World} {b : Nat} {cs : Array Value} (h : Blk w b cs) : Blk w.drew b cs := h
theorem Blk.drewN {w : World} {b : Nat} {cs : Array Value} (h : Blk w b cs) (n : Nat) : Blk (w.drewN n) b cs := by
  obtain ⟨E, h⟩ := h
  exact ⟨E, by rw [show (w.drewN n).heap = w.heap by simp]; exact h⟩
theorem allocd {W X : World} (h : Below W.heap.size W X) (o : Obj) : Below W.heap.size W (X.alloc o) := h.alloc h.size o
theorem chain {V X Y : World} (h : Below V.heap.size V X) (hb : Below X.heap.size X Y) : Below V.heap.size V Y := h.trans (hb.mono h.size)
theorem drewNd {B : Nat} {W X : World} (h : Below B W X) (n : Nat) : Below B W (X.drewN n) := ⟨h.os, h.tape, h.output, h.size, h.block⟩
theorem one_after {w w1 : World} {a : Array Value} {E : TypeId} (hb : Below (w.alloc (.cells a E)).heap.size (w.alloc (.cells a E)) w1) : Blk w1 w.heap.size a := (Blk.new w a E).after hb
theorem one_afterd {w w1 : World} {a : Array Value} {E : TypeId} (hb : Below (w.alloc (.cells a E)).drew.heap.size (w.alloc (.cells a E)).drew w1) : Blk w1 w.heap.size a := one_after (⟨hb.os, hb.tape, hb.output, hb.size, hb.block⟩ : Below (w.alloc (.cells a E)).heap.size (w.alloc (.cells a E)) w1)
end Go.Proofs.YtmnjmhlodbifjaaGreatDoor.Aid
namespace Go.Proofs.YtmnjmhlodbifjaaGreatDoor.Big
open Go Go.RowKit Go.Proofs.YtmnjmhlodbifjaaGreatDoor.Mem Go.Proofs.YtmnjmhlodbifjaaGreatDoor.Aid
set_option linter.unusedVariables false
def allocB (T : TypeId) : Sem Value := Instr.alloc T true (.tuple #[])
def loadB (T : TypeId) (a : Value) : Sem Value := Instr.loadAt T a
def storeB (T : TypeId) (a v : Value) : Sem Unit := Instr.storeAt T a v
section
variable {P : Program} {T E : TypeId} {Z cs old : Array Value} {w : World} {b : Nat}
theorem allocB_run (hz : ∀ w, (zeroValue T).run P w = .ok (.agg Z) w) (w : World) : (allocB T).run P w = .ok (.pointer (some ⟨w.heap.size, 0, none⟩)) (w.alloc (.cells Z T)) := by
  unfold allocB
  simp only [Instr.alloc, Sem.run_bind, hz, Result.andThen_ok, newVar, newRow, Value.cells, run_newObj_alloc, Sem.run_pure]
theorem setRow_alloc (w : World) (Z cs : Array Value) (E : TypeId) : (w.alloc (.cells Z E)).setRow w.heap.size cs = w.alloc (.cells cs E) := by
  unfold World.setRow World.alloc
  congr 1
  apply Array.ext_getElem?
  intro i
  rw [Array.getElem?_modify]
  by_cases h : w.heap.size = i
  · subst h; simp
  · rw [if_neg h]
    rw [Array.getElem?_push, Array.getElem?_push, if_neg (Ne.symm h), if_neg (Ne.symm h)]
theorem storeB_row (hi : (P.info? T).map (·.size) = some cs.size) (ho : old.size = cs.size) (h1 : cs.all (·.oneCell') = true) (h : w.heap[b]? = some (.cells old E)) :
    (storeB T (.pointer (some ⟨b, 0, none⟩)) (.agg cs)).run P w = .ok () (w.setRow b cs) := by
  unfold storeB
  simp only [Instr.storeAt, Instr.sureAddr, Sem.run_bind, Sem.run_pure, Result.andThen_ok, run_storeVar_row w b E T old cs h hi ho h1]
theorem storeB_new (hi : (P.info? T).map (·.size) = some cs.size) (ho : Z.size = cs.size) (h1 : cs.all (·.oneCell') = true) (w : World) (E : TypeId) :
    (storeB T (.pointer (some ⟨w.heap.size, 0, none⟩)) (.agg cs)).run P (w.alloc (.cells Z E)) = .ok () (w.alloc (.cells cs E)) := by
  rw [storeB_row hi ho h1 (heap_alloc_new w _), setRow_alloc]
theorem loadB_row {d : TypeDesc} (hu : P.underlying T = some d) (hd : (match d with | .struct _ | .array _ _ => true | _ => false) = true) (hi : (P.info? T).map (·.size) = some cs.size) (h : w.heap[b]? = some (.cells cs E)) :
    (loadB T (.pointer (some ⟨b, 0, none⟩))).run P w = .ok (.agg cs) w := by
  unfold loadB
  simp only [Instr.loadAt, Instr.sureAddr, Sem.run_bind, Sem.run_pure, Result.andThen_ok, run_loadVar_row w b E T cs (0, 0) d h hu hd hi]
end
theorem blk_row {w : World} {b : Nat} {cs : Array Value} (h : Blk w b cs) (new : Array Value) : Blk (w.setRow b new) b new := by
  obtain ⟨E, h⟩ := h
  exact ⟨E, setRow_heap w b cs new E (0, 0) h⟩
theorem blk_else {w : World} {b c : Nat} {cs : Array Value} (h : Blk w c cs) (new : Array Value) (hne : c ≠ b) : Blk (w.setRow b new) c cs := by
  obtain ⟨E, h⟩ := h
  exact ⟨E, (setRow_other w b c new hne).trans h⟩
theorem below_row {B : Nat} {w w' : World} {b : Nat} (h : Below B w w') (hb : B ≤ b) (new : Array Value) : Below B w (w'.setRow b new) := by
  refine ⟨h.os, h.tape, h.output, ?_, fun k hk => ?_⟩
  · have := h.size
    simpa [World.setRow] using this
  · rw [setRow_other _ _ _ _ (by omega)]
    exact h.block k hk
section
variable {P : Program} {ops : Array Oper} {rest : List Oper} {o : Oper} {a : Act} {w : World} {Q : Exit → Act → World → Prop}
theorem wpList_store_blk (hg : o.guard = none) (T : TypeId) (x y : Operand) (ho : o.op = .store T x y) (b : Nat) (old cs : Array Value) (hi : (P.info? T).map (·.size) = some cs.size) (hold : old.size = cs.size) (h1 : cs.all (·.oneCell') = true)
    (hx : a.eval x = .pointer (some ⟨b, 0, none⟩)) (hy : a.eval y = .agg cs) (hb : Blk w b old)
    (h : wpList P ops Q rest (a.put o.dst undef) (w.setRow b cs)) : wpList P ops Q (o :: rest) a w := by
  obtain ⟨E, hb⟩ := hb
  exact wpList_store_row hg T x y ho b cs hx hy _ old hb hi hold h1 h
end
theorem results_blk_tmp {P : Program} {fn : Func} {p t : Tmp} {T : TypeId} (h : fn.results = #[.cell p T, .tmp t]) (tmps : Array Value) (w : World) (b : Nat) (cs : Array Value) {d : TypeDesc} (hu : P.underlying T = some d) (hd : (match d with | .struct _ | .array _ _ => true | _ => false) = true) (hi : (P.info? T).map (·.size) = some cs.size)
    (hp : tmps.getD p undef = .pointer (some ⟨b, 0, none⟩)) (hb : Blk w b cs) :
    (results fn tmps).run P w = .ok (.tuple #[.agg cs, tmps.getD t undef]) w := by
  have hp' : tmps[p]?.getD undef = .pointer (some ⟨b, 0, none⟩) := by simpa using hp
  obtain ⟨E, hb⟩ := hb
  simp [results, h, hp', asAddr, run_loadVar_row w b _ T cs (0, 0) _ hb hu hd hi]
theorem rowd {W X : World} {b : Nat} (h : Below W.heap.size W X) (hb : W.heap.size ≤ b) (new : Array Value) : Below W.heap.size W (X.setRow b new) := below_row h hb new
end Go.Proofs.YtmnjmhlodbifjaaGreatDoor.Big
