/- The walk of the law FnCronDaysOfMonth. Conditions: none. -/
import Derived.Test.YtoekefbclkmchaaStars
namespace Go.Proofs.Ytoekefbclkmchaa.fnCronDaysOfMonth
open Go Go.RowKit Go.Proofs.Ytoekefbclkmchaa.Bits Go.Proofs.Ytoekefbclkmchaa.Bnd Go.Proofs.Ytoekefbclkmchaa.Moment Go.Proofs.Ytoekefbclkmchaa.DayM Go.Proofs.Ytoekefbclkmchaa.Cal Go.Proofs.Ytoekefbclkmchaa.Off Go.Proofs.Ytoekefbclkmchaa.TimeNum Go.Proofs.Ytoekefbclkmchaa.SpecCal Go.Proofs.Ytoekefbclkmchaa.Inst Go.Proofs.Ytoekefbclkmchaa.Stars Go.Proofs.Ytoekefbclkmchaa.DayFits
set_option linter.unusedVariables false

/-- The days of one month up to its k-th. -/
def upto (k : Nat) : Nat := if k ≤ 28 then k else 28
theorem cw_next (dow n : Int) (j : Nat) (h : 1 ≤ j) : cw dow n (upto j) = cw dow n (upto (j - 1)) + (if j ≤ 28 then b1 (has dow (wdOf (n + (j - 1 : Nat)))) else 0) := by
  obtain ⟨i, rfl⟩ : ∃ i, j = i + 1 := ⟨j - 1, by omega⟩
  simp only [Nat.add_sub_cancel]
  by_cases h28 : i + 1 ≤ 28
  · rw [show upto (i + 1) = i + 1 by simp [upto, h28], show upto i = i by unfold upto; rw [if_pos (by omega)], if_pos h28]
    rfl
  · rw [show upto (i + 1) = 28 by simp [upto, h28], show upto i = 28 by unfold upto; split <;> omega, if_neg h28]
    omega

set_option maxHeartbeats 4000000 in
set_option maxRecDepth 100000 in
theorem walk (dom dow y m : Int) (w : World) (hd : U64 dom) (hw : U64 dow) (by0 : -9223372036854775808 ≤ y) (by1 : y ≤ 9223372036854775807) (bm0 : -9223372036854775808 ≤ m) (bm1 : m ≤ 9223372036854775807) :
    Calls Try.prog 4 #[.int .u64 dom, .int .u64 dow, .int .i64 y, .int .i64 m] w fun e w' => e = .returned (.bool true) ∧ Below w.heap.size w w' := by
  by_cases y1 : y < 1
  · go_enter Try.func4, Try.ntmps4
    go_wp2
    go_ret
    exact ⟨rfl, Below.refl _ _⟩
  by_cases y2 : 9999 < y
  · go_enter Try.func4, Try.ntmps4
    go_wp2
    go_ret
    exact ⟨rfl, Below.refl _ _⟩
  by_cases m1 : m < 1
  · go_enter Try.func4, Try.ntmps4
    go_wp2
    go_ret
    exact ⟨rfl, Below.refl _ _⟩
  by_cases m2 : 12 < m
  · go_enter Try.func4, Try.ntmps4
    go_wp2
    go_ret
    exact ⟨rfl, Below.refl _ _⟩
  obtain ⟨L, hL⟩ : ∃ L : Nat, mlen y m = (L : Int) := ⟨(mlen y m).toNat, by have := mlen_bd y m; omega⟩
  have hLb : 28 ≤ L ∧ L ≤ 31 := by have := mlen_bd y m; omega
  have HML := Lib.hid (fun w1 => monthDays_any y m w1 (by omega) (by omega) (by omega) (by omega))
  rw [hL] at HML
  obtain ⟨n0, hn0⟩ : ∃ n0, dnum y m 1 = n0 := ⟨_, rfl⟩
  have hnb : -1000000 ≤ n0 ∧ n0 ≤ 4000000 := by
    have := cum_bd y m (by omega) (by omega)
    rw [← hn0]; unfold dnum ys; omega
  have HDn : Hid (∀ j : Nat, dnum y m (j : Int) = n0 + (j : Int) - 1) := Lib.hid (fun j => by rw [← hn0]; unfold dnum; omega)
  have HDo : Hid (∀ j : Nat, 1 ≤ j → j ≤ L → dOf (n0 + (j : Int) - 1) = (j : Int)) := Lib.hid (fun j h1 h2 => by
    have := (of_date (y := y) (m := m) (d := (j : Int)) ⟨by omega, by omega, by omega, by omega⟩).2.2
    rw [HDn.out j] at this
    exact this)
  have HI := Lib.hid (fun (d x : Int) (w1 : World) (d0 : 1 ≤ d) (d1 : d ≤ 31) (x0 : 0 ≤ x) (x1 : x ≤ 86400) => cronInstant_any y m d x w1 (by omega) (by omega) (by omega) (by omega) (by omega) (by omega) x0 x1)
  have HA3 : Hid (∀ w1, Calls Try.prog 19 #[.int .i64 3] w1 fun e w' => e = .returned (.int .u64 (starSet 3)) ∧ Below w1.heap.size w1 w') := Lib.hid (fun w1 => cronAll_any 3 w1 (by omega))
  have HA5 : Hid (∀ w1, Calls Try.prog 19 #[.int .i64 5] w1 fun e w' => e = .returned (.int .u64 (starSet 5)) ∧ Below w1.heap.size w1 w') := Lib.hid (fun w1 => cronAll_any 5 w1 (by omega))
  have HDU := Lib.hid hd
  have HWU := Lib.hid hw
  have hml2 : -1000000000000 ≤ y ∧ y ≤ 1000000000000 := by omega
  clear hd hw hn0 hL
  go_enter Try.func4, Try.ntmps4
  go_wp2_with (go_at_call 17; refine (HML.out _).mono ?_; rintro e w' ⟨rfl, rfl⟩)
  go_loopw [10, 11, 12, 14] (fun a b c d wr => ∃ (j : Nat) (x z : Int), a = .int .i64 x ∧ b = .int .i64 z ∧ c = .int .i64 x ∧ d = .int .i64 (j : Int) ∧ 1 ≤ j ∧ j ≤ L + 1 ∧ 0 ≤ x ∧ x ≤ j ∧ 0 ≤ z ∧ z ≤ 28 ∧ Hid (z = cw dow n0 (upto (j - 1))) ∧ Hid (Below w.heap.size w wr)) (fun _ _ _ d _ => (40 - intOf d).toNat)
  case atStart => exact ⟨1, 0, 0, rfl, rfl, rfl, rfl, by omega, by omega, by omega, by omega, by omega, by omega, Lib.hid (by simp [upto, cw]), Lib.hid (Below.refl _ _)⟩
  case round =>
    obtain ⟨j, x, z, rfl, rfl, rfl, rfl, j1, j2, x0, x1, z0, z1, HZ, HB⟩ := hrel
    by_cases hlt : j ≤ L
    · obtain ⟨nj, hnj⟩ : ∃ nj, n0 + (j : Int) - 1 = nj := ⟨_, rfl⟩
      have hnjb : -1000000 ≤ nj ∧ nj ≤ 4000100 := by omega
      have HIj := Lib.hid (fun w1 => HI.out (j : Int) 43200 w1 (by omega) (by omega) (by omega) (by omega))
      have hd1 := HDn.out j
      rw [hnj] at hd1
      rw [hd1] at HIj
      obtain ⟨p, hp⟩ : ∃ p, has dom (j : Int) = p := ⟨_, rfl⟩
      obtain ⟨q, hq⟩ : ∃ q, has dow (wdOf nj) = q := ⟨_, rfl⟩
      have hdo : dOf nj = (j : Int) := by rw [← hnj]; exact HDo.out j j1 hlt
      have HP : Hid (∀ w1, Calls Try.prog 15 #[.int .u64 dom, .int .u64 (starSet 5), .agg #[.int .i64 (86400 * nj + 43200), .int .i64 0], .agg #[.slice none 0 0, .slice none 0 0, .slice none 0 0, .slice none 0 0]] w1 fun e w' => e = .returned (.bool p) ∧ Below w1.heap.size w1 w') := Lib.hid (fun w1 => by
        have := utcDay_any dom (starSet 5) nj 43200 w1 HDU.out (star_u64 5) (by omega) (by omega) (by omega) (by omega)
        rw [by_dom, hdo, hp] at this
        exact this)
      have HQ : Hid (∀ w1, Calls Try.prog 15 #[.int .u64 (starSet 3), .int .u64 dow, .agg #[.int .i64 (86400 * nj + 43200), .int .i64 0], .agg #[.slice none 0 0, .slice none 0 0, .slice none 0 0, .slice none 0 0]] w1 fun e w' => e = .returned (.bool q) ∧ Below w1.heap.size w1 w') := Lib.hid (fun w1 => by
        have := utcDay_any (starSet 3) dow nj 43200 w1 (star_u64 3) HWU.out (by omega) (by omega) (by omega) (by omega)
        rw [by_dow, hq] at this
        exact this)
      have hsh := shr_num dom j HDU.out (by omega)
      rw [hp] at hsh
      have hps : (p = true ∧ Go.bits .and .u64 (dom / 2 ^ j) 1 = 1) ∨ (p = false ∧ Go.bits .and .u64 (dom / 2 ^ j) 1 = 0) := by
        cases p
        · exact .inr ⟨rfl, hsh⟩
        · exact .inl ⟨rfl, hsh⟩
      have HN := cw_next dow n0 j j1
      have hq2 : wdOf (n0 + ((j - 1 : Nat) : Int)) = wdOf nj := by rw [← hnj]; congr 1; omega
      rw [hq2, hq] at HN
      have HCb := Lib.hid (show 0 ≤ cw dow n0 (upto j) ∧ cw dow n0 (upto j) ≤ 28 by
        have h1 := cw_bd dow n0 (upto j)
        have h2 : upto j ≤ 28 := by unfold upto; split <;> omega
        omega)
      have hqs : (¬ j ≤ 28 ∧ Hid (cw dow n0 (upto j) = cw dow n0 (upto (j - 1)))) ∨ (j ≤ 28 ∧ q = true ∧ Hid (cw dow n0 (upto j) = cw dow n0 (upto (j - 1)) + 1)) ∨ (j ≤ 28 ∧ q = false ∧ Hid (cw dow n0 (upto j) = cw dow n0 (upto (j - 1)))) := by
        by_cases h : j ≤ 28
        · rw [if_pos h] at HN
          cases q
          · exact .inr (.inr ⟨h, rfl, Lib.hid (by rw [HN]; simp [b1])⟩)
          · exact .inr (.inl ⟨h, rfl, Lib.hid (by rw [HN]; simp [b1])⟩)
        · rw [if_neg h] at HN
          exact .inl ⟨h, Lib.hid (by rw [HN]; simp)⟩
      clear hd1 hnj hdo hp hq hq2 hsh HN
      go_wp2_with (go_at_call 18; refine (HIj.out _).mono ?_; rintro e V ⟨rfl, hV⟩)
      obtain ⟨U, hU⟩ : ∃ U, V.alloc (.cells #[.int .i64 (86400 * nj + 43200), .int .i64 0] 24) = U := ⟨_, rfl⟩
      have HKS : Hid (∀ X, Below U.heap.size U X → X.cell? ⟨V.heap.size, 0, none⟩ = some (.int .i64 (86400 * nj + 43200)) ∧ X.cell? ⟨V.heap.size, 1, none⟩ = some (.int .i64 0)) := Lib.hid (fun X hX => by
        rw [← hU] at hX
        exact ⟨cells_after hX 0 _ rfl, cells_after hX 1 _ rfl⟩)
      have HBU : Hid (Below w.heap.size w U) := Lib.hid (by
        rw [← hU]
        exact (HB.out.trans (hV.mono HB.out.size)).alloc (Nat.le_trans HB.out.size hV.size) _)
      rw [hU]
      clear hU hV
      go_region_held3 (fun X => X.cell? ⟨V.heap.size, 0, none⟩ = some (.int .i64 (86400 * nj + 43200)) ∧ X.cell? ⟨V.heap.size, 1, none⟩ = some (.int .i64 0)) (exact HKS.out _ (by repeat (first | exact Below.refl _ _ | assumption | refine Below.drew ?_)))
        ((first
        | ((go_at_call 19); (with_reducible refine (HA5.out _).mono ?_); rintro e hBw1 ⟨rfl, hb⟩; (have hB1 := undrew hb); clear hb)
        | ((go_at_call 20); (with_reducible refine (cronUTC_any _).mono ?_); rintro e hBw1 ⟨rfl, hb⟩; (have hB1 := undrew hb); clear hb)
        | ((go_at_call 19); (with_reducible refine (HA5.out _).mono ?_); rintro e hBw2 ⟨rfl, hb⟩; (have hB2 := hB1.trans (hb.mono hB1.size)); clear hb)
        | ((go_at_call 20); (with_reducible refine (cronUTC_any _).mono ?_); rintro e hBw2 ⟨rfl, hb⟩; (have hB2 := hB1.trans (hb.mono hB1.size)); clear hb)
        | ((go_at_call 15); (with_reducible refine (HP.out _).mono ?_); rintro e hBw3 ⟨rfl, hb⟩; (have hB3 := hB2.trans (hb.mono hB2.size)); clear hb)))
      all_goals
        rcases hps with ⟨rfl, hs⟩ | ⟨rfl, hs⟩
        all_goals
          rcases hqs with ⟨h28, HQ2⟩ | ⟨h28, rfl, HQ2⟩ | ⟨h28, rfl, HQ2⟩
          case inl =>
            have hd28 : decide ((j : Int) ≤ 28) = false := by simp; omega
            go_wp2
            go_region
            all_goals
              go_wp2
              have hcb := HCb.out
              have hq2 := HQ2.out
              have hz := HZ.out
              refine ⟨⟨j + 1, _, _, rfl, rfl, rfl, by go_num, by omega, by omega, by omega, by omega, by omega, by omega, Lib.hid (by rw [Nat.add_sub_cancel]; omega), Lib.hid (by repeat (first | exact HBU.out.trans (hB3.mono HBU.out.size) | refine Below.drew ?_))⟩, by simp [intOf]; omega⟩
          all_goals
            have hd28 : decide ((j : Int) ≤ 28) = true := by simp; omega
            go_wp2
            go_region_held3 (fun X => X.cell? ⟨V.heap.size, 0, none⟩ = some (.int .i64 (86400 * nj + 43200)) ∧ X.cell? ⟨V.heap.size, 1, none⟩ = some (.int .i64 0)) (exact HKS.out _ (by repeat (first | exact Below.refl _ _ | assumption | refine Below.drew ?_)))
              ((first
        | ((go_at_call 19); (with_reducible refine (HA3.out _).mono ?_); rintro e hCw1 ⟨rfl, hb⟩; (have hC1 := hB3.trans ((undrew hb).mono hB3.size)); clear hb)
        | ((go_at_call 20); (with_reducible refine (cronUTC_any _).mono ?_); rintro e hCw1 ⟨rfl, hb⟩; (have hC1 := hB3.trans ((undrew hb).mono hB3.size)); clear hb)
        | ((go_at_call 19); (with_reducible refine (HA3.out _).mono ?_); rintro e hCw2 ⟨rfl, hb⟩; (have hC2 := hC1.trans (hb.mono hC1.size)); clear hb)
        | ((go_at_call 20); (with_reducible refine (cronUTC_any _).mono ?_); rintro e hCw2 ⟨rfl, hb⟩; (have hC2 := hC1.trans (hb.mono hC1.size)); clear hb)
        | ((go_at_call 15); (with_reducible refine (HQ.out _).mono ?_); rintro e hCw3 ⟨rfl, hb⟩; (have hC3 := hC2.trans (hb.mono hC2.size)); clear hb)))
            all_goals
              go_wp2
              have hcb := HCb.out
              have hq2 := HQ2.out
              have hz := HZ.out
              refine ⟨⟨j + 1, _, _, rfl, rfl, rfl, by go_num, by omega, by omega, by omega, by omega, by omega, by omega, Lib.hid (by rw [Nat.add_sub_cancel]; omega), Lib.hid (by repeat (first | exact HBU.out.trans (hC3.mono HBU.out.size) | refine Below.drew ?_))⟩, by simp [intOf]; omega⟩
    · obtain rfl : j = L + 1 := by omega
      have hz4 := HZ.out
      rw [Nat.add_sub_cancel, show upto L = 28 by unfold upto; split <;> omega, cw_28] at hz4
      obtain ⟨v7, hv7⟩ : ∃ v7, wk dow 7 = v7 := ⟨_, rfl⟩
      have hvb : 0 ≤ v7 ∧ v7 ≤ 7 := by have := wk_bd dow 7; omega
      rw [hv7] at hz4
      subst hz4
      obtain ⟨S0, hS0⟩ : ∃ S0, 86400 * n0 + 0 = S0 := ⟨_, rfl⟩
      have HIj := Lib.hid (fun w1 => HI.out 1 0 w1 (by omega) (by omega) (by omega) (by omega))
      have hd1 := HDn.out 1
      rw [show n0 + ((1 : Nat) : Int) - 1 = n0 by omega, show ((1 : Nat) : Int) = 1 from rfl] at hd1
      rw [hd1, hS0] at HIj
      have HP : Hid (∀ w1, Calls Try.prog 15 #[.int .u64 (starSet 3), .int .u64 (starSet 5), .agg #[.int .i64 S0, .int .i64 0], .agg #[.slice none 0 0, .slice none 0 0, .slice none 0 0, .slice none 0 0]] w1 fun e w' => e = .returned (.bool true) ∧ Below w1.heap.size w1 w') := Lib.hid (fun w1 => by
        have := utcDay_any (starSet 3) (starSet 5) n0 0 w1 (star_u64 3) (star_u64 5) (by omega) (by omega) (by omega) (by omega)
        rw [by_both, hS0] at this
        exact this)
      clear hd1 hS0
      have hdl : decide ((L : Int) + 1 ≤ (L : Int)) = false := by simp; omega
      go_wp2_with fail
      go_loop [13, 70] (fun a b => ∃ (k : Nat) (v : Int), a = .int .i64 v ∧ b = .int .i64 (k : Int) ∧ k ≤ 7 ∧ 0 ≤ v ∧ v ≤ k ∧ Hid (v = wk dow k)) (fun _ b => (7 - intOf b).toNat)
      case atStart => exact ⟨0, 0, rfl, rfl, by omega, by omega, by omega, Lib.hid rfl⟩
      case round =>
        obtain ⟨k, v, rfl, rfl, k7, v0, v1, HV⟩ := hrel
        by_cases hk : k < 7
        · have hsh := shr_num dow k HWU.out (by omega)
          have HN : Hid (wk dow (k + 1) = wk dow k + b1 (has dow (k : Int))) := Lib.hid rfl
          have hpb := b1_bd (has dow (k : Int))
          obtain ⟨pb, hpe⟩ : ∃ pb, b1 (has dow (k : Int)) = pb := ⟨_, rfl⟩
          rw [hpe] at hsh hpb HN
          clear hpe
          go_wp2
          exact ⟨⟨k + 1, _, rfl, by go_num, by omega, by omega, by omega, Lib.hid (by rw [HN.out, HV.out])⟩, by simp [intOf]; omega⟩
        · obtain rfl : k = 7 := by omega
          obtain rfl : v = v7 := by rw [HV.out, hv7]
          have hw4 : IntKind.i64.wrap (4 * v) = 4 * v := IntWalk.i64_in _ (by omega)
          have he1 : (x == x) = true := by simp
          have he2 : (4 * v == 4 * v) = true := by simp
          go_wp2_with (go_at_call 18; refine (HIj.out _).mono ?_; rintro e V ⟨rfl, hV⟩)
          obtain ⟨U, hU⟩ : ∃ U, V.alloc (.cells #[.int .i64 S0, .int .i64 0] 24) = U := ⟨_, rfl⟩
          have HKS : Hid (∀ X, Below U.heap.size U X → X.cell? ⟨V.heap.size, 0, none⟩ = some (.int .i64 S0) ∧ X.cell? ⟨V.heap.size, 1, none⟩ = some (.int .i64 0)) := Lib.hid (fun X hX => by
            rw [← hU] at hX
            exact ⟨cells_after hX 0 _ rfl, cells_after hX 1 _ rfl⟩)
          have HBU : Hid (Below w.heap.size w U) := Lib.hid (by
            rw [← hU]
            exact (HB.out.trans (hV.mono HB.out.size)).alloc (Nat.le_trans HB.out.size hV.size) _)
          rw [hU]
          clear hU hV
          go_region_held3 (fun X => X.cell? ⟨V.heap.size, 0, none⟩ = some (.int .i64 S0) ∧ X.cell? ⟨V.heap.size, 1, none⟩ = some (.int .i64 0)) (exact HKS.out _ (by repeat (first | exact Below.refl _ _ | assumption | refine Below.drew ?_)))
            ((first
        | ((go_at_call 19); (with_reducible refine (HA3.out _).mono ?_); rintro e hBw1 ⟨rfl, hb⟩; (have hB1 := undrew hb); clear hb)
        | ((go_at_call 19); (with_reducible refine (HA5.out _).mono ?_); rintro e hBw1 ⟨rfl, hb⟩; (have hB1 := undrew hb); clear hb)
        | ((go_at_call 20); (with_reducible refine (cronUTC_any _).mono ?_); rintro e hBw1 ⟨rfl, hb⟩; (have hB1 := undrew hb); clear hb)
        | ((go_at_call 19); (with_reducible refine (HA3.out _).mono ?_); rintro e hBw2 ⟨rfl, hb⟩; (have hB2 := hB1.trans (hb.mono hB1.size)); clear hb)
        | ((go_at_call 19); (with_reducible refine (HA5.out _).mono ?_); rintro e hBw2 ⟨rfl, hb⟩; (have hB2 := hB1.trans (hb.mono hB1.size)); clear hb)
        | ((go_at_call 20); (with_reducible refine (cronUTC_any _).mono ?_); rintro e hBw2 ⟨rfl, hb⟩; (have hB2 := hB1.trans (hb.mono hB1.size)); clear hb)
        | ((go_at_call 19); (with_reducible refine (HA3.out _).mono ?_); rintro e hBw3 ⟨rfl, hb⟩; (have hB3 := hB2.trans (hb.mono hB2.size)); clear hb)
        | ((go_at_call 19); (with_reducible refine (HA5.out _).mono ?_); rintro e hBw3 ⟨rfl, hb⟩; (have hB3 := hB2.trans (hb.mono hB2.size)); clear hb)
        | ((go_at_call 20); (with_reducible refine (cronUTC_any _).mono ?_); rintro e hBw3 ⟨rfl, hb⟩; (have hB3 := hB2.trans (hb.mono hB2.size)); clear hb)
        | ((go_at_call 15); (with_reducible refine (HP.out _).mono ?_); rintro e hBw4 ⟨rfl, hb⟩; (have hB4 := hB3.trans (hb.mono hB3.size)); clear hb)))
          all_goals
            go_wp2
            go_ret
            exact ⟨rfl, HBU.out.trans (hB4.mono HBU.out.size)⟩

end Go.Proofs.Ytoekefbclkmchaa.fnCronDaysOfMonth
