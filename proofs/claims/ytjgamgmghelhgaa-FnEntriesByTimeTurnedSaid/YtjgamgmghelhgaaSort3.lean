/- sort.partialInsertionSort over byTime. Conditions: indices within the row. (Printed by mksort3.py.) -/
import Derived.Test.YtjgamgmghelhgaaSortK
import Derived.Sort.LotA
import Derived.Deep.DeepCutAuto
namespace Go.Proofs.Ytjgamgmghelhgaa.Sort3
open Go Go.RowKit Go.Sort Go.Proofs.Ytjgamgmghelhgaa.SortS Go.Proofs.Ytjgamgmghelhgaa.SortK
set_option linter.unusedVariables false

section
variable {α : Type} [Inhabited α] {enc : α → Value} {lt : α → α → Bool} {blk n : Nat} {rv : Value} {w0 : World}
theorem pins_step (a b s i kx : Nat) (dk dj du : Array α) (hk : kx = scanSorted lt dk b i) (h1 : kx ≠ b) (h2 : ¬ b - a < 50) (hdj : dj = (if 2 ≤ kx - a then shiftDown lt (kx - 1) (swp dk kx (kx - 1)) else swp dk kx (kx - 1))) (hdu : du = (if 2 ≤ b - kx then shiftUp lt b (kx + 1) dj else dj)) :
    partialIns lt a b (s + 1) i dk = partialIns lt a b s kx du := by
  rw [partialIns]
  simp only [← hk]
  rw [if_neg h1, if_neg h2, hdu, hdj]
theorem pins_done (a b s i : Nat) (dk : Array α) (hk : b = scanSorted lt dk b i) : partialIns lt a b (s + 1) i dk = (dk, true) := by
  rw [partialIns]
  simp only [← hk]
  rw [if_pos trivial]
theorem pins_short (a b s i kx : Nat) (dk : Array α) (hk : kx = scanSorted lt dk b i) (h1 : kx ≠ b) (h2 : b - a < 50) : partialIns lt a b (s + 1) i dk = (dk, false) := by
  rw [partialIns]
  simp only [← hk]
  rw [if_neg h1, if_pos h2]

set_option maxHeartbeats 8000000 in
set_option maxRecDepth 100000 in
theorem pins_any (cx : Cx enc lt blk rv n w0) (d : Array α) (a b : Nat) (hab : a < b) (hb : b ≤ n) :
    Does enc blk n w0 26 #[.iface 56 rv, .int .i64 (a : Int), .int .i64 (b : Int)] d (partialInsertionSort lt d a b).1 (.bool (partialInsertionSort lt d a b).2) := by
  intro X k0
  have hbig := cx.big
  have CX := Lib.hid cx
  have hmL := meth_less
  have hmS := meth_swap
  clear cx
  have HK0 := Lib.hid k0
  clear k0
  unfold partialInsertionSort
  obtain ⟨R, hR⟩ : ∃ R, partialIns lt a b 5 (a + 1) d = R := ⟨_, rfl⟩
  rw [hR]
  have HR := Lib.hid hR
  clear hR
  go_enter Try.func26, Try.ntmps26
  go_wp2_with fail
  go_loopw [7, 8] (fun vi vs wr => ∃ (i s : Nat) (dk : Array α), vi = .int .i64 (i : Int) ∧ vs = .int .i64 (s : Int) ∧ s ≤ 5 ∧ a < i ∧ i ≤ b ∧ Hid (K enc blk n w0 X wr dk ∧ partialIns lt a b (5 - s) i dk = R)) (fun _ vs _ => 5 - (intOf vs).toNat)
  case atStart => exact ⟨a + 1, 0, d, by simp, rfl, by omega, by omega, by omega, Lib.hid ⟨HK0.out, HR.out⟩⟩
  case round =>
    obtain ⟨i, s, dk, rfl, rfl, hs5, hai, hib, HO⟩ := hrel
    by_cases c0 : s < 5
    · have c0i : (s : Int) < 5 := by omega
      go_wp2_with fail
      go_loopw [7] (fun vi wr2 => ∃ kx : Nat, vi = .int .i64 (kx : Int) ∧ i ≤ kx ∧ kx ≤ b ∧ Hid (K enc blk n w0 X wr2 dk ∧ scanSorted lt dk b kx = scanSorted lt dk b i)) (fun vi _ => b - (intOf vi).toNat)
      case atStart => exact ⟨i, rfl, Nat.le_refl _, hib, Lib.hid ⟨HO.out.1, rfl⟩⟩
      case round =>
        obtain ⟨kx, rfl, hk1, hk2, HS⟩ := hrel
        by_cases c1 : kx < b
        · have c1i : (kx : Int) < (b : Int) := by omega
          have hl := HS.out.1.less CX.out kx (kx - 1) (by omega) (by omega)
          rw [show ((kx - 1 : Nat) : Int) = (kx : Int) - 1 by omega] at hl
          cases hlv : lt dk[kx]! dk[kx - 1]! with
          | false =>
            rw [hlv] at hl
            have HL := Lib.hid hl
            have HE := Lib.hid (scanSorted_go lt dk b kx c1 hlv)
            clear hl hlv
            go_wp2_with (go_at_call 56; refine HL.out.mono ?_; rintro e w1 ⟨rfl, k1, hb1⟩; have HK1 := Lib.hid k1; clear k1 hb1)
            go_roundw
            case rel => exact ⟨kx + 1, by simp, by omega, by omega, Lib.hid ⟨HK1.out, HE.out.symm.trans HS.out.2⟩⟩
            case measure => simp [intOf] <;> omega
          | true =>
            rw [hlv] at hl
            have HL := Lib.hid hl
            have HKX : Hid (kx = scanSorted lt dk b i) := Lib.hid ((scanSorted_stop lt dk b kx (.inr hlv)).symm.trans HS.out.2)
            clear hl hlv
            have hne : ((kx : Int) == (b : Int)) = false := by rw [beq_eq_false_iff_ne]; omega
            by_cases c2 : b - a < 50
            · have c2i : (b : Int) - (a : Int) < 50 := by omega
              have HEND : Hid (R = (dk, false)) := Lib.hid (by rw [← HO.out.2, show 5 - s = (5 - (s + 1)) + 1 by omega]; exact pins_short a b _ i kx dk HKX.out (by omega) c2)
              go_wp2_with (go_at_call 56; refine HL.out.mono ?_; rintro e w1 ⟨rfl, k1, hb1⟩; have HK1 := Lib.hid k1; clear k1 hb1)
              go_ret
              exact ⟨by rw [HEND.out]; rfl, by rw [HEND.out]; exact HK1.out⟩
            · have c2i : ¬ (b : Int) - (a : Int) < 50 := by omega
              have HSTEP : Hid (∀ (dj du : Array α), dj = (if 2 ≤ kx - a then shiftDown lt (kx - 1) (swp dk kx (kx - 1)) else swp dk kx (kx - 1)) → du = (if 2 ≤ b - kx then shiftUp lt b (kx + 1) dj else dj) → partialIns lt a b ((5 - (s + 1)) + 1) i dk = partialIns lt a b (5 - (s + 1)) kx du) := Lib.hid (fun dj du h1 h2 => pins_step a b _ i kx dk dj du HKX.out (by omega) c2 h1 h2)
              have HSW : Hid (∀ w1, K enc blk n w0 X w1 dk → Calls Try.prog 57 #[rv, .int .i64 (kx : Int), .int .i64 ((kx : Int) - 1)] w1 fun e w' => e = .returned (.tuple #[]) ∧ K enc blk n w0 X w' (swp dk kx (kx - 1))) := Lib.hid (fun w1 kk => by have h := kk.swap CX.out kx (kx - 1) (by omega) (by omega); rwa [show ((kx - 1 : Nat) : Int) = (kx : Int) - 1 by omega] at h)
              go_upto_region 11 with (go_at_call 56; refine HL.out.mono ?_; rintro e w1 ⟨rfl, k1, hb1⟩; have HK1 := Lib.hid k1; clear k1 hb1)
              by_cases c3 : 2 ≤ kx - a
              · have c3i : (2 : Int) ≤ (kx : Int) - (a : Int) := by omega
                go_wp2_with (go_at_call 57; refine (HSW.out _ HK1.out).mono ?_; rintro e w2 ⟨rfl, k2⟩; have HKs := Lib.hid k2; clear k2)
                go_loopw [9] (fun vj wr3 => ∃ (j : Nat) (ds : Array α), vj = .int .i64 (j : Int) ∧ j ≤ kx - 1 ∧ Hid (K enc blk n w0 X wr3 ds ∧ shiftDown lt j ds = shiftDown lt (kx - 1) (swp dk kx (kx - 1)))) (fun vj _ => (intOf vj).toNat)
                case atStart => exact ⟨kx - 1, _, by congr 1; omega, Nat.le_refl _, Lib.hid ⟨HKs.out, rfl⟩⟩
                case round =>
                  obtain ⟨j, dj, rfl, hjk, HD⟩ := hrel
                  by_cases c6 : 1 ≤ j
                  · have c6i : (1 : Int) ≤ (j : Int) := by omega
                    have hl := HD.out.1.less CX.out j (j - 1) (by omega) (by omega)
                    rw [show ((j - 1 : Nat) : Int) = (j : Int) - 1 by omega] at hl
                    cases hlv : lt dj[j]! dj[j - 1]! with
                    | true =>
                      rw [hlv] at hl
                      have HL := Lib.hid hl
                      have HE := Lib.hid (shiftDown_go lt j dj c6 hlv)
                      have HSD : Hid (∀ w1, K enc blk n w0 X w1 dj → Calls Try.prog 57 #[rv, .int .i64 (j : Int), .int .i64 ((j : Int) - 1)] w1 fun e w' => e = .returned (.tuple #[]) ∧ K enc blk n w0 X w' (swp dj j (j - 1))) := Lib.hid (fun w1 kk => by have h := kk.swap CX.out j (j - 1) (by omega) (by omega); rwa [show ((j - 1 : Nat) : Int) = (j : Int) - 1 by omega] at h)
                      clear hl hlv
                      go_wp2_with (first | (go_at_call 56; refine HL.out.mono ?_; rintro e w1 ⟨rfl, k1, hb1⟩; have HKd := Lib.hid k1; clear k1 hb1) | (go_at_call 57; refine (HSD.out _ HKd.out).mono ?_; rintro e w2 ⟨rfl, k2⟩; have HKv := Lib.hid k2; clear k2))
                      go_roundw
                      case rel => exact ⟨j - 1, _, by congr 1; omega, by omega, Lib.hid ⟨HKv.out, HE.out.symm.trans HD.out.2⟩⟩
                      case measure => simp [intOf] <;> omega
                    | false =>
                      rw [hlv] at hl
                      have HL := Lib.hid hl
                      have HE := Lib.hid (shiftDown_stop lt j dj (.inr hlv))
                      have HDJ : Hid (dj = (if 2 ≤ kx - a then shiftDown lt (kx - 1) (swp dk kx (kx - 1)) else swp dk kx (kx - 1))) := Lib.hid (by rw [if_pos c3, ← HD.out.2, HE.out])
                      clear hl hlv
                      go_upto_region 18 with (go_at_call 56; refine HL.out.mono ?_; rintro e w1 ⟨rfl, k1, hb1⟩; have HKd := Lib.hid k1; clear k1 hb1)
                      by_cases c4 : 2 ≤ b - kx
                      · have c4i : (2 : Int) ≤ (b : Int) - (kx : Int) := by omega
                        go_wp2_with fail
                        go_loopw [10] (fun vj wr4 => ∃ (ju : Nat) (du : Array α), vj = .int .i64 (ju : Int) ∧ kx + 1 ≤ ju ∧ ju ≤ b ∧ Hid (K enc blk n w0 X wr4 du ∧ shiftUp lt b ju du = shiftUp lt b (kx + 1) dj)) (fun vj _ => b - (intOf vj).toNat)
                        case atStart => exact ⟨kx + 1, dj, by simp, Nat.le_refl _, by omega, Lib.hid ⟨HKd.out, rfl⟩⟩
                        case round =>
                          obtain ⟨ju, du, rfl, hu1, hu2, HU⟩ := hrel
                          by_cases c5 : ju < b
                          · have c5i : (ju : Int) < (b : Int) := by omega
                            have hl := HU.out.1.less CX.out ju (ju - 1) (by omega) (by omega)
                            rw [show ((ju - 1 : Nat) : Int) = (ju : Int) - 1 by omega] at hl
                            cases hlv : lt du[ju]! du[ju - 1]! with
                            | true =>
                              rw [hlv] at hl
                              have HL := Lib.hid hl
                              have HE := Lib.hid (shiftUp_go lt b ju du c5 hlv)
                              have HSU : Hid (∀ w1, K enc blk n w0 X w1 du → Calls Try.prog 57 #[rv, .int .i64 (ju : Int), .int .i64 ((ju : Int) - 1)] w1 fun e w' => e = .returned (.tuple #[]) ∧ K enc blk n w0 X w' (swp du ju (ju - 1))) := Lib.hid (fun w1 kk => by have h := kk.swap CX.out ju (ju - 1) (by omega) (by omega); rwa [show ((ju - 1 : Nat) : Int) = (ju : Int) - 1 by omega] at h)
                              clear hl hlv
                              go_wp2_with (first | (go_at_call 56; refine HL.out.mono ?_; rintro e w1 ⟨rfl, k1, hb1⟩; have HKu := Lib.hid k1; clear k1 hb1) | (go_at_call 57; refine (HSU.out _ HKu.out).mono ?_; rintro e w2 ⟨rfl, k2⟩; have HKv := Lib.hid k2; clear k2))
                              go_roundw
                              case rel => exact ⟨ju + 1, _, by simp, by omega, by omega, Lib.hid ⟨HKv.out, HE.out.symm.trans HU.out.2⟩⟩
                              case measure => simp [intOf] <;> omega
                            | false =>
                              rw [hlv] at hl
                              have HL := Lib.hid hl
                              have HE := Lib.hid (shiftUp_stop lt b ju du (.inr hlv))
                              clear hl hlv
                              go_wp2_with (go_at_call 56; refine HL.out.mono ?_; rintro e w1 ⟨rfl, k1, hb1⟩; have HKu := Lib.hid k1; clear k1 hb1)
                              go_roundw
                              case rel => exact ⟨kx, s + 1, du, rfl, by simp, by omega, by omega, by omega, Lib.hid ⟨HKu.out, (by rw [← HO.out.2, show 5 - s = (5 - (s + 1)) + 1 by omega, HSTEP.out _ _ HDJ.out (by rw [if_pos c4, ← HU.out.2, HE.out])])⟩⟩
                              case measure => simp [intOf] <;> omega
                          · have c5i : ¬ (ju : Int) < (b : Int) := by omega
                            have HE := Lib.hid (shiftUp_stop lt b ju du (.inl c5))
                            have HKu := Lib.hid HU.out.1
                            go_wp2_with fail
                            go_roundw
                            case rel => exact ⟨kx, s + 1, du, rfl, by simp, by omega, by omega, by omega, Lib.hid ⟨HKu.out, (by rw [← HO.out.2, show 5 - s = (5 - (s + 1)) + 1 by omega, HSTEP.out _ _ HDJ.out (by rw [if_pos c4, ← HU.out.2, HE.out])])⟩⟩
                            case measure => simp [intOf] <;> omega
                      · have c4i : ¬ (2 : Int) ≤ (b : Int) - (kx : Int) := by omega
                        go_wp2_with fail
                        go_roundw
                        case rel => exact ⟨kx, s + 1, dj, rfl, by simp, by omega, by omega, by omega, Lib.hid ⟨HKd.out, (by rw [← HO.out.2, show 5 - s = (5 - (s + 1)) + 1 by omega, HSTEP.out _ _ HDJ.out (by rw [if_neg c4])])⟩⟩
                        case measure => simp [intOf] <;> omega
                  · have c6i : ¬ (1 : Int) ≤ (j : Int) := by omega
                    have HE := Lib.hid (shiftDown_stop lt j dj (.inl (by omega)))
                    have HDJ : Hid (dj = (if 2 ≤ kx - a then shiftDown lt (kx - 1) (swp dk kx (kx - 1)) else swp dk kx (kx - 1))) := Lib.hid (by rw [if_pos c3, ← HD.out.2, HE.out])
                    have HKd := Lib.hid HD.out.1
                    go_upto_region 18 with fail
                    by_cases c4 : 2 ≤ b - kx
                    · have c4i : (2 : Int) ≤ (b : Int) - (kx : Int) := by omega
                      go_wp2_with fail
                      go_loopw [10] (fun vj wr4 => ∃ (ju : Nat) (du : Array α), vj = .int .i64 (ju : Int) ∧ kx + 1 ≤ ju ∧ ju ≤ b ∧ Hid (K enc blk n w0 X wr4 du ∧ shiftUp lt b ju du = shiftUp lt b (kx + 1) dj)) (fun vj _ => b - (intOf vj).toNat)
                      case atStart => exact ⟨kx + 1, dj, by simp, Nat.le_refl _, by omega, Lib.hid ⟨HKd.out, rfl⟩⟩
                      case round =>
                        obtain ⟨ju, du, rfl, hu1, hu2, HU⟩ := hrel
                        by_cases c5 : ju < b
                        · have c5i : (ju : Int) < (b : Int) := by omega
                          have hl := HU.out.1.less CX.out ju (ju - 1) (by omega) (by omega)
                          rw [show ((ju - 1 : Nat) : Int) = (ju : Int) - 1 by omega] at hl
                          cases hlv : lt du[ju]! du[ju - 1]! with
                          | true =>
                            rw [hlv] at hl
                            have HL := Lib.hid hl
                            have HE := Lib.hid (shiftUp_go lt b ju du c5 hlv)
                            have HSU : Hid (∀ w1, K enc blk n w0 X w1 du → Calls Try.prog 57 #[rv, .int .i64 (ju : Int), .int .i64 ((ju : Int) - 1)] w1 fun e w' => e = .returned (.tuple #[]) ∧ K enc blk n w0 X w' (swp du ju (ju - 1))) := Lib.hid (fun w1 kk => by have h := kk.swap CX.out ju (ju - 1) (by omega) (by omega); rwa [show ((ju - 1 : Nat) : Int) = (ju : Int) - 1 by omega] at h)
                            clear hl hlv
                            go_wp2_with (first | (go_at_call 56; refine HL.out.mono ?_; rintro e w1 ⟨rfl, k1, hb1⟩; have HKu := Lib.hid k1; clear k1 hb1) | (go_at_call 57; refine (HSU.out _ HKu.out).mono ?_; rintro e w2 ⟨rfl, k2⟩; have HKv := Lib.hid k2; clear k2))
                            go_roundw
                            case rel => exact ⟨ju + 1, _, by simp, by omega, by omega, Lib.hid ⟨HKv.out, HE.out.symm.trans HU.out.2⟩⟩
                            case measure => simp [intOf] <;> omega
                          | false =>
                            rw [hlv] at hl
                            have HL := Lib.hid hl
                            have HE := Lib.hid (shiftUp_stop lt b ju du (.inr hlv))
                            clear hl hlv
                            go_wp2_with (go_at_call 56; refine HL.out.mono ?_; rintro e w1 ⟨rfl, k1, hb1⟩; have HKu := Lib.hid k1; clear k1 hb1)
                            go_roundw
                            case rel => exact ⟨kx, s + 1, du, rfl, by simp, by omega, by omega, by omega, Lib.hid ⟨HKu.out, (by rw [← HO.out.2, show 5 - s = (5 - (s + 1)) + 1 by omega, HSTEP.out _ _ HDJ.out (by rw [if_pos c4, ← HU.out.2, HE.out])])⟩⟩
                            case measure => simp [intOf] <;> omega
                        · have c5i : ¬ (ju : Int) < (b : Int) := by omega
                          have HE := Lib.hid (shiftUp_stop lt b ju du (.inl c5))
                          have HKu := Lib.hid HU.out.1
                          go_wp2_with fail
                          go_roundw
                          case rel => exact ⟨kx, s + 1, du, rfl, by simp, by omega, by omega, by omega, Lib.hid ⟨HKu.out, (by rw [← HO.out.2, show 5 - s = (5 - (s + 1)) + 1 by omega, HSTEP.out _ _ HDJ.out (by rw [if_pos c4, ← HU.out.2, HE.out])])⟩⟩
                          case measure => simp [intOf] <;> omega
                    · have c4i : ¬ (2 : Int) ≤ (b : Int) - (kx : Int) := by omega
                      go_wp2_with fail
                      go_roundw
                      case rel => exact ⟨kx, s + 1, dj, rfl, by simp, by omega, by omega, by omega, Lib.hid ⟨HKd.out, (by rw [← HO.out.2, show 5 - s = (5 - (s + 1)) + 1 by omega, HSTEP.out _ _ HDJ.out (by rw [if_neg c4])])⟩⟩
                      case measure => simp [intOf] <;> omega
              · have c3i : ¬ (2 : Int) ≤ (kx : Int) - (a : Int) := by omega
                obtain ⟨dj, hdj⟩ : ∃ dj, swp dk kx (kx - 1) = dj := ⟨_, rfl⟩
                have HDJ : Hid (dj = (if 2 ≤ kx - a then shiftDown lt (kx - 1) (swp dk kx (kx - 1)) else swp dk kx (kx - 1))) := Lib.hid (by rw [if_neg c3, hdj])
                rw [hdj] at HSW
                go_upto_region 18 with (go_at_call 57; refine (HSW.out _ HK1.out).mono ?_; rintro e w2 ⟨rfl, k2⟩; have HKd := Lib.hid k2; clear k2)
                by_cases c4 : 2 ≤ b - kx
                · have c4i : (2 : Int) ≤ (b : Int) - (kx : Int) := by omega
                  go_wp2_with fail
                  go_loopw [10] (fun vj wr4 => ∃ (ju : Nat) (du : Array α), vj = .int .i64 (ju : Int) ∧ kx + 1 ≤ ju ∧ ju ≤ b ∧ Hid (K enc blk n w0 X wr4 du ∧ shiftUp lt b ju du = shiftUp lt b (kx + 1) dj)) (fun vj _ => b - (intOf vj).toNat)
                  case atStart => exact ⟨kx + 1, dj, by simp, Nat.le_refl _, by omega, Lib.hid ⟨HKd.out, rfl⟩⟩
                  case round =>
                    obtain ⟨ju, du, rfl, hu1, hu2, HU⟩ := hrel
                    by_cases c5 : ju < b
                    · have c5i : (ju : Int) < (b : Int) := by omega
                      have hl := HU.out.1.less CX.out ju (ju - 1) (by omega) (by omega)
                      rw [show ((ju - 1 : Nat) : Int) = (ju : Int) - 1 by omega] at hl
                      cases hlv : lt du[ju]! du[ju - 1]! with
                      | true =>
                        rw [hlv] at hl
                        have HL := Lib.hid hl
                        have HE := Lib.hid (shiftUp_go lt b ju du c5 hlv)
                        have HSU : Hid (∀ w1, K enc blk n w0 X w1 du → Calls Try.prog 57 #[rv, .int .i64 (ju : Int), .int .i64 ((ju : Int) - 1)] w1 fun e w' => e = .returned (.tuple #[]) ∧ K enc blk n w0 X w' (swp du ju (ju - 1))) := Lib.hid (fun w1 kk => by have h := kk.swap CX.out ju (ju - 1) (by omega) (by omega); rwa [show ((ju - 1 : Nat) : Int) = (ju : Int) - 1 by omega] at h)
                        clear hl hlv
                        go_wp2_with (first | (go_at_call 56; refine HL.out.mono ?_; rintro e w1 ⟨rfl, k1, hb1⟩; have HKu := Lib.hid k1; clear k1 hb1) | (go_at_call 57; refine (HSU.out _ HKu.out).mono ?_; rintro e w2 ⟨rfl, k2⟩; have HKv := Lib.hid k2; clear k2))
                        go_roundw
                        case rel => exact ⟨ju + 1, _, by simp, by omega, by omega, Lib.hid ⟨HKv.out, HE.out.symm.trans HU.out.2⟩⟩
                        case measure => simp [intOf] <;> omega
                      | false =>
                        rw [hlv] at hl
                        have HL := Lib.hid hl
                        have HE := Lib.hid (shiftUp_stop lt b ju du (.inr hlv))
                        clear hl hlv
                        go_wp2_with (go_at_call 56; refine HL.out.mono ?_; rintro e w1 ⟨rfl, k1, hb1⟩; have HKu := Lib.hid k1; clear k1 hb1)
                        go_roundw
                        case rel => exact ⟨kx, s + 1, du, rfl, by simp, by omega, by omega, by omega, Lib.hid ⟨HKu.out, (by rw [← HO.out.2, show 5 - s = (5 - (s + 1)) + 1 by omega, HSTEP.out _ _ HDJ.out (by rw [if_pos c4, ← HU.out.2, HE.out])])⟩⟩
                        case measure => simp [intOf] <;> omega
                    · have c5i : ¬ (ju : Int) < (b : Int) := by omega
                      have HE := Lib.hid (shiftUp_stop lt b ju du (.inl c5))
                      have HKu := Lib.hid HU.out.1
                      go_wp2_with fail
                      go_roundw
                      case rel => exact ⟨kx, s + 1, du, rfl, by simp, by omega, by omega, by omega, Lib.hid ⟨HKu.out, (by rw [← HO.out.2, show 5 - s = (5 - (s + 1)) + 1 by omega, HSTEP.out _ _ HDJ.out (by rw [if_pos c4, ← HU.out.2, HE.out])])⟩⟩
                      case measure => simp [intOf] <;> omega
                · have c4i : ¬ (2 : Int) ≤ (b : Int) - (kx : Int) := by omega
                  go_wp2_with fail
                  go_roundw
                  case rel => exact ⟨kx, s + 1, dj, rfl, by simp, by omega, by omega, by omega, Lib.hid ⟨HKd.out, (by rw [← HO.out.2, show 5 - s = (5 - (s + 1)) + 1 by omega, HSTEP.out _ _ HDJ.out (by rw [if_neg c4])])⟩⟩
                  case measure => simp [intOf] <;> omega
        · have c1i : ¬ (kx : Int) < (b : Int) := by omega
          have hbk : kx = b := by omega
          have HKX : Hid (b = scanSorted lt dk b i) := Lib.hid (by rw [← HS.out.2, scanSorted_stop lt dk b kx (.inl c1), hbk])
          have HEND : Hid (R = (dk, true)) := Lib.hid (by rw [← HO.out.2, show 5 - s = (5 - (s + 1)) + 1 by omega]; exact pins_done a b _ i dk HKX.out)
          have heq : ((kx : Int) == (b : Int)) = true := by rw [beq_iff_eq]; omega
          have HKf := Lib.hid HS.out.1
          clear hbk
          go_wp2_with fail
          go_ret
          exact ⟨by rw [HEND.out]; rfl, by rw [HEND.out]; exact HKf.out⟩
    · have c0i : ¬ (s : Int) < 5 := by omega
      have HEND : Hid (R = (dk, false)) := Lib.hid (by rw [← HO.out.2, show 5 - s = 0 by omega]; rfl)
      have HKf := Lib.hid HO.out.1
      go_wp2_with fail
      go_ret
      exact ⟨by rw [HEND.out]; rfl, by rw [HEND.out]; exact HKf.out⟩
end

end Go.Proofs.Ytjgamgmghelhgaa.Sort3
