/- sort.partitionEqual, sort.partition over byTime. Conditions: indices within the row. (Printed by mksort2.py.) -/
import Derived.Test.YtjgamgmghelhgaaSortK
namespace Go.Proofs.Ytjgamgmghelhgaa.Sort2
open Go Go.RowKit Go.Sort Go.Proofs.Ytjgamgmghelhgaa.SortS Go.Proofs.Ytjgamgmghelhgaa.SortK
set_option linter.unusedVariables false

section
variable {α : Type} [Inhabited α] {enc : α → Value} {lt : α → α → Bool} {blk n : Nat} {rv : Value} {w0 : World}

set_option maxHeartbeats 4000000 in
set_option maxRecDepth 100000 in
theorem partEq_any (cx : Cx enc lt blk rv n w0) (d : Array α) (a b pivot : Nat) (hap : a ≤ pivot) (hpb : pivot < b) (hb : b ≤ n) :
    Does enc blk n w0 27 #[.iface 56 rv, .int .i64 (a : Int), .int .i64 (b : Int), .int .i64 (pivot : Int)] d (partitionEqual lt d a b pivot).2 (.int .i64 ((partitionEqual lt d a b pivot).1 : Int)) := by
  intro X k0
  have hbig := cx.big
  have CX := Lib.hid cx
  have hmL := meth_less
  have hmS := meth_swap
  clear cx
  have HK0 := Lib.hid k0
  clear k0
  have HS0 : Hid (∀ w1, K enc blk n w0 X w1 d → Calls Try.prog 57 #[rv, .int .i64 (a : Int), .int .i64 (pivot : Int)] w1 fun e w' => e = .returned (.tuple #[]) ∧ K enc blk n w0 X w' (swp d a pivot)) := Lib.hid (fun w1 kk => kk.swap CX.out a pivot (by omega) (by omega))
  go_enter Try.func27, Try.ntmps27
  go_wp2_with (go_at_call 57; refine (HS0.out _ HK0.out).mono ?_; rintro e w2 ⟨rfl, k2⟩; have HKs := Lib.hid k2; clear k2)
  go_loopw [9, 10] (fun vi vj wr => ∃ (i j : Nat) (dk : Array α), vi = .int .i64 (i : Int) ∧ vj = .int .i64 (j : Int) ∧ a < i ∧ i ≤ j + 1 ∧ j < b ∧ Hid (K enc blk n w0 X wr dk ∧ partEqLoop lt a i j dk = partEqLoop lt a (a + 1) (b - 1) (swp d a pivot))) (fun vi vj _ => (intOf vj - intOf vi + 2).toNat)
  case atStart => exact ⟨a + 1, b - 1, _, by simp, by congr 1; omega, by omega, by omega, by omega, Lib.hid ⟨HKs.out, rfl⟩⟩
  case round =>
    obtain ⟨i, j, dk, rfl, rfl, hai, hij, hjb, HO⟩ := hrel
    have HK := Lib.hid HO.out.1
    go_wp2_with fail
    go_loopw [9] (fun vi w1 => ∃ i' : Nat, vi = .int .i64 (i' : Int) ∧ i ≤ i' ∧ i' ≤ j + 1 ∧ Hid (K enc blk n w0 X w1 dk ∧ scanUp (fun x => !lt dk[a]! x) dk j i' = scanUp (fun x => !lt dk[a]! x) dk j i)) (fun vi _ => j + 1 - (intOf vi).toNat)
    case atStart => exact ⟨i, rfl, Nat.le_refl _, hij, Lib.hid ⟨HK.out, rfl⟩⟩
    case round =>
      obtain ⟨i', rfl, hii, hij', HU⟩ := hrel
      by_cases hle : i' ≤ j
      · have hlei : (i' : Int) ≤ (j : Int) := by omega
        have hl := HU.out.1.less CX.out a i' (by omega) (by omega)
        cases hlv : lt dk[a]! dk[i']! with
        | false =>
          rw [hlv] at hl
          have HL := Lib.hid hl
          have HE := Lib.hid (scanUp_go (fun x => !lt dk[a]! x) dk j i' hle (by simp [hlv]))
          clear hl hlv
          go_wp2_with (go_at_call 56; refine HL.out.mono ?_; rintro e w1 ⟨rfl, k1, hb1⟩; have HK1 := Lib.hid k1; clear k1 hb1)
          go_roundw
          case rel => exact ⟨i' + 1, by simp, by omega, by omega, Lib.hid ⟨HK1.out, HE.out.symm.trans HU.out.2⟩⟩
          case measure => simp [intOf] <;> omega
        | true =>
          rw [hlv] at hl
          have HL := Lib.hid hl
          have HI2 : Hid (i' = scanUp (fun x => !lt dk[a]! x) dk j i) := Lib.hid ((scanUp_end (fun x => !lt dk[a]! x) dk j i' (.inr (by simp [hlv]))).symm.trans HU.out.2)
          clear hl hlv
          go_wp2_with (go_at_call 56; refine HL.out.mono ?_; rintro e w1 ⟨rfl, k1, hb1⟩; have HK1 := Lib.hid k1; clear k1 hb1)
          go_loopw [10] (fun vj w2 => ∃ j' : Nat, vj = .int .i64 (j' : Int) ∧ j' ≤ j ∧ i' ≤ j' + 1 ∧ Hid (K enc blk n w0 X w2 dk ∧ scanDown (fun x => lt dk[a]! x) dk i' j' = scanDown (fun x => lt dk[a]! x) dk i' j)) (fun vj _ => (intOf vj).toNat)
          case atStart => exact ⟨j, rfl, Nat.le_refl _, hij', Lib.hid ⟨HK1.out, rfl⟩⟩
          case round =>
            obtain ⟨j', rfl, hjj, hij2, HD⟩ := hrel
            by_cases hle2 : i' ≤ j'
            · have hle2i : (i' : Int) ≤ (j' : Int) := by omega
              have hl := HD.out.1.less CX.out a j' (by omega) (by omega)
              cases hlv : lt dk[a]! dk[j']! with
              | true =>
                rw [hlv] at hl
                have HL := Lib.hid hl
                have HE := Lib.hid (scanDown_go (fun x => lt dk[a]! x) dk i' j' hle2 (by omega) (by simp [hlv]))
                clear hl hlv
                go_wp2_with (go_at_call 56; refine HL.out.mono ?_; rintro e w1 ⟨rfl, k1, hb1⟩; have HK2 := Lib.hid k1; clear k1 hb1)
                go_roundw
                case rel => exact ⟨j' - 1, by congr 1; omega, by omega, by omega, Lib.hid ⟨HK2.out, HE.out.symm.trans HD.out.2⟩⟩
                case measure => simp [intOf] <;> omega
              | false =>
                rw [hlv] at hl
                have HL := Lib.hid hl
                have HJ2 : Hid (j' = scanDown (fun x => lt dk[a]! x) dk i' j) := Lib.hid ((scanDown_end (fun x => lt dk[a]! x) dk i' j' (.inr (by simp [hlv]))).symm.trans HD.out.2)
                have hlt3 := scans_lt lt a i j dk (by omega) HI2.out HJ2.out hle2
                clear hl hlv
                have HSW : Hid (∀ w1, K enc blk n w0 X w1 dk → Calls Try.prog 57 #[rv, .int .i64 (i' : Int), .int .i64 (j' : Int)] w1 fun e w' => e = .returned (.tuple #[]) ∧ K enc blk n w0 X w' (swp dk i' j')) := Lib.hid (fun w1 kk => kk.swap CX.out i' j' (by omega) (by omega))
                have HGO := Lib.hid (partEq_go lt a i j dk HI2.out HJ2.out (by omega))
                go_wp2_with (first | (go_at_call 56; refine HL.out.mono ?_; rintro e w1 ⟨rfl, k1, hb1⟩; have HK2 := Lib.hid k1; clear k1 hb1) | (go_at_call 57; refine (HSW.out _ HK2.out).mono ?_; rintro e w2 ⟨rfl, k2⟩; have HK3 := Lib.hid k2; clear k2))
                go_roundw
                case rel => exact ⟨i' + 1, j' - 1, swp dk i' j', by simp, by congr 1; omega, by omega, by omega, by omega, Lib.hid ⟨HK3.out, HGO.out.symm.trans HO.out.2⟩⟩
                case measure => simp [intOf] <;> omega
            · have hle2i : ¬ (i' : Int) ≤ (j' : Int) := by omega
              have HJ2 : Hid (j' = scanDown (fun x => lt dk[a]! x) dk i' j) := Lib.hid ((scanDown_end (fun x => lt dk[a]! x) dk i' j' (.inl hle2)).symm.trans HD.out.2)
              have HK2 := Lib.hid HD.out.1
              have HEND := Lib.hid (partEq_break lt a i j dk HI2.out HJ2.out (by omega))
              go_wp2_with fail
              go_ret
              exact ⟨by unfold partitionEqual; rw [← HO.out.2, HEND.out]; rfl, by unfold partitionEqual; rw [← HO.out.2, HEND.out]; exact HK2.out⟩
      · have hlei : ¬ (i' : Int) ≤ (j : Int) := by omega
        have HI2 : Hid (i' = scanUp (fun x => !lt dk[a]! x) dk j i) := Lib.hid ((scanUp_end (fun x => !lt dk[a]! x) dk j i' (.inl hle)).symm.trans HU.out.2)
        have HK1 := Lib.hid HU.out.1
        go_wp2_with fail
        go_loopw [10] (fun vj w2 => ∃ j' : Nat, vj = .int .i64 (j' : Int) ∧ j' ≤ j ∧ i' ≤ j' + 1 ∧ Hid (K enc blk n w0 X w2 dk ∧ scanDown (fun x => lt dk[a]! x) dk i' j' = scanDown (fun x => lt dk[a]! x) dk i' j)) (fun vj _ => (intOf vj).toNat)
        case atStart => exact ⟨j, rfl, Nat.le_refl _, hij', Lib.hid ⟨HK1.out, rfl⟩⟩
        case round =>
          obtain ⟨j', rfl, hjj, hij2, HD⟩ := hrel
          by_cases hle2 : i' ≤ j'
          · exfalso; omega
          · have hle2i : ¬ (i' : Int) ≤ (j' : Int) := by omega
            have HJ2 : Hid (j' = scanDown (fun x => lt dk[a]! x) dk i' j) := Lib.hid ((scanDown_end (fun x => lt dk[a]! x) dk i' j' (.inl hle2)).symm.trans HD.out.2)
            have HK2 := Lib.hid HD.out.1
            have HEND := Lib.hid (partEq_break lt a i j dk HI2.out HJ2.out (by omega))
            go_wp2_with fail
            go_ret
            exact ⟨by unfold partitionEqual; rw [← HO.out.2, HEND.out]; rfl, by unfold partitionEqual; rw [← HO.out.2, HEND.out]; exact HK2.out⟩

set_option maxHeartbeats 8000000 in
set_option maxRecDepth 100000 in
theorem part_any (cx : Cx enc lt blk rv n w0) (d : Array α) (a b pivot : Nat) (hap : a ≤ pivot) (hpb : pivot < b) (hb : b ≤ n) :
    Does enc blk n w0 28 #[.iface 56 rv, .int .i64 (a : Int), .int .i64 (b : Int), .int .i64 (pivot : Int)] d (partition lt d a b pivot).2.2 (.tuple #[.int .i64 ((partition lt d a b pivot).1 : Int), .bool (partition lt d a b pivot).2.1]) := by
  intro X k0
  have hbig := cx.big
  have CX := Lib.hid cx
  have hmL := meth_less
  have hmS := meth_swap
  clear cx
  have HK0 := Lib.hid k0
  clear k0
  have HS0 : Hid (∀ w1, K enc blk n w0 X w1 d → Calls Try.prog 57 #[rv, .int .i64 (a : Int), .int .i64 (pivot : Int)] w1 fun e w' => e = .returned (.tuple #[]) ∧ K enc blk n w0 X w' (swp d a pivot)) := Lib.hid (fun w1 kk => kk.swap CX.out a pivot (by omega) (by omega))
  go_enter Try.func28, Try.ntmps28
  go_wp2_with (go_at_call 57; refine (HS0.out _ HK0.out).mono ?_; rintro e w2 ⟨rfl, k2⟩; have HKs := Lib.hid k2; clear k2)
  obtain ⟨i, hi⟩ : ∃ i : Nat, i = a + 1 := ⟨_, rfl⟩
  obtain ⟨j, hj⟩ : ∃ j : Nat, j = b - 1 := ⟨_, rfl⟩
  obtain ⟨dk, hdk⟩ : ∃ dk : Array α, dk = swp d a pivot := ⟨_, rfl⟩
  have hai : a < i := by omega
  have hij : i ≤ j + 1 := by omega
  have hjb : j < b := by omega
  rw [show ((a : Int) + 1) = (i : Int) by omega, show ((b : Int) - 1) = (j : Int) by omega]
  rw [← hdk] at HKs
  have HK := HKs
  have HDK := Lib.hid hdk
  have Hi := Lib.hid hi
  have Hj := Lib.hid hj
  clear hdk HKs HS0 hi hj
  go_loopw [10] (fun vi w1 => ∃ i' : Nat, vi = .int .i64 (i' : Int) ∧ i ≤ i' ∧ i' ≤ j + 1 ∧ Hid (K enc blk n w0 X w1 dk ∧ scanUp (fun x => lt x dk[a]!) dk j i' = scanUp (fun x => lt x dk[a]!) dk j i)) (fun vi _ => j + 1 - (intOf vi).toNat)
  case atStart => exact ⟨i, rfl, Nat.le_refl _, hij, Lib.hid ⟨HK.out, rfl⟩⟩
  case round =>
    obtain ⟨i', rfl, hii, hij', HU⟩ := hrel
    by_cases hle : i' ≤ j
    · have hlei : (i' : Int) ≤ (j : Int) := by omega
      have hl := HU.out.1.less CX.out i' a (by omega) (by omega)
      cases hlv : lt dk[i']! dk[a]! with
      | true =>
        rw [hlv] at hl
        have HL := Lib.hid hl
        have HE := Lib.hid (scanUp_go (fun x => lt x dk[a]!) dk j i' hle (by simp [hlv]))
        clear hl hlv
        go_wp2_with (go_at_call 56; refine HL.out.mono ?_; rintro e w1 ⟨rfl, k1, hb1⟩; have HK1 := Lib.hid k1; clear k1 hb1)
        go_roundw
        case rel => exact ⟨i' + 1, by simp, by omega, by omega, Lib.hid ⟨HK1.out, HE.out.symm.trans HU.out.2⟩⟩
        case measure => simp [intOf] <;> omega
      | false =>
        rw [hlv] at hl
        have HL := Lib.hid hl
        have HI2 : Hid (i' = scanUp (fun x => lt x dk[a]!) dk j i) := Lib.hid ((scanUp_end (fun x => lt x dk[a]!) dk j i' (.inr (by simp [hlv]))).symm.trans HU.out.2)
        clear hl hlv
        go_wp2_with (go_at_call 56; refine HL.out.mono ?_; rintro e w1 ⟨rfl, k1, hb1⟩; have HK1 := Lib.hid k1; clear k1 hb1)
        go_loopw [11] (fun vj w2 => ∃ j' : Nat, vj = .int .i64 (j' : Int) ∧ j' ≤ j ∧ i' ≤ j' + 1 ∧ Hid (K enc blk n w0 X w2 dk ∧ scanDown (fun x => !lt x dk[a]!) dk i' j' = scanDown (fun x => !lt x dk[a]!) dk i' j)) (fun vj _ => (intOf vj).toNat)
        case atStart => exact ⟨j, rfl, Nat.le_refl _, hij', Lib.hid ⟨HK1.out, rfl⟩⟩
        case round =>
          obtain ⟨j', rfl, hjj, hij2, HD⟩ := hrel
          by_cases hle2 : i' ≤ j'
          · have hle2i : (i' : Int) ≤ (j' : Int) := by omega
            have hl := HD.out.1.less CX.out j' a (by omega) (by omega)
            cases hlv : lt dk[j']! dk[a]! with
            | false =>
              rw [hlv] at hl
              have HL := Lib.hid hl
              have HE := Lib.hid (scanDown_go (fun x => !lt x dk[a]!) dk i' j' hle2 (by omega) (by simp [hlv]))
              clear hl hlv
              go_wp2_with (go_at_call 56; refine HL.out.mono ?_; rintro e w1 ⟨rfl, k1, hb1⟩; have HK2 := Lib.hid k1; clear k1 hb1)
              go_roundw
              case rel => exact ⟨j' - 1, by congr 1; omega, by omega, by omega, Lib.hid ⟨HK2.out, HE.out.symm.trans HD.out.2⟩⟩
              case measure => simp [intOf] <;> omega
            | true =>
              rw [hlv] at hl
              have HL := Lib.hid hl
              have HJ2 : Hid (j' = scanDown (fun x => !lt x dk[a]!) dk i' j) := Lib.hid ((scanDown_end (fun x => !lt x dk[a]!) dk i' j' (.inr (by simp [hlv]))).symm.trans HD.out.2)
              have hlt3 := part_scans_lt lt a i j dk (by omega) HI2.out HJ2.out hle2
              clear hl hlv
              have HSW : Hid (∀ w1, K enc blk n w0 X w1 dk → Calls Try.prog 57 #[rv, .int .i64 (i' : Int), .int .i64 (j' : Int)] w1 fun e w' => e = .returned (.tuple #[]) ∧ K enc blk n w0 X w' (swp dk i' j')) := Lib.hid (fun w1 kk => kk.swap CX.out i' j' (by omega) (by omega))
              obtain ⟨r0, hr0⟩ : ∃ r0, partLoop lt a (i' + 1) (j' - 1) (swp dk i' j') = r0 := ⟨_, rfl⟩
              have HPT : Hid (partition lt d a b pivot = (r0.1, false, swp r0.2 r0.1 a)) := Lib.hid (by rw [part_first_go lt d a b pivot Hi.out Hj.out HDK.out HI2.out HJ2.out (by omega), hr0])
              go_wp2_with (first | (go_at_call 56; refine HL.out.mono ?_; rintro e w1 ⟨rfl, k1, hb1⟩; have HK2 := Lib.hid k1; clear k1 hb1) | (go_at_call 57; refine (HSW.out _ HK2.out).mono ?_; rintro e w2 ⟨rfl, k2⟩; have HK3 := Lib.hid k2; clear k2))
              go_loopw [10, 11] (fun vi vj wr => ∃ (i j : Nat) (dk : Array α), vi = .int .i64 (i : Int) ∧ vj = .int .i64 (j : Int) ∧ a < i ∧ i ≤ j + 1 ∧ j < b ∧ Hid (K enc blk n w0 X wr dk ∧ partLoop lt a i j dk = r0)) (fun vi vj _ => (intOf vj - intOf vi + 2).toNat)
              case atStart => exact ⟨i' + 1, j' - 1, _, by simp, by congr 1; omega, by omega, by omega, by omega, Lib.hid ⟨HK3.out, hr0⟩⟩
              case round =>
                obtain ⟨i, j, dk, rfl, rfl, hai, hij, hjb, HO⟩ := hrel
                have HK := Lib.hid HO.out.1
                go_wp2_with fail
                go_loopw [10] (fun vi w1 => ∃ i' : Nat, vi = .int .i64 (i' : Int) ∧ i ≤ i' ∧ i' ≤ j + 1 ∧ Hid (K enc blk n w0 X w1 dk ∧ scanUp (fun x => lt x dk[a]!) dk j i' = scanUp (fun x => lt x dk[a]!) dk j i)) (fun vi _ => j + 1 - (intOf vi).toNat)
                case atStart => exact ⟨i, rfl, Nat.le_refl _, hij, Lib.hid ⟨HK.out, rfl⟩⟩
                case round =>
                  obtain ⟨i', rfl, hii, hij', HU⟩ := hrel
                  by_cases hle : i' ≤ j
                  · have hlei : (i' : Int) ≤ (j : Int) := by omega
                    have hl := HU.out.1.less CX.out i' a (by omega) (by omega)
                    cases hlv : lt dk[i']! dk[a]! with
                    | true =>
                      rw [hlv] at hl
                      have HL := Lib.hid hl
                      have HE := Lib.hid (scanUp_go (fun x => lt x dk[a]!) dk j i' hle (by simp [hlv]))
                      clear hl hlv
                      go_wp2_with (go_at_call 56; refine HL.out.mono ?_; rintro e w1 ⟨rfl, k1, hb1⟩; have HK1 := Lib.hid k1; clear k1 hb1)
                      go_roundw
                      case rel => exact ⟨i' + 1, by simp, by omega, by omega, Lib.hid ⟨HK1.out, HE.out.symm.trans HU.out.2⟩⟩
                      case measure => simp [intOf] <;> omega
                    | false =>
                      rw [hlv] at hl
                      have HL := Lib.hid hl
                      have HI2 : Hid (i' = scanUp (fun x => lt x dk[a]!) dk j i) := Lib.hid ((scanUp_end (fun x => lt x dk[a]!) dk j i' (.inr (by simp [hlv]))).symm.trans HU.out.2)
                      clear hl hlv
                      go_wp2_with (go_at_call 56; refine HL.out.mono ?_; rintro e w1 ⟨rfl, k1, hb1⟩; have HK1 := Lib.hid k1; clear k1 hb1)
                      go_loopw [11] (fun vj w2 => ∃ j' : Nat, vj = .int .i64 (j' : Int) ∧ j' ≤ j ∧ i' ≤ j' + 1 ∧ Hid (K enc blk n w0 X w2 dk ∧ scanDown (fun x => !lt x dk[a]!) dk i' j' = scanDown (fun x => !lt x dk[a]!) dk i' j)) (fun vj _ => (intOf vj).toNat)
                      case atStart => exact ⟨j, rfl, Nat.le_refl _, hij', Lib.hid ⟨HK1.out, rfl⟩⟩
                      case round =>
                        obtain ⟨j', rfl, hjj, hij2, HD⟩ := hrel
                        by_cases hle2 : i' ≤ j'
                        · have hle2i : (i' : Int) ≤ (j' : Int) := by omega
                          have hl := HD.out.1.less CX.out j' a (by omega) (by omega)
                          cases hlv : lt dk[j']! dk[a]! with
                          | false =>
                            rw [hlv] at hl
                            have HL := Lib.hid hl
                            have HE := Lib.hid (scanDown_go (fun x => !lt x dk[a]!) dk i' j' hle2 (by omega) (by simp [hlv]))
                            clear hl hlv
                            go_wp2_with (go_at_call 56; refine HL.out.mono ?_; rintro e w1 ⟨rfl, k1, hb1⟩; have HK2 := Lib.hid k1; clear k1 hb1)
                            go_roundw
                            case rel => exact ⟨j' - 1, by congr 1; omega, by omega, by omega, Lib.hid ⟨HK2.out, HE.out.symm.trans HD.out.2⟩⟩
                            case measure => simp [intOf] <;> omega
                          | true =>
                            rw [hlv] at hl
                            have HL := Lib.hid hl
                            have HJ2 : Hid (j' = scanDown (fun x => !lt x dk[a]!) dk i' j) := Lib.hid ((scanDown_end (fun x => !lt x dk[a]!) dk i' j' (.inr (by simp [hlv]))).symm.trans HD.out.2)
                            have hlt3 := part_scans_lt lt a i j dk (by omega) HI2.out HJ2.out hle2
                            clear hl hlv
                            have HSW : Hid (∀ w1, K enc blk n w0 X w1 dk → Calls Try.prog 57 #[rv, .int .i64 (i' : Int), .int .i64 (j' : Int)] w1 fun e w' => e = .returned (.tuple #[]) ∧ K enc blk n w0 X w' (swp dk i' j')) := Lib.hid (fun w1 kk => kk.swap CX.out i' j' (by omega) (by omega))
                            have HGO := Lib.hid (part_go lt a i j dk HI2.out HJ2.out (by omega))
                            go_wp2_with (first | (go_at_call 56; refine HL.out.mono ?_; rintro e w1 ⟨rfl, k1, hb1⟩; have HK2 := Lib.hid k1; clear k1 hb1) | (go_at_call 57; refine (HSW.out _ HK2.out).mono ?_; rintro e w2 ⟨rfl, k2⟩; have HK3 := Lib.hid k2; clear k2))
                            go_roundw
                            case rel => exact ⟨i' + 1, j' - 1, swp dk i' j', by simp, by congr 1; omega, by omega, by omega, by omega, Lib.hid ⟨HK3.out, HGO.out.symm.trans HO.out.2⟩⟩
                            case measure => simp [intOf] <;> omega
                        · have hle2i : ¬ (i' : Int) ≤ (j' : Int) := by omega
                          have HJ2 : Hid (j' = scanDown (fun x => !lt x dk[a]!) dk i' j) := Lib.hid ((scanDown_end (fun x => !lt x dk[a]!) dk i' j' (.inl hle2)).symm.trans HD.out.2)
                          have HK2 := Lib.hid HD.out.1
                          have HEND : Hid (r0 = (j', dk)) := Lib.hid (HO.out.2.symm.trans (part_break lt a i j dk HI2.out HJ2.out (by omega)))
                          have HSW : Hid (∀ w1, K enc blk n w0 X w1 dk → Calls Try.prog 57 #[rv, .int .i64 (j' : Int), .int .i64 (a : Int)] w1 fun e w' => e = .returned (.tuple #[]) ∧ K enc blk n w0 X w' (swp dk j' a)) := Lib.hid (fun w1 kk => kk.swap CX.out j' a (by omega) (by omega))
                          go_wp2_with (go_at_call 57; refine (HSW.out _ HK2.out).mono ?_; rintro e w2 ⟨rfl, k2⟩; have HK3 := Lib.hid k2; clear k2)
                          go_ret2
                          exact ⟨by rw [HPT.out, HEND.out]; rfl, by rw [HPT.out, HEND.out]; exact HK3.out⟩
                  · have hlei : ¬ (i' : Int) ≤ (j : Int) := by omega
                    have HI2 : Hid (i' = scanUp (fun x => lt x dk[a]!) dk j i) := Lib.hid ((scanUp_end (fun x => lt x dk[a]!) dk j i' (.inl hle)).symm.trans HU.out.2)
                    have HK1 := Lib.hid HU.out.1
                    go_wp2_with fail
                    go_loopw [11] (fun vj w2 => ∃ j' : Nat, vj = .int .i64 (j' : Int) ∧ j' ≤ j ∧ i' ≤ j' + 1 ∧ Hid (K enc blk n w0 X w2 dk ∧ scanDown (fun x => !lt x dk[a]!) dk i' j' = scanDown (fun x => !lt x dk[a]!) dk i' j)) (fun vj _ => (intOf vj).toNat)
                    case atStart => exact ⟨j, rfl, Nat.le_refl _, hij', Lib.hid ⟨HK1.out, rfl⟩⟩
                    case round =>
                      obtain ⟨j', rfl, hjj, hij2, HD⟩ := hrel
                      by_cases hle2 : i' ≤ j'
                      · exfalso; omega
                      · have hle2i : ¬ (i' : Int) ≤ (j' : Int) := by omega
                        have HJ2 : Hid (j' = scanDown (fun x => !lt x dk[a]!) dk i' j) := Lib.hid ((scanDown_end (fun x => !lt x dk[a]!) dk i' j' (.inl hle2)).symm.trans HD.out.2)
                        have HK2 := Lib.hid HD.out.1
                        have HEND : Hid (r0 = (j', dk)) := Lib.hid (HO.out.2.symm.trans (part_break lt a i j dk HI2.out HJ2.out (by omega)))
                        have HSW : Hid (∀ w1, K enc blk n w0 X w1 dk → Calls Try.prog 57 #[rv, .int .i64 (j' : Int), .int .i64 (a : Int)] w1 fun e w' => e = .returned (.tuple #[]) ∧ K enc blk n w0 X w' (swp dk j' a)) := Lib.hid (fun w1 kk => kk.swap CX.out j' a (by omega) (by omega))
                        go_wp2_with (go_at_call 57; refine (HSW.out _ HK2.out).mono ?_; rintro e w2 ⟨rfl, k2⟩; have HK3 := Lib.hid k2; clear k2)
                        go_ret2
                        exact ⟨by rw [HPT.out, HEND.out]; rfl, by rw [HPT.out, HEND.out]; exact HK3.out⟩
          · have hle2i : ¬ (i' : Int) ≤ (j' : Int) := by omega
            have HJ2 : Hid (j' = scanDown (fun x => !lt x dk[a]!) dk i' j) := Lib.hid ((scanDown_end (fun x => !lt x dk[a]!) dk i' j' (.inl hle2)).symm.trans HD.out.2)
            have HK2 := Lib.hid HD.out.1
            have HPT := Lib.hid (part_first_break lt d a b pivot Hi.out Hj.out HDK.out HI2.out HJ2.out (by omega))
            have HSW : Hid (∀ w1, K enc blk n w0 X w1 dk → Calls Try.prog 57 #[rv, .int .i64 (j' : Int), .int .i64 (a : Int)] w1 fun e w' => e = .returned (.tuple #[]) ∧ K enc blk n w0 X w' (swp dk j' a)) := Lib.hid (fun w1 kk => kk.swap CX.out j' a (by omega) (by omega))
            go_wp2_with (go_at_call 57; refine (HSW.out _ HK2.out).mono ?_; rintro e w2 ⟨rfl, k2⟩; have HK3 := Lib.hid k2; clear k2)
            go_ret2
            exact ⟨by rw [HPT.out]; rfl, by rw [HPT.out]; exact HK3.out⟩
    · have hlei : ¬ (i' : Int) ≤ (j : Int) := by omega
      have HI2 : Hid (i' = scanUp (fun x => lt x dk[a]!) dk j i) := Lib.hid ((scanUp_end (fun x => lt x dk[a]!) dk j i' (.inl hle)).symm.trans HU.out.2)
      have HK1 := Lib.hid HU.out.1
      go_wp2_with fail
      go_loopw [11] (fun vj w2 => ∃ j' : Nat, vj = .int .i64 (j' : Int) ∧ j' ≤ j ∧ i' ≤ j' + 1 ∧ Hid (K enc blk n w0 X w2 dk ∧ scanDown (fun x => !lt x dk[a]!) dk i' j' = scanDown (fun x => !lt x dk[a]!) dk i' j)) (fun vj _ => (intOf vj).toNat)
      case atStart => exact ⟨j, rfl, Nat.le_refl _, hij', Lib.hid ⟨HK1.out, rfl⟩⟩
      case round =>
        obtain ⟨j', rfl, hjj, hij2, HD⟩ := hrel
        by_cases hle2 : i' ≤ j'
        · exfalso; omega
        · have hle2i : ¬ (i' : Int) ≤ (j' : Int) := by omega
          have HJ2 : Hid (j' = scanDown (fun x => !lt x dk[a]!) dk i' j) := Lib.hid ((scanDown_end (fun x => !lt x dk[a]!) dk i' j' (.inl hle2)).symm.trans HD.out.2)
          have HK2 := Lib.hid HD.out.1
          have HPT := Lib.hid (part_first_break lt d a b pivot Hi.out Hj.out HDK.out HI2.out HJ2.out (by omega))
          have HSW : Hid (∀ w1, K enc blk n w0 X w1 dk → Calls Try.prog 57 #[rv, .int .i64 (j' : Int), .int .i64 (a : Int)] w1 fun e w' => e = .returned (.tuple #[]) ∧ K enc blk n w0 X w' (swp dk j' a)) := Lib.hid (fun w1 kk => kk.swap CX.out j' a (by omega) (by omega))
          go_wp2_with (go_at_call 57; refine (HSW.out _ HK2.out).mono ?_; rintro e w2 ⟨rfl, k2⟩; have HK3 := Lib.hid k2; clear k2)
          go_ret2
          exact ⟨by rw [HPT.out]; rfl, by rw [HPT.out]; exact HK3.out⟩
end

end Go.Proofs.Ytjgamgmghelhgaa.Sort2
