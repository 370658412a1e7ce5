/- sort.insertionSort, sort.reverseRange, sort.siftDown, sort.heapSort over byTime. Conditions: indices within the row. -/
import Derived.Test.YtjgamgmghelhgaaSortK
import Derived.Deep.LoopGhost
namespace Go.Proofs.Ytjgamgmghelhgaa.Sort1
open Go Go.RowKit Go.Sort Go.Proofs.Ytjgamgmghelhgaa.SortS Go.Proofs.Ytjgamgmghelhgaa.SortK
set_option linter.unusedVariables false

section
variable {α : Type} [Inhabited α] {enc : α → Value} {lt : α → α → Bool} {blk n : Nat} {rv : Value} {w0 : World}

set_option maxHeartbeats 2000000 in
set_option maxRecDepth 100000 in
theorem ins_any (cx : Cx enc lt blk rv n w0) (d : Array α) (a b : Nat) (hab : a ≤ b) (hb : b ≤ n) :
    Does enc blk n w0 21 #[.iface 56 rv, .int .i64 (a : Int), .int .i64 (b : Int)] d (insertionSort lt d a b) (.tuple #[]) := by
  intro X k0
  have hbig := cx.big
  have CX := Lib.hid cx
  have hmL := meth_less
  have hmS := meth_swap
  clear cx
  have HK0 := Lib.hid k0
  clear k0
  go_enter Try.func21, Try.ntmps21
  go_wp2_with fail
  go_loopw [6] (fun vi wr => ∃ (i : Nat) (dk : Array α), vi = .int .i64 (i : Int) ∧ a < i ∧ i ≤ b + 1 ∧ Hid (K enc blk n w0 X wr dk ∧ insOuter lt a b i dk = insOuter lt a b (a + 1) d)) (fun vi _ => b + 1 - (intOf vi).toNat)
  case atStart => exact ⟨a + 1, d, by simp, by omega, by omega, Lib.hid ⟨HK0.out, rfl⟩⟩
  case round =>
    obtain ⟨i, dk, rfl, hai, hib, HO⟩ := hrel
    by_cases hlt : i < b
    · have hlti : (i : Int) < (b : Int) := by omega
      go_wp2_with fail
      go_loopw [7] (fun vj wr2 => ∃ (j : Nat) (dj : Array α), vj = .int .i64 (j : Int) ∧ a ≤ j ∧ j ≤ i ∧ Hid (K enc blk n w0 X wr2 dj ∧ insInner lt a j dj = insInner lt a i dk)) (fun vj _ => (intOf vj).toNat)
      case atStart => exact ⟨i, dk, rfl, by omega, Nat.le_refl _, Lib.hid ⟨HO.out.1, rfl⟩⟩
      case round =>
        obtain ⟨j, dj, rfl, haj, hji, HJ⟩ := hrel
        by_cases hja : a < j
        · have hjai : (a : Int) < (j : Int) := by omega
          have hl := HJ.out.1.less CX.out j (j - 1) (by omega) (by omega)
          rw [show ((j - 1 : Nat) : Int) = (j : Int) - 1 by omega] at hl
          cases hlv : lt dj[j]! dj[j - 1]! with
          | true =>
            rw [hlv] at hl
            have HL := Lib.hid hl
            have HSW : Hid (∀ w1, K enc blk n w0 X w1 dj → Calls Try.prog 57 #[rv, .int .i64 (j : Int), .int .i64 ((j : Int) - 1)] w1 fun e w' => e = .returned (.tuple #[]) ∧ K enc blk n w0 X w' (swp dj j (j - 1))) := Lib.hid (fun w1 k => by
              have := k.swap CX.out j (j - 1) (by omega) (by omega)
              rwa [show ((j - 1 : Nat) : Int) = (j : Int) - 1 by omega] at this)
            have HE := Lib.hid (insInner_go lt a j dj hja hlv)
            clear hl hlv
            go_wp2_with (first
              | (go_at_call 56; refine HL.out.mono ?_; rintro e w1 ⟨rfl, k1, hb1⟩; have HK1 := Lib.hid k1; clear k1 hb1)
              | (go_at_call 57; refine (HSW.out _ HK1.out).mono ?_; rintro e w2 ⟨rfl, k2⟩; have HK2 := Lib.hid k2; clear k2))
            exact ⟨⟨j - 1, swp dj j (j - 1), by congr 1; omega, by omega, by omega, Lib.hid ⟨HK2.out, by rw [← HE.out]; exact HJ.out.2⟩⟩, by simp [intOf]; omega⟩
          | false =>
            rw [hlv] at hl
            have HL := Lib.hid hl
            have HE := Lib.hid (insInner_stop lt a j dj (.inr hlv))
            clear hl hlv
            go_wp2_with (go_at_call 56; refine HL.out.mono ?_; rintro e w1 ⟨rfl, k1, hb1⟩; have HK1 := Lib.hid k1; clear k1 hb1)
            exact ⟨⟨i + 1, dj, by simp, by omega, by omega, Lib.hid ⟨HK1.out, by rw [← HO.out.2, insOuter_go lt a b i dk hlt, ← HJ.out.2, HE.out]⟩⟩, by simp [intOf]; omega⟩
        · have hjai : ¬ (a : Int) < (j : Int) := by omega
          have HE := Lib.hid (insInner_stop lt a j dj (.inl (by omega)))
          go_wp2_with fail
          exact ⟨⟨i + 1, dj, by simp, by omega, by omega, Lib.hid ⟨HJ.out.1, by rw [← HO.out.2, insOuter_go lt a b i dk hlt, ← HJ.out.2, HE.out]⟩⟩, by simp [intOf]; omega⟩
    · have hlti : ¬ (i : Int) < (b : Int) := by omega
      go_wp2_with fail
      go_end0
      exact ⟨rfl, by unfold insertionSort; rw [← HO.out.2, insOuter_stop lt a b i dk hlt]; exact HO.out.1⟩
set_option maxHeartbeats 2000000 in
set_option maxRecDepth 100000 in
theorem rev_any (cx : Cx enc lt blk rv n w0) (d : Array α) (a b : Nat) (hab : a ≤ b) (hb : b ≤ n) :
    Does enc blk n w0 25 #[.iface 56 rv, .int .i64 (a : Int), .int .i64 (b : Int)] d (reverseRange d a b) (.tuple #[]) := by
  intro X k0
  have hbig := cx.big
  have CX := Lib.hid cx
  have hmS := meth_swap
  clear cx
  have HK0 := Lib.hid k0
  clear k0
  go_enter Try.func25, Try.ntmps25
  go_wp2_with fail
  go_loopw [6, 7] (fun s6 s7 wr => ∃ (i jn : Nat) (jz : Int) (dk : Array α), s6 = .int .i64 (i : Int) ∧ s7 = .int .i64 jz ∧ (-1 ≤ jz ∧ jz < (b : Int)) ∧ i ≤ n ∧ ((i : Int) < jz → jz = (jn : Int) ∧ jn < n) ∧ (¬ (i : Int) < jz → ¬ i < jn) ∧ Hid (K enc blk n w0 X wr dk ∧ reverseLoop i jn dk = reverseLoop a (b - 1) d)) (fun s6 s7 _ => (intOf s7 - intOf s6).toNat)
  case atStart => exact ⟨a, b - 1, (b : Int) - 1, d, rfl, rfl, by omega, by omega, fun h => ⟨by omega, by omega⟩, fun h => by omega, Lib.hid ⟨HK0.out, rfl⟩⟩
  case round =>
    obtain ⟨i, jn, jz, dk, rfl, rfl, hj, hi, h1, h2, HO⟩ := hrel
    by_cases hlt : (i : Int) < jz
    · obtain ⟨rfl, hjn⟩ := h1 hlt
      have HSW := Lib.hid (HO.out.1.swap CX.out i jn (by omega) hjn)
      have HE : Hid (reverseLoop i jn dk = reverseLoop (i + 1) (jn - 1) (swp dk i jn)) := Lib.hid (by rw [reverseLoop, if_pos (by omega)])
      go_wp2_with (go_at_call 57; refine HSW.out.mono ?_; rintro e w2 ⟨rfl, k2⟩; have HK2 := Lib.hid k2; clear k2)
      exact ⟨⟨i + 1, jn - 1, (jn : Int) - 1, swp dk i jn, by simp, rfl, by omega, by omega, fun h => ⟨by omega, by omega⟩, fun h => by omega, Lib.hid ⟨HK2.out, by rw [← HE.out]; exact HO.out.2⟩⟩, by simp [intOf]; omega⟩
    · have HE : Hid (reverseLoop i jn dk = dk) := Lib.hid (by rw [reverseLoop, if_neg (h2 hlt)])
      go_wp2_with fail
      go_end0
      exact ⟨rfl, by unfold reverseRange; rw [← HO.out.2, HE.out]; exact HO.out.1⟩

set_option maxHeartbeats 2000000 in
set_option maxRecDepth 100000 in
theorem sift_any (cx : Cx enc lt blk rv n w0) (d : Array α) (lo hi first : Nat) (hlo : lo ≤ hi) (hh : first + hi ≤ n) :
    Does enc blk n w0 30 #[.iface 56 rv, .int .i64 (lo : Int), .int .i64 (hi : Int), .int .i64 (first : Int)] d (siftDown lt hi first lo d) (.tuple #[]) := by
  intro X k0
  have hbig := cx.big
  have CX := Lib.hid cx
  have hmL := meth_less
  have hmS := meth_swap
  clear cx
  have HK0 := Lib.hid k0
  clear k0
  go_enter Try.func30, Try.ntmps30
  go_wp2_with fail
  go_loopw [8] (fun s8 wr => ∃ (r : Nat) (dk : Array α), s8 = .int .i64 (r : Int) ∧ r ≤ hi ∧ Hid (K enc blk n w0 X wr dk ∧ siftDown lt hi first r dk = siftDown lt hi first lo d)) (fun s8 _ => (hi - (intOf s8).toNat))
  case atStart => exact ⟨lo, d, rfl, hlo, Lib.hid ⟨HK0.out, rfl⟩⟩
  case round =>
    obtain ⟨r, dk, rfl, hr, HO⟩ := hrel
    by_cases c1 : 2 * r + 1 ≥ hi
    · have c1i : (hi : Int) ≤ 2 * (r : Int) + 1 := by omega
      have HE : Hid (siftDown lt hi first r dk = dk) := Lib.hid (by rw [siftDown, dif_pos c1])
      go_wp2_with fail
      go_end0
      exact ⟨rfl, by rw [← HO.out.2, HE.out]; exact HO.out.1⟩
    · have c1i : ¬ (hi : Int) ≤ 2 * (r : Int) + 1 := by omega
      -- the greater child
      obtain ⟨c, hc, hcb, hstep⟩ : ∃ c : Nat, (c = 2 * r + 1 ∨ c = 2 * r + 2) ∧ c < hi ∧ siftDown lt hi first r dk = (if !lt dk[first + r]! dk[first + c]! then dk else siftDown lt hi first c (swp dk (first + r) (first + c))) ∧
          ((2 * r + 2 < hi ∧ lt dk[first + (2 * r + 1)]! dk[first + (2 * r + 1) + 1]! = true ∧ c = 2 * r + 2) ∨ (¬ (2 * r + 2 < hi ∧ lt dk[first + (2 * r + 1)]! dk[first + (2 * r + 1) + 1]! = true) ∧ c = 2 * r + 1)) := by
        by_cases c2 : 2 * r + 2 < hi ∧ lt dk[first + (2 * r + 1)]! dk[first + (2 * r + 1) + 1]! = true
        · refine ⟨2 * r + 2, .inr rfl, c2.1, ?_, .inl ⟨c2.1, c2.2, rfl⟩⟩
          rw [siftDown, dif_neg c1, if_pos (by rw [c2.2, decide_eq_true (by omega)]; rfl), dif_pos c2.1]
        · refine ⟨2 * r + 1, .inl rfl, by omega, ?_, .inr ⟨c2, rfl⟩⟩
          rw [siftDown, dif_neg c1, if_neg (by simpa [Nat.lt_succ_iff] using c2)]
      obtain ⟨hstep, hcase⟩ := hstep
      have hfin : lt dk[first + r]! dk[first + c]! = false → siftDown lt hi first lo d = dk := fun h => by rw [← HO.out.2, hstep, h]; rfl
      have hgo : lt dk[first + r]! dk[first + c]! = true → siftDown lt hi first c (swp dk (first + r) (first + c)) = siftDown lt hi first lo d := fun h => by rw [← HO.out.2, hstep, h]; rfl
      have HFIN := Lib.hid hfin
      have HGO := Lib.hid hgo
      have HK := Lib.hid HO.out.1
      clear hstep hfin hgo HO
      obtain ⟨t1, ht1⟩ : ∃ t, lt dk[first + r]! dk[first + c]! = t := ⟨_, rfl⟩
      have HL1 : Hid (∀ w1, K enc blk n w0 X w1 dk → Calls Try.prog 56 #[rv, .int .i64 ((first : Int) + (r : Int)), .int .i64 ((first : Int) + (c : Int))] w1 fun e w' => e = .returned (.bool t1) ∧ K enc blk n w0 X w' dk ∧ Below w1.heap.size w1 w') := Lib.hid (fun w1 k => by
        have := k.less CX.out (first + r) (first + c) (by omega) (by omega)
        rwa [ht1, show ((first + r : Nat) : Int) = (first : Int) + (r : Int) by omega, show ((first + c : Nat) : Int) = (first : Int) + (c : Int) by omega] at this)
      have HSW : Hid (∀ w1, K enc blk n w0 X w1 dk → Calls Try.prog 57 #[rv, .int .i64 ((first : Int) + (r : Int)), .int .i64 ((first : Int) + (c : Int))] w1 fun e w' => e = .returned (.tuple #[]) ∧ K enc blk n w0 X w' (swp dk (first + r) (first + c))) := Lib.hid (fun w1 k => by
        have := k.swap CX.out (first + r) (first + c) (by omega) (by omega)
        rwa [show ((first + r : Nat) : Int) = (first : Int) + (r : Int) by omega, show ((first + c : Nat) : Int) = (first : Int) + (c : Int) by omega] at this)
      rw [ht1] at HFIN HGO
      have HC : Hid (c ≤ hi ∧ r < c) := Lib.hid (by omega)
      clear ht1
      rcases hcase with ⟨c2, hlv, rfl⟩ | ⟨c2, rfl⟩
      · have c2i : 2 * (r : Int) + 1 + 1 < (hi : Int) := by omega
        have HL0 : Hid (∀ w1, K enc blk n w0 X w1 dk → Calls Try.prog 56 #[rv, .int .i64 ((first : Int) + (2 * (r : Int) + 1)), .int .i64 ((first : Int) + (2 * (r : Int) + 1) + 1)] w1 fun e w' => e = .returned (.bool true) ∧ K enc blk n w0 X w' dk ∧ Below w1.heap.size w1 w') := Lib.hid (fun w1 k => by
          have := k.less CX.out (first + (2 * r + 1)) (first + (2 * r + 1) + 1) (by omega) (by omega)
          rwa [hlv, show ((first + (2 * r + 1) : Nat) : Int) = (first : Int) + (2 * (r : Int) + 1) by omega, show ((first + (2 * r + 1) + 1 : Nat) : Int) = (first : Int) + (2 * (r : Int) + 1) + 1 by omega] at this)
        rw [show ((2 * r + 2 : Nat) : Int) = 2 * (r : Int) + 1 + 1 by omega] at HL1 HSW
        clear hlv hc
        cases t1 with
        | false =>
          go_wp2_with (go_at_call 56; (first | (with_reducible refine (HL0.out _ HK.out).mono ?_; rintro e w1 ⟨rfl, k1, hb1⟩; have HK1 := Lib.hid k1; clear k1 hb1) | (with_reducible refine (HL1.out _ HK1.out).mono ?_; rintro e w1 ⟨rfl, k1, hb1⟩; have HK2 := Lib.hid k1; clear k1 hb1)))
          (try simp only [Exit.inBlock, Exit.then])
          refine bodyPost_ret (results_none rfl _ _ _) rfl ?_
          exact ⟨rfl, by rw [HFIN.out (by trivial)]; exact HK2.out⟩
        | true =>
          go_wp2_with (first
            | (go_at_call 56; (first | (with_reducible refine (HL0.out _ HK.out).mono ?_; rintro e w1 ⟨rfl, k1, hb1⟩; have HK1 := Lib.hid k1; clear k1 hb1) | (with_reducible refine (HL1.out _ HK1.out).mono ?_; rintro e w1 ⟨rfl, k1, hb1⟩; have HK2 := Lib.hid k1; clear k1 hb1)))
            | (go_at_call 57; refine (HSW.out _ HK2.out).mono ?_; rintro e w2 ⟨rfl, k2⟩; have HK3 := Lib.hid k2; clear k2))
          exact ⟨⟨2 * r + 2, swp dk (first + r) (first + (2 * r + 2)), by congr 1 <;> omega, by omega, Lib.hid ⟨HK3.out, HGO.out (by trivial)⟩⟩, by simp [intOf]; omega⟩
      · rw [show ((2 * r + 1 : Nat) : Int) = 2 * (r : Int) + 1 by omega] at HL1 HSW
        by_cases c3 : 2 * r + 2 < hi
        · have c2i : 2 * (r : Int) + 1 + 1 < (hi : Int) := by omega
          have hlv : lt dk[first + (2 * r + 1)]! dk[first + (2 * r + 1) + 1]! = false := by
            cases h : lt dk[first + (2 * r + 1)]! dk[first + (2 * r + 1) + 1]! with
            | false => rfl
            | true => exact absurd ⟨c3, h⟩ c2
          have HL0 : Hid (∀ w1, K enc blk n w0 X w1 dk → Calls Try.prog 56 #[rv, .int .i64 ((first : Int) + (2 * (r : Int) + 1)), .int .i64 ((first : Int) + (2 * (r : Int) + 1) + 1)] w1 fun e w' => e = .returned (.bool false) ∧ K enc blk n w0 X w' dk ∧ Below w1.heap.size w1 w') := Lib.hid (fun w1 k => by
            have := k.less CX.out (first + (2 * r + 1)) (first + (2 * r + 1) + 1) (by omega) (by omega)
            rwa [hlv, show ((first + (2 * r + 1) : Nat) : Int) = (first : Int) + (2 * (r : Int) + 1) by omega, show ((first + (2 * r + 1) + 1 : Nat) : Int) = (first : Int) + (2 * (r : Int) + 1) + 1 by omega] at this)
          clear hlv c2 hc
          cases t1 with
          | false =>
            go_wp2_with (go_at_call 56; (first | (with_reducible refine (HL0.out _ HK.out).mono ?_; rintro e w1 ⟨rfl, k1, hb1⟩; have HK1 := Lib.hid k1; clear k1 hb1) | (with_reducible refine (HL1.out _ HK1.out).mono ?_; rintro e w1 ⟨rfl, k1, hb1⟩; have HK2 := Lib.hid k1; clear k1 hb1)))
            (try simp only [Exit.inBlock, Exit.then])
            refine bodyPost_ret (results_none rfl _ _ _) rfl ?_
            exact ⟨rfl, by rw [HFIN.out (by trivial)]; exact HK2.out⟩
          | true =>
            go_wp2_with (first
              | (go_at_call 56; (first | (with_reducible refine (HL0.out _ HK.out).mono ?_; rintro e w1 ⟨rfl, k1, hb1⟩; have HK1 := Lib.hid k1; clear k1 hb1) | (with_reducible refine (HL1.out _ HK1.out).mono ?_; rintro e w1 ⟨rfl, k1, hb1⟩; have HK2 := Lib.hid k1; clear k1 hb1)))
              | (go_at_call 57; refine (HSW.out _ HK2.out).mono ?_; rintro e w2 ⟨rfl, k2⟩; have HK3 := Lib.hid k2; clear k2))
            exact ⟨⟨2 * r + 1, swp dk (first + r) (first + (2 * r + 1)), by congr 1 <;> omega, by omega, Lib.hid ⟨HK3.out, HGO.out (by trivial)⟩⟩, by simp [intOf]; omega⟩
        · have c2i : ¬ 2 * (r : Int) + 1 + 1 < (hi : Int) := by omega
          clear c2 hc
          cases t1 with
          | false =>
            go_wp2_with (go_at_call 56; (with_reducible refine (HL1.out _ HK.out).mono ?_; rintro e w1 ⟨rfl, k1, hb1⟩; have HK2 := Lib.hid k1; clear k1 hb1))
            (try simp only [Exit.inBlock, Exit.then])
            refine bodyPost_ret (results_none rfl _ _ _) rfl ?_
            exact ⟨rfl, by rw [HFIN.out (by trivial)]; exact HK2.out⟩
          | true =>
            go_wp2_with (first
              | (go_at_call 56; (with_reducible refine (HL1.out _ HK.out).mono ?_; rintro e w1 ⟨rfl, k1, hb1⟩; have HK2 := Lib.hid k1; clear k1 hb1))
              | (go_at_call 57; refine (HSW.out _ HK2.out).mono ?_; rintro e w2 ⟨rfl, k2⟩; have HK3 := Lib.hid k2; clear k2))
            exact ⟨⟨2 * r + 1, swp dk (first + r) (first + (2 * r + 1)), by congr 1 <;> omega, by omega, Lib.hid ⟨HK3.out, HGO.out (by trivial)⟩⟩, by simp [intOf]; omega⟩

set_option maxHeartbeats 2000000 in
set_option maxRecDepth 100000 in
theorem heap_any (cx : Cx enc lt blk rv n w0) (d : Array α) (a b : Nat) (hab : a ≤ b) (hb : b ≤ n) :
    Does enc blk n w0 22 #[.iface 56 rv, .int .i64 (a : Int), .int .i64 (b : Int)] d (heapSort lt d a b) (.tuple #[]) := by
  intro X k0
  have hbig := cx.big
  have CX := Lib.hid cx
  have hmS := meth_swap
  clear cx
  have HK0 := Lib.hid k0
  clear k0
  obtain ⟨h, hh⟩ : ∃ h : Nat, b - a = h := ⟨_, rfl⟩
  have hhi : (b : Int) - (a : Int) = (h : Int) := by omega
  unfold heapSort
  rw [hh]
  have hq : ((h : Int) - 1).tdiv 2 = (((h - 1) / 2 : Nat) : Int) := by
    by_cases e : h = 0
    · subst e; decide
    · rw [show (h : Int) - 1 = ((h - 1 : Nat) : Int) by omega, Int.tdiv_eq_ediv_of_nonneg (by omega)]
      omega
  go_enter Try.func22, Try.ntmps22
  go_wp2_with fail
  have HQ : Hid ((h - 1) / 2 ≤ h) := Lib.hid (by omega)
  go_loopw [9] (fun s9 wr => ∃ (k : Nat) (dk : Array α), s9 = .int .i64 ((k : Int) - 1) ∧ k ≤ (h - 1) / 2 + 1 ∧ Hid (K enc blk n w0 X wr dk ∧ heapBuild lt h a k dk = heapBuild lt h a ((h - 1) / 2 + 1) d)) (fun s9 _ => (intOf s9 + 1).toNat)
  case atStart => exact ⟨(h - 1) / 2 + 1, d, by congr 1; omega, Nat.le_refl _, Lib.hid ⟨HK0.out, rfl⟩⟩
  case round =>
    obtain ⟨k, dk, rfl, hk, HO⟩ := hrel
    cases k with
    | zero =>
      rw [show (((0 : Nat) : Int) - 1) = -1 from rfl]
      have HE : Hid (dk = heapBuild lt h a ((h - 1) / 2 + 1) d) := Lib.hid (by rw [← HO.out.2]; rfl)
      go_wp2_with fail
      go_loopw [10] (fun s10 wr2 => ∃ (k : Nat) (dj : Array α), s10 = .int .i64 ((k : Int) - 1) ∧ k ≤ h ∧ Hid (K enc blk n w0 X wr2 dj ∧ heapPop lt a k dj = heapPop lt a h dk)) (fun s10 _ => (intOf s10 + 1).toNat)
      case atStart => exact ⟨h, dk, rfl, Nat.le_refl _, Lib.hid ⟨HO.out.1, rfl⟩⟩
      case round =>
        obtain ⟨k, dj, rfl, hk2, HJ⟩ := hrel
        cases k with
        | zero =>
          rw [show (((0 : Nat) : Int) - 1) = -1 from rfl]
          go_wp2_with fail
          go_end0
          exact ⟨rfl, by rw [← HE.out, ← HJ.out.2]; exact HJ.out.1⟩
        | succ k =>
          rw [show (((k + 1 : Nat) : Int) - 1) = (k : Int) by omega]
          have HSW : Hid (∀ w1, K enc blk n w0 X w1 dj → Calls Try.prog 57 #[rv, .int .i64 (a : Int), .int .i64 ((a : Int) + (k : Int))] w1 fun e w' => e = .returned (.tuple #[]) ∧ K enc blk n w0 X w' (swp dj a (a + k))) := Lib.hid (fun w1 kk => by
            have := kk.swap CX.out a (a + k) (by omega) (by omega)
            rwa [show ((a + k : Nat) : Int) = (a : Int) + (k : Int) by omega] at this)
          have HSD : Hid (∀ w1, K enc blk n w0 X w1 (swp dj a (a + k)) → Calls Try.prog 30 #[.iface 56 rv, .int .i64 0, .int .i64 (k : Int), .int .i64 (a : Int)] w1 fun e w' => e = .returned (.tuple #[]) ∧ K enc blk n w0 X w' (siftDown lt k a 0 (swp dj a (a + k)))) := Lib.hid (fun w1 kk => kk.does (sift_any CX.out _ 0 k a (Nat.zero_le _) (by omega)))
          go_wp2_with (first
            | (go_at_call 57; refine (HSW.out _ HJ.out.1).mono ?_; rintro e w2 ⟨rfl, k2⟩; have HK2 := Lib.hid k2; clear k2)
            | (go_at_call 30; refine (HSD.out _ HK2.out).mono ?_; rintro e w3 ⟨rfl, k3⟩; have HK3 := Lib.hid k3; clear k3))
          exact ⟨⟨k, _, rfl, by omega, Lib.hid ⟨HK3.out, by rw [← HJ.out.2]; rfl⟩⟩, by simp [intOf] <;> omega⟩
    | succ k =>
      rw [show (((k + 1 : Nat) : Int) - 1) = (k : Int) by omega]
      have hkh : k ≤ h := by have := HQ.out; omega
      have HSD : Hid (∀ w1, K enc blk n w0 X w1 dk → Calls Try.prog 30 #[.iface 56 rv, .int .i64 (k : Int), .int .i64 (h : Int), .int .i64 (a : Int)] w1 fun e w' => e = .returned (.tuple #[]) ∧ K enc blk n w0 X w' (siftDown lt h a k dk)) := Lib.hid (fun w1 kk => kk.does (sift_any CX.out _ k h a hkh (by omega)))
      go_wp2_with (go_at_call 30; refine (HSD.out _ HO.out.1).mono ?_; rintro e w3 ⟨rfl, k3⟩; have HK3 := Lib.hid k3; clear k3)
      exact ⟨⟨k, _, rfl, by omega, Lib.hid ⟨HK3.out, by rw [← HO.out.2]; rfl⟩⟩, by simp [intOf] <;> omega⟩
end

end Go.Proofs.Ytjgamgmghelhgaa.Sort1
