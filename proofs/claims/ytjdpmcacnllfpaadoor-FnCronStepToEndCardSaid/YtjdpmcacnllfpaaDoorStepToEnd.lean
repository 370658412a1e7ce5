/- The walk of the law FnCronStepToEnd. Conditions: none (the row lists strconv's sentinels and its table). -/
import Derived.Test.YtjdpmcacnllfpaaDoorStepPure
import Derived.Test.YtjdpmcacnllfpaaDoorLaidNum
import Derived.Lib.ItoaMem
namespace Go.Proofs.YtjdpmcacnllfpaaDoor.fnCronStepToEnd
open Go Go.RowKit Go.Proofs.YtjdpmcacnllfpaaDoor.Err Go.Proofs.YtjdpmcacnllfpaaDoor.NumPure Go.Proofs.YtjdpmcacnllfpaaDoor.SplitPure Go.Proofs.YtjdpmcacnllfpaaDoor.DecPure Go.Proofs.YtjdpmcacnllfpaaDoor.StepPure Go.Proofs.YtjdpmcacnllfpaaDoor.ItemAll Go.Proofs.YtjdpmcacnllfpaaDoor.ItemKind Go.Proofs.YtjdpmcacnllfpaaDoor.Range Go.Proofs.YtjdpmcacnllfpaaDoor.Bits Go.Proofs.YtjdpmcacnllfpaaDoor.GetBits
set_option linter.unusedVariables false
set_option linter.unusedSimpArgs false

theorem ret_true {b : Bool} (h : b = true) : Ending.returned (.bool b) = .returned (.bool true) := by rw [h]

theorem low5 (kind : Nat) (w : World) (hk : kind ≤ 5) : Calls Tryd.prog 14 #[.int .i64 (kind : Int)] w fun e w' => e = .returned (.int .i64 (lowOf kind : Int)) ∧ w = w' := by
  have h : kind = 0 ∨ kind = 1 ∨ kind = 2 ∨ kind = 3 ∨ kind = 4 ∨ kind = 5 := by omega
  rcases h with rfl | rfl | rfl | rfl | rfl | rfl
  all_goals
    go_enter Tryd.func14, Tryd.ntmps14
    go_wp2
    go_ret
    exact ⟨rfl, rfl⟩

theorem high5 (kind : Nat) (w : World) (hk : kind ≤ 5) : Calls Tryd.prog 15 #[.int .i64 (kind : Int)] w fun e w' => e = .returned (.int .i64 (highOf kind : Int)) ∧ w = w' := by
  have h : kind = 0 ∨ kind = 1 ∨ kind = 2 ∨ kind = 3 ∨ kind = 4 ∨ kind = 5 := by omega
  rcases h with rfl | rfl | rfl | rfl | rfl | rfl
  all_goals
    go_enter Tryd.func15, Tryd.ntmps15
    go_wp2
    go_ret
    exact ⟨rfl, rfl⟩

/-- Itoa of a number that isn't negative. -/
theorem itoa_any (n : Nat) (hn : n ≤ 9223372036854775807) (w : World) (htab : Lib.TabIs Tryd.prog w "internal/strconv.uint64pow10" .u64 LaidNum.pow10) :
    Calls Tryd.prog 16 #[.int .i64 (n : Int)] w fun e w' => e = .returned (.string (ofL (Lib.decDigits n))) ∧ Below w.heap.size w w' := by
  refine (Tryd.strconv_Itoa (n : Int) (by omega) (by omega) w htab).mono ?_
  rintro e w' ⟨rfl, k, os, rfl⟩
  refine ⟨by rw [Lib.itoa_nonneg]; rfl, ?_⟩
  exact ⟨rfl, rfl, rfl, by show w.heap.size ≤ ((w.drewN k).heap ++ os).size; rw [Array.size_append]; show w.heap.size ≤ w.heap.size + os.size; omega, fun i hi => by
    show ((w.drewN k).heap ++ os)[i]? = _
    rw [Array.getElem?_append_left (by show i < w.heap.size; omega)]
    rfl⟩

/-- What the row lists, in this world and in later ones. -/
def Lists (w : World) : Prop := ErrVars w ∧ Lib.TabIs Tryd.prog w "internal/strconv.uint64pow10" .u64 LaidNum.pow10
theorem Lists.below {w w' : World} (h : Lists w) (hb : Below w.heap.size w w') : Lists w' :=
  ⟨h.1.below hb, (var?_below hb LaidNum.gPT (var_lt LaidNum.gPT h.2) h.2)⟩

theorem dec_size (u : Nat) (h : u < 10 ^ 10) : (ofL (Lib.decDigits u)).size ≤ 10 := by
  have := dec_len 9 u h
  simpa [ofL, ByteArray.size] using this
set_option maxHeartbeats 1000000 in
set_option maxRecDepth 100000 in
theorem walk (a0 a1 a2 : Int) (w : World) (w0 : (Lit.int .i64 a0).wf = true) (w1 : (Lit.int .i64 a1).wf = true) (w2 : (Lit.int .i64 a2).wf = true) (hv : Lists w) :
    Calls Tryd.prog 5 #[.int .i64 a0, .int .i64 a1, .int .i64 a2] w fun e w' => e = .returned (.bool true) ∧ Below w.heap.size w w' := by
  have b0 := bounds_i64 w0
  have b1 := bounds_i64 w1
  have b2 := bounds_i64 w2
  clear w0 w1 w2
  have HV := Lib.hid hv
  clear hv
  by_cases h1 : a0 < 0
  · go_enter Tryd.func5, Tryd.ntmps5
    go_wp2_with (go_at_call 13; go_in)
    go_ret
    exact ⟨rfl, Below.refl _ _⟩
  by_cases h2 : 5 < a0
  · go_enter Tryd.func5, Tryd.ntmps5
    go_wp2_with (go_at_call 13; go_in)
    go_ret
    exact ⟨rfl, Below.refl _ _⟩
  obtain ⟨kind, rfl⟩ := Int.eq_ofNat_of_zero_le (show 0 ≤ a0 by omega)
  have hk : kind ≤ 5 := by omega
  obtain ⟨hlo, hhi⟩ := low_high5 kind hk
  have HL := Lib.hid (fun w => low5 kind w hk)
  have HH := Lib.hid (fun w => high5 kind w hk)
  by_cases g0 : a1 < (lowOf kind : Int)
  · go_enter Tryd.func5, Tryd.ntmps5
    go_wp2_with (first
      | (go_at_call 13; go_in)
      | (go_at_call 14; refine (HL.out _).mono ?_; rintro e w' ⟨rfl, rfl⟩)
      | (go_at_call 15; refine (HH.out _).mono ?_; rintro e w' ⟨rfl, rfl⟩))
    go_ret
    exact ⟨rfl, Below.refl _ _⟩
  by_cases g1 : (highOf kind : Int) < a1
  · go_enter Tryd.func5, Tryd.ntmps5
    go_wp2_with (first
      | (go_at_call 13; go_in)
      | (go_at_call 14; refine (HL.out _).mono ?_; rintro e w' ⟨rfl, rfl⟩)
      | (go_at_call 15; refine (HH.out _).mono ?_; rintro e w' ⟨rfl, rfl⟩))
    go_ret
    exact ⟨rfl, Below.refl _ _⟩
  by_cases g2 : a2 < 1
  · go_enter Tryd.func5, Tryd.ntmps5
    go_wp2_with (first
      | (go_at_call 13; go_in)
      | (go_at_call 14; refine (HL.out _).mono ?_; rintro e w' ⟨rfl, rfl⟩)
      | (go_at_call 15; refine (HH.out _).mono ?_; rintro e w' ⟨rfl, rfl⟩))
    go_ret
    exact ⟨rfl, Below.refl _ _⟩
  by_cases g3 : 2147483648 < a2
  · go_enter Tryd.func5, Tryd.ntmps5
    go_wp2_with (first
      | (go_at_call 13; go_in)
      | (go_at_call 14; refine (HL.out _).mono ?_; rintro e w' ⟨rfl, rfl⟩)
      | (go_at_call 15; refine (HH.out _).mono ?_; rintro e w' ⟨rfl, rfl⟩))
    go_ret
    exact ⟨rfl, Below.refl _ _⟩
  obtain ⟨u, rfl⟩ := Int.eq_ofNat_of_zero_le (show 0 ≤ a1 by omega)
  obtain ⟨st, rfl⟩ := Int.eq_ofNat_of_zero_le (show 0 ≤ a2 by omega)
  have hu1 : lowOf kind ≤ u := by omega
  have hu2 : u ≤ highOf kind := by omega
  have hs1 : 1 ≤ st := by omega
  have hs2 : st ≤ 2147483648 := by omega
  have HI := Lib.hid (fun n (hn : n ≤ 9223372036854775807) w (hv : Lists w) => itoa_any n hn w hv.2)
  have HT := Lib.hid (fun (s : ByteArray) w (l : List UInt8) (b : Int) (hl : s.data.toList = l) (h : rangeOf (lowOf kind) (highOf kind) (ItemAll.valOf kind) l = some b) (hs : s.size ≤ 65536) (hv : Lists w) => itemAll_some s kind w b (by rw [hl]; exact h) hk hs hv.1)
  have s47 : ({ data := #[47] } : ByteArray).size = 1 := rfl
  have s45 : ({ data := #[45] } : ByteArray).size = 1 := rfl
  have s42 : ({ data := #[42] } : ByteArray).size = 1 := rfl
  have z1 := dec_size st (by omega)
  have z2 := dec_size u (by omega)
  have z3 := dec_size (highOf kind) (by omega)
  have z4 := dec_size (lowOf kind) (by omega)
  go_enter Tryd.func5, Tryd.ntmps5
  go_wp2_with (first
      | (go_at_call 13; go_in)
      | (go_at_call 14; refine (HL.out _).mono ?_; rintro e w' ⟨rfl, rfl⟩)
      | (go_at_call 15; refine (HH.out _).mono ?_; rintro e w' ⟨rfl, rfl⟩))
  refine (HI.out st (by omega) _ HV.out).mono ?_
  rintro e w1 ⟨rfl, hb1⟩
  go_wp2_with (first
      | (go_at_call 15; refine (HH.out _).mono ?_; rintro e w' ⟨rfl, rfl⟩))
  refine (HI.out (highOf kind) (by omega) _ (HV.out.below hb1)).mono ?_
  rintro e w2 ⟨rfl, hb2⟩
  go_wp2_with fail
  refine (HI.out u (by omega) _ ((HV.out.below hb1).below hb2)).mono ?_
  rintro e w3 ⟨rfl, hb3⟩
  go_wp2_with fail
  refine (HT.out _ _ _ _ (by simp [ofL]) (range_step hu1 hu2 hhi hs1 (by unfold huge; omega)) (by simp [s47, s45, s42]; omega) (((HV.out.below hb1).below hb2).below hb3)).mono ?_
  rintro e w4 ⟨rfl, hb4⟩
  go_wp2_with fail
  refine (HI.out u (by omega) _ ((((HV.out.below hb1).below hb2).below hb3).below hb4)).mono ?_
  rintro e w5 ⟨rfl, hb5⟩
  go_wp2_with fail
  refine (HT.out _ _ _ _ (by simp [ofL]) (range_ends hu1 hu2 hhi hs1 (by unfold huge; omega)) (by simp [s47, s45, s42]; omega) (((((HV.out.below hb1).below hb2).below hb3).below hb4).below hb5)).mono ?_
  rintro e w6 ⟨rfl, hb6⟩
  go_wp2_with fail
  refine (HT.out _ _ _ _ (by simp [ofL]) (range_star (Nat.le_trans hu1 hu2) hs1 (by unfold huge; omega)) (by simp [s47, s45, s42]; omega) ((((((HV.out.below hb1).below hb2).below hb3).below hb4).below hb5).below hb6)).mono ?_
  rintro e w7 ⟨rfl, hb7⟩
  go_wp2_with (first
      | (go_at_call 14; refine (HL.out _).mono ?_; rintro e w' ⟨rfl, rfl⟩))
  refine (HI.out (lowOf kind) (by omega) _ (((((((HV.out.below hb1).below hb2).below hb3).below hb4).below hb5).below hb6).below hb7)).mono ?_
  rintro e w8 ⟨rfl, hb8⟩
  go_wp2_with fail
  refine (HT.out _ _ _ _ (by simp [ofL]) (range_ends (Nat.le_refl _) (Nat.le_trans hu1 hu2) hhi hs1 (by unfold huge; omega)) (by simp [s47, s45, s42]; omega) ((((((((HV.out.below hb1).below hb2).below hb3).below hb4).below hb5).below hb6).below hb7).below hb8)).mono ?_
  rintro e w9 ⟨rfl, hb9⟩
  have q1 := hb1.size
  have q2 := hb2.size
  have q3 := hb3.size
  have q4 := hb4.size
  have q5 := hb5.size
  have q6 := hb6.size
  have q7 := hb7.size
  have q8 := hb8.size
  have HM := Lib.hid (marked_star (inRange (lowOf kind) (highOf kind) st))
  go_wp2_with fail
  · rename_i hst
    have h1 : st = 1 := by have := beq_iff_eq.1 hst; omega
    have hd : (!decide (1 < st)) = true := by simp; omega
    go_ret
    refine ⟨ret_true ?_, ?_⟩
    · rw [HM.out, hd]; simp
    · exact ((((((((hb1.trans (hb2.mono hb1.size)).trans (hb3.mono (Nat.le_trans hb1.size hb2.size))).trans (hb4.mono (by omega))).trans (hb5.mono (by omega))).trans (hb6.mono (by omega))).trans (hb7.mono (by omega))).trans (hb8.mono (by omega))).trans (hb9.mono (by omega)))
  · rename_i hst
    have h1 : st ≠ 1 := by intro h; rw [h] at hst; exact absurd hst (by decide)
    have hd : (!decide (1 < st)) = false := by simp; omega
    go_ret
    refine ⟨ret_true ?_, ?_⟩
    · rw [hd]; simp
    · exact ((((((((hb1.trans (hb2.mono hb1.size)).trans (hb3.mono (Nat.le_trans hb1.size hb2.size))).trans (hb4.mono (by omega))).trans (hb5.mono (by omega))).trans (hb6.mono (by omega))).trans (hb7.mono (by omega))).trans (hb8.mono (by omega))).trans (hb9.mono (by omega)))

end Go.Proofs.YtjdpmcacnllfpaaDoor.fnCronStepToEnd
