/- The reference's CronAfter: by the sets, or after the delay. Conditions: a delay of whole seconds, instants from year 1 to 9999. · The reference's zone of one offset, and its order of instants. Conditions: an offset of at most a day. · The reference's good instants, and two cells of an instant in memory. Conditions: none. · There is an answer: a least fitting second, or none for five years. Conditions: a plain zone, instants from year 1 to 9999. -/
import Derived.Test.YtmnjmhlodbifjaaGreatDoorQ28
import Derived.Test.YtmnjmhlodbifjaaGreatDoorQ37
import Derived.Test.YtmnjmhlodbifjaaGreatDoorQ31

namespace Go.Proofs.YtmnjmhlodbifjaaGreatDoor.After
open Go Go.RowKit Go.Proofs.YtmnjmhlodbifjaaGreatDoor.Mem Go.Proofs.YtmnjmhlodbifjaaGreatDoor.Aid Go.Proofs.YtmnjmhlodbifjaaGreatDoor.Fields Go.Proofs.YtmnjmhlodbifjaaGreatDoor.Big Go.Proofs.YtmnjmhlodbifjaaGreatDoor.Meaning Go.Proofs.YtmnjmhlodbifjaaGreatDoor.SchedOf
set_option linter.unusedVariables false
theorem infoInst : (Tryz.prog.info? 34).map (·.size) = some 2 := by kernel_rfl
theorem inst_one (x y : Int) : (#[.int .i64 x, .int .i64 y] : Array Value).all (·.oneCell') = true := by simp [Value.oneCell']
theorem four (w : World) (A B C D : Array Value) (E F G H : TypeId) :
    Blk ((((w.alloc (.cells A E)).alloc (.cells B F)).alloc (.cells C G)).alloc (.cells D H)) w.heap.size A ∧ Blk ((((w.alloc (.cells A E)).alloc (.cells B F)).alloc (.cells C G)).alloc (.cells D H)) (w.heap.size + 1) B ∧
    Blk ((((w.alloc (.cells A E)).alloc (.cells B F)).alloc (.cells C G)).alloc (.cells D H)) (w.heap.size + 1 + 1) C ∧ Blk ((((w.alloc (.cells A E)).alloc (.cells B F)).alloc (.cells C G)).alloc (.cells D H)) (w.heap.size + 1 + 1 + 1) D ∧
    Below w.heap.size w ((((w.alloc (.cells A E)).alloc (.cells B F)).alloc (.cells C G)).alloc (.cells D H)) := by
  have e1 : (w.alloc (.cells A E)).heap.size = w.heap.size + 1 := by simp
  have e2 : ((w.alloc (.cells A E)).alloc (.cells B F)).heap.size = w.heap.size + 1 + 1 := by simp
  have e3 : (((w.alloc (.cells A E)).alloc (.cells B F)).alloc (.cells C G)).heap.size = w.heap.size + 1 + 1 + 1 := by simp
  refine ⟨(((Blk.new w A E).alloc _).alloc _).alloc _, ?_, ?_, ?_, ((((Below.refl _ w).alloc (Nat.le_refl _) _).alloc (by simp) _).alloc (by rw [e2]; omega) _).alloc (by rw [e3]; omega) _⟩
  · rw [← e1]; exact ((Blk.new _ B F).alloc _).alloc _
  · rw [← e2]; exact (Blk.new _ C G).alloc _
  · rw [← e3]; exact Blk.new _ D H
set_option maxHeartbeats 1000000 in
set_option maxRecDepth 100000 in
theorem after_sets (a0 a1 a2 a3 : Option Addr) (n0 n1 n2 n3 c0 c1 c2 c3 : Nat) (st : Nat → Bool) (f : Nat → Nat → Bool) (d : Int) (u : Bool) (s nano x : Int) (q : Bool) (w : World)
    (h : ∀ w1, Below w.heap.size w w1 → Calls Tryz.prog 49 #[.agg (fldArr st f), .agg #[.int .i64 s, .int .i64 nano], .agg #[.slice a0 n0 c0, .slice a1 n1 c1, .slice a2 n2 c2, .slice a3 n3 c3]] w1 fun e w' => e = .returned (.tuple #[.agg #[.int .i64 x, .int .i64 0], .bool q]) ∧ Below w1.heap.size w1 w') :
    Calls Tryz.prog 25 #[.agg (meanArr false d (fldArr st f) u), .agg #[.int .i64 s, .int .i64 nano], .agg #[.slice a0 n0 c0, .slice a1 n1 c1, .slice a2 n2 c2, .slice a3 n3 c3]] w fun e w' => e = .returned (.tuple #[.agg #[.int .i64 x, .int .i64 0], .bool q]) ∧ Below w.heap.size w w' := by
  have HN := Lib.hid h
  have H4 := Lib.hid (four w (meanArr false d (fldArr st f) u) #[.int .i64 s, .int .i64 nano] #[.slice a0 n0 c0, .slice a1 n1 c1, .slice a2 n2 c2, .slice a3 n3 c3] #[.int .i64 0, .int .i64 0] 59 34 43 34)
  clear h
  go_enter Tryz.func25, Tryz.ntmps25
  go_upto_region 1 with (with_reducible refine wpList_box_mean rfl (.tmp 0) rfl (meanArr false d (fldArr st f) u) rfl ?_)
  refine name_world fun X hX => ?_
  rw [← hX] at H4
  obtain ⟨b1, b2, b3, b4, hbX⟩ := H4.out
  have HX1 := Lib.hid b1
  have HX4 := Lib.hid b4
  have HXB := Lib.hid hbX
  have k0 := b1.cell (mean_ev false d (fldArr st f) u)
  have i0 := b2.cell (j := 0) rfl
  have i1 := b2.cell (j := 1) rfl
  have z0 := b3.cell (j := 0) rfl
  have z1 := b3.cell (j := 1) rfl
  have z2 := b3.cell (j := 2) rfl
  have z3 := b3.cell (j := 3) rfl
  clear hX H4 b1 b2 b3 b4 hbX
  go_wp2_with (first
    | (with_reducible refine wpList_load_part rfl (.tmp 14) rfl w.heap.size false u d (fldArr st f) (fldArr_size _ _) rfl HX1.out ?_)
    | (go_at_call 49; refine (HN.out _ HXB.out).mono ?_; rintro e w1 ⟨rfl, hb1⟩; have HC4 := Lib.hid (HX4.out.after hb1); have HCB := Lib.hid (HXB.out.trans (hb1.mono HXB.out.size)); clear hb1)
    | (refine wpList_store_blk rfl 34 (.tmp 6) (.tmp 19) rfl (w.heap.size + 1 + 1 + 1) #[.int .i64 0, .int .i64 0] #[.int .i64 x, .int .i64 0] infoInst rfl (inst_one _ _) (by rfl) (by rfl) HC4.out ?_))
  exact bodyPost_ret (results_blk_tmp rfl _ _ (w.heap.size + 1 + 1 + 1) #[.int .i64 x, .int .i64 0] Tryz.underlying34 rfl infoInst rfl (blk_row HC4.out _)) rfl ⟨rfl, below_row HCB.out (by omega) _⟩
set_option maxHeartbeats 1000000 in
set_option maxRecDepth 100000 in
theorem after_every (a0 a1 a2 a3 : Option Addr) (n0 n1 n2 n3 c0 c1 c2 c3 : Nat) (d q : Int) (u : Bool) (s nano : Int) (w : World) (hd : d = 1000000000 * q) (q0 : 1 ≤ q) (q1 : q ≤ 4611686018) (s0 : -62135596800 ≤ s) (s1 : s ≤ 253402300799) :
    Calls Tryz.prog 25 #[.agg (meanArr true d noFields u), .agg #[.int .i64 s, .int .i64 nano], .agg #[.slice a0 n0 c0, .slice a1 n1 c1, .slice a2 n2 c2, .slice a3 n3 c3]] w fun e w' => e = .returned (.tuple #[.agg #[.int .i64 (s + q), .int .i64 0], .bool true]) ∧ Below w.heap.size w w' := by
  have HN := Lib.hid (fun w1 => Delay.delayNext_any d q s nano w1 (by rw [hd, Int.mul_tdiv_cancel_left _ (by decide)]) q0 q1 s0 s1)
  have H4 := Lib.hid (four w (meanArr true d noFields u) #[.int .i64 s, .int .i64 nano] #[.slice a0 n0 c0, .slice a1 n1 c1, .slice a2 n2 c2, .slice a3 n3 c3] #[.int .i64 0, .int .i64 0] 59 34 43 34)
  clear hd
  go_enter Tryz.func25, Tryz.ntmps25
  go_upto_region 1 with (with_reducible refine wpList_box_mean rfl (.tmp 0) rfl (meanArr true d noFields u) rfl ?_)
  refine name_world fun X hX => ?_
  rw [← hX] at H4
  obtain ⟨b1, b2, b3, b4, hbX⟩ := H4.out
  have HX4 := Lib.hid b4
  have HXB := Lib.hid hbX
  have k0 := b1.cell (mean_ev true d noFields u)
  have k1 := b1.cell (mean_delay true d noFields u)
  have i0 := b2.cell (j := 0) rfl
  have i1 := b2.cell (j := 1) rfl
  clear hX H4 b1 b2 b3 b4 hbX
  go_wp2_with (first
    | (go_at_call 48; refine (HN.out _).mono ?_; rintro e w1 ⟨rfl, hb1⟩; have HC4 := Lib.hid (HX4.out.after hb1); have HCB := Lib.hid (HXB.out.trans (hb1.mono HXB.out.size)); clear hb1)
    | (refine wpList_store_blk rfl 34 (.tmp 6) (.tmp 13) rfl (w.heap.size + 1 + 1 + 1) #[.int .i64 0, .int .i64 0] #[.int .i64 (s + q), .int .i64 0] infoInst rfl (inst_one _ _) (by rfl) (by rfl) HC4.out ?_))
  exact bodyPost_ret (results_blk_tmp rfl _ _ (w.heap.size + 1 + 1 + 1) #[.int .i64 (s + q), .int .i64 0] Tryz.underlying34 rfl infoInst rfl (blk_row HC4.out _)) rfl ⟨rfl, below_row HCB.out (by omega) _⟩
end Go.Proofs.YtmnjmhlodbifjaaGreatDoor.After
namespace Go.Proofs.YtmnjmhlodbifjaaGreatDoor.Fixed
open Go Go.RowKit Go.Proofs.YtmnjmhlodbifjaaGreatDoor.Cal Go.Proofs.YtmnjmhlodbifjaaGreatDoor.Off Go.Proofs.YtmnjmhlodbifjaaGreatDoor.TimeNum Go.Proofs.YtmnjmhlodbifjaaGreatDoor.Lookup Go.Proofs.YtmnjmhlodbifjaaGreatDoor.Zone Go.Proofs.YtmnjmhlodbifjaaGreatDoor.Zone2 Go.Proofs.YtmnjmhlodbifjaaGreatDoor.DayFits Go.Proofs.YtmnjmhlodbifjaaGreatDoor.Change
set_option linter.unusedVariables false
structure FixedOf (F : Raw) (o : Int) : Prop where
  n1 : F.no = 1
  n2 : F.nd = 1
  n3 : F.nw = 1
  n4 : F.ni = 1
  o0 : F.o 0 = o
  w0 : F.wh 0 = -9223372036854775808
  i0 : F.ix 0 = 0
theorem FixedOf.ok {F : Raw} {o : Int} (h : FixedOf F o) (h0 : -86400 ≤ o) (h1 : o ≤ 86400) : F.Ok := by
  obtain ⟨n1, n2, n3, n4, o0, w0, i0⟩ := h
  refine .inr ⟨⟨by show 1 ≤ F.no; omega, by show F.no ≤ 64; omega, by show 1 ≤ F.nw; omega, by show F.nw ≤ 4096; omega, w0, fun i j hij hj => ?_, fun i hi => ?_, fun k hk => ?_, fun i hi => ?_⟩, by omega, by omega, fun i hi => ?_⟩
  · have : j < F.nw := hj
    omega
  · have : i < F.nw := hi
    obtain rfl : i = 0 := by omega
    show -9223372036854775808 ≤ F.wh 0 ∧ F.wh 0 ≤ 9223372036854775807
    omega
  · have : k < F.no := hk
    obtain rfl : k = 0 := by omega
    show -86400 ≤ F.o 0 ∧ F.o 0 ≤ 86400
    omega
  · have : i < F.nw := hi
    obtain rfl : i = 0 := by omega
    show (F.ix 0).toNat < F.no
    omega
  · obtain rfl : i = 0 := by omega
    omega
theorem FixedOf.off {F : Raw} {o : Int} (h : FixedOf F o) (y : Int) (hy : -9223372036854775808 ≤ y) : Raw.off F y = o := by
  obtain ⟨n1, n2, n3, n4, o0, w0, i0⟩ := h
  show offK F.o F.wh (fun i => (F.ix i).toNat) y F.nw = o
  rw [n3]
  show (if F.wh 0 ≤ y then F.o ((F.ix 0).toNat) else offK F.o F.wh (fun i => (F.ix i).toNat) y 0) = o
  rw [if_pos (by omega), i0]
  exact o0
theorem FixedOf.calm {F : Raw} {o : Int} (h : FixedOf F o) (h0 : -86400 ≤ o) (h1 : o ≤ 86400) (h60 : o % 60 = 0) : SpecNext.Calm F := by
  refine ⟨fun A B hA => ⟨fun s => ?_, fun s s0 _ => by rw [h.off s (by omega)]; exact h60, fun v w hv _ _ hn _ => ?_, fun w hw _ hn => ?_⟩, fun i hi hlo => ?_⟩
  · have hok := h.ok h0 h1
    rcases hok with ⟨z0, -⟩ | ⟨hg, -⟩
    · have := h.n1; omega
    · exact hg.bd s
  · exact absurd ((h.off (v - 1) (by omega)).trans (h.off v (by omega)).symm) hn
  · exact absurd ((h.off (w - 1) (by omega)).trans (h.off w (by omega)).symm) hn
  · have := h.n3
    obtain rfl : i = 0 := by omega
    have := h.w0
    omega
def FixRes (o : Int) (w : World) (e : Ending) (w' : World) : Prop := (∃ F : Raw, e = .returned (.agg #[.slice F.ao F.no 1, .slice F.ad F.nd 1, .slice F.aw F.nw 1, .slice F.ai F.ni 1]) ∧ F.At w' ∧ FixedOf F o) ∧ Below w.heap.size w w'
set_option maxRecDepth 100000 in
theorem fixed_any (o : Int) (w : World) (h0 : -86400 ≤ o) (h1 : o ≤ 86400) : Calls Tryz.prog 24 #[.int .i64 o] w (FixRes o w) := by
  go_enter Tryz.func24, Tryz.ntmps24
  go_wp2
  obtain ⟨W0, hW0⟩ : ∃ W0, w.alloc (.cells #[.slice (some ⟨w.heap.size + 1, 0, none⟩) 1 1, .slice (some ⟨w.heap.size + 1 + 1, 0, none⟩) 1 1, .slice (some ⟨w.heap.size + 1 + 1 + 1, 0, none⟩) 1 1, .slice (some ⟨w.heap.size + 1 + 1 + 1 + 1, 0, none⟩) 1 1] 43) = W0 := ⟨_, rfl⟩
  have hs0 : W0.heap.size = w.heap.size + 1 := by rw [← hW0]; simp
  have hb0 : Below (w.alloc (.cells #[.slice (some ⟨w.heap.size + 1, 0, none⟩) 1 1, .slice (some ⟨w.heap.size + 1 + 1, 0, none⟩) 1 1, .slice (some ⟨w.heap.size + 1 + 1 + 1, 0, none⟩) 1 1, .slice (some ⟨w.heap.size + 1 + 1 + 1 + 1, 0, none⟩) 1 1] 43)).heap.size (w.alloc (.cells #[.slice (some ⟨w.heap.size + 1, 0, none⟩) 1 1, .slice (some ⟨w.heap.size + 1 + 1, 0, none⟩) 1 1, .slice (some ⟨w.heap.size + 1 + 1 + 1, 0, none⟩) 1 1, .slice (some ⟨w.heap.size + 1 + 1 + 1 + 1, 0, none⟩) 1 1] 43)) W0 := by rw [hW0]; exact Below.refl _ _
  have hw0 : Below w.heap.size w W0 := by rw [← hW0]; exact (Below.refl _ _).alloc (Nat.le_refl _) _
  rw [hW0]
  obtain ⟨X, hX⟩ : ∃ X, (((W0.alloc (.cells #[.int .i64 o] 3)).alloc (.cells #[.bool false] 4)).alloc (.cells #[.int .i64 (-9223372036854775808)] 2)).alloc (.cells #[.int .i64 0] 3) = X := ⟨_, rfl⟩
  rw [hX]
  have h4 : Below ((((W0.alloc (.cells #[.int .i64 o] 3)).alloc (.cells #[.bool false] 4)).alloc (.cells #[.int .i64 (-9223372036854775808)] 2)).alloc (.cells #[.int .i64 0] 3)).heap.size ((((W0.alloc (.cells #[.int .i64 o] 3)).alloc (.cells #[.bool false] 4)).alloc (.cells #[.int .i64 (-9223372036854775808)] 2)).alloc (.cells #[.int .i64 0] 3)) X := by rw [hX]; exact Below.refl _ _
  have h3 : Below (((W0.alloc (.cells #[.int .i64 o] 3)).alloc (.cells #[.bool false] 4)).alloc (.cells #[.int .i64 (-9223372036854775808)] 2)).heap.size (((W0.alloc (.cells #[.int .i64 o] 3)).alloc (.cells #[.bool false] 4)).alloc (.cells #[.int .i64 (-9223372036854775808)] 2)) X := ((Below.refl _ _).alloc (Nat.le_refl _) _).trans (h4.mono (by simp))
  have h2 : Below ((W0.alloc (.cells #[.int .i64 o] 3)).alloc (.cells #[.bool false] 4)).heap.size ((W0.alloc (.cells #[.int .i64 o] 3)).alloc (.cells #[.bool false] 4)) X := ((Below.refl _ _).alloc (Nat.le_refl _) _).trans (h3.mono (by simp))
  have h1 : Below (W0.alloc (.cells #[.int .i64 o] 3)).heap.size (W0.alloc (.cells #[.int .i64 o] 3)) X := ((Below.refl _ _).alloc (Nat.le_refl _) _).trans (h2.mono (by simp))
  have hWX : Below W0.heap.size W0 X := ((Below.refl _ _).alloc (Nat.le_refl _) _).trans (h1.mono (by simp))
  have c1 := cells_after h1 0 _ rfl
  have c2 := cells_after h2 0 _ rfl
  have c3 := cells_after h3 0 _ rfl
  have c4 := cells_after h4 0 _ rfl
  rw [show (W0.alloc (.cells #[.int .i64 o] 3)).heap.size = w.heap.size + 1 + 1 by simp [hs0]] at c2
  rw [show ((W0.alloc (.cells #[.int .i64 o] 3)).alloc (.cells #[.bool false] 4)).heap.size = w.heap.size + 1 + 1 + 1 by simp [hs0]] at c3
  rw [show (((W0.alloc (.cells #[.int .i64 o] 3)).alloc (.cells #[.bool false] 4)).alloc (.cells #[.int .i64 (-9223372036854775808)] 2)).heap.size = w.heap.size + 1 + 1 + 1 + 1 by simp [hs0]] at c4
  rw [hs0] at c1
  have hbX := hb0.trans (hWX.mono (by rw [hs0]; simp))
  have d0 := cells_after hbX 0 _ rfl
  have d1 := cells_after hbX 1 _ rfl
  have d2 := cells_after hbX 2 _ rfl
  have d3 := cells_after hbX 3 _ rfl
  have add0 : ∀ b : Nat, (⟨b, 0, none⟩ : Addr).add 0 = ⟨b, 0, none⟩ := fun b => rfl
  refine bodyPost_ret (v := .agg #[.slice (some ⟨w.heap.size + 1, 0, none⟩) 1 1, .slice (some ⟨w.heap.size + 1 + 1, 0, none⟩) 1 1, .slice (some ⟨w.heap.size + 1 + 1 + 1, 0, none⟩) 1 1, .slice (some ⟨w.heap.size + 1 + 1 + 1 + 1, 0, none⟩) 1 1]) (by simp [results, Tryz.results24, go_sem, *]) rfl ⟨⟨⟨some ⟨w.heap.size + 1, 0, none⟩, some ⟨w.heap.size + 1 + 1, 0, none⟩, some ⟨w.heap.size + 1 + 1 + 1, 0, none⟩, some ⟨w.heap.size + 1 + 1 + 1 + 1, 0, none⟩, 1, 1, 1, 1, fun _ => o, fun _ => false, fun _ => -9223372036854775808, fun _ => 0⟩, rfl, ?_, ⟨rfl, rfl, rfl, rfl, rfl, rfl, rfl⟩⟩, hw0.trans (hWX.mono hw0.size)⟩
  refine ⟨fun k hk => ?_, fun k hk => ?_, fun k hk => ?_, fun k hk => ?_, by simp, by simp, by simp, by simp, fun k hk => ?_, fun k hk => ?_, fun k hk => ?_⟩
  · obtain rfl : k = 0 := by have : k < 1 := hk; omega
    exact ⟨_, rfl, c1⟩
  · obtain rfl : k = 0 := by have : k < 1 := hk; omega
    exact ⟨_, rfl, c2⟩
  · obtain rfl : k = 0 := by have : k < 1 := hk; omega
    exact ⟨_, rfl, c3⟩
  · obtain rfl : k = 0 := by have : k < 1 := hk; omega
    exact ⟨_, rfl, c4⟩
  · show -9223372036854775808 ≤ o ∧ o ≤ 9223372036854775807
    omega
  · show -9223372036854775808 ≤ (-9223372036854775808 : Int) ∧ (-9223372036854775808 : Int) ≤ 9223372036854775807
    omega
  · show -9223372036854775808 ≤ (0 : Int) ∧ (0 : Int) ≤ 9223372036854775807
    omega
end Go.Proofs.YtmnjmhlodbifjaaGreatDoor.Fixed
namespace Go.Proofs.YtmnjmhlodbifjaaGreatDoor.Case
open Go Go.RowKit Go.Proofs.YtmnjmhlodbifjaaGreatDoor.TimeNum Go.Proofs.YtmnjmhlodbifjaaGreatDoor.DayFits
set_option linter.unusedVariables false
def goodB (s n : Int) : Bool := decide (-62135596800 ≤ s) && decide (s ≤ 253402300799) && decide (0 ≤ n) && decide (n < 1000000000)
theorem goodB_facts {s n : Int} (h : goodB s n = true) : (-62135596800 ≤ s ∧ s ≤ 253402300799) ∧ 0 ≤ n ∧ n < 1000000000 := by
  unfold goodB at h
  simp only [Bool.and_eq_true, decide_eq_true_eq] at h
  omega
theorem good_b (s n : Int) (w : World) : Calls Tryz.prog 12 #[.agg #[.int .i64 s, .int .i64 n]] w fun e w' => e = .returned (.bool (goodB s n)) ∧ Below w.heap.size w w' := by
  unfold goodB
  by_cases h0 : s < -62135596800
  · go_enter Tryz.func12, Tryz.ntmps12
    go_wp2
    go_ret
    exact ⟨by simp <;> omega, (Below.refl _ _).alloc (Nat.le_refl _) _⟩
  by_cases h1 : 253402300799 < s
  · go_enter Tryz.func12, Tryz.ntmps12
    go_wp2
    go_ret
    exact ⟨by simp <;> omega, (Below.refl _ _).alloc (Nat.le_refl _) _⟩
  by_cases h2 : n < 0
  · go_enter Tryz.func12, Tryz.ntmps12
    go_wp2
    go_ret
    exact ⟨by simp <;> omega, (Below.refl _ _).alloc (Nat.le_refl _) _⟩
  by_cases h3 : 1000000000 ≤ n
  · go_enter Tryz.func12, Tryz.ntmps12
    go_wp2
    go_ret
    exact ⟨by simp <;> omega, (Below.refl _ _).alloc (Nat.le_refl _) _⟩
  go_enter Tryz.func12, Tryz.ntmps12
  go_wp2
  go_ret
  exact ⟨by simp <;> omega, (Below.refl _ _).alloc (Nat.le_refl _) _⟩
def Pt (X : World) (p : Nat) (x y : Int) : Prop := p < X.heap.size ∧ X.cell? ⟨p, 0, none⟩ = some (.int .i64 x) ∧ X.cell? ⟨p, 1, none⟩ = some (.int .i64 y)
theorem Pt.below {X Y : World} {p : Nat} {x y : Int} (h : Pt X p x y) (hb : Below X.heap.size X Y) : Pt Y p x y :=
  ⟨Nat.lt_of_lt_of_le h.1 hb.size, (hb.cell (p := ⟨p, 0, none⟩) h.1).trans h.2.1, (hb.cell (p := ⟨p, 1, none⟩) h.1).trans h.2.2⟩
end Go.Proofs.YtmnjmhlodbifjaaGreatDoor.Case
namespace Go.Proofs.YtmnjmhlodbifjaaGreatDoor.Ask
open Go Go.RowKit Go.Proofs.YtmnjmhlodbifjaaGreatDoor.TimeNum Go.Proofs.YtmnjmhlodbifjaaGreatDoor.Cal Go.Proofs.YtmnjmhlodbifjaaGreatDoor.Off Go.Proofs.YtmnjmhlodbifjaaGreatDoor.Search Go.Proofs.YtmnjmhlodbifjaaGreatDoor.NextI Go.Proofs.YtmnjmhlodbifjaaGreatDoor.NextJ Go.Proofs.YtmnjmhlodbifjaaGreatDoor.SpecNext
set_option linter.unusedVariables false
theorem year_far (n : Int) : yOf n + 6 ≤ yOf (n + 2196) := by
  have h1 := year_in n
  have h2 := year_in (n + 2196)
  by_cases c : yOf n + 6 ≤ yOf (n + 2196)
  · exact c
  · exfalso
    have h3 : ys (yOf (n + 2196) + 1) ≤ ys (yOf n + 6) := by
      by_cases e : yOf (n + 2196) + 1 = yOf n + 6
      · rw [e]; exact Int.le_refl _
      · have := ys_mono (yOf (n + 2196) + 1) (yOf n + 6) (by omega)
        have := lp_01 (yOf (n + 2196) + 1)
        omega
    have h4 : ys (yOf n + 6) ≤ ys (yOf n) + 2196 := by unfold ys; omega
    omega
open Classical in
theorem least (P : Int → Prop) (a : Int) (h : ∃ y, a ≤ y ∧ P y) : ∃ y, a ≤ y ∧ P y ∧ ∀ z, a ≤ z → z < y → ¬ P z := by
  obtain ⟨y, h1, h2⟩ := h
  have key : ∀ n : Nat, P (a + n) → ∃ y, a ≤ y ∧ P y ∧ ∀ z, a ≤ z → z < y → ¬ P z := by
    intro n
    induction n using Nat.strongRecOn with
    | _ n ih =>
      intro hp
      by_cases c : ∃ m : Nat, m < n ∧ P (a + m)
      · obtain ⟨m, hm, hp2⟩ := c
        exact ih m hm hp2
      · exact ⟨a + n, by omega, hp, fun z z1 z2 hz => c ⟨(z - a).toNat, by omega, by rw [show a + ((z - a).toNat : Int) = z by omega]; exact hz⟩⟩
  exact key (y - a).toNat (by rw [show a + ((y - a).toNat : Int) = y by omega]; exact h2)
section
variable {off : Int → Int} {S : Sched}
theorem isNext_ex (hP : ∀ A B, -100000000000 ≤ A → Plain off A B) (first Y5 : Int) (hf0 : -100000000000 ≤ first) : ∃ o, IsNext off S first Y5 o := by
  by_cases c : ∃ y, first ≤ y ∧ (Fit off S y ∧ yr off y ≤ Y5)
  · obtain ⟨y, h1, ⟨h2, h3⟩, h4⟩ := least _ _ c
    refine ⟨some y, h1, h2, h3, fun z z1 z2 hz => h4 z z1 z2 ⟨hz, ?_⟩⟩
    have := year_mono (day_mono (hP z y (by omega)) (Int.le_refl z) (by omega) (Int.le_refl _))
    unfold yr at *
    omega
  · exact ⟨none, fun y y1 y2 y3 => c ⟨y, y1, y3, y2⟩⟩
theorem asked {s : Int} {o : Option Int} (hP : ∀ A B, -100000000000 ≤ A → Plain off A B) (s0 : -62135596800 ≤ s) (s1 : s ≤ 253402300799) (hm : off (s + 1) % 60 = 0)
    (h : IsNext off S (s + 1) (yOf (day off (s + 1)) + 5) o) : Asked off S s (yOf (day off (s + 1)) + 5) o := by
  have hb : ∀ y, -86400 ≤ off y ∧ off y ≤ 86400 := (hP 0 0 (by omega)).bd
  refine ⟨h, s0, by omega, rfl, hm, ?_⟩
  cases o with
  | none =>
    refine ⟨s + 1 - 3456000, s + 1 + 190080000 + 172800, s + 1 + 190080000, hP _ _ (by omega), by omega, by omega, by omega, by omega, ?_⟩
    show yOf (day off (s + 1)) + 5 < yr off (s + 1 + 190080000)
    have h1 := year_far (day off (s + 1))
    have h2 : day off (s + 1) + 2196 ≤ day off (s + 1 + 190080000) := by
      have := hb (s + 1)
      have := hb (s + 1 + 190080000)
      unfold day lo
      omega
    have := year_mono h2
    unfold yr
    omega
  | some x =>
    obtain ⟨h1, h2, h3, h4⟩ := h
    have h5 := year_lt h3
    have hx := hb x
    have hs := hb (s + 1)
    have hy : yOf (day off (s + 1)) ≤ 10001 := by
      have h6 := year_in (day off (s + 1))
      have h7 : day off (s + 1) ≤ 2932900 := by unfold day lo; omega
      unfold ys at h6
      omega
    have h8 : ys (yOf (day off (s + 1)) + 5 + 1) ≤ 2936000 := by unfold ys; omega
    refine ⟨s + 1 - 3456000, x + 172800, x, hP _ _ (by omega), by omega, by omega, h1, ?_, rfl⟩
    unfold day lo at h5
    unfold day lo at h8
    omega
end
end Go.Proofs.YtmnjmhlodbifjaaGreatDoor.Ask
