/- The reference's CronSchedule and CronScheduleOf. Conditions: none. -/
import Derived.Test.YtmnjmhlodbifjaaGreatDoorMean
import Derived.Deep.RegionHeld3
import Derived.Deep.DrawnRows
namespace Go.Proofs.YtmnjmhlodbifjaaGreatDoor.SchedOf
open Go Go.RowKit Go.Proofs.YtmnjmhlodbifjaaGreatDoor.Mem Go.Proofs.YtmnjmhlodbifjaaGreatDoor.Aid Go.Proofs.YtmnjmhlodbifjaaGreatDoor.Set Go.Proofs.YtmnjmhlodbifjaaGreatDoor.Fields Go.Proofs.YtmnjmhlodbifjaaGreatDoor.Big Go.Proofs.YtmnjmhlodbifjaaGreatDoor.Meaning Go.Proofs.YtmnjmhlodbifjaaGreatDoor.SpecBits Go.Proofs.YtmnjmhlodbifjaaGreatDoor.SpecSix Go.Proofs.YtmnjmhlodbifjaaGreatDoor.PlainPure Go.Proofs.YtmnjmhlodbifjaaGreatDoor.NameRel Go.Proofs.YtmnjmhlodbifjaaGreatDoor.ParseCron Go.Proofs.YtmnjmhlodbifjaaGreatDoor.Mean
set_option linter.unusedVariables false
attribute [local go_sem ↓] Go.wp_at_zero Go.wp_at_succ

theorem loadS_mid {w : World} {b k : Nat} {st : Nat → Bool} {f : Nat → Nat → Bool} (h : FldAt w b st f) (hk : k < 6) : (loadB 55 (.pointer (some ⟨b, k * 64, none⟩))).run Tryz.prog w = .ok (.agg (setArr (st k) (f k))) w := by
  unfold loadB
  have h2 := run_loadVar_mid (P := Tryz.prog) w b (k * 64) 55 (setArr (st k) (f k)).toList _ (h.set k hk) Tryz.underlying55 rfl (by simp [setArr_size, Set.sizeInfo])
  simp only [Instr.loadAt, Instr.sureAddr, Sem.run_bind, Sem.run_pure, Result.andThen_ok, h2]
theorem storeD_eq (a v : Value) : Instr.storeAt 28 a v = storeB 28 a v := rfl
attribute [local go_sem ↓] loadS_eq storeD_eq

/-- What is kept while the six sets are turned to bits. -/
def Keep (w0 : World) (b : Nat) (st : Nat → Bool) (f : Nat → Nat → Bool) (Y : World) : Prop :=
  Below w0.heap.size w0 Y ∧ w0.heap.size ≤ b ∧ FldAt Y b st f ∧ ∃ cs, cs.size = 8 ∧ Blk Y (b + 1) cs
theorem Keep.drew {w0 Y : World} {b : Nat} {st : Nat → Bool} {f : Nat → Nat → Bool} (h : Keep w0 b st f Y) : Keep w0 b st f Y.drew := by
  obtain ⟨h1, h2, h3, cs, h4, h5⟩ := h
  exact ⟨h1.drew, h2, h3.below (Below.refl _ Y).drew h3.lt, cs, h4, h5.drew⟩
theorem Keep.after {w0 Y Z : World} {b : Nat} {st : Nat → Bool} {f : Nat → Nat → Bool} (h : Keep w0 b st f Y) (hb : Below Y.heap.size Y Z) : Keep w0 b st f Z := by
  obtain ⟨h1, h2, h3, cs, h4, h5⟩ := h
  exact ⟨h1.trans (hb.mono h1.size), h2, h3.below hb h3.lt, cs, h4, h5.after hb⟩
theorem Keep.row {w0 Y : World} {b : Nat} {st : Nat → Bool} {f : Nat → Nat → Bool} (h : Keep w0 b st f Y) (new : Array Value) (hn : new.size = 8) : Keep w0 b st f (Y.setRow (b + 1) new) := by
  obtain ⟨h1, h2, h3, cs, h4, h5⟩ := h
  exact ⟨below_row h1 (by omega) _, h2, h3.below (below_row (Below.refl (b + 1) Y) (Nat.le_refl _) _) (by omega), new, hn, blk_row h5 _⟩
def nums (st : Nat → Bool) (f : Nat → Nat → Bool) : Array Value := setsS (numOf (st 0) (f 0)) (numOf (st 1) (f 1)) (numOf (st 2) (f 2)) (numOf (st 3) (f 3)) (numOf (st 4) (f 4)) (numOf (st 5) (f 5))
theorem results_blk {P : Program} {fn : Func} {p : Tmp} {T : TypeId} (h : fn.results = #[.cell p T]) (tmps : Array Value) (w : World) (b : Nat) (cs : Array Value) {d : TypeDesc} (hu : P.underlying T = some d) (hd : (match d with | .struct _ | .array _ _ => true | _ => false) = true) (hi : (P.info? T).map (·.size) = some cs.size)
    (hp : tmps.getD p undef = .pointer (some ⟨b, 0, none⟩)) (hb : Blk w b cs) :
    (results fn tmps).run P w = .ok (.agg cs) w := by
  have hp' : tmps[p]?.getD undef = .pointer (some ⟨b, 0, none⟩) := by simpa using hp
  obtain ⟨E, hb⟩ := hb
  simp [results, h, hp', asAddr, run_loadVar_row w b _ T cs (0, 0) _ hb hu hd hi]

set_option maxHeartbeats 4000000 in
set_option maxRecDepth 100000 in
theorem schedule_any (st : Nat → Bool) (f : Nat → Nat → Bool) (w : World) :
    Calls Tryz.prog 47 #[.agg (fldArr st f)] w fun e w' => e = .returned (.agg (nums st f)) ∧ Below w.heap.size w w' := by
  have HC := Lib.hid (fun s g w => specBits_any s g w)
  have hK0 : Keep w w.heap.size st f ((w.alloc (.cells (fldArr st f) 57)).alloc (.cells zeroS 28)) := by
    refine ⟨((Below.refl _ w).alloc (Nat.le_refl _) _).alloc (by simp) _, Nat.le_refl _, (FldAt.new w st f).below ((Below.refl _ _).alloc (Nat.le_refl _) _) (by simp), zeroS, rfl, ?_⟩
    have := Blk.new (w.alloc (.cells (fldArr st f) 57)) zeroS 28
    simpa using this
  have HK0 := Lib.hid hK0
  clear hK0
  unfold nums
  obtain ⟨x0, hx0⟩ : ∃ x, numOf (st 0) (f 0) = x := ⟨_, rfl⟩
  obtain ⟨x1, hx1⟩ : ∃ x, numOf (st 1) (f 1) = x := ⟨_, rfl⟩
  obtain ⟨x2, hx2⟩ : ∃ x, numOf (st 2) (f 2) = x := ⟨_, rfl⟩
  obtain ⟨x3, hx3⟩ : ∃ x, numOf (st 3) (f 3) = x := ⟨_, rfl⟩
  obtain ⟨x4, hx4⟩ : ∃ x, numOf (st 4) (f 4) = x := ⟨_, rfl⟩
  obtain ⟨x5, hx5⟩ : ∃ x, numOf (st 5) (f 5) = x := ⟨_, rfl⟩
  rw [hx0, hx1, hx2, hx3, hx4, hx5]
  have hC0 := fun w => HC.out (st 0) (f 0) w
  have hC1 := fun w => HC.out (st 1) (f 1) w
  have hC2 := fun w => HC.out (st 2) (f 2) w
  have hC3 := fun w => HC.out (st 3) (f 3) w
  have hC4 := fun w => HC.out (st 4) (f 4) w
  have hC5 := fun w => HC.out (st 5) (f 5) w
  rw [hx0] at hC0
  rw [hx1] at hC1
  rw [hx2] at hC2
  rw [hx3] at hC3
  rw [hx4] at hC4
  rw [hx5] at hC5
  have HC0 := Lib.hid hC0
  have HC1 := Lib.hid hC1
  have HC2 := Lib.hid hC2
  have HC3 := Lib.hid hC3
  have HC4 := Lib.hid hC4
  have HC5 := Lib.hid hC5
  have HS : Hid (∀ Y, Keep w w.heap.size st f Y →
      ((loadB 55 (.pointer (some ⟨w.heap.size, 0, none⟩))).run Tryz.prog Y = .ok (.agg (setArr (st 0) (f 0))) Y ∧
      (loadB 55 (.pointer (some ⟨w.heap.size, 64, none⟩))).run Tryz.prog Y = .ok (.agg (setArr (st 1) (f 1))) Y ∧
      (loadB 55 (.pointer (some ⟨w.heap.size, 128, none⟩))).run Tryz.prog Y = .ok (.agg (setArr (st 2) (f 2))) Y ∧
      (loadB 55 (.pointer (some ⟨w.heap.size, 192, none⟩))).run Tryz.prog Y = .ok (.agg (setArr (st 3) (f 3))) Y ∧
      (loadB 55 (.pointer (some ⟨w.heap.size, 256, none⟩))).run Tryz.prog Y = .ok (.agg (setArr (st 4) (f 4))) Y ∧
      (loadB 55 (.pointer (some ⟨w.heap.size, 320, none⟩))).run Tryz.prog Y = .ok (.agg (setArr (st 5) (f 5))) Y ∧
      (storeB 28 (.pointer (some ⟨w.heap.size + 1, 0, none⟩)) (.agg #[.bool false, .int .i64 0, .int .u64 x0, .int .u64 x1, .int .u64 x2, .int .u64 x3, .int .u64 x4, .int .u64 x5])).run Tryz.prog Y = .ok () (Y.setRow (w.heap.size + 1) #[.bool false, .int .i64 0, .int .u64 x0, .int .u64 x1, .int .u64 x2, .int .u64 x3, .int .u64 x4, .int .u64 x5]))) := Lib.hid (fun Y hY => by
    obtain ⟨h1, h2, h3, cs, h4, h5⟩ := hY
    refine ⟨loadS_mid h3 (k := 0) (by decide), loadS_mid h3 (k := 1) (by decide), loadS_mid h3 (k := 2) (by decide), loadS_mid h3 (k := 3) (by decide), loadS_mid h3 (k := 4) (by decide), loadS_mid h3 (k := 5) (by decide), ?_⟩
    obtain ⟨E, h5⟩ := h5
    exact storeB_row infoSched h4 (setsS_one x0 x1 x2 x3 x4 x5) h5)
  clear hx0 hx1 hx2 hx3 hx4 hx5 hC0 hC1 hC2 hC3 hC4 hC5 HC
  go_enter Tryz.func47, Tryz.ntmps47
  go_wp2_with (with_reducible refine wpList_box_fields rfl (.tmp 0) rfl st f rfl ?_)
  refine name_world fun Y0 hY0 => ?_
  have HY0 : Hid (Keep w w.heap.size st f Y0) := Lib.hid (by rw [hY0]; exact HK0.out)
  clear hY0 HK0
  go_region_held3 (fun Y => ((loadB 55 (.pointer (some ⟨w.heap.size, 0, none⟩))).run Tryz.prog Y = .ok (.agg (setArr (st 0) (f 0))) Y ∧
      (loadB 55 (.pointer (some ⟨w.heap.size, 64, none⟩))).run Tryz.prog Y = .ok (.agg (setArr (st 1) (f 1))) Y ∧
      (loadB 55 (.pointer (some ⟨w.heap.size, 128, none⟩))).run Tryz.prog Y = .ok (.agg (setArr (st 2) (f 2))) Y ∧
      (loadB 55 (.pointer (some ⟨w.heap.size, 192, none⟩))).run Tryz.prog Y = .ok (.agg (setArr (st 3) (f 3))) Y ∧
      (loadB 55 (.pointer (some ⟨w.heap.size, 256, none⟩))).run Tryz.prog Y = .ok (.agg (setArr (st 4) (f 4))) Y ∧
      (loadB 55 (.pointer (some ⟨w.heap.size, 320, none⟩))).run Tryz.prog Y = .ok (.agg (setArr (st 5) (f 5))) Y ∧
      (storeB 28 (.pointer (some ⟨w.heap.size + 1, 0, none⟩)) (.agg #[.bool false, .int .i64 0, .int .u64 x0, .int .u64 x1, .int .u64 x2, .int .u64 x3, .int .u64 x4, .int .u64 x5])).run Tryz.prog Y = .ok () (Y.setRow (w.heap.size + 1) #[.bool false, .int .i64 0, .int .u64 x0, .int .u64 x1, .int .u64 x2, .int .u64 x3, .int .u64 x4, .int .u64 x5])))
    (exact HS.out _ (by repeat (first | assumption | exact HY0.out | refine Keep.drew ?_ | refine Keep.row ?_ _ rfl)))
    ((go_at_call 86; (first | (with_reducible refine (HC0.out _).mono ?_) | (with_reducible refine (HC1.out _).mono ?_) | (with_reducible refine (HC2.out _).mono ?_) | (with_reducible refine (HC3.out _).mono ?_) | (with_reducible refine (HC4.out _).mono ?_) | (with_reducible refine (HC5.out _).mono ?_)); rintro e y ⟨rfl, hby⟩; have hky := Keep.after (w0 := w) (b := w.heap.size) (st := st) (f := f) (by repeat (first | assumption | exact HY0.out | refine Keep.drew ?_ | refine Keep.row ?_ _ rfl)) hby; clear hby))
  all_goals
    go_wp2_with fail
    obtain ⟨h1, h2, h3, cs, h4, h5⟩ := hky
    exact bodyPost_ret (results_blk rfl _ _ (w.heap.size + 1) (setsS x0 x1 x2 x3 x4 x5) Tryz.underlying28 rfl infoSched rfl (blk_row h5 _)) rfl ⟨rfl, below_row h1 (by omega) _⟩

theorem mean_range {w : World} {b : Nat} {ev u : Bool} {d : Int} {cs : Array Value} (h : Blk w b (meanArr ev d cs u)) (hs : cs.size = 384) : w.rangeAt b 2 cs.toList := fun j v hv => by
  have hj : j < 384 := by
    have := (List.getElem?_eq_some_iff.1 hv).1
    rw [Array.length_toList, hs] at this
    exact this
  refine h.cell ?_
  rw [mean_field _ _ _ _ hs _ hj]
  simpa using hv
theorem wpList_load_part {ops : Array Oper} {rest : List Oper} {o : Oper} {a : Act} {w : World} {Q : Exit → Act → World → Prop} (hg : o.guard = none) (x : Operand) (ho : o.op = .load 57 x) (b : Nat) (ev u : Bool) (d : Int) (cs : Array Value) (hs : cs.size = 384)
    (hx : a.eval x = .pointer (some ⟨b, 2, none⟩)) (hb : Blk w b (meanArr ev d cs u))
    (h : wpList Tryz.prog ops Q rest (a.put o.dst (.agg cs)) w) : wpList Tryz.prog ops Q (o :: rest) a w := by
  refine wpList_load_mid hg 57 x ho b 2 hx cs.toList _ (mean_range hb hs) Tryz.underlying57 rfl (by simp [hs, sizeInfoF]) ?_
  simpa using h
def everyS (d : Int) : Array Value := #[.bool true, .int .i64 d, .int .u64 0, .int .u64 0, .int .u64 0, .int .u64 0, .int .u64 0, .int .u64 0]
theorem everyS_one (d : Int) : (everyS d).all (·.oneCell') = true := by simp [everyS, Value.oneCell']
set_option maxHeartbeats 1000000 in
set_option maxRecDepth 100000 in
theorem ofSets_any (st : Nat → Bool) (f : Nat → Nat → Bool) (d : Int) (u : Bool) (w : World) :
    Calls Tryz.prog 23 #[.agg (meanArr false d (fldArr st f) u)] w fun e w' => e = .returned (.agg (nums st f)) ∧ Below w.heap.size w w' := by
  have HN := Lib.hid (fun w => schedule_any st f w)
  have hb1 : Blk ((w.alloc (.cells (meanArr false d (fldArr st f) u) 59)).alloc (.cells zeroS 28)) w.heap.size (meanArr false d (fldArr st f) u) := (Blk.new w _ _).alloc _
  have hb2 : Blk ((w.alloc (.cells (meanArr false d (fldArr st f) u) 59)).alloc (.cells zeroS 28)) (w.heap.size + 1) zeroS := by
    have := Blk.new (w.alloc (.cells (meanArr false d (fldArr st f) u) 59)) zeroS 28
    simpa using this
  have HB1 := Lib.hid hb1
  have HB2 := Lib.hid hb2
  have HBA : Hid (Below w.heap.size w ((w.alloc (.cells (meanArr false d (fldArr st f) u) 59)).alloc (.cells zeroS 28))) := Lib.hid (((Below.refl _ w).alloc (Nat.le_refl _) _).alloc (by simp) _)
  clear hb1 hb2
  go_enter Tryz.func23, Tryz.ntmps23
  go_upto_region 1 with (with_reducible refine wpList_box_mean rfl (.tmp 0) rfl (meanArr false d (fldArr st f) u) rfl ?_)
  refine name_world fun X hX => ?_
  have HX1 : Hid (Blk X w.heap.size (meanArr false d (fldArr st f) u)) := Lib.hid (by rw [hX]; exact HB1.out)
  have HX2 : Hid (Blk X (w.heap.size + 1) zeroS) := Lib.hid (by rw [hX]; exact HB2.out)
  have HXB : Hid (Below w.heap.size w X) := Lib.hid (by rw [hX]; exact HBA.out)
  have k0 := HX1.out.cell (mean_ev false d (fldArr st f) u)
  clear hX HB1 HB2 HBA
  go_wp2_with (first
    | (with_reducible refine wpList_load_part rfl (.tmp 8) rfl w.heap.size false u d (fldArr st f) (fldArr_size _ _) rfl HX1.out ?_)
    | (go_at_call 47; refine (HN.out _).mono ?_; rintro e w1 ⟨rfl, hb1⟩; have HC2 := Lib.hid (HX2.out.after hb1); have HCB := Lib.hid (HXB.out.trans (hb1.mono HXB.out.size)); clear hb1)
    | (refine wpList_store_blk rfl 28 (.tmp 2) (.tmp 10) rfl (w.heap.size + 1) zeroS (nums st f) infoSched rfl (setsS_one _ _ _ _ _ _) (by rfl) (by rfl) HC2.out ?_))
  exact bodyPost_ret (results_blk rfl _ _ (w.heap.size + 1) (nums st f) Tryz.underlying28 rfl infoSched rfl (blk_row HC2.out _)) rfl ⟨rfl, below_row HCB.out (by omega) _⟩
set_option maxHeartbeats 1000000 in
set_option maxRecDepth 100000 in
theorem ofEvery_any (d : Int) (u : Bool) (w : World) :
    Calls Tryz.prog 23 #[.agg (meanArr true d noFields u)] w fun e w' => e = .returned (.agg (everyS d)) ∧ Below w.heap.size w w' := by
  have hb1 : Blk ((w.alloc (.cells (meanArr true d noFields u) 59)).alloc (.cells zeroS 28)) w.heap.size (meanArr true d noFields u) := (Blk.new w _ _).alloc _
  have hb2 : Blk ((w.alloc (.cells (meanArr true d noFields u) 59)).alloc (.cells zeroS 28)) (w.heap.size + 1) zeroS := by
    have := Blk.new (w.alloc (.cells (meanArr true d noFields u) 59)) zeroS 28
    simpa using this
  have HB1 := Lib.hid hb1
  have HB2 := Lib.hid hb2
  have HBA : Hid (Below w.heap.size w ((w.alloc (.cells (meanArr true d noFields u) 59)).alloc (.cells zeroS 28))) := Lib.hid (((Below.refl _ w).alloc (Nat.le_refl _) _).alloc (by simp) _)
  clear hb1 hb2
  go_enter Tryz.func23, Tryz.ntmps23
  go_upto_region 1 with (with_reducible refine wpList_box_mean rfl (.tmp 0) rfl (meanArr true d noFields u) rfl ?_)
  refine name_world fun X hX => ?_
  have HX1 : Hid (Blk X w.heap.size (meanArr true d noFields u)) := Lib.hid (by rw [hX]; exact HB1.out)
  have HX2 : Hid (Blk X (w.heap.size + 1) zeroS) := Lib.hid (by rw [hX]; exact HB2.out)
  have HXB : Hid (Below w.heap.size w X) := Lib.hid (by rw [hX]; exact HBA.out)
  have k0 := HX1.out.cell (mean_ev true d noFields u)
  have k1 := HX1.out.cell (mean_delay true d noFields u)
  clear hX HB1 HB2 HBA
  go_wp2_with (first
    | (refine wpList_store_blk rfl 28 (.tmp 2) (.tmp 7) rfl (w.heap.size + 1) zeroS (everyS d) infoSched rfl (everyS_one _) (by rfl) (by rfl) HX2.out ?_))
  exact bodyPost_ret (results_blk rfl _ _ (w.heap.size + 1) (everyS d) Tryz.underlying28 rfl infoSched rfl (blk_row HX2.out _)) rfl ⟨rfl, below_row HXB.out (by omega) _⟩

end Go.Proofs.YtmnjmhlodbifjaaGreatDoor.SchedOf
