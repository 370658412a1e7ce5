/- impl.CronZoned and the walk of FnCronZoned. Conditions: options below 512 with at most one optional field, texts of at most 65536 bytes, the package variables hold what their initialisers lay. -/
import Derived.Test.YtmnjmhlodbifjaaGreatDoorParseAll
import Derived.Test.YtmnjmhlodbifjaaGreatDoorSchedOf
import Derived.Test.YtmnjmhlodbifjaaGreatDoorLaidZ
import Derived.Test.YtmnjmhlodbifjaaGreatDoorParseCron
namespace Go.Proofs.YtmnjmhlodbifjaaGreatDoor.Zoned
open Go Go.RowKit Go.Proofs.YtmnjmhlodbifjaaGreatDoor.Mem Go.Proofs.YtmnjmhlodbifjaaGreatDoor.Aid Go.Proofs.YtmnjmhlodbifjaaGreatDoor.Err Go.Proofs.YtmnjmhlodbifjaaGreatDoor.Fields Go.Proofs.YtmnjmhlodbifjaaGreatDoor.Big Go.Proofs.YtmnjmhlodbifjaaGreatDoor.Meaning Go.Proofs.YtmnjmhlodbifjaaGreatDoor.SpecBits Go.Proofs.YtmnjmhlodbifjaaGreatDoor.SpecSix Go.Proofs.YtmnjmhlodbifjaaGreatDoor.FillPure Go.Proofs.YtmnjmhlodbifjaaGreatDoor.PlainPure Go.Proofs.YtmnjmhlodbifjaaGreatDoor.NameRel Go.Proofs.YtmnjmhlodbifjaaGreatDoor.PlainSched Go.Proofs.YtmnjmhlodbifjaaGreatDoor.Parser Go.Proofs.YtmnjmhlodbifjaaGreatDoor.ParseCron Go.Proofs.YtmnjmhlodbifjaaGreatDoor.TrimSpec Go.Proofs.YtmnjmhlodbifjaaGreatDoor.LaidZ Go.Proofs.YtmnjmhlodbifjaaGreatDoor.Mean Go.Proofs.YtmnjmhlodbifjaaGreatDoor.ParseDesc Go.Proofs.YtmnjmhlodbifjaaGreatDoor.ParseAll Go.Proofs.YtmnjmhlodbifjaaGreatDoor.SchedOf
set_option linter.unusedVariables false

/-- A schedule as plain data. -/
def schedA (ev : Bool) (d a b c e f g : Int) : Array Value := #[.bool ev, .int .i64 d, .int .u64 a, .int .u64 b, .int .u64 c, .int .u64 e, .int .u64 f, .int .u64 g]
theorem schedA_one (ev : Bool) (d a b c e f g : Int) : (schedA ev d a b c e f g).all (·.oneCell') = true := by simp [schedA, Value.oneCell']
set_option maxRecDepth 100000 in
theorem eq_sched (ev : Bool) (d a b c e f g : Int) (w : World) : (binOp .eql 28 (.agg (schedA ev d a b c e f g)) (.agg (schedA ev d a b c e f g))).run Tryz.prog w = .ok (.bool true) w := by
  unfold schedA
  simp [go_sem, Tryz.underlying28, Tryz.underlying4, Tryz.underlying2, Tryz.underlying26]
/-- How a schedule goes with a meaning. -/
def Fits (r : Option (Option MV)) (ut : Bool) (sch : Array Value) (utc ok : Bool) : Prop :=
  (ok = false ∧ utc = false ∧ sch = zeroS ∧ ∀ m, r ≠ some (some m)) ∨
  (ok = true ∧ r ≠ none ∧ ∀ m, r = some (some m) → (∃ LL, m = .sets LL ∧ sch = setsL (numsOf LL 6) ∧ utc = ut) ∨ (∃ d, m = .every d ∧ sch = everyS d ∧ utc = false))
/-- What CronZoned hands back. -/
def ZRes (r : Option (Option MV)) (ut : Bool) (e : Ending) : Prop :=
  ∃ (ev : Bool) (d x0 x1 x2 x3 x4 x5 : Int) (utc ok : Bool), e = .returned (.tuple #[.agg (schedA ev d x0 x1 x2 x3 x4 x5), .bool utc, .bool ok]) ∧ Fits r ut (schedA ev d x0 x1 x2 x3 x4 x5) utc ok
theorem ta_nil (w : World) : (Instr.typeAssert .nilIface 78 97 true).run Tryz.prog w = .ok (.tuple #[.pointer none, .bool false]) w := by kernel_rfl
theorem results_blk_tmp2 {P : Program} {fn : Func} {p t u : Tmp} {T : TypeId} (h : fn.results = #[.cell p T, .tmp t, .tmp u]) (tmps : Array Value) (w : World) (b : Nat) (cs : Array Value) {d : TypeDesc} (hu : P.underlying T = some d) (hd : (match d with | .struct _ | .array _ _ => true | _ => false) = true) (hi : (P.info? T).map (·.size) = some cs.size)
    (hp : tmps.getD p undef = .pointer (some ⟨b, 0, none⟩)) (hb : Blk w b cs) :
    (results fn tmps).run P w = .ok (.tuple #[.agg cs, tmps.getD t undef, tmps.getD u undef]) w := by
  have hp' : tmps[p]?.getD undef = .pointer (some ⟨b, 0, none⟩) := by simpa using hp
  obtain ⟨E, hb⟩ := hb
  simp [results, h, hp', asAddr, run_loadVar_row w b _ T cs (0, 0) _ hb hu hd hi]

set_option maxHeartbeats 4000000 in
set_option maxRecDepth 100000 in
theorem zoned_any (o : Nat) (s : ByteArray) (w : World) (ho : o < 512) (h2 : (sec (o : Int) && dow (o : Int)) = false) (hs : s.size ≤ 65536) (hna : noAnswer s.data.toList = false) (hv : Sents w) :
    Calls Tryz.prog 22 #[.int .i64 (o : Int), .string s] w fun e w' => ZRes (mean (o : Int) s.data.toList) (utcOf s.data.toList) e ∧ Below w.heap.size w w' := by
  have HP := Lib.hid (fun w => parser_any (o : Int) w h2)
  have HC := Lib.hid (fun w1 (hb : Below w.heap.size w w1) => parse_all o s w1 ho hs hna (hv.below hb).1 (hv.below hb).2.1 (hv.below hb).2.2.1 (hv.below hb).2.2.2)
  obtain ⟨mr, hmr⟩ : ∃ mr, mean (o : Int) s.data.toList = mr := ⟨_, rfl⟩
  obtain ⟨ut, hut⟩ : ∃ ut, utcOf s.data.toList = ut := ⟨_, rfl⟩
  rw [hmr, hut] at HC ⊢
  clear h2 hna hv hmr hut
  go_enter Tryz.func22, Tryz.ntmps22
  go_upto_region 5 with (first
    | (go_at_call 29; refine (HP.out _).mono ?_; rintro e w1 ⟨rfl, hb1⟩; have g1 := one_after hb1; have HB1 := Lib.hid (Below.trans ((Below.refl _ w).alloc (Nat.le_refl _) _) (hb1.mono (by simp))); have hz1 : w.heap.size < w1.heap.size := g1.lt; have HG1 := Lib.hid g1; clear hb1 g1)
    | (go_at_call 31; (with_reducible refine (HC.out _ (HB1.out.alloc HB1.out.size _)).mono ?_); rintro e w2 ⟨⟨pa, hpa, hout⟩, hb2⟩; obtain ⟨v1, v2, rfl⟩ := out_shape hout; have HOUT := Lib.hid hout; have HPA := Lib.hid hpa; have g2 := (HG1.out.alloc _).after hb2; have HB2 := Lib.hid (Below.trans (HB1.out.alloc HB1.out.size _) (hb2.mono (Nat.le_trans HB1.out.size (by simp)))); have HG2 := Lib.hid g2; clear hb2 g2 hout hpa))
  rcases HOUT.out with ⟨T, p, h1, hno⟩ | ⟨g, l, h1, hsp, hr0, hr1⟩ | ⟨d, h1, hr0, hr1⟩
  · as_aux_lemma =>
    simp only [Ending.returned.injEq, Value.tuple.injEq, Array.mk.injEq, List.cons.injEq, and_true] at h1
    obtain ⟨rfl, rfl⟩ := h1
    have HNO := Lib.hid hno
    have hta := ta_nil
    clear hno HOUT
    go_wp2_with (first
      | (go_at_call 30; (with_reducible refine (plain_err _ _ _ _).mono ?_); rintro e w3 ⟨rfl, hb3⟩; have HB3 := Lib.hid (Below.trans HB2.out (hb3.mono HB2.out.size)); have HG3 := Lib.hid (HG2.out.after hb3); have HG4 := Lib.hid (blk_row HG3.out zeroS); clear hb3)
      | (refine wpList_store_blk rfl 28 (.tmp 4) (.tmp 30) rfl w.heap.size _ zeroS infoSched rfl zeroS_one (by rfl) (by rfl) HG3.out ?_)
      | (refine wpList_load_blk rfl 28 (.tmp 4) rfl w.heap.size zeroS Tryz.underlying28 rfl infoSched (by rfl) HG4.out ?_)
      | (refine wpList_store_blk rfl 28 (.tmp 4) (.tmp 46) rfl w.heap.size _ zeroS infoSched rfl zeroS_one (by rfl) (by rfl) HG4.out ?_))
    exact bodyPost_ret (results_blk_tmp2 rfl _ _ w.heap.size zeroS Tryz.underlying28 rfl infoSched rfl (blk_row HG4.out _)) rfl ⟨⟨false, 0, 0, 0, 0, 0, 0, 0, false, false, rfl, .inl ⟨rfl, rfl, rfl, HNO.out⟩⟩, below_row (below_row HB3.out (Nat.le_refl _) _) (Nat.le_refl _) _⟩
  · as_aux_lemma =>
    simp only [Ending.returned.injEq, Value.tuple.injEq, Array.mk.injEq, List.cons.injEq, and_true] at h1
    obtain ⟨rfl, rfl⟩ := h1
    obtain ⟨x0, hx0⟩ : ∃ x, l.getD 0 0 = x := ⟨_, rfl⟩
    obtain ⟨x1, hx1⟩ : ∃ x, l.getD 1 0 = x := ⟨_, rfl⟩
    obtain ⟨x2, hx2⟩ : ∃ x, l.getD 2 0 = x := ⟨_, rfl⟩
    obtain ⟨x3, hx3⟩ : ∃ x, l.getD 3 0 = x := ⟨_, rfl⟩
    obtain ⟨x4, hx4⟩ : ∃ x, l.getD 4 0 = x := ⟨_, rfl⟩
    obtain ⟨x5, hx5⟩ : ∃ x, l.getD 5 0 = x := ⟨_, rfl⟩
    rw [hx0, hx1, hx2, hx3, hx4, hx5] at hsp
    have HSP := Lib.hid hsp
    have hne : g ≠ w.heap.size := by
      intro e
      obtain ⟨E1, q1⟩ := HSP.out
      obtain ⟨E2, q2⟩ := HG2.out
      rw [e] at q1
      have q3 := q1.symm.trans q2
      injection q3 with q3
      injection q3 with q3 q4
      exact absurd (congrArg Array.size q3) (by simp)
    have HF : Hid (∀ utc, utc = ut → Fits mr ut (schedA false 0 x0 x1 x2 x3 x4 x5) utc true) := Lib.hid (fun utc hu => .inr ⟨rfl, hr0, fun m hm => by
      obtain ⟨LL, h1, h2⟩ := hr1 m hm
      refine .inl ⟨LL, h1, ?_, hu⟩
      rw [← h2, ← hx0, ← hx1, ← hx2, ← hx3, ← hx4, ← hx5]
      rfl⟩)
    have hts := ta_spec
    clear hsp hx0 hx1 hx2 hx3 hx4 hx5 hr0 hr1 HOUT
    cases pa with
    | none =>
      have HU : Hid (false = ut) := HPA
      go_wp2_with (first
        | (go_at_call 30; (with_reducible refine (plain_spec _ _ _ _ _ _ _ _ _ HSP.out).mono ?_); rintro e w3 ⟨rfl, hb3⟩; have HB3 := Lib.hid (Below.trans HB2.out (hb3.mono HB2.out.size)); have HG3 := Lib.hid (HG2.out.after hb3); have HG4 := Lib.hid (blk_row HG3.out (schedA false 0 x0 x1 x2 x3 x4 x5)); have hc6 := (blk_else (b := w.heap.size) (HSP.out.after hb3) (schedA false 0 x0 x1 x2 x3 x4 x5) hne).cell (j := 6) rfl; clear hb3)
        | (refine wpList_store_blk rfl 28 (.tmp 4) (.tmp 30) rfl w.heap.size zeroS (schedA false 0 x0 x1 x2 x3 x4 x5) infoSched rfl (schedA_one _ _ _ _ _ _ _ _) (by rfl) (by rfl) HG3.out ?_)
        | (refine wpList_load_blk rfl 28 (.tmp 4) rfl w.heap.size (schedA false 0 x0 x1 x2 x3 x4 x5) Tryz.underlying28 rfl infoSched (by rfl) HG4.out ?_)
        | (refine wpList_store_blk rfl 28 (.tmp 4) (.tmp 46) rfl w.heap.size (schedA false 0 x0 x1 x2 x3 x4 x5) (schedA false 0 x0 x1 x2 x3 x4 x5) infoSched rfl (schedA_one _ _ _ _ _ _ _ _) (by rfl) (by rfl) HG4.out ?_))
      exact bodyPost_ret (results_blk_tmp2 rfl _ _ w.heap.size (schedA false 0 x0 x1 x2 x3 x4 x5) Tryz.underlying28 rfl infoSched rfl (blk_row HG4.out _)) rfl ⟨⟨false, 0, x0, x1, x2, x3, x4, x5, false, true, rfl, HF.out _ HU.out⟩, below_row (below_row HB3.out (Nat.le_refl _) _) (Nat.le_refl _) _⟩
    | some a =>
      have HU : Hid (true = ut) := HPA
      go_wp2_with (first
        | (go_at_call 30; (with_reducible refine (plain_spec _ _ _ _ _ _ _ _ _ HSP.out).mono ?_); rintro e w3 ⟨rfl, hb3⟩; have HB3 := Lib.hid (Below.trans HB2.out (hb3.mono HB2.out.size)); have HG3 := Lib.hid (HG2.out.after hb3); have HG4 := Lib.hid (blk_row HG3.out (schedA false 0 x0 x1 x2 x3 x4 x5)); have hc6 := (blk_else (b := w.heap.size) (HSP.out.after hb3) (schedA false 0 x0 x1 x2 x3 x4 x5) hne).cell (j := 6) rfl; clear hb3)
        | (refine wpList_store_blk rfl 28 (.tmp 4) (.tmp 30) rfl w.heap.size zeroS (schedA false 0 x0 x1 x2 x3 x4 x5) infoSched rfl (schedA_one _ _ _ _ _ _ _ _) (by rfl) (by rfl) HG3.out ?_)
        | (refine wpList_load_blk rfl 28 (.tmp 4) rfl w.heap.size (schedA false 0 x0 x1 x2 x3 x4 x5) Tryz.underlying28 rfl infoSched (by rfl) HG4.out ?_)
        | (refine wpList_store_blk rfl 28 (.tmp 4) (.tmp 46) rfl w.heap.size (schedA false 0 x0 x1 x2 x3 x4 x5) (schedA false 0 x0 x1 x2 x3 x4 x5) infoSched rfl (schedA_one _ _ _ _ _ _ _ _) (by rfl) (by rfl) HG4.out ?_))
      exact bodyPost_ret (results_blk_tmp2 rfl _ _ w.heap.size (schedA false 0 x0 x1 x2 x3 x4 x5) Tryz.underlying28 rfl infoSched rfl (blk_row HG4.out _)) rfl ⟨⟨false, 0, x0, x1, x2, x3, x4, x5, true, true, rfl, HF.out _ HU.out⟩, below_row (below_row HB3.out (Nat.le_refl _) _) (Nat.le_refl _) _⟩
  · as_aux_lemma =>
    simp only [Ending.returned.injEq, Value.tuple.injEq, Array.mk.injEq, List.cons.injEq, and_true] at h1
    obtain ⟨rfl, rfl⟩ := h1
    have HF : Hid (Fits mr ut (schedA true d 0 0 0 0 0 0) false true) := Lib.hid (.inr ⟨rfl, hr0, fun m hm => .inr ⟨d, hr1 m hm, rfl, rfl⟩⟩)
    have htn := ta_no
    clear hr0 hr1 HOUT
    go_wp2_with (first
      | (go_at_call 30; (with_reducible refine (plain_delay _ _).mono ?_); rintro e w3 ⟨rfl, hb3⟩; have HB3 := Lib.hid (Below.trans HB2.out (hb3.mono HB2.out.size)); have HG3 := Lib.hid (HG2.out.after hb3); have HG4 := Lib.hid (blk_row HG3.out (schedA true d 0 0 0 0 0 0)); clear hb3)
      | (refine wpList_store_blk rfl 28 (.tmp 4) (.tmp 30) rfl w.heap.size zeroS (schedA true d 0 0 0 0 0 0) infoSched rfl (schedA_one _ _ _ _ _ _ _ _) (by rfl) (by rfl) HG3.out ?_)
      | (refine wpList_load_blk rfl 28 (.tmp 4) rfl w.heap.size (schedA true d 0 0 0 0 0 0) Tryz.underlying28 rfl infoSched (by rfl) HG4.out ?_)
      | (refine wpList_store_blk rfl 28 (.tmp 4) (.tmp 46) rfl w.heap.size (schedA true d 0 0 0 0 0 0) (schedA true d 0 0 0 0 0 0) infoSched rfl (schedA_one _ _ _ _ _ _ _ _) (by rfl) (by rfl) HG4.out ?_))
    exact bodyPost_ret (results_blk_tmp2 rfl _ _ w.heap.size (schedA true d 0 0 0 0 0 0) Tryz.underlying28 rfl infoSched rfl (blk_row HG4.out _)) rfl ⟨⟨true, d, 0, 0, 0, 0, 0, 0, false, true, rfl, HF.out⟩, below_row (below_row HB3.out (Nat.le_refl _) _) (Nat.le_refl _) _⟩

end Go.Proofs.YtmnjmhlodbifjaaGreatDoor.Zoned
