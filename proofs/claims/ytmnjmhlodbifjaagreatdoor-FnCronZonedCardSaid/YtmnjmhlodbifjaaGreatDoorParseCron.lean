/- cron.NewParser and impl.parser, which recovers. Conditions: at most one optional field. · The reference's CronParse at texts without zone and descriptor. Conditions: options below 512, texts of at most 65536 bytes. · impl.ParseCron and the law's cronMeansNothing at plain texts of ASCII. Conditions: options below 512 with at most one optional field, texts of at most 65536 bytes, strconv's sentinels hold something. -/
import Derived.Test.YtmnjmhlodbifjaaGreatDoorNorm
import Derived.Test.YtmnjmhlodbifjaaGreatDoorBig
import Derived.Defers
import Derived.Recover
import Derived.Laws.Pointers
import Derived.Test.YtmnjmhlodbifjaaGreatDoorSpecPlain
import Derived.Test.YtmnjmhlodbifjaaGreatDoorZoneHead
import Derived.Test.YtmnjmhlodbifjaaGreatDoorParseP
import Derived.Test.YtmnjmhlodbifjaaGreatDoorWordsU

namespace Go.Proofs.YtmnjmhlodbifjaaGreatDoor.Parser
open Go Go.RowKit Go.Proofs.YtmnjmhlodbifjaaGreatDoor.Mem Go.Proofs.YtmnjmhlodbifjaaGreatDoor.FillPure Go.Proofs.YtmnjmhlodbifjaaGreatDoor.Aid
set_option linter.unusedVariables false

theorem newParser_any (o : Int) (w : World) (h : (sec o && dow o) = false) :
    Calls Tryz.prog 52 #[.int .i64 o] w fun e w' => e = .returned (.agg #[.int .i64 o]) ∧ Below w.heap.size w w' := by
  unfold sec dow at h
  by_cases h1 : 0 < Go.bits .and .i64 o 128
  · have h2 : ¬ 0 < Go.bits .and .i64 o 2 := by
      intro e; rw [decide_eq_true h1, decide_eq_true e] at h; cases h
    clear h
    go_enter Tryz.func52, Tryz.ntmps52
    go_wp2
    exact bodyPost_ret (v := .agg #[.int .i64 o]) (by simp [results, Tryz.results52, go_sem]) rfl ⟨rfl, ((Below.refl _ _).alloc (Nat.le_refl _) _)⟩
  · clear h
    by_cases h2 : 0 < Go.bits .and .i64 o 2
    · go_enter Tryz.func52, Tryz.ntmps52
      go_wp2
      exact bodyPost_ret (v := .agg #[.int .i64 o]) (by simp [results, Tryz.results52, go_sem]) rfl ⟨rfl, ((Below.refl _ _).alloc (Nat.le_refl _) _)⟩
    · go_enter Tryz.func52, Tryz.ntmps52
      go_wp2
      exact bodyPost_ret (v := .agg #[.int .i64 o]) (by simp [results, Tryz.results52, go_sem]) rfl ⟨rfl, ((Below.refl _ _).alloc (Nat.le_refl _) _)⟩

theorem catch_idle (p : Addr) (w : World) :
    CallsD Tryz.prog 51 #[.pointer (some p)] .returning w fun e u' w' => e = .returned (.tuple #[]) ∧ u' = .returning ∧ w' = w := by
  refine callsD_of_wpS Tryz.func51 rfl fun c₀ cs hu => ?_
  apply wpS_seq
  apply wpS_region
  simp [wpOpsS, go_sem, recoverD, hu, Tryz.ntmps51, Exit.thenS]
  refine wpS_cond (t := false) (by simp [Act.eval, Array.replicate]) ?_
  simp only [Bool.false_eq_true, if_false]
  refine wpS_of_wp (wp_skip ?_)
  cases c₀
  simp_all [bodyPostS, results, Tryz.results51]

theorem parser_any (o : Int) (w : World) (h : (sec o && dow o) = false) :
    Calls Tryz.prog 29 #[.int .i64 o] w fun e w' => e = .returned (.tuple #[.agg #[.int .i64 o], .bool false]) ∧ Below w.heap.size w w' := by
  have hmf : ∀ (fn : Fn) (first cap : Array Value) (w : World), (Instr.makeFunc fn first cap).run Tryz.prog w = .ok (.func fn first cap) w := fun _ _ _ _ => rfl
  have HN := Lib.hid (fun w => newParser_any o w h)
  clear h
  go_enter_defers Tryz.func29, Tryz.ntmps29
  go_wp2_with (go_at_call 52; refine (HN.out _).mono ?_; rintro e w1 ⟨rfl, hb1⟩; obtain ⟨g1, g2⟩ := two_after hb1; have c1 := g1.cell (j := 0) rfl; have c2 := g1.free 0; have c3 := g2.cell (j := 0) rfl; have c4 := g2.free 0)
  refine leaves_cons (f := 51) (args := #[.pointer (some ⟨w.heap.size + 1, 0, none⟩)]) (by simp) (by simp [go_sem]) ?_
  refine (catch_idle ⟨w.heap.size + 1, 0, none⟩ _).mono ?_
  rintro e u' w'' ⟨rfl, rfl, rfl⟩
  have k1 := ((g1.set 0 (.int .i64 o)).other ⟨w.heap.size + 1, 0, none⟩ (.bool false) (by simp)).cell (j := 0) (v := .int .i64 o) (by rfl)
  have k2 := ((g2.other ⟨w.heap.size, 0, none⟩ (.int .i64 o) (by simp)).set 0 (.bool false)).cell (j := 0) (v := .bool false) (by rfl)
  have hB : Below w.heap.size w ((w1.setCell ⟨w.heap.size, 0, none⟩ (.int .i64 o)).setCell ⟨w.heap.size + 1, 0, none⟩ (.bool false)) :=
    (((((Below.refl _ w).alloc (Nat.le_refl _) _).alloc (by simp) _).trans (hb1.mono (by simp; omega))).setCell (by simp) _).setCell (by simp) _
  simp [Leaves, settle, results, Tryz.results29, go_sem, k1, k2, hB]

end Go.Proofs.YtmnjmhlodbifjaaGreatDoor.Parser

namespace Go.Proofs.YtmnjmhlodbifjaaGreatDoor.SpecParse0
open Go Go.RowKit Go.Proofs.YtmnjmhlodbifjaaGreatDoor.Mem Go.Proofs.YtmnjmhlodbifjaaGreatDoor.Aid Go.Proofs.YtmnjmhlodbifjaaGreatDoor.Set Go.Proofs.YtmnjmhlodbifjaaGreatDoor.Fields Go.Proofs.YtmnjmhlodbifjaaGreatDoor.Big Go.Proofs.YtmnjmhlodbifjaaGreatDoor.Meaning Go.Proofs.YtmnjmhlodbifjaaGreatDoor.FillPure Go.Proofs.YtmnjmhlodbifjaaGreatDoor.PlainPure Go.Proofs.YtmnjmhlodbifjaaGreatDoor.NameRel Go.Proofs.YtmnjmhlodbifjaaGreatDoor.SpecPlain Go.Proofs.YtmnjmhlodbifjaaGreatDoor.Head Go.Proofs.YtmnjmhlodbifjaaGreatDoor.ZoneHead
set_option linter.unusedVariables false

/-- The reference's reading of a text without zone and descriptor. -/
def parseM (o : Int) (l : List UInt8) : Array Value × Nat := if l = [] then (noFields, 0) else plainM o l
theorem noFields_eq : noFields = fldArr (fun _ => false) fun _ _ => false := by unfold noFields; with_reducible rfl
theorem plainM_fld (o : Int) (l : List UInt8) : ∃ st f, (plainM o l).1 = fldArr st f := by
  unfold plainM
  split
  · refine ⟨fun _ => false, fun _ _ => false, ?_⟩; dsimp only; with_reducible exact noFields_eq
  · split
    · refine ⟨fun _ => false, fun _ _ => false, ?_⟩; dsimp only; with_reducible exact noFields_eq
    · split
      · refine ⟨fun _ => false, fun _ _ => false, ?_⟩; dsimp only; with_reducible exact noFields_eq
      · unfold sixM
        split
        · dsimp only; exact ⟨_, _, rfl⟩
        · refine ⟨fun _ => false, fun _ _ => false, ?_⟩; dsimp only; with_reducible exact noFields_eq
theorem plainM_one (o : Int) (l : List UInt8) : (plainM o l).1.all (·.oneCell') = true := by
  obtain ⟨st, f, h⟩ := plainM_fld o l
  rw [h]
  exact fldArr_one _ _

set_option maxHeartbeats 2000000 in
set_option maxRecDepth 100000 in
theorem parse0_any (o : Nat) (s : ByteArray) (w : World) (ho : o < 512) (hs : s.size ≤ 65536) (hz : zoneHead s.data.toList = 0) (ha : starts [64] s.data.toList = false) :
    Calls Tryz.prog 21 #[.int .i64 (o : Int), .string s] w fun e w' => MeanRes (parseM (o : Int) s.data.toList) e ∧ Below w.heap.size w w' := by
  have HZ := Lib.hid (fun w => zoneHead_any s w (by omega))
  rw [hz] at HZ
  have HM0 := Lib.hid (Blk.new w (meanArr false 0 noFields false) 59)
  have hbA : Below w.heap.size w (w.alloc (.cells (meanArr false 0 noFields false) 59)) := (Below.refl _ w).alloc (Nat.le_refl _) _
  have HBA := Lib.hid hbA
  have HP := Lib.hid (fun w => plain_any o s w ho hs ha)
  have HS := Lib.hid (plainM_size (o : Int) s.data.toList)
  have HO := Lib.hid (plainM_one (o : Int) s.data.toList)
  clear hbA hz ha
  unfold parseM
  by_cases h0 : s.size = 0
  · have hl : s.data.toList = [] := by
      have : s.data.toList.length = 0 := by simpa using h0
      exact List.eq_nil_of_length_eq_zero this
    rw [if_pos hl]
    have hq : (s.toList == []) = true := by rw [ByteArray.toList_eq, hl]; rfl
    have hq2 : s.toList = [] := by rw [ByteArray.toList_eq, hl]
    have hq3 : s.toList.isEmpty = true := by rw [hq2]; rfl
    have HQ2 := Lib.hid hq2
    have HL := Lib.hid hl
    clear hl hq2 h0
    go_enter Tryz.func21, Tryz.ntmps21
    go_wp2_with (first
      | (with_reducible refine wpList_alloc_mean rfl rfl ?_)
      | (with_reducible refine wpList_build_mean rfl rfl ?_)
      | (go_at_call 28; refine (HZ.out _).mono ?_; rintro e w' ⟨rfl, rfl⟩)
      | (with_reducible refine wpList_store_mean rfl (.tmp 4) (.tmp 19) rfl w.heap.size _ _ mean0 mean0 mean0_one rfl rfl HM0.out ?_))
    exact bodyPost_ret (results_mean_tmp rfl _ _ w.heap.size _ mean0 rfl (blk_row HM0.out _)) rfl ⟨by unfold MeanRes; dsimp only; rfl, below_row HBA.out (Nat.le_refl _) _⟩
  · have hl : ¬ s.data.toList = [] := by
      intro e
      have : s.data.toList.length = 0 := by rw [e]; rfl
      exact h0 (by simpa using this)
    rw [if_neg hl]
    have hq3 : s.toList.isEmpty = false := by rw [ByteArray.toList_eq]; simpa using hl
    have hq : (s.toList == []) = false := by rw [ByteArray.toList_eq]; simpa using hl
    clear hl h0
    generalize plainM (o : Int) s.data.toList = R at HP HS HO ⊢
    obtain ⟨R1, R2⟩ := R
    have hR : (meanArr false 0 R1 false).size = 387 := meanArr_size _ _ _ _ HS.out
    have HR := Lib.hid hR
    have HR1 := Lib.hid (meanArr_one false 0 R1 false HO.out)
    clear hR
    go_enter Tryz.func21, Tryz.ntmps21
    go_wp2_with (first
      | (with_reducible refine wpList_alloc_mean rfl rfl ?_)
      | (go_at_call 28; refine (HZ.out _).mono ?_; rintro e w' ⟨rfl, rfl⟩)
      | (go_at_call 42; (with_reducible refine (HP.out _).mono ?_); rintro e w1 ⟨he, hb1⟩; obtain rfl := he; have HM1 := Lib.hid (HM0.out.after hb1); have HB1 := Lib.hid (Below.trans HBA.out (hb1.mono (by simp))); clear hb1)
      | (with_reducible refine wpList_store_mean rfl (.tmp 4) (.tmp 23) rfl w.heap.size _ (meanArr false 0 R1 false) mean0 HR.out HR1.out rfl rfl HM1.out ?_))
    exact bodyPost_ret (results_mean_tmp rfl _ _ w.heap.size _ HR.out rfl (blk_row HM1.out _)) rfl ⟨by unfold MeanRes; dsimp only; rfl, below_row HB1.out (Nat.le_refl _) _⟩

end Go.Proofs.YtmnjmhlodbifjaaGreatDoor.SpecParse0

namespace Go.Proofs.YtmnjmhlodbifjaaGreatDoor.ParseCron
open Go Go.RowKit Go.Proofs.YtmnjmhlodbifjaaGreatDoor.Mem Go.Proofs.YtmnjmhlodbifjaaGreatDoor.Aid Go.Proofs.YtmnjmhlodbifjaaGreatDoor.Err Go.Proofs.YtmnjmhlodbifjaaGreatDoor.SplitPure Go.Proofs.YtmnjmhlodbifjaaGreatDoor.FillPure Go.Proofs.YtmnjmhlodbifjaaGreatDoor.PlainPure Go.Proofs.YtmnjmhlodbifjaaGreatDoor.NameRel Go.Proofs.YtmnjmhlodbifjaaGreatDoor.PlainSched Go.Proofs.YtmnjmhlodbifjaaGreatDoor.Head Go.Proofs.YtmnjmhlodbifjaaGreatDoor.ParseA Go.Proofs.YtmnjmhlodbifjaaGreatDoor.ParseP Go.Proofs.YtmnjmhlodbifjaaGreatDoor.Parser Go.Proofs.YtmnjmhlodbifjaaGreatDoor.ZoneHead Go.Proofs.YtmnjmhlodbifjaaGreatDoor.Words Go.Proofs.YtmnjmhlodbifjaaGreatDoor.Meaning Go.Proofs.YtmnjmhlodbifjaaGreatDoor.SpecPlain Go.Proofs.YtmnjmhlodbifjaaGreatDoor.SpecSix Go.Proofs.YtmnjmhlodbifjaaGreatDoor.SpecParse0 Go.Proofs.YtmnjmhlodbifjaaGreatDoor.Big
set_option linter.unusedVariables false

theorem zone_none {l : List UInt8} (h : zoneHead l = 0) : starts tzB l = false ∧ starts cronB l = false := by
  unfold zoneHead at h
  split at h
  · cases h
  · split at h
    · cases h
    · rename_i h1 h2
      exact ⟨by simpa using h1, by simpa using h2⟩
theorem nil_size {s : ByteArray} (h : s.size = 0) : s.data.toList = [] := by
  have : s.data.toList.length = 0 := by simpa using h
  exact List.eq_nil_of_length_eq_zero this
theorem parse_empty (o : Int) (s : ByteArray) (w : World) (h0 : s.size = 0) :
    Calls Tryz.prog 31 #[.agg #[.int .i64 o], .string s] w fun e w' => ParseRes none (.pointer none) e w' ∧ Below w.heap.size w w' := by
  have hz : ((s.size : Int) == 0) = true := by rw [beq_iff_eq]; omega
  clear h0
  go_enter Tryz.func31, Tryz.ntmps31
  go_wp2_with (go_at_call 53; refine (errorsNew_any _ _).mono ?_; rintro e w1 ⟨he, hb1⟩; obtain ⟨T, p, rfl⟩ := he)
  go_ret2
  exact ⟨⟨_, _, rfl⟩, ((Below.refl _ w).alloc (Nat.le_refl _) _).trans (hb1.mono (by simp))⟩
theorem parse_plain (o : Nat) (s : ByteArray) (w : World) (ho : o < 512) (hs : s.size ≤ 65536) (hf : foreign s.data.toList = false) (hz : zoneHead s.data.toList = 0) (ha : starts [64] s.data.toList = false) (hv : ErrVars w) :
    Calls Tryz.prog 31 #[.agg #[.int .i64 (o : Int)], .string s] w fun e w' => ParseRes (plainOf (o : Int) s.data.toList) (.pointer none) e w' ∧ Below w.heap.size w w' := by
  unfold plainOf
  by_cases h0 : s.size = 0
  · rw [if_pos (nil_size h0)]
    exact parse_empty (o : Int) s w h0
  · have hl : ¬ s.data.toList = [] := by
      intro e
      have : s.data.toList.length = 0 := by rw [e]; rfl
      exact h0 (by simpa using this)
    rw [if_neg hl]
    obtain ⟨h1, h2⟩ := zone_none hz
    have hc := words_count s.data.toList
    refine (parse_words o s (words s.data.toList) w ho hs (by omega) h1 h2 ha (fun w => ?_) (by simp at hc; omega) (fun p hp => by have := words_size hp; simp at this; omega) hv).mono fun e w' h => h
    exact (Words2.fields_any s w hs (foreign_not hf)).mono fun e w' h => h

def zeroS : Array Value := #[.bool false, .int .i64 0, .int .u64 0, .int .u64 0, .int .u64 0, .int .u64 0, .int .u64 0, .int .u64 0]
def setsS (a b c d e f : Int) : Array Value := #[.bool false, .int .i64 0, .int .u64 a, .int .u64 b, .int .u64 c, .int .u64 d, .int .u64 e, .int .u64 f]
def setsL (l : List Int) : Array Value := setsS (l.getD 0 0) (l.getD 1 0) (l.getD 2 0) (l.getD 3 0) (l.getD 4 0) (l.getD 5 0)
/-- What ParseCron hands back. -/
def CronRes (r : Option (List Int)) (e : Ending) : Prop :=
  match r with
  | some l => e = .returned (.tuple #[.agg (setsL l), .bool true])
  | none => e = .returned (.tuple #[.agg zeroS, .bool false])
theorem zeroS_one : zeroS.all (·.oneCell') = true := by simp [zeroS, Value.oneCell']
theorem setsS_one (a b c d e f : Int) : (setsS a b c d e f).all (·.oneCell') = true := by simp [setsS, Value.oneCell']
theorem infoSched : (Tryz.prog.info? 28).map (·.size) = some 8 := by kernel_rfl

set_option maxHeartbeats 1000000 in
set_option maxRecDepth 100000 in
theorem cron_any (o : Nat) (s : ByteArray) (w : World) (ho : o < 512) (h2 : (sec (o : Int) && dow (o : Int)) = false) (hs : s.size ≤ 65536) (hf : foreign s.data.toList = false) (hz : zoneHead s.data.toList = 0) (ha : starts [64] s.data.toList = false) (hv : ErrVars w) :
    Calls Tryz.prog 10 #[.int .i64 (o : Int), .string s] w fun e w' => CronRes (plainOf (o : Int) s.data.toList) e ∧ Below w.heap.size w w' := by
  have HP := Lib.hid (fun w => parser_any (o : Int) w h2)
  have HC := Lib.hid (fun w1 (hb : Below w.heap.size w w1) => parse_plain o s w1 ho hs hf hz ha (hv.below hb))
  obtain ⟨r, hr⟩ : ∃ r, plainOf (o : Int) s.data.toList = r := ⟨_, rfl⟩
  rw [hr] at HC ⊢
  clear h2 hf hz ha hv hr
  cases r with
  | none =>
    go_enter Tryz.func10, Tryz.ntmps10
    go_wp2_with (first
      | (go_at_call 29; refine (HP.out _).mono ?_; rintro e w1 ⟨rfl, hb1⟩; have g1 := one_after hb1; have HB1 := Lib.hid (Below.trans ((Below.refl _ w).alloc (Nat.le_refl _) _) (hb1.mono (by simp))); have hz1 : w.heap.size < w1.heap.size := g1.lt; have HG1 := Lib.hid g1; clear hb1 g1)
      | (go_at_call 31; (with_reducible refine (HC.out _ (HB1.out.alloc HB1.out.size _)).mono ?_); rintro e w2 ⟨he, hb2⟩; obtain ⟨T, p, rfl⟩ := he; have g2 := (HG1.out.alloc _).after hb2; have HB2 := Lib.hid (Below.trans (HB1.out.alloc HB1.out.size _) (hb2.mono (Nat.le_trans HB1.out.size (by simp)))); have HG2 := Lib.hid g2; clear hb2 g2)
      | (go_at_call 30; (with_reducible refine (plain_err _ _ _ _).mono ?_); rintro e w3 ⟨rfl, hb3⟩; have HB3 := Lib.hid (Below.trans HB2.out (hb3.mono HB2.out.size)); have HG3 := Lib.hid (HG2.out.after hb3); clear hb3)
      | (refine wpList_store_blk rfl 28 (.tmp 4) (.tmp 21) rfl w.heap.size _ zeroS infoSched rfl zeroS_one (by rfl) (by rfl) HG3.out ?_))
    exact bodyPost_ret (results_blk_tmp rfl _ _ w.heap.size zeroS Tryz.underlying28 rfl infoSched rfl (blk_row HG3.out _)) rfl ⟨by unfold CronRes; rfl, below_row HB3.out (Nat.le_refl _) _⟩
  | some l =>
    obtain ⟨x0, hx0⟩ : ∃ x, l.getD 0 0 = x := ⟨_, rfl⟩
    obtain ⟨x1, hx1⟩ : ∃ x, l.getD 1 0 = x := ⟨_, rfl⟩
    obtain ⟨x2, hx2⟩ : ∃ x, l.getD 2 0 = x := ⟨_, rfl⟩
    obtain ⟨x3, hx3⟩ : ∃ x, l.getD 3 0 = x := ⟨_, rfl⟩
    obtain ⟨x4, hx4⟩ : ∃ x, l.getD 4 0 = x := ⟨_, rfl⟩
    obtain ⟨x5, hx5⟩ : ∃ x, l.getD 5 0 = x := ⟨_, rfl⟩
    have HX := Lib.hid (And.intro hx0 (And.intro hx1 (And.intro hx2 (And.intro hx3 (And.intro hx4 hx5)))))
    clear hx0 hx1 hx2 hx3 hx4 hx5
    go_enter Tryz.func10, Tryz.ntmps10
    go_wp2_with (first
      | (go_at_call 29; refine (HP.out _).mono ?_; rintro e w1 ⟨rfl, hb1⟩; have g1 := one_after hb1; have HB1 := Lib.hid (Below.trans ((Below.refl _ w).alloc (Nat.le_refl _) _) (hb1.mono (by simp))); have hz1 : w.heap.size < w1.heap.size := g1.lt; have HG1 := Lib.hid g1; clear hb1 g1)
      | (go_at_call 31; (with_reducible refine (HC.out _ (HB1.out.alloc HB1.out.size _)).mono ?_); rintro e w2 ⟨he, hb2⟩; obtain ⟨g, rfl, hg⟩ := he; obtain ⟨hx0, hx1, hx2, hx3, hx4, hx5⟩ := HX.out; rw [hx0, hx1, hx2, hx3, hx4, hx5] at hg; clear hx0 hx1 hx2 hx3 hx4 hx5; have g2 := (HG1.out.alloc _).after hb2; have HB2 := Lib.hid (Below.trans (HB1.out.alloc HB1.out.size _) (hb2.mono (Nat.le_trans HB1.out.size (by simp)))); have HG2 := Lib.hid g2; have HG := Lib.hid hg; clear hb2 g2 hg)
      | (go_at_call 30; (with_reducible refine (plain_spec _ _ _ _ _ _ _ _ _ HG.out).mono ?_); rintro e w3 ⟨rfl, hb3⟩; have HB3 := Lib.hid (Below.trans HB2.out (hb3.mono HB2.out.size)); have HG3 := Lib.hid (HG2.out.after hb3); clear hb3)
      | (refine wpList_store_blk rfl 28 (.tmp 4) (.tmp 21) rfl w.heap.size zeroS (setsS x0 x1 x2 x3 x4 x5) infoSched rfl (setsS_one _ _ _ _ _ _) (by rfl) (by rfl) HG3.out ?_))
    exact bodyPost_ret (results_blk_tmp rfl _ _ w.heap.size (setsS x0 x1 x2 x3 x4 x5) Tryz.underlying28 rfl infoSched rfl (blk_row HG3.out _)) rfl ⟨by show _ = Ending.returned (.tuple #[.agg (setsL l), .bool true]); unfold setsL; obtain ⟨hx0, hx1, hx2, hx3, hx4, hx5⟩ := HX.out; rw [hx0, hx1, hx2, hx3, hx4, hx5]; rfl, below_row HB3.out (Nat.le_refl _) _⟩

/-- The schedule that is handed back. -/
def schedOf : Option (List Int) → Array Value
  | some l => setsL l
  | none => zeroS
theorem cronRes_eq {r : Option (List Int)} {e : Ending} (h : CronRes r e) : e = .returned (.tuple #[.agg (schedOf r), .bool r.isSome]) := by
  cases r with
  | none => exact h
  | some l => exact h
set_option maxRecDepth 100000 in
theorem eq_sets (a b c d e f : Int) (w : World) : (binOp .eql 28 (.agg (setsS a b c d e f)) (.agg (setsS a b c d e f))).run Tryz.prog w = .ok (.bool true) w := by
  unfold setsS
  simp [go_sem, Tryz.underlying28, Tryz.underlying4, Tryz.underlying2, Tryz.underlying26]
theorem eq_sched (r : Option (List Int)) (w : World) : (binOp .eql 28 (.agg (schedOf r)) (.agg (schedOf r))).run Tryz.prog w = .ok (.bool true) w := by
  cases r with
  | none => exact eq_sets 0 0 0 0 0 0 w
  | some l => exact eq_sets _ _ _ _ _ _ w
theorem schedOf_size (r : Option (List Int)) : (schedOf r).size = 8 := by cases r <;> rfl
theorem schedOf_one (r : Option (List Int)) : (schedOf r).all (·.oneCell') = true := by
  cases r with
  | none => exact zeroS_one
  | some l => exact setsS_one _ _ _ _ _ _
/-- Where the code reads nothing the reference is not sure. -/
theorem not_fine {o : Int} {l : List UInt8} (hf : foreign l = false) (h : plainOf o l = none) : (parseM o l).2 ≠ 1 := by
  unfold parseM
  by_cases hl : l = []
  · rw [if_pos hl]; decide
  · rw [if_neg hl]
    unfold plainM
    rw [hf]
    simp only [Bool.false_eq_true, if_false]
    unfold plainOf at h
    rw [if_neg hl] at h
    cases hfo : fillOf o ((words l).map ofL) with
    | none => dsimp only; decide
    | some L =>
      rw [hfo] at h
      dsimp only at h ⊢
      split
      · dsimp only; decide
      · unfold sixM
        intro e
        split at e
        · rename_i h6
          rw [(sixV_fine _ 6 (Nat.le_refl _) h6).1] at h
          cases h
        · rename_i h6
          exact h6 e
/-- .. and where it is sure, they agree. -/
theorem fine_is {o : Int} {l : List UInt8} (hf : foreign l = false) (h : (parseM o l).2 = 1) : ∃ LL, plainOf o l = some (numsOf LL 6) ∧ (parseM o l).1 = Fields.fldArr (stL LL 6) (fLs LL 6) := by
  unfold parseM at h ⊢
  by_cases hl : l = []
  · rw [if_pos hl] at h; cases h
  · rw [if_neg hl] at h ⊢
    unfold plainM at h ⊢
    rw [hf] at h ⊢
    simp only [Bool.false_eq_true, if_false] at h ⊢
    unfold plainOf
    rw [if_neg hl]
    cases hfo : fillOf o ((words l).map ofL) with
    | none => rw [hfo] at h; cases h
    | some L =>
      rw [hfo] at h
      dsimp only at h ⊢
      split at h
      · cases h
      · rename_i hw
        rw [if_neg hw]
        unfold sixM at h ⊢
        by_cases h6 : sixV (L.map fun s => s.data.toList) 6 = 1
        · rw [if_pos h6]
          have h7 := (sixV_fine _ 6 (Nat.le_refl _) h6).1
          refine ⟨_, h7, ?_⟩
          dsimp only
        · rw [if_neg h6] at h
          exact absurd h h6

/-- The law's cronMeansNothing. -/
theorem nothing_any (o : Nat) (s : ByteArray) (w : World) (ho : o < 512) (hs : s.size ≤ 65536) (hz : zoneHead s.data.toList = 0) (ha : starts [64] s.data.toList = false) :
    Calls Tryz.prog 11 #[.int .i64 (o : Int), .string s] w fun e w' => e = .returned (.bool (decide ((parseM (o : Int) s.data.toList).2 ≠ 1))) ∧ Below w.heap.size w w' := by
  have HP := Lib.hid (fun w => parse0_any o s w ho hs hz ha)
  have hsz : (parseM (o : Int) s.data.toList).1.size = 384 := by
    unfold parseM
    split
    · dsimp only; exact noFields_size
    · exact plainM_size _ _
  have hone : (parseM (o : Int) s.data.toList).1.all (·.oneCell') = true := by
    unfold parseM
    split
    · dsimp only; exact noFields_one
    · exact plainM_one _ _
  have HSZ := Lib.hid (meanArr_size false 0 _ false hsz)
  have HON := Lib.hid (meanArr_one false 0 _ false hone)
  clear hz ha hsz hone
  generalize parseM (o : Int) s.data.toList = R at HP HSZ HON ⊢
  obtain ⟨R1, R2⟩ := R
  dsimp only at HSZ HON ⊢
  have HQ : Hid (((R2 : Int) != 1) = decide (R2 ≠ 1)) := Lib.hid (by rw [Bool.eq_iff_iff, bne_iff_ne, decide_eq_true_eq]; omega)
  generalize decide (R2 ≠ 1) = b at HQ ⊢
  have hq := HQ.out
  go_enter Tryz.func11, Tryz.ntmps11
  go_wp2_with (first
    | (go_at_call 21; (with_reducible refine (HP.out _).mono ?_); rintro e w1 ⟨he, hb1⟩; obtain rfl := he; have HB1 := Lib.hid hb1; have HM := Lib.hid (Blk.new w1 (meanArr false 0 noFields false) 59); clear hb1)
    | (with_reducible refine wpList_alloc_mean rfl rfl ?_)
    | (with_reducible refine wpList_store_mean rfl (.tmp 5) (.tmp 11) rfl w1.heap.size _ (meanArr false 0 R1 false) mean0 HSZ.out HON.out rfl rfl HM.out ?_))
  go_ret
  exact ⟨rfl, below_row (HB1.out.alloc HB1.out.size _) HB1.out.size _⟩

end Go.Proofs.YtmnjmhlodbifjaaGreatDoor.ParseCron
