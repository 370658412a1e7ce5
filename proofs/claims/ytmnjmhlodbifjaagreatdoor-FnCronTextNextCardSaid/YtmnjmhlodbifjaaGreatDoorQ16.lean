/- The reference's CronSix. Conditions: six texts of at most 65536 bytes each. · The reference's CronMeaning as 387 cells: its making, storing and loading. Conditions: none. -/
import Derived.Test.YtmnjmhlodbifjaaGreatDoorQ15
import Derived.Test.YtmnjmhlodbifjaaGreatDoorQ14
import Derived.Test.YtmnjmhlodbifjaaGreatDoorQ4
import Derived.Deep.RegionHeld3
import Derived.Deep.DrawnRows
import Derived.Test.YtmnjmhlodbifjaaGreatDoorQ2
import Derived.Deep.DeepCutAuto

namespace Go.Proofs.YtmnjmhlodbifjaaGreatDoor.SpecSix
open Go Go.RowKit Go.Proofs.YtmnjmhlodbifjaaGreatDoor.Mem Go.Proofs.YtmnjmhlodbifjaaGreatDoor.Aid Go.Proofs.YtmnjmhlodbifjaaGreatDoor.Set Go.Proofs.YtmnjmhlodbifjaaGreatDoor.Fields Go.Proofs.YtmnjmhlodbifjaaGreatDoor.NumPure Go.Proofs.YtmnjmhlodbifjaaGreatDoor.SplitPure Go.Proofs.YtmnjmhlodbifjaaGreatDoor.Kind Go.Proofs.YtmnjmhlodbifjaaGreatDoor.FillPure Go.Proofs.YtmnjmhlodbifjaaGreatDoor.FillA Go.Proofs.YtmnjmhlodbifjaaGreatDoor.PlainPure Go.Proofs.YtmnjmhlodbifjaaGreatDoor.NameRel Go.Proofs.YtmnjmhlodbifjaaGreatDoor.SpecEnds Go.Proofs.YtmnjmhlodbifjaaGreatDoor.SpecItem Go.Proofs.YtmnjmhlodbifjaaGreatDoor.SpecField Go.Proofs.YtmnjmhlodbifjaaGreatDoor.SpecName Go.Proofs.YtmnjmhlodbifjaaGreatDoor.Big
set_option linter.unusedVariables false
attribute [local go_sem ↓] Go.wp_at_zero Go.wp_at_succ
theorem value_at (k : Nat) (hk : k ≤ 5) : ValueAt (k : Int) (svalOf k) := by
  refine ⟨sval_le k, fun s w hs => ?_⟩
  unfold svalOf
  by_cases h4 : k = 4
  · subst h4
    exact (value_month s w hs).mono fun e w' h => ⟨h.1, by obtain ⟨n, rfl⟩ := h.2; exact drewNd (Below.refl _ _) _⟩
  · by_cases h5 : k = 5
    · subst h5
      exact (value_day s w hs).mono fun e w' h => ⟨h.1, by obtain ⟨n, rfl⟩ := h.2; exact drewNd (Below.refl _ _) _⟩
    · rw [if_neg h4, if_neg h5]
      exact (value_plain (k : Int) (beq_eq_false_iff_ne.2 (by omega)) (beq_eq_false_iff_ne.2 (by omega))).2 s w hs
theorem field_k (k : Nat) (hk : k ≤ 5) (s : ByteArray) (w : World) (hs : s.size ≤ 65536) :
    Calls Tryz.prog 116 #[.agg #[.int .i64 (lowOf k : Int), .int .i64 (highOf k : Int), .int .i64 (k : Int)], .string s] w fun e w' => ItemRes (sfieldOf k s.data.toList) e ∧ Below w.heap.size w w' := by
  have hlh := low_high5 k hk
  refine SpecField.field_any s (lowOf k) (highOf k) (k : Int) (k == 3 || k == 5) (svalOf k) w (by omega) hlh.2 hs ?_ (value_at k hk)
  rw [Bool.eq_iff_iff]
  simp only [Bool.or_eq_true, beq_iff_eq]
  omega
def stL (L : List (List UInt8)) (n k : Nat) : Bool := decide (k < n) && (sfieldOf k (L.getD k [])).1.1
def fLs (L : List (List UInt8)) (n k : Nat) (v : Nat) : Bool := decide (k < n) && (sfieldOf k (L.getD k [])).1.2 v
theorem allocS_eq : Instr.alloc 55 true (.tuple #[]) = allocB 55 := rfl
theorem loadS_eq (a : Value) : Instr.loadAt 55 a = loadB 55 a := rfl
theorem storeS_eq (a v : Value) : Instr.storeAt 55 a v = storeB 55 a v := rfl
theorem infoS (s : Bool) (f : Nat → Bool) : (Tryz.prog.info? 55).map (·.size) = some (setArr s f).size := by rw [setArr_size]; exact sizeInfo
theorem allocS (w : World) : (allocB 55).run Tryz.prog w = .ok (.pointer (some ⟨w.heap.size, 0, none⟩)) (w.alloc (.cells (setArr false fun _ => false) 55)) := allocB_run Set.zeroRun w
theorem storeS_new (w : World) (E : TypeId) (s : Bool) (f : Nat → Bool) : (storeB 55 (.pointer (some ⟨w.heap.size, 0, none⟩)) (.agg (setArr s f))).run Tryz.prog (w.alloc (.cells (setArr false fun _ => false) E)) = .ok () (w.alloc (.cells (setArr s f) E)) :=
  storeB_new (infoS s f) (by rw [setArr_size, setArr_size]) (setArr_one _ _) w E
theorem loadS {w : World} {b : Nat} {s : Bool} {f : Nat → Bool} (h : Blk w b (setArr s f)) : (loadB 55 (.pointer (some ⟨b, 0, none⟩))).run Tryz.prog w = .ok (.agg (setArr s f)) w := by
  obtain ⟨E, h⟩ := h
  exact loadB_row Tryz.underlying55 rfl (infoS s f) h
theorem storeS_at {w : World} {b k : Nat} {st : Nat → Bool} {f : Nat → Nat → Bool} (h : FldAt w b st f) (hk : k < 6) (s : Bool) (g : Nat → Bool) :
    (storeB 55 (.pointer (some ⟨b, k * 64, none⟩)) (.agg (setArr s g))).run Tryz.prog w = .ok () (w.setCells b (k * 64) (setArr s g).toList) := by
  unfold storeB
  exact run_storeAt_mid w b (k * 64) _ (setArr s g) (by rw [setArr_size]; exact h.there _ _ (by omega)) (infoS s g) (setArr_one _ _)
theorem storeS_old {w : World} {b : Nat} (h : Blk w b (setArr false fun _ => false)) (s : Bool) (f : Nat → Bool) : (storeB 55 (.pointer (some ⟨b, 0, none⟩)) (.agg (setArr s f))).run Tryz.prog w = .ok () (w.setRow b (setArr s f)) := by
  obtain ⟨E, h⟩ := h
  exact storeB_row (infoS s f) (by rw [setArr_size, setArr_size]) (setArr_one _ _) h
attribute [local go_sem ↓] allocS_eq loadS_eq storeS_eq
theorem builtZeroF : Tryz.prog.built 57 [] = some (fldArr (fun _ => false) fun _ _ => false) := by kernel_rfl
theorem wpList_build_fields {ops : Array Oper} {rest : List Oper} {o : Oper} {a : Act} {w : World} {Q : Exit → Act → World → Prop} (hg : o.guard = none) (ho : o.op = .build 57 #[])
    (h : wpList Tryz.prog ops Q rest (a.put o.dst (.agg (fldArr (fun _ => false) fun _ _ => false))) w) : wpList Tryz.prog ops Q (o :: rest) a w := by
  refine wpList_build hg 57 #[] ho (by simp [builtZeroF]) ?_
  simpa [builtZeroF] using h
theorem results_fields_tmp {fn : Func} {p t : Tmp} (h : fn.results = #[.cell p 57, .tmp t]) (tmps : Array Value) (w : World) (b : Nat) (st : Nat → Bool) (f : Nat → Nat → Bool)
    (hp : tmps.getD p undef = .pointer (some ⟨b, 0, none⟩)) (hb : FldAt w b st f) :
    (results fn tmps).run Tryz.prog w = .ok (.tuple #[.agg (fldArr st f), tmps.getD t undef]) w := by
  have hp' : tmps[p]?.getD undef = .pointer (some ⟨b, 0, none⟩) := by simpa using hp
  have h2 := run_loadVar_mid (P := Tryz.prog) w b 0 57 (fldArr st f).toList _ hb.range Tryz.underlying57 rfl (by simp [fldArr_size, sizeInfoF])
  simp [results, h, hp', asAddr, h2]
theorem stL_next (L : List (List UInt8)) (n : Nat) : updK (stL L n) n (sfieldOf n (L.getD n [])).1.1 = stL L (n + 1) := by
  funext k
  unfold updK stL
  by_cases h : k = n
  · subst h; simp
  · rw [if_neg h]
    have : decide (k < n + 1) = decide (k < n) := by simp; omega
    rw [this]
theorem fLs_next (L : List (List UInt8)) (n : Nat) : updK (fLs L n) n (sfieldOf n (L.getD n [])).1.2 = fLs L (n + 1) := by
  funext k
  unfold updK
  by_cases h : k = n
  · subst h; rw [if_pos rfl]; funext v; simp [fLs]
  · rw [if_neg h]
    funext v
    unfold fLs
    have : decide (k < n + 1) = decide (k < n) := by simp; omega
    rw [this]
theorem st_zero (L : List (List UInt8)) : stL L 0 = fun _ => false := by funext k; simp [stL]
theorem f_zero (L : List (List UInt8)) : fLs L 0 = fun _ _ => false := by funext k v; simp [fLs]
def SixRes (L : List (List UInt8)) (e : Ending) : Prop :=
  if sixV L 6 = 1 then e = .returned (.tuple #[.agg (fldArr (stL L 6) (fLs L 6)), .int .i64 1])
  else e = .returned (.tuple #[.agg (fldArr (fun _ => false) fun _ _ => false), .int .i64 (sixV L 6 : Int)])
def Kept (w0 w : World) (g : Nat) (fL : Nat → ByteArray) (L : List (List UInt8)) (k n : Nat) : Prop :=
  Below w0.heap.size w0 w ∧ RowAt w g fL ∧ g < w0.heap.size ∧ FldAt w w0.heap.size (fun _ => false) (fun _ _ => false) ∧ FldAt w (w0.heap.size + 1) (stL L k) (fLs L k) ∧ n = sixV L k
set_option maxHeartbeats 4000000 in
set_option maxRecDepth 100000 in
theorem six_any (g : Nat) (fL : Nat → ByteArray) (L : List (List UInt8)) (w : World) (hrow : RowAt w g fL) (hL : ∀ k, L.getD k [] = (fL k).data.toList) (hs : ∀ k, (fL k).size ≤ 65536) :
    Calls Tryz.prog 84 #[.slice (some ⟨g, 0, none⟩) 6 6] w fun e w' => SixRes L e ∧ Below w.heap.size w w' := by
  have hK : Kept w ((w.alloc (.cells (fldArr (fun _ => false) fun _ _ => false) 57)).alloc (.cells (fldArr (fun _ => false) fun _ _ => false) 57)) g fL L 0 1 := by
    have hb : Below w.heap.size w ((w.alloc (.cells (fldArr (fun _ => false) fun _ _ => false) 57)).alloc (.cells (fldArr (fun _ => false) fun _ _ => false) 57)) := ((Below.refl _ w).alloc (Nat.le_refl _) _).alloc (by simp) _
    refine ⟨hb, hrow.below hb hrow.lt, hrow.lt, ?_, ?_, rfl⟩
    · exact (FldAt.new w _ _).below (Below.alloc (Below.refl (w.heap.size + 1) _) (by simp) _) (by omega)
    · rw [st_zero, f_zero]
      have := FldAt.new (w.alloc (.cells (fldArr (fun _ => false) fun _ _ => false) 57)) (fun _ => false) (fun _ _ => false)
      simpa using this
  have HK := Lib.hid hK
  have HS := Lib.hid hs
  have HL := Lib.hid hL
  have hgw := hrow.lt
  clear hrow hs hL hK
  go_enter Tryz.func84, Tryz.ntmps84
  go_wp2_with (with_reducible refine wpList_alloc_fields rfl rfl ?_)
  go_loopw [5, 9] (fun v i wr => ∃ k n : Nat, i = .int .i64 (k : Int) ∧ v = .int .i64 (n : Int) ∧ k ≤ 6 ∧ Hid (Kept w wr g fL L k n)) (fun _ i _ => (6 - intOf i).toNat)
  case atStart => exact ⟨0, 1, rfl, rfl, by omega, HK⟩
  case round =>
    clear HK
    obtain ⟨k, n, rfl, rfl, hk, HB⟩ := hrel
    by_cases h6 : k < 6
    · have h6i : (k : Int) < 6 := by omega
      have hn2 : n ≤ 2 := by have := HB.out.2.2.2.2.2; rw [this]; exact sixV_le L k hk
      have HKS : Hid (∀ X, Below wr.heap.size wr X → X.cell? ⟨g, k, none⟩ = some (.string (fL k))) := Lib.hid (fun X hX => (HB.out.2.1.below hX HB.out.2.1.lt).cell k h6)
      have HBO := Lib.hid (fun w => boundsOf_any k w (by omega))
      have HFK := Lib.hid (fun w => field_k k (by omega) (fL k) w (HS.out k))
      have hsv := sfield_le k (by omega) (fL k).data.toList
      obtain ⟨r, hr⟩ : ∃ r, sfieldOf k (fL k).data.toList = r := ⟨_, rfl⟩
      rw [hr] at HFK hsv
      have HR : Hid (sfieldOf k (L.getD k []) = r) := Lib.hid (by rw [HL.out, hr])
      clear hr
      have hal := allocS
      have hsn := storeS_new
      obtain ⟨⟨s1, f1⟩, v1⟩ := r
      simp only at hsv
      go_upto_region 6 with fail
      go_cut [7, 8] (fun s7 s8 wx => s8 = .int .i64 (v1 : Int) ∧ ∃ b : Nat, s7 = .pointer (some ⟨b, 0, none⟩) ∧ Hid (wr.heap.size ≤ b ∧ Below wr.heap.size wr wx ∧ Blk wx b (setArr s1 f1)))
      case first =>
        go_region_held3 (fun X => X.cell? ⟨g, k, none⟩ = some (.string (fL k))) (exact HKS.out _ (by repeat (first | exact Below.refl _ _ | assumption | refine Below.drew ?_ | refine allocd ?_ _ | refine rowd ?_ (by first | exact Nat.le_refl _ | exact Below.size (by assumption)) _)))
          ((first
            | (go_at_call 117; (with_reducible refine (HBO.out _).mono ?_); rintro e y ⟨rfl, hby0⟩; have hby := chain (V := wr) (by repeat (first | exact Below.refl _ _ | assumption | refine Below.drew ?_ | refine allocd ?_ _ | refine rowd ?_ (by first | exact Nat.le_refl _ | exact Below.size (by assumption)) _)) hby0; (first | have gA := one_afterd hby0 | have gA := (one_after hby0 : Blk y wr.heap.size (setArr false fun _ => false)) | skip); have hby1 := Lib.hid hby0; clear hby0)
            | (go_at_call 116; (with_reducible refine (HFK.out _).mono ?_); rintro e z ⟨he, hbz0⟩; obtain rfl := he; have hbz := chain (V := wr) (by repeat (first | exact Below.refl _ _ | assumption | refine Below.drew ?_ | refine allocd ?_ _ | refine rowd ?_ (by first | exact Nat.le_refl _ | exact Below.size (by assumption)) _)) hbz0; (first | have gB := one_after hbz0 | have gB := Blk.after gA hbz0 | skip); (first | have hso := storeS_old gB s1 f1 | skip))))
        all_goals
          go_wp2_with fail
          go_meet
          case rel =>
            refine ⟨rfl, _, rfl, Lib.hid ?_⟩
            first
              | exact ⟨hbz.size, hbz.alloc hbz.size _, Blk.new _ _ _⟩
              | exact ⟨hby.size, rowd hbz hby.size _, blk_row gB _⟩
              | exact ⟨Nat.le_refl _, rowd hbz (Nat.le_refl _) _, blk_row gB _⟩
      case rest =>
        obtain ⟨rfl, b7, rfl, HC⟩ := hcut
        clear HKS HBO HFK hal hsn
        have hF5 : FldAt wc (w.heap.size + 1) (stL L k) (fLs L k) := HB.out.2.2.2.2.1.below HC.out.2.1 HB.out.2.2.2.2.1.lt
        have hl1 := loadS HC.out.2.2
        have hl2 : (loadB 55 (.pointer (some ⟨b7, 0, none⟩))).run Tryz.prog wc.drew = .ok (.agg (setArr s1 f1)) wc.drew := loadS HC.out.2.2.drew
        have hs1 := storeS_at hF5 h6 s1 f1
        have hs2 := storeS_at (w := wc.drew) (hF5.below (Below.refl _ wc).drew hF5.lt) h6 s1 f1
        have HF5 := Lib.hid hF5
        have hl3 := loadS (blk_cells (b := w.heap.size + 1) (o := k * 64) HC.out.2.2.drew (by have := HC.out.1; have := HB.out.2.2.2.2.1.lt; omega) (setArr s1 f1).toList)
        have HL1 := Lib.hid (And.intro hl1 (And.intro hl2 hl3))
        have HWO := Lib.hid (fun w => worse_any n v1 w hn2 hsv)
        have HKP : Hid (Kept w ((wc.drew).setCells (w.heap.size + 1) (k * 64) (setArr s1 f1).toList) g fL L (k + 1) (worseN n v1)) := Lib.hid (by
          obtain ⟨q1, q2, q3, q4, q5, q6⟩ := HB.out
          have e1 : Below w.heap.size w wc := q1.trans (HC.out.2.1.mono q1.size)
          have e2 : Below (w.heap.size + 1) wc ((wc.drew).setCells (w.heap.size + 1) (k * 64) (setArr s1 f1).toList) := below_setCells _ (Below.refl _ wc).drew (Nat.le_refl _)
          refine ⟨e1.trans (e2.mono (by omega)), (q2.below HC.out.2.1 q2.lt).below e2 (by omega), q3, (q4.below HC.out.2.1 q4.lt).below e2 (by omega), ?_, ?_⟩
          · have := (HF5.out.below (Below.refl (w.heap.size + 2) wc).drew (by omega)).put k h6 s1 f1
            have r1 : (sfieldOf k (L.getD k [])).1.1 = s1 := by rw [HR.out]
            have r2 : (sfieldOf k (L.getD k [])).1.2 = f1 := by rw [HR.out]
            rw [← stL_next, ← fLs_next, r1, r2]
            exact this
          · rw [q6, show sixV L (k + 1) = worseN (sixV L k) (sfieldOf k (L.getD k [])).2 from rfl, HR.out])
        clear hF5 hl1 hl2 hl3
        go_wp2_with fail
        go_region_held3 (fun X => (loadB 55 (.pointer (some ⟨b7, 0, none⟩))).run Tryz.prog X = .ok (.agg (setArr s1 f1)) X) (first | (with_reducible exact HL1.out.2.1) | (with_reducible exact HL1.out.2.2) | (with_reducible exact HL1.out.1))
          ((go_at_call 46; (with_reducible refine (HWO.out _).mono ?_); rintro e y ⟨rfl, rfl⟩))
        all_goals
          go_wp2_with fail
          refine ⟨⟨k + 1, _, by go_num, rfl, by omega, HKP⟩, by simp [intOf]; omega⟩
    · obtain rfl : k = 6 := by omega
      obtain ⟨q1, q2, q3, q4, q5, q6⟩ := HB.out
      have HQ4 := Lib.hid q4
      have HQ5 := Lib.hid q5
      have HQ1 := Lib.hid q1
      have HN := Lib.hid q6
      clear q1 q2 q3 q4 q5 q6
      by_cases hn : n = 1
      · subst hn
        go_wp2_with (first
          | (with_reducible refine wpList_load_fields rfl (.tmp 4) rfl (w.heap.size + 1) (stL L 6) (fLs L 6) rfl HQ5.out ?_)
          | (with_reducible refine wpList_store_all rfl (.tmp 2) (.tmp 33) rfl w.heap.size (fun _ => false) (fun _ _ => false) (stL L 6) (fLs L 6) rfl rfl HQ4.out ?_))
        refine bodyPost_ret (results_fields_tmp rfl _ _ w.heap.size (stL L 6) (fLs L 6) rfl (putAll HQ4.out _ _)) rfl ⟨?_, below_setCells _ HQ1.out (Nat.le_refl _)⟩
        unfold SixRes
        rw [← HN.out, if_pos rfl]
        rfl
      · have hq : ((n : Int) != 1) = true := by rw [bne_iff_ne]; omega
        go_wp2_with (first
          | (with_reducible refine wpList_build_fields rfl rfl ?_)
          | (with_reducible refine wpList_store_all rfl (.tmp 2) (.tmp 31) rfl w.heap.size (fun _ => false) (fun _ _ => false) (fun _ => false) (fun _ _ => false) rfl rfl HQ4.out ?_))
        refine bodyPost_ret (results_fields_tmp rfl _ _ w.heap.size (fun _ => false) (fun _ _ => false) rfl (putAll HQ4.out _ _)) rfl ⟨?_, below_setCells _ HQ1.out (Nat.le_refl _)⟩
        unfold SixRes
        rw [← HN.out, if_neg hn]
        rfl
end Go.Proofs.YtmnjmhlodbifjaaGreatDoor.SpecSix
namespace Go.Proofs.YtmnjmhlodbifjaaGreatDoor.Meaning
open Go Go.RowKit Go.Proofs.YtmnjmhlodbifjaaGreatDoor.Mem Go.Proofs.YtmnjmhlodbifjaaGreatDoor.Aid Go.Proofs.YtmnjmhlodbifjaaGreatDoor.Set Go.Proofs.YtmnjmhlodbifjaaGreatDoor.Fields Go.Proofs.YtmnjmhlodbifjaaGreatDoor.Big
set_option linter.unusedVariables false
def meanArr (ev : Bool) (d : Int) (cs : Array Value) (utc : Bool) : Array Value := (.bool ev :: .int .i64 d :: (cs.toList ++ [.bool utc])).toArray
def noFields : Array Value := fldArr (fun _ => false) fun _ _ => false
theorem noFields_size : noFields.size = 384 := fldArr_size _ _
theorem meanArr_size (ev : Bool) (d : Int) (cs : Array Value) (utc : Bool) (h : cs.size = 384) : (meanArr ev d cs utc).size = 387 := by unfold meanArr; simp [h]
theorem meanArr_one (ev : Bool) (d : Int) (cs : Array Value) (utc : Bool) (h : cs.all (·.oneCell') = true) : (meanArr ev d cs utc).all (·.oneCell') = true := by
  rw [Array.all_eq_true_iff_forall_mem] at h ⊢
  intro x hx
  unfold meanArr at hx
  simp only [List.mem_toArray, List.mem_cons, List.mem_append, Array.mem_toList_iff, List.not_mem_nil, or_false] at hx
  rcases hx with rfl | rfl | hx | rfl
  · rfl
  · rfl
  · exact h x hx
  · rfl
theorem mean_ev (ev : Bool) (d : Int) (cs : Array Value) (utc : Bool) : (meanArr ev d cs utc)[0]? = some (.bool ev) := rfl
theorem mean_delay (ev : Bool) (d : Int) (cs : Array Value) (utc : Bool) : (meanArr ev d cs utc)[1]? = some (.int .i64 d) := rfl
theorem mean_at (ev : Bool) (d : Int) (cs : Array Value) (utc : Bool) (i : Nat) : (meanArr ev d cs utc)[2 + i]? = (cs.toList ++ [.bool utc])[i]? := by
  unfold meanArr
  rw [List.getElem?_toArray, show 2 + i = i + 1 + 1 by omega, List.getElem?_cons_succ, List.getElem?_cons_succ]
theorem mean_utc (ev : Bool) (d : Int) (cs : Array Value) (utc : Bool) (h : cs.size = 384) : (meanArr ev d cs utc)[386]? = some (.bool utc) := by
  rw [show 386 = 2 + 384 from rfl, mean_at, List.getElem?_append_right (by simp [h])]
  simp [h]
theorem mean_field (ev : Bool) (d : Int) (cs : Array Value) (utc : Bool) (h : cs.size = 384) (i : Nat) (hi : i < 384) : (meanArr ev d cs utc)[2 + i]? = cs[i]? := by
  rw [mean_at, List.getElem?_append_left (by simp [h]; omega)]
  simp
theorem mean_set_utc (ev : Bool) (d : Int) (cs : Array Value) (u v : Bool) (h : cs.size = 384) : (meanArr ev d cs u).setIfInBounds 386 (.bool v) = meanArr ev d cs v := by
  apply Array.ext_getElem?
  intro i
  rw [Array.getElem?_setIfInBounds]
  by_cases hi : 386 = i
  · subst hi
    rw [if_pos rfl, if_pos (by rw [meanArr_size _ _ _ _ h]; omega), mean_utc _ _ _ _ h]
  · rw [if_neg hi]
    rcases i with _ | _ | i
    · rfl
    · rfl
    · rw [show i + 1 + 1 = 2 + i by omega]
      by_cases h2 : i < 384
      · rw [mean_field _ _ _ _ h _ h2, mean_field _ _ _ _ h _ h2]
      · rw [Array.getElem?_eq_none (by rw [meanArr_size _ _ _ _ h]; omega), Array.getElem?_eq_none (by rw [meanArr_size _ _ _ _ h]; omega)]
theorem foldl_set (cs : List Value) : ∀ (k off : Nat) (z : Array Value) (i : Nat), ((cs.zipIdx k).foldl (fun a x => a.setIfInBounds (off + x.2) x.1) z)[i]? = if off + k ≤ i ∧ i < off + k + cs.length ∧ i < z.size then cs[i - (off + k)]? else z[i]? := by
  induction cs with
  | nil => intro k off z i; rw [if_neg (by simp; omega)]; rfl
  | cons c r ih =>
    intro k off z i
    rw [List.zipIdx_cons, List.foldl_cons, ih (k + 1) off _ i, Array.size_setIfInBounds, Array.getElem?_setIfInBounds]
    simp only [List.length_cons]
    by_cases h1 : off + k = i
    · subst h1
      rw [if_neg (by omega), if_pos rfl, Nat.sub_self]
      by_cases h2 : off + k < z.size
      · rw [if_pos h2, if_pos (by omega)]; rfl
      · rw [if_neg h2, if_neg (by omega), Array.getElem?_eq_none (by omega)]
    · rw [if_neg h1]
      by_cases h2 : off + k ≤ i ∧ i < off + k + (r.length + 1) ∧ i < z.size
      · rw [if_pos (by omega), if_pos h2]
        rw [show i - (off + k) = i - (off + (k + 1)) + 1 by omega, List.getElem?_cons_succ]
      · rw [if_neg (by omega), if_neg h2]
theorem mean_splice (ev : Bool) (d : Int) (old cs : Array Value) (utc : Bool) (ho : old.size = 384) (h : cs.size = 384) : cs.toList.zipIdx.foldl (fun a x => a.setIfInBounds (2 + x.2) x.1) (meanArr ev d old utc) = meanArr ev d cs utc := by
  apply Array.ext_getElem?
  intro i
  rw [foldl_set, meanArr_size _ _ _ _ ho]
  by_cases hc : 2 + 0 ≤ i ∧ i < 2 + 0 + cs.toList.length ∧ i < 387
  · rw [if_pos hc]
    obtain ⟨j, rfl⟩ : ∃ j, i = 2 + j := ⟨i - 2, by omega⟩
    have hl : cs.toList.length = 384 := by simp [h]
    rw [mean_field _ _ _ _ h _ (by omega), show 2 + j - (2 + 0) = j by omega]
    simp
  · rw [if_neg hc]
    have hl : cs.toList.length = 384 := by simp [h]
    rcases i with _ | _ | i
    · rfl
    · rfl
    · by_cases h2 : i = 384
      · subst h2
        rw [show 384 + 1 + 1 = 386 from rfl, mean_utc _ _ _ _ ho, mean_utc _ _ _ _ h]
      · rw [Array.getElem?_eq_none (by rw [meanArr_size _ _ _ _ ho]; omega), Array.getElem?_eq_none (by rw [meanArr_size _ _ _ _ h]; omega)]
theorem zeroRunM (w : World) : (zeroValue 59).run Tryz.prog w = .ok (.agg (meanArr false 0 noFields false)) w := by kernel_rfl
theorem sizeInfoM : (Tryz.prog.info? 59).map (·.size) = some 387 := by kernel_rfl
theorem builtZeroM : Tryz.prog.built 59 [] = some (meanArr false 0 noFields false) := by kernel_rfl
theorem built_fill (v : Value) : Tryz.prog.built 59 [(2, v)] = Instr.fill (fun i => #[(0, 1), (1, 1), (2, 384), (386, 1)][i]?) (meanArr false 0 noFields false) [(2, v)] := by kernel_rfl
theorem built_delay (d : Int) : Tryz.prog.built 59 [(0, .bool true), (1, .int .i64 d)] = some (meanArr true d noFields false) := by kernel_rfl
theorem built_fields (cs : Array Value) (h : cs.size = 384) : Tryz.prog.built 59 [(2, .agg cs)] = some (meanArr false 0 cs false) := by
  rw [built_fill]
  unfold Instr.fill
  simp only [List.getElem?_toArray, List.getElem?_cons_succ, List.getElem?_cons_zero]
  have hs : (Value.agg cs).cells.size = 384 := h
  rw [if_neg (by rw [hs, meanArr_size _ _ _ _ noFields_size]; simp)]
  unfold Instr.fill
  congr 1
  have := mean_splice false 0 noFields cs false noFields_size h
  rw [← this, ← Array.foldl_toList, Array.toList_zipIdx]
  rfl
section
variable {ops : Array Oper} {rest : List Oper} {o : Oper} {a : Act} {w : World} {Q : Exit → Act → World → Prop}
theorem wpList_alloc_mean (hg : o.guard = none) (ho : o.op = .alloc 59)
    (h : wpList Tryz.prog ops Q rest (a.put o.dst (.pointer (some ⟨w.heap.size, 0, none⟩))) (w.alloc (.cells (meanArr false 0 noFields false) 59))) : wpList Tryz.prog ops Q (o :: rest) a w := by
  refine wpList_plain hg fun K hK => ?_
  unfold Oper.wp execOp
  simp only [ho, Instr.alloc, Sem.run_bind, zeroRunM, Result.andThen_ok, newVar, newRow, Value.cells, run_newObj_alloc, Sem.run_pure]
  exact hK _ _ h
theorem wpList_build_mean (hg : o.guard = none) (ho : o.op = .build 59 #[])
    (h : wpList Tryz.prog ops Q rest (a.put o.dst (.agg (meanArr false 0 noFields false))) w) : wpList Tryz.prog ops Q (o :: rest) a w := by
  refine wpList_build hg 59 #[] ho (by simp [builtZeroM]) ?_
  simpa [builtZeroM] using h
theorem wpList_build_sets (hg : o.guard = none) (x : Operand) (ho : o.op = .build 59 #[(2, x)]) (cs : Array Value) (hx : a.eval x = .agg cs) (hs : cs.size = 384)
    (h : wpList Tryz.prog ops Q rest (a.put o.dst (.agg (meanArr false 0 cs false))) w) : wpList Tryz.prog ops Q (o :: rest) a w := by
  refine wpList_build hg 59 #[(2, x)] ho (by simp [hx, built_fields cs hs]) ?_
  simpa [hx, built_fields cs hs] using h
theorem wpList_store_mean (hg : o.guard = none) (x y : Operand) (ho : o.op = .store 59 x y) (b : Nat) (old cs : Array Value) (hold : old.size = 387) (hcs : cs.size = 387) (h1 : cs.all (·.oneCell') = true)
    (hx : a.eval x = .pointer (some ⟨b, 0, none⟩)) (hy : a.eval y = .agg cs) (hb : Blk w b old)
    (h : wpList Tryz.prog ops Q rest (a.put o.dst undef) (w.setRow b cs)) : wpList Tryz.prog ops Q (o :: rest) a w := by
  obtain ⟨E, hb⟩ := hb
  exact wpList_store_row hg 59 x y ho b cs hx hy _ old hb (by rw [hcs]; exact sizeInfoM) (by rw [hold, hcs]) h1 h
theorem wpList_load_mean (hg : o.guard = none) (x : Operand) (ho : o.op = .load 59 x) (b : Nat) (cs : Array Value) (hcs : cs.size = 387)
    (hx : a.eval x = .pointer (some ⟨b, 0, none⟩)) (hb : Blk w b cs)
    (h : wpList Tryz.prog ops Q rest (a.put o.dst (.agg cs)) w) : wpList Tryz.prog ops Q (o :: rest) a w := by
  obtain ⟨E, hb⟩ := hb
  exact wpList_load_row hg 59 x ho b hx _ cs (0, 0) _ hb Tryz.underlying59 rfl (by rw [hcs]; exact sizeInfoM) h
theorem wpList_box_mean (hg : o.guard = none) (x : Operand) (ho : o.op = .box 59 x) (cs : Array Value)
    (hx : a.eval x = .agg cs)
    (h : wpList Tryz.prog ops Q rest (a.put o.dst (.pointer (some ⟨w.heap.size, 0, none⟩))) (w.alloc (.cells cs 59))) : wpList Tryz.prog ops Q (o :: rest) a w := by
  refine wpList_plain hg fun K hK => ?_
  unfold Oper.wp execOp
  simp only [ho, hx, Instr.box, Sem.run_bind, newVar, newRow, Value.cells, run_newObj_alloc, Sem.run_pure, Result.andThen_ok]
  exact hK _ _ h
end
theorem results_mean_tmp {fn : Func} {p t : Tmp} (h : fn.results = #[.cell p 59, .tmp t]) (tmps : Array Value) (w : World) (b : Nat) (cs : Array Value) (hcs : cs.size = 387)
    (hp : tmps.getD p undef = .pointer (some ⟨b, 0, none⟩)) (hb : Blk w b cs) :
    (results fn tmps).run Tryz.prog w = .ok (.tuple #[.agg cs, tmps.getD t undef]) w := by
  have hp' : tmps[p]?.getD undef = .pointer (some ⟨b, 0, none⟩) := by simpa using hp
  obtain ⟨E, hb⟩ := hb
  simp [results, h, hp', asAddr, run_loadVar_row w b _ 59 cs (0, 0) _ hb Tryz.underlying59 rfl (by rw [hcs]; exact sizeInfoM)]
end Go.Proofs.YtmnjmhlodbifjaaGreatDoor.Meaning
