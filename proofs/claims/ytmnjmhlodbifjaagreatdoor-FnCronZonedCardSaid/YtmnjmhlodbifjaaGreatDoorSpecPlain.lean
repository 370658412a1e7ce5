/- The reference's cronPlain at texts that do not begin with an at sign. Conditions: options below 512, texts of at most 65536 bytes. -/
import Derived.Test.YtmnjmhlodbifjaaGreatDoorSpecSix
import Derived.Test.YtmnjmhlodbifjaaGreatDoorMeaning
import Derived.Test.YtmnjmhlodbifjaaGreatDoorWordsU
import Derived.Test.YtmnjmhlodbifjaaGreatDoorNorm
import Derived.Test.YtmnjmhlodbifjaaGreatDoorHead
namespace Go.Proofs.YtmnjmhlodbifjaaGreatDoor.SpecPlain
open Go Go.RowKit Go.Proofs.YtmnjmhlodbifjaaGreatDoor.Mem Go.Proofs.YtmnjmhlodbifjaaGreatDoor.Aid Go.Proofs.YtmnjmhlodbifjaaGreatDoor.Set Go.Proofs.YtmnjmhlodbifjaaGreatDoor.Fields Go.Proofs.YtmnjmhlodbifjaaGreatDoor.Big Go.Proofs.YtmnjmhlodbifjaaGreatDoor.Meaning Go.Proofs.YtmnjmhlodbifjaaGreatDoor.NumPure Go.Proofs.YtmnjmhlodbifjaaGreatDoor.SplitPure Go.Proofs.YtmnjmhlodbifjaaGreatDoor.Split Go.Proofs.YtmnjmhlodbifjaaGreatDoor.FillPure Go.Proofs.YtmnjmhlodbifjaaGreatDoor.FillA Go.Proofs.YtmnjmhlodbifjaaGreatDoor.FillSpec Go.Proofs.YtmnjmhlodbifjaaGreatDoor.PlainPure Go.Proofs.YtmnjmhlodbifjaaGreatDoor.NameRel Go.Proofs.YtmnjmhlodbifjaaGreatDoor.SpecName Go.Proofs.YtmnjmhlodbifjaaGreatDoor.SpecSix Go.Proofs.YtmnjmhlodbifjaaGreatDoor.Words Go.Proofs.YtmnjmhlodbifjaaGreatDoor.Head
set_option linter.unusedVariables false

/-- The sets and the verdict of six texts. -/
def sixM (L : List (List UInt8)) : Array Value × Nat := if sixV L 6 = 1 then (fldArr (stL L 6) (fLs L 6), 1) else (noFields, sixV L 6)
/-- The reference's reading of a text without descriptor. -/
def plainM (o : Int) (l : List UInt8) : Array Value × Nat :=
  if foreign l then (noFields, 2) else
  match fillOf o ((words l).map ofL) with
  | none => (noFields, 0)
  | some L => if words l = [] then (noFields, 2) else sixM (L.map fun s => s.data.toList)
theorem six_val {L : List (List UInt8)} {e : Ending} (h : SixRes L e) : ∃ st f, fldArr st f = (sixM L).1 ∧ e = .returned (.tuple #[.agg (fldArr st f), .int .i64 ((sixM L).2 : Int)]) := by
  unfold SixRes at h
  unfold sixM
  split at h
  · rename_i h1
    rw [if_pos h1]
    refine ⟨stL L 6, fLs L 6, ?_, h⟩
    dsimp only
  · rename_i h1
    rw [if_neg h1]
    refine ⟨fun _ => false, fun _ _ => false, ?_, h⟩
    dsimp only
    unfold noFields
    with_reducible rfl
theorem sixM_size (L : List (List UInt8)) : (sixM L).1.size = 384 := by
  by_cases h : sixV L 6 = 1
  · rw [show sixM L = (fldArr (stL L 6) (fLs L 6), 1) from if_pos h]; dsimp only; exact fldArr_size _ _
  · rw [show sixM L = (noFields, sixV L 6) from if_neg h]; dsimp only; exact noFields_size
theorem plainM_size (o : Int) (l : List UInt8) : (plainM o l).1.size = 384 := by
  unfold plainM
  split
  · dsimp only; exact noFields_size
  · split
    · dsimp only; exact noFields_size
    · split
      · dsimp only; exact noFields_size
      · exact sixM_size _
/-- What cronPlain hands back. -/
def MeanRes (r : Array Value × Nat) (e : Ending) : Prop := e = .returned (.tuple #[.agg (meanArr false 0 r.1 false), .int .i64 (r.2 : Int)])
theorem noFields_one : noFields.all (·.oneCell') = true := by unfold noFields; exact fldArr_one _ _
theorem mean0 : (meanArr false 0 noFields false).size = 387 := meanArr_size _ _ _ _ noFields_size
theorem mean0_one : (meanArr false 0 noFields false).all (·.oneCell') = true := meanArr_one _ _ _ _ noFields_one
/-- The words as texts in memory. -/
theorem texts_words {w : World} {B : Nat} {ws : List (List UInt8)} {v : Value} (hown : w.ownsRow B 9 1 v ws.length (Split.strs ws)) (hv : ws = [] → v = .slice none 0 0) :
    ∃ oa cap, v = .slice oa (ws.map ofL).length cap ∧ Texts w oa (ws.map ofL) := by
  by_cases h0 : ws = []
  · subst h0
    exact ⟨none, 0, hv rfl, Norm.texts_nil w⟩
  · obtain ⟨g, cap, rfl, hg⟩ := Norm.owned_shape hown (by cases ws; exact absurd rfl h0; simp)
    refine ⟨some ⟨g, 0, none⟩, cap, by simp, Norm.texts_of (B := B) (n := ws.length) (cap := cap) ?_⟩
    rw [show FillA.strs (ws.map ofL) = Split.strs ws by simp [FillA.strs, Split.strs]]
    exact hown
theorem lists_at (L : List ByteArray) (k : Nat) : (L.map fun s => s.data.toList).getD k [] = (L.getD k ⟨#[]⟩).data.toList := by
  rw [List.getD_eq_getElem?_getD, List.getD_eq_getElem?_getD, List.getElem?_map]
  cases L[k]? <;> rfl
theorem fill_size {o : Int} {fs L : List ByteArray} (h : ∀ p ∈ fs, p.size ≤ 65536) (hf : fillOf o fs = some L) (k : Nat) : (L.getD k ⟨#[]⟩).size ≤ 65536 := by
  unfold fillOf at hf
  cases hm : missOf o fs.length with
  | none => rw [hm] at hf; cases hf
  | some miss =>
    rw [hm] at hf
    cases hf
    rw [List.getD_eq_getElem?_getD]
    cases hc : (filled (without (takes o) miss) fs)[k]? with
    | none => exact Nat.zero_le _
    | some p =>
      have hm := List.mem_of_getElem? hc
      unfold filled at hm
      obtain ⟨j, _, rfl⟩ := List.mem_map.1 hm
      simp only [Option.getD_some]
      unfold at'
      split
      · rw [List.getD_eq_getElem?_getD]
        cases hd : fs[cnt (without (takes o) miss) j]? with
        | none => exact Nat.zero_le _
        | some q => exact h q (List.mem_of_getElem? hd)
      · unfold dflt; split <;> decide

set_option maxHeartbeats 4000000 in
set_option maxRecDepth 100000 in
theorem plain_any (o : Nat) (s : ByteArray) (w : World) (ho : o < 512) (hs : s.size ≤ 65536) (ha : starts [64] s.data.toList = false) :
    Calls Tryz.prog 42 #[.int .i64 (o : Int), .string s] w fun e w' => MeanRes (plainM (o : Int) s.data.toList) e ∧ Below w.heap.size w w' := by
  obtain ⟨f1, f2, f3, f4, f5, f6, f7, f8⟩ := opts_facts ⟨o, ho⟩
  simp only at f1 f2 f3 f4 f5 f6 f7 f8
  have hsm : s.size ≤ maxLen := by unfold maxLen; omega
  have H1 : Hid (∀ w, Calls Tryz.prog 50 #[.string s, .string ⟨#[64]⟩] w fun e w' => e = .returned (.bool false) ∧ w = w') := Lib.hid (fun w => by
    have := begins_any s ⟨#[64]⟩ w hsm (by decide); rwa [show (⟨#[64]⟩ : ByteArray).data.toList = [64] from rfl, ha] at this)
  have HF := Lib.hid (fun w => foreign_any s w hs)
  have HW := Lib.hid (fun w => SpecWords.words_any s w hs)
  have HFILL := Lib.hid (fun oa cap w (ht : Texts w oa ((words s.data.toList).map ofL)) => fill_any (o : Int) oa cap ((words s.data.toList).map ofL) w (by have := words_count s.data.toList; simp at this ⊢; omega) ht f2 f3 f6 f7)
  have HSZ := Lib.hid (fun L (hf : fillOf (o : Int) ((words s.data.toList).map ofL) = some L) k => fill_size (fun p hp => by obtain ⟨q, hq, rfl⟩ := List.mem_map.1 hp; have := words_size hq; rw [size_ofL]; simp at this; omega) hf k)
  have HM0 := Lib.hid (Blk.new w (meanArr false 0 noFields false) 59)
  have hbA : Below w.heap.size w (w.alloc (.cells (meanArr false 0 noFields false) 59)) := (Below.refl _ w).alloc (Nat.le_refl _) _
  have HBA := Lib.hid hbA
  clear f1 f2 f3 f4 f5 f6 f7 f8 ha hsm hbA
  unfold plainM
  cases hf : foreign s.data.toList with
  | true =>
    rw [hf] at HF
    simp only [if_pos]
    clear hf
    go_enter Tryz.func42, Tryz.ntmps42
    go_wp2_with (first
      | (with_reducible refine wpList_alloc_mean rfl rfl ?_)
      | (with_reducible refine wpList_build_mean rfl rfl ?_)
      | (go_at_call 50; refine (H1.out _).mono ?_; rintro e w' ⟨rfl, rfl⟩)
      | (go_at_call 45; refine (HF.out _).mono ?_; rintro e w' ⟨rfl, rfl⟩)
      | (with_reducible refine wpList_store_mean rfl (.tmp 4) (.tmp 23) rfl w.heap.size _ _ mean0 mean0 mean0_one rfl rfl HM0.out ?_))
    exact bodyPost_ret (results_mean_tmp rfl _ _ w.heap.size _ mean0 rfl (blk_row HM0.out _)) rfl ⟨by unfold MeanRes; dsimp only; rfl, below_row HBA.out (Nat.le_refl _) _⟩
  | false =>
    rw [hf] at HF
    simp only [Bool.false_eq_true, if_false]
    clear hf
    obtain ⟨nw, hnw⟩ : ∃ n, ((words s.data.toList).map ofL).length = n := ⟨_, rfl⟩
    rw [hnw] at HFILL
    have hnw2 : (words s.data.toList = []) ↔ nw = 0 := by rw [← hnw, List.length_map, List.length_eq_zero_iff]
    cases hfo : fillOf (o : Int) ((words s.data.toList).map ofL) with
    | none =>
      rw [hfo] at HFILL
      dsimp only
      have HNW := Lib.hid hnw
      clear hfo HSZ hnw2 hnw
      go_enter Tryz.func42, Tryz.ntmps42
      go_wp2_with (first
        | (with_reducible refine wpList_alloc_mean rfl rfl ?_)
        | (with_reducible refine wpList_build_mean rfl rfl ?_)
        | (go_at_call 50; refine (H1.out _).mono ?_; rintro e w' ⟨rfl, rfl⟩)
        | (go_at_call 45; refine (HF.out _).mono ?_; rintro e w' ⟨rfl, rfl⟩)
        | (go_at_call 82; refine (HW.out _).mono ?_; rintro e w1 ⟨hw, hb1⟩; obtain ⟨v, rfl, hown, hvn⟩ := hw; have HB1 := Lib.hid (Below.trans HBA.out (hb1.mono (by simp))); have HM1 := Lib.hid (HM0.out.after hb1); obtain ⟨oa, cap, hv, htx⟩ := texts_words hown hvn; rw [HNW.out] at hv; obtain rfl := hv; have HTX := Lib.hid htx; clear hown hvn hb1 htx)
        | (go_at_call 83; (with_reducible refine (HFILL.out oa cap _ HTX.out).mono ?_); rintro e w2 ⟨hr, hb2⟩; obtain rfl := hr; have HB2 := Lib.hid (Below.trans HB1.out (hb2.mono HB1.out.size)); have HM2 := Lib.hid (HM1.out.after hb2); clear hb2)
        | (with_reducible refine wpList_store_mean rfl (.tmp 4) (.tmp 34) rfl w.heap.size _ _ mean0 mean0 mean0_one rfl rfl HM2.out ?_))
      exact bodyPost_ret (results_mean_tmp rfl _ _ w.heap.size _ mean0 rfl (blk_row HM2.out _)) rfl ⟨by unfold MeanRes; dsimp only; rfl, below_row HB2.out (Nat.le_refl _) _⟩
    | some L =>
      rw [hfo] at HFILL
      have HZ := Lib.hid (HSZ.out L hfo)
      dsimp only
      clear hfo HSZ
      by_cases hw0 : words s.data.toList = []
      · rw [if_pos hw0]
        have hn0 := hnw2.1 hw0
        have hq : ((nw : Int) == 0) = true := by rw [beq_iff_eq]; omega
        have HNW := Lib.hid hnw
        clear hnw2 hw0 hnw hn0
        go_enter Tryz.func42, Tryz.ntmps42
        go_wp2_with (first
          | (with_reducible refine wpList_alloc_mean rfl rfl ?_)
          | (with_reducible refine wpList_build_mean rfl rfl ?_)
          | (go_at_call 50; refine (H1.out _).mono ?_; rintro e w' ⟨rfl, rfl⟩)
          | (go_at_call 45; refine (HF.out _).mono ?_; rintro e w' ⟨rfl, rfl⟩)
          | (go_at_call 82; refine (HW.out _).mono ?_; rintro e w1 ⟨hw, hb1⟩; obtain ⟨v, rfl, hown, hvn⟩ := hw; have HB1 := Lib.hid (Below.trans HBA.out (hb1.mono (by simp))); have HM1 := Lib.hid (HM0.out.after hb1); obtain ⟨oa, cap, hv, htx⟩ := texts_words hown hvn; rw [HNW.out] at hv; obtain rfl := hv; have HTX := Lib.hid htx; clear hown hvn hb1 htx)
          | (go_at_call 83; (with_reducible refine (HFILL.out oa cap _ HTX.out).mono ?_); rintro e w2 ⟨hr, hb2⟩; obtain ⟨g6, rfl, hg6, hrow⟩ := hr; have HB2 := Lib.hid (Below.trans HB1.out (hb2.mono HB1.out.size)); have HM2 := Lib.hid (HM1.out.after hb2); clear hb2; clear hg6 hrow)
          | (with_reducible refine wpList_store_mean rfl (.tmp 4) (.tmp 38) rfl w.heap.size _ _ mean0 mean0 mean0_one rfl rfl HM2.out ?_))
        exact bodyPost_ret (results_mean_tmp rfl _ _ w.heap.size _ mean0 rfl (blk_row HM2.out _)) rfl ⟨by unfold MeanRes; dsimp only; rfl, below_row HB2.out (Nat.le_refl _) _⟩
      · rw [if_neg hw0]
        have hn0 : ((nw : Int) == 0) = false := by rw [beq_eq_false_iff_ne]; intro e; exact hw0 (hnw2.2 (by omega))
        have HNW := Lib.hid hnw
        clear hnw2 hw0 hnw
        obtain ⟨LL, hLL⟩ : ∃ LL : List (List UInt8), L.map (fun s => s.data.toList) = LL := ⟨_, rfl⟩
        have HLA : Hid (∀ k, LL.getD k [] = (L.getD k ⟨#[]⟩).data.toList) := Lib.hid (fun k => by rw [← hLL]; exact lists_at L k)
        rw [hLL]
        clear hLL
        have HSIX : Hid (∀ g w, RowAt w g (fun k => L.getD k ⟨#[]⟩) → Calls Tryz.prog 84 #[.slice (some ⟨g, 0, none⟩) 6 6] w fun e w' => (∃ st f, fldArr st f = (sixM LL).1 ∧ e = .returned (.tuple #[.agg (fldArr st f), .int .i64 ((sixM LL).2 : Int)])) ∧ Below w.heap.size w w') := Lib.hid (fun g w hr => (six_any g _ LL w hr HLA.out HZ.out).mono fun e w' h => ⟨six_val h.1, h.2⟩)
        generalize sixM LL = R at HSIX ⊢
        obtain ⟨R1, R2⟩ := R
        dsimp only at HSIX
        go_enter Tryz.func42, Tryz.ntmps42
        go_wp2_with (first
          | (with_reducible refine wpList_alloc_mean rfl rfl ?_)
          | (with_reducible refine wpList_alloc_fields rfl rfl ?_)
          | (go_at_call 50; refine (H1.out _).mono ?_; rintro e w' ⟨rfl, rfl⟩)
          | (go_at_call 45; refine (HF.out _).mono ?_; rintro e w' ⟨rfl, rfl⟩)
          | (go_at_call 82; refine (HW.out _).mono ?_; rintro e w1 ⟨hw, hb1⟩; obtain ⟨v, rfl, hown, hvn⟩ := hw; have HB1 := Lib.hid (Below.trans HBA.out (hb1.mono (by simp))); have HM1 := Lib.hid (HM0.out.after hb1); obtain ⟨oa, cap, hv, htx⟩ := texts_words hown hvn; rw [HNW.out] at hv; obtain rfl := hv; have HTX := Lib.hid htx; clear hown hvn hb1 htx)
          | (go_at_call 83; (with_reducible refine (HFILL.out oa cap _ HTX.out).mono ?_); rintro e w2 ⟨hr, hb2⟩; obtain ⟨g6, rfl, hg6, hrow⟩ := hr; have HB2 := Lib.hid (Below.trans HB1.out (hb2.mono HB1.out.size)); have HM2 := Lib.hid (HM1.out.after hb2); have HROW := Lib.hid hrow; clear hb2 hg6 hrow)
          | (go_at_call 84; (with_reducible refine (HSIX.out g6 _ HROW.out).mono ?_); rintro e w3 ⟨hr, hb3⟩; obtain ⟨st, f, hst, rfl⟩ := hr; have HB3 := Lib.hid (Below.trans HB2.out (hb3.mono HB2.out.size)); have HM3 := Lib.hid (HM2.out.after hb3); have HST := Lib.hid hst; have HF3 := Lib.hid (FldAt.new w3 (fun _ => false) (fun _ _ => false)); have HF4 := Lib.hid (putAll HF3.out st f); have hsz3 : w.heap.size < w3.heap.size := HM3.out.lt; have HM4 := Lib.hid (blk_cells (b := w3.heap.size) (o := 0) (HM3.out.alloc (.cells (fldArr (fun _ => false) fun _ _ => false) 57)) (by omega) (fldArr st f).toList); clear hb3 hst)
          | (with_reducible refine wpList_store_all rfl (.tmp 9) (.tmp 42) rfl w3.heap.size (fun _ => false) (fun _ _ => false) st f rfl rfl HF3.out ?_)
          | (with_reducible refine wpList_load_fields rfl (.tmp 9) rfl w3.heap.size st f rfl HF4.out ?_)
          | (with_reducible refine wpList_build_sets rfl (.tmp 44) rfl (fldArr st f) rfl (fldArr_size _ _) ?_)
          | (with_reducible refine wpList_store_mean rfl (.tmp 4) (.tmp 45) rfl w.heap.size _ (meanArr false 0 (fldArr st f) false) mean0 (meanArr_size _ _ _ _ (fldArr_size _ _)) (meanArr_one _ _ _ _ (fldArr_one _ _)) rfl rfl HM4.out ?_))
        exact bodyPost_ret (results_mean_tmp rfl _ _ w.heap.size _ (meanArr_size _ _ _ _ (fldArr_size _ _)) rfl (blk_row HM4.out _)) rfl ⟨by unfold MeanRes; dsimp only; rw [← HST.out]; rfl, below_row (below_setCells _ (HB3.out.alloc HB3.out.size _) HB3.out.size) (Nat.le_refl _) _⟩

end Go.Proofs.YtmnjmhlodbifjaaGreatDoor.SpecPlain
