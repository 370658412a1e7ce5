/- Heads of texts: strings.HasPrefix, the reference's cronBegins and the law's cronHead. Conditions: none. · The reference's cronPlain at texts that do not begin with an at sign. Conditions: options below 512, texts of at most 65536 bytes. · Heads of a cron text: the reference's CronZoneHead, the law's cronPlainText, the reference's CronOptions. Conditions: texts of at most 2^31 - 1 bytes. · impl.plainSchedule: a schedule of sets, one of a constant delay, an error. Conditions: none. -/
import Derived.Test.YtmnjmhlodbifjaaGreatDoorQ11
import Derived.Test.YtmnjmhlodbifjaaGreatDoorQ16
import Derived.Test.YtmnjmhlodbifjaaGreatDoorQ17
import Derived.Test.YtmnjmhlodbifjaaGreatDoorQ4
import Derived.Test.YtmnjmhlodbifjaaGreatDoorQ15
import Derived.Test.YtmnjmhlodbifjaaGreatDoorQ2
import Derived.Deep.RegionHeld3
import Derived.Deep.DrawnRows

namespace Go.Proofs.YtmnjmhlodbifjaaGreatDoor.Head
open Go Go.RowKit Go.Proofs.YtmnjmhlodbifjaaGreatDoor.Split Go.Proofs.YtmnjmhlodbifjaaGreatDoor.SplitPure Go.Proofs.YtmnjmhlodbifjaaGreatDoor.PlainPure
set_option linter.unusedVariables false
def starts (p l : List UInt8) : Bool := l.take p.length == p
theorem starts_short {p l : List UInt8} (h : l.length < p.length) : starts p l = false := by
  unfold starts
  rw [beq_eq_false_iff_ne]
  intro e
  have := congrArg List.length e
  simp at this
  omega
theorem starts_ext (p s : ByteArray) : ((s.extract 0 p.size).toList == p.toList) = starts p.data.toList s.data.toList := by
  unfold starts
  rw [ByteArray.toList_eq, ByteArray.toList_eq]
  simp [List.extract_eq_take_drop]
theorem slite_any (s p : ByteArray) (w : World) (hs : s.size ≤ maxLen) (hp : p.size ≤ maxLen) :
    Calls Tryz.prog 89 #[.string s, .string p] w fun e w' => e = .returned (.bool (starts p.data.toList s.data.toList)) ∧ w = w' := by
  unfold maxLen at hs hp
  by_cases h : p.size ≤ s.size
  · have HS := Lib.hid (starts_ext p s)
    obtain ⟨b, hb⟩ : ∃ b, ((s.extract 0 p.size).toList == p.toList) = b := ⟨_, rfl⟩
    go_enter Tryz.func89, Tryz.ntmps89
    go_wp2
    go_ret
    exact ⟨by rw [← HS.out, hb]; rfl, rfl⟩
  · have HS := Lib.hid (starts_short (p := p.data.toList) (l := s.data.toList) (by simp; omega))
    have hd : decide (p.size ≤ s.size) = false := decide_eq_false h
    go_enter Tryz.func89, Tryz.ntmps89
    go_wp2
    go_ret
    exact ⟨by rw [HS.out]; rfl, rfl⟩
theorem begins_any (s p : ByteArray) (w : World) (hs : s.size ≤ maxLen) (hp : p.size ≤ maxLen) :
    Calls Tryz.prog 50 #[.string s, .string p] w fun e w' => e = .returned (.bool (starts p.data.toList s.data.toList)) ∧ w = w' := by
  unfold maxLen at hs hp
  by_cases h : p.size ≤ s.size
  · have HS := Lib.hid (starts_ext p s)
    obtain ⟨b, hb⟩ : ∃ b, ((s.extract 0 p.size).toList == p.toList) = b := ⟨_, rfl⟩
    go_enter Tryz.func50, Tryz.ntmps50
    go_wp2
    go_ret
    exact ⟨by rw [← HS.out, hb]; rfl, rfl⟩
  · have HS := Lib.hid (starts_short (p := p.data.toList) (l := s.data.toList) (by simp; omega))
    have hd : decide (p.size ≤ s.size) = false := decide_eq_false h
    go_enter Tryz.func50, Tryz.ntmps50
    go_wp2
    go_ret
    exact ⟨by rw [HS.out]; rfl, rfl⟩
theorem hasPrefix_any (s p : ByteArray) (w : World) (hs : s.size ≤ maxLen) (hp : p.size ≤ maxLen) :
    Calls Tryz.prog 54 #[.string s, .string p] w fun e w' => e = .returned (.bool (starts p.data.toList s.data.toList)) ∧ w = w' := by
  have HC := Lib.hid (fun w => slite_any s p w hs hp)
  go_enter Tryz.func54, Tryz.ntmps54
  go_wp2_with (go_at_call 89; refine (HC.out _).mono ?_; rintro e w' ⟨rfl, rfl⟩)
  go_ret
  exact ⟨rfl, rfl⟩
end Go.Proofs.YtmnjmhlodbifjaaGreatDoor.Head
namespace Go.Proofs.YtmnjmhlodbifjaaGreatDoor.SpecPlain
open Go Go.RowKit Go.Proofs.YtmnjmhlodbifjaaGreatDoor.Mem Go.Proofs.YtmnjmhlodbifjaaGreatDoor.Aid Go.Proofs.YtmnjmhlodbifjaaGreatDoor.Set Go.Proofs.YtmnjmhlodbifjaaGreatDoor.Fields Go.Proofs.YtmnjmhlodbifjaaGreatDoor.Big Go.Proofs.YtmnjmhlodbifjaaGreatDoor.Meaning Go.Proofs.YtmnjmhlodbifjaaGreatDoor.NumPure Go.Proofs.YtmnjmhlodbifjaaGreatDoor.SplitPure Go.Proofs.YtmnjmhlodbifjaaGreatDoor.Split Go.Proofs.YtmnjmhlodbifjaaGreatDoor.FillPure Go.Proofs.YtmnjmhlodbifjaaGreatDoor.FillA Go.Proofs.YtmnjmhlodbifjaaGreatDoor.FillSpec Go.Proofs.YtmnjmhlodbifjaaGreatDoor.PlainPure Go.Proofs.YtmnjmhlodbifjaaGreatDoor.NameRel Go.Proofs.YtmnjmhlodbifjaaGreatDoor.SpecName Go.Proofs.YtmnjmhlodbifjaaGreatDoor.SpecSix Go.Proofs.YtmnjmhlodbifjaaGreatDoor.Words Go.Proofs.YtmnjmhlodbifjaaGreatDoor.Head
set_option linter.unusedVariables false
def sixM (L : List (List UInt8)) : Array Value × Nat := if sixV L 6 = 1 then (fldArr (stL L 6) (fLs L 6), 1) else (noFields, sixV L 6)
def plainM (o : Int) (l : List UInt8) : Array Value × Nat :=
  if foreign l then (noFields, 2) else
  match fillOf o ((words l).map ofL) with
  | none => (noFields, 0)
  | some L => if words l = [] then (noFields, 2) else sixM (L.map fun s => s.data.toList)
theorem six_val {L : List (List UInt8)} {e : Ending} (h : SixRes L e) : ∃ st f, fldArr st f = (sixM L).1 ∧ e = .returned (.tuple #[.agg (fldArr st f), .int .i64 ((sixM L).2 : Int)]) := by
  unfold SixRes at h
  unfold sixM
  split at h
  · rename_i h1
    rw [if_pos h1]
    refine ⟨stL L 6, fLs L 6, ?_, h⟩
    dsimp only
  · rename_i h1
    rw [if_neg h1]
    refine ⟨fun _ => false, fun _ _ => false, ?_, h⟩
    dsimp only
    unfold noFields
    with_reducible rfl
theorem sixM_size (L : List (List UInt8)) : (sixM L).1.size = 384 := by
  by_cases h : sixV L 6 = 1
  · rw [show sixM L = (fldArr (stL L 6) (fLs L 6), 1) from if_pos h]; dsimp only; exact fldArr_size _ _
  · rw [show sixM L = (noFields, sixV L 6) from if_neg h]; dsimp only; exact noFields_size
theorem plainM_size (o : Int) (l : List UInt8) : (plainM o l).1.size = 384 := by
  unfold plainM
  split
  · dsimp only; exact noFields_size
  · split
    · dsimp only; exact noFields_size
    · split
      · dsimp only; exact noFields_size
      · exact sixM_size _
def MeanRes (r : Array Value × Nat) (e : Ending) : Prop := e = .returned (.tuple #[.agg (meanArr false 0 r.1 false), .int .i64 (r.2 : Int)])
theorem noFields_one : noFields.all (·.oneCell') = true := by unfold noFields; exact fldArr_one _ _
theorem mean0 : (meanArr false 0 noFields false).size = 387 := meanArr_size _ _ _ _ noFields_size
theorem mean0_one : (meanArr false 0 noFields false).all (·.oneCell') = true := meanArr_one _ _ _ _ noFields_one
theorem texts_words {w : World} {B : Nat} {ws : List (List UInt8)} {v : Value} (hown : w.ownsRow B 9 1 v ws.length (Split.strs ws)) (hv : ws = [] → v = .slice none 0 0) :
    ∃ oa cap, v = .slice oa (ws.map ofL).length cap ∧ Texts w oa (ws.map ofL) := by
  by_cases h0 : ws = []
  · subst h0
    exact ⟨none, 0, hv rfl, Norm.texts_nil w⟩
  · obtain ⟨g, cap, rfl, hg⟩ := Norm.owned_shape hown (by cases ws; exact absurd rfl h0; simp)
    refine ⟨some ⟨g, 0, none⟩, cap, by simp, Norm.texts_of (B := B) (n := ws.length) (cap := cap) ?_⟩
    rw [show FillA.strs (ws.map ofL) = Split.strs ws by simp [FillA.strs, Split.strs]]
    exact hown
theorem lists_at (L : List ByteArray) (k : Nat) : (L.map fun s => s.data.toList).getD k [] = (L.getD k ⟨#[]⟩).data.toList := by
  rw [List.getD_eq_getElem?_getD, List.getD_eq_getElem?_getD, List.getElem?_map]
  cases L[k]? <;> rfl
theorem fill_size {o : Int} {fs L : List ByteArray} (h : ∀ p ∈ fs, p.size ≤ 65536) (hf : fillOf o fs = some L) (k : Nat) : (L.getD k ⟨#[]⟩).size ≤ 65536 := by
  unfold fillOf at hf
  cases hm : missOf o fs.length with
  | none => rw [hm] at hf; cases hf
  | some miss =>
    rw [hm] at hf
    cases hf
    rw [List.getD_eq_getElem?_getD]
    cases hc : (filled (without (takes o) miss) fs)[k]? with
    | none => exact Nat.zero_le _
    | some p =>
      have hm := List.mem_of_getElem? hc
      unfold filled at hm
      obtain ⟨j, _, rfl⟩ := List.mem_map.1 hm
      simp only [Option.getD_some]
      unfold at'
      split
      · rw [List.getD_eq_getElem?_getD]
        cases hd : fs[cnt (without (takes o) miss) j]? with
        | none => exact Nat.zero_le _
        | some q => exact h q (List.mem_of_getElem? hd)
      · unfold dflt; split <;> decide
set_option maxHeartbeats 4000000 in
set_option maxRecDepth 100000 in
theorem plain_any (o : Nat) (s : ByteArray) (w : World) (ho : o < 512) (hs : s.size ≤ 65536) (ha : starts [64] s.data.toList = false) :
    Calls Tryz.prog 42 #[.int .i64 (o : Int), .string s] w fun e w' => MeanRes (plainM (o : Int) s.data.toList) e ∧ Below w.heap.size w w' := by
  obtain ⟨f1, f2, f3, f4, f5, f6, f7, f8⟩ := opts_facts ⟨o, ho⟩
  simp only at f1 f2 f3 f4 f5 f6 f7 f8
  have hsm : s.size ≤ maxLen := by unfold maxLen; omega
  have H1 : Hid (∀ w, Calls Tryz.prog 50 #[.string s, .string ⟨#[64]⟩] w fun e w' => e = .returned (.bool false) ∧ w = w') := Lib.hid (fun w => by
    have := begins_any s ⟨#[64]⟩ w hsm (by decide); rwa [show (⟨#[64]⟩ : ByteArray).data.toList = [64] from rfl, ha] at this)
  have HF := Lib.hid (fun w => foreign_any s w hs)
  have HW := Lib.hid (fun w => SpecWords.words_any s w hs)
  have HFILL := Lib.hid (fun oa cap w (ht : Texts w oa ((words s.data.toList).map ofL)) => fill_any (o : Int) oa cap ((words s.data.toList).map ofL) w (by have := words_count s.data.toList; simp at this ⊢; omega) ht f2 f3 f6 f7)
  have HSZ := Lib.hid (fun L (hf : fillOf (o : Int) ((words s.data.toList).map ofL) = some L) k => fill_size (fun p hp => by obtain ⟨q, hq, rfl⟩ := List.mem_map.1 hp; have := words_size hq; rw [size_ofL]; simp at this; omega) hf k)
  have HM0 := Lib.hid (Blk.new w (meanArr false 0 noFields false) 59)
  have hbA : Below w.heap.size w (w.alloc (.cells (meanArr false 0 noFields false) 59)) := (Below.refl _ w).alloc (Nat.le_refl _) _
  have HBA := Lib.hid hbA
  clear f1 f2 f3 f4 f5 f6 f7 f8 ha hsm hbA
  unfold plainM
  cases hf : foreign s.data.toList with
  | true =>
    rw [hf] at HF
    simp only [if_pos]
    clear hf
    go_enter Tryz.func42, Tryz.ntmps42
    go_wp2_with (first
      | (with_reducible refine wpList_alloc_mean rfl rfl ?_)
      | (with_reducible refine wpList_build_mean rfl rfl ?_)
      | (go_at_call 50; refine (H1.out _).mono ?_; rintro e w' ⟨rfl, rfl⟩)
      | (go_at_call 45; refine (HF.out _).mono ?_; rintro e w' ⟨rfl, rfl⟩)
      | (with_reducible refine wpList_store_mean rfl (.tmp 4) (.tmp 23) rfl w.heap.size _ _ mean0 mean0 mean0_one rfl rfl HM0.out ?_))
    exact bodyPost_ret (results_mean_tmp rfl _ _ w.heap.size _ mean0 rfl (blk_row HM0.out _)) rfl ⟨by unfold MeanRes; dsimp only; rfl, below_row HBA.out (Nat.le_refl _) _⟩
  | false =>
    rw [hf] at HF
    simp only [Bool.false_eq_true, if_false]
    clear hf
    obtain ⟨nw, hnw⟩ : ∃ n, ((words s.data.toList).map ofL).length = n := ⟨_, rfl⟩
    rw [hnw] at HFILL
    have hnw2 : (words s.data.toList = []) ↔ nw = 0 := by rw [← hnw, List.length_map, List.length_eq_zero_iff]
    cases hfo : fillOf (o : Int) ((words s.data.toList).map ofL) with
    | none =>
      rw [hfo] at HFILL
      dsimp only
      have HNW := Lib.hid hnw
      clear hfo HSZ hnw2 hnw
      go_enter Tryz.func42, Tryz.ntmps42
      go_wp2_with (first
        | (with_reducible refine wpList_alloc_mean rfl rfl ?_)
        | (with_reducible refine wpList_build_mean rfl rfl ?_)
        | (go_at_call 50; refine (H1.out _).mono ?_; rintro e w' ⟨rfl, rfl⟩)
        | (go_at_call 45; refine (HF.out _).mono ?_; rintro e w' ⟨rfl, rfl⟩)
        | (go_at_call 82; refine (HW.out _).mono ?_; rintro e w1 ⟨hw, hb1⟩; obtain ⟨v, rfl, hown, hvn⟩ := hw; have HB1 := Lib.hid (Below.trans HBA.out (hb1.mono (by simp))); have HM1 := Lib.hid (HM0.out.after hb1); obtain ⟨oa, cap, hv, htx⟩ := texts_words hown hvn; rw [HNW.out] at hv; obtain rfl := hv; have HTX := Lib.hid htx; clear hown hvn hb1 htx)
        | (go_at_call 83; (with_reducible refine (HFILL.out oa cap _ HTX.out).mono ?_); rintro e w2 ⟨hr, hb2⟩; obtain rfl := hr; have HB2 := Lib.hid (Below.trans HB1.out (hb2.mono HB1.out.size)); have HM2 := Lib.hid (HM1.out.after hb2); clear hb2)
        | (with_reducible refine wpList_store_mean rfl (.tmp 4) (.tmp 34) rfl w.heap.size _ _ mean0 mean0 mean0_one rfl rfl HM2.out ?_))
      exact bodyPost_ret (results_mean_tmp rfl _ _ w.heap.size _ mean0 rfl (blk_row HM2.out _)) rfl ⟨by unfold MeanRes; dsimp only; rfl, below_row HB2.out (Nat.le_refl _) _⟩
    | some L =>
      rw [hfo] at HFILL
      have HZ := Lib.hid (HSZ.out L hfo)
      dsimp only
      clear hfo HSZ
      by_cases hw0 : words s.data.toList = []
      · rw [if_pos hw0]
        have hn0 := hnw2.1 hw0
        have hq : ((nw : Int) == 0) = true := by rw [beq_iff_eq]; omega
        have HNW := Lib.hid hnw
        clear hnw2 hw0 hnw hn0
        go_enter Tryz.func42, Tryz.ntmps42
        go_wp2_with (first
          | (with_reducible refine wpList_alloc_mean rfl rfl ?_)
          | (with_reducible refine wpList_build_mean rfl rfl ?_)
          | (go_at_call 50; refine (H1.out _).mono ?_; rintro e w' ⟨rfl, rfl⟩)
          | (go_at_call 45; refine (HF.out _).mono ?_; rintro e w' ⟨rfl, rfl⟩)
          | (go_at_call 82; refine (HW.out _).mono ?_; rintro e w1 ⟨hw, hb1⟩; obtain ⟨v, rfl, hown, hvn⟩ := hw; have HB1 := Lib.hid (Below.trans HBA.out (hb1.mono (by simp))); have HM1 := Lib.hid (HM0.out.after hb1); obtain ⟨oa, cap, hv, htx⟩ := texts_words hown hvn; rw [HNW.out] at hv; obtain rfl := hv; have HTX := Lib.hid htx; clear hown hvn hb1 htx)
          | (go_at_call 83; (with_reducible refine (HFILL.out oa cap _ HTX.out).mono ?_); rintro e w2 ⟨hr, hb2⟩; obtain ⟨g6, rfl, hg6, hrow⟩ := hr; have HB2 := Lib.hid (Below.trans HB1.out (hb2.mono HB1.out.size)); have HM2 := Lib.hid (HM1.out.after hb2); clear hb2; clear hg6 hrow)
          | (with_reducible refine wpList_store_mean rfl (.tmp 4) (.tmp 38) rfl w.heap.size _ _ mean0 mean0 mean0_one rfl rfl HM2.out ?_))
        exact bodyPost_ret (results_mean_tmp rfl _ _ w.heap.size _ mean0 rfl (blk_row HM2.out _)) rfl ⟨by unfold MeanRes; dsimp only; rfl, below_row HB2.out (Nat.le_refl _) _⟩
      · rw [if_neg hw0]
        have hn0 : ((nw : Int) == 0) = false := by rw [beq_eq_false_iff_ne]; intro e; exact hw0 (hnw2.2 (by omega))
        have HNW := Lib.hid hnw
        clear hnw2 hw0 hnw
        obtain ⟨LL, hLL⟩ : ∃ LL : List (List UInt8), L.map (fun s => s.data.toList) = LL := ⟨_, rfl⟩
        have HLA : Hid (∀ k, LL.getD k [] = (L.getD k ⟨#[]⟩).data.toList) := Lib.hid (fun k => by rw [← hLL]; exact lists_at L k)
        rw [hLL]
        clear hLL
        have HSIX : Hid (∀ g w, RowAt w g (fun k => L.getD k ⟨#[]⟩) → Calls Tryz.prog 84 #[.slice (some ⟨g, 0, none⟩) 6 6] w fun e w' => (∃ st f, fldArr st f = (sixM LL).1 ∧ e = .returned (.tuple #[.agg (fldArr st f), .int .i64 ((sixM LL).2 : Int)])) ∧ Below w.heap.size w w') := Lib.hid (fun g w hr => (six_any g _ LL w hr HLA.out HZ.out).mono fun e w' h => ⟨six_val h.1, h.2⟩)
        generalize sixM LL = R at HSIX ⊢
        obtain ⟨R1, R2⟩ := R
        dsimp only at HSIX
        go_enter Tryz.func42, Tryz.ntmps42
        go_wp2_with (first
          | (with_reducible refine wpList_alloc_mean rfl rfl ?_)
          | (with_reducible refine wpList_alloc_fields rfl rfl ?_)
          | (go_at_call 50; refine (H1.out _).mono ?_; rintro e w' ⟨rfl, rfl⟩)
          | (go_at_call 45; refine (HF.out _).mono ?_; rintro e w' ⟨rfl, rfl⟩)
          | (go_at_call 82; refine (HW.out _).mono ?_; rintro e w1 ⟨hw, hb1⟩; obtain ⟨v, rfl, hown, hvn⟩ := hw; have HB1 := Lib.hid (Below.trans HBA.out (hb1.mono (by simp))); have HM1 := Lib.hid (HM0.out.after hb1); obtain ⟨oa, cap, hv, htx⟩ := texts_words hown hvn; rw [HNW.out] at hv; obtain rfl := hv; have HTX := Lib.hid htx; clear hown hvn hb1 htx)
          | (go_at_call 83; (with_reducible refine (HFILL.out oa cap _ HTX.out).mono ?_); rintro e w2 ⟨hr, hb2⟩; obtain ⟨g6, rfl, hg6, hrow⟩ := hr; have HB2 := Lib.hid (Below.trans HB1.out (hb2.mono HB1.out.size)); have HM2 := Lib.hid (HM1.out.after hb2); have HROW := Lib.hid hrow; clear hb2 hg6 hrow)
          | (go_at_call 84; (with_reducible refine (HSIX.out g6 _ HROW.out).mono ?_); rintro e w3 ⟨hr, hb3⟩; obtain ⟨st, f, hst, rfl⟩ := hr; have HB3 := Lib.hid (Below.trans HB2.out (hb3.mono HB2.out.size)); have HM3 := Lib.hid (HM2.out.after hb3); have HST := Lib.hid hst; have HF3 := Lib.hid (FldAt.new w3 (fun _ => false) (fun _ _ => false)); have HF4 := Lib.hid (putAll HF3.out st f); have hsz3 : w.heap.size < w3.heap.size := HM3.out.lt; have HM4 := Lib.hid (blk_cells (b := w3.heap.size) (o := 0) (HM3.out.alloc (.cells (fldArr (fun _ => false) fun _ _ => false) 57)) (by omega) (fldArr st f).toList); clear hb3 hst)
          | (with_reducible refine wpList_store_all rfl (.tmp 9) (.tmp 42) rfl w3.heap.size (fun _ => false) (fun _ _ => false) st f rfl rfl HF3.out ?_)
          | (with_reducible refine wpList_load_fields rfl (.tmp 9) rfl w3.heap.size st f rfl HF4.out ?_)
          | (with_reducible refine wpList_build_sets rfl (.tmp 44) rfl (fldArr st f) rfl (fldArr_size _ _) ?_)
          | (with_reducible refine wpList_store_mean rfl (.tmp 4) (.tmp 45) rfl w.heap.size _ (meanArr false 0 (fldArr st f) false) mean0 (meanArr_size _ _ _ _ (fldArr_size _ _)) (meanArr_one _ _ _ _ (fldArr_one _ _)) rfl rfl HM4.out ?_))
        exact bodyPost_ret (results_mean_tmp rfl _ _ w.heap.size _ (meanArr_size _ _ _ _ (fldArr_size _ _)) rfl (blk_row HM4.out _)) rfl ⟨by unfold MeanRes; dsimp only; rw [← HST.out]; rfl, below_row (below_setCells _ (HB3.out.alloc HB3.out.size _) HB3.out.size) (Nat.le_refl _) _⟩
end Go.Proofs.YtmnjmhlodbifjaaGreatDoor.SpecPlain
namespace Go.Proofs.YtmnjmhlodbifjaaGreatDoor.ZoneHead
open Go Go.RowKit Go.Proofs.YtmnjmhlodbifjaaGreatDoor.Mem Go.Proofs.YtmnjmhlodbifjaaGreatDoor.Aid Go.Proofs.YtmnjmhlodbifjaaGreatDoor.FillPure Go.Proofs.YtmnjmhlodbifjaaGreatDoor.FillA Go.Proofs.YtmnjmhlodbifjaaGreatDoor.PlainPure Go.Proofs.YtmnjmhlodbifjaaGreatDoor.NameRel Go.Proofs.YtmnjmhlodbifjaaGreatDoor.SpecName Go.Proofs.YtmnjmhlodbifjaaGreatDoor.Head
set_option linter.unusedVariables false
def tzB : List UInt8 := [84, 90, 61]
def cronB : List UInt8 := [67, 82, 79, 78, 95, 84, 90, 61]
def zoneHead (l : List UInt8) : Nat := if starts tzB l then 3 else if starts cronB l then 8 else 0
theorem idx0 (w : World) : (Instr.index 104 (.agg #[.string ⟨#[84, 90, 61]⟩, .string ⟨#[67, 82, 79, 78, 95, 84, 90, 61]⟩]) (.int .i64 0)).run Tryz.prog w = .ok (.string ⟨#[84, 90, 61]⟩) w := by kernel_rfl
theorem idx1 (w : World) : (Instr.index 104 (.agg #[.string ⟨#[84, 90, 61]⟩, .string ⟨#[67, 82, 79, 78, 95, 84, 90, 61]⟩]) (.int .i64 1)).run Tryz.prog w = .ok (.string ⟨#[67, 82, 79, 78, 95, 84, 90, 61]⟩) w := by kernel_rfl
theorem begins_tz (s : ByteArray) (w : World) (hs : s.size ≤ 2147483647) : Calls Tryz.prog 50 #[.string s, .string ⟨#[84, 90, 61]⟩] w fun e w' => e = .returned (.bool (starts tzB s.data.toList)) ∧ w = w' :=
  begins_any s ⟨#[84, 90, 61]⟩ w (by unfold maxLen; omega) (by decide)
theorem begins_cron (s : ByteArray) (w : World) (hs : s.size ≤ 2147483647) : Calls Tryz.prog 50 #[.string s, .string ⟨#[67, 82, 79, 78, 95, 84, 90, 61]⟩] w fun e w' => e = .returned (.bool (starts cronB s.data.toList)) ∧ w = w' :=
  begins_any s ⟨#[67, 82, 79, 78, 95, 84, 90, 61]⟩ w (by unfold maxLen; omega) (by decide)
set_option maxRecDepth 100000 in
theorem zoneHead_any (s : ByteArray) (w : World) (hs : s.size ≤ 2147483647) :
    Calls Tryz.prog 28 #[.string s] w fun e w' => e = .returned (.int .i64 (zoneHead s.data.toList : Int)) ∧ w = w' := by
  have i0 := idx0
  have i1 := idx1
  have H1 := Lib.hid (fun w => begins_tz s w hs)
  have H2 := Lib.hid (fun w => begins_cron s w hs)
  unfold zoneHead
  cases h1 : starts tzB s.data.toList with
  | true =>
    rw [h1] at H1
    clear h1
    go_enter Tryz.func28, Tryz.ntmps28
    go_wp2
    go_loop [6, 4] (fun i _ => i = .int .i64 0) (fun i _ => (2 - intOf i).toNat)
    case atStart => rfl
    case round =>
      obtain rfl := hrel
      go_wp2_with (go_at_call 50; (first | (with_reducible refine (H1.out _).mono ?_) | (with_reducible refine (H2.out _).mono ?_)); rintro e w' ⟨rfl, rfl⟩)
      go_ret
      exact ⟨rfl, rfl⟩
  | false =>
    rw [h1] at H1
    clear h1
    cases h2 : starts cronB s.data.toList with
    | true =>
      rw [h2] at H2
      clear h2
      go_enter Tryz.func28, Tryz.ntmps28
      go_wp2
      go_loop [6, 4] (fun i _ => i = .int .i64 0 ∨ i = .int .i64 1) (fun i _ => (2 - intOf i).toNat)
      case atStart => exact .inl rfl
      case round =>
        rcases hrel with rfl | rfl
        · go_wp2_with (go_at_call 50; (first | (with_reducible refine (H1.out _).mono ?_) | (with_reducible refine (H2.out _).mono ?_)); rintro e w' ⟨rfl, rfl⟩)
          go_round
          case rel => exact .inr rfl
          case measure => simp [intOf]
        · go_wp2_with (go_at_call 50; (first | (with_reducible refine (H1.out _).mono ?_) | (with_reducible refine (H2.out _).mono ?_)); rintro e w' ⟨rfl, rfl⟩)
          go_ret
          exact ⟨rfl, rfl⟩
    | false =>
      rw [h2] at H2
      clear h2
      go_enter Tryz.func28, Tryz.ntmps28
      go_wp2
      go_loop [6, 4] (fun i _ => i = .int .i64 0 ∨ i = .int .i64 1 ∨ i = .int .i64 2) (fun i _ => (2 - intOf i).toNat)
      case atStart => exact .inl rfl
      case round =>
        rcases hrel with rfl | rfl | rfl
        · go_wp2_with (go_at_call 50; (first | (with_reducible refine (H1.out _).mono ?_) | (with_reducible refine (H2.out _).mono ?_)); rintro e w' ⟨rfl, rfl⟩)
          go_round
          case rel => exact .inr (.inl rfl)
          case measure => simp [intOf]
        · go_wp2_with (go_at_call 50; (first | (with_reducible refine (H1.out _).mono ?_) | (with_reducible refine (H2.out _).mono ?_)); rintro e w' ⟨rfl, rfl⟩)
          go_round
          case rel => exact .inr (.inr rfl)
          case measure => simp [intOf]
        · go_wp2
          go_ret
          exact ⟨rfl, rfl⟩
def optB (o : Int) : Bool := decide (0 ≤ o) && decide (o < 512) && !(sec o && dow o)
theorem optB_facts {o : Int} (h : optB o = true) : ∃ n : Nat, o = (n : Int) ∧ n < 512 ∧ (sec o && dow o) = false := by
  unfold optB at h
  simp only [Bool.and_eq_true, decide_eq_true_eq, Bool.not_eq_true'] at h
  exact ⟨o.toNat, by omega, by omega, h.2⟩
theorem options_b (o : Int) (w : World) : Calls Tryz.prog 8 #[.int .i64 o] w fun e w' => e = .returned (.bool (optB o)) ∧ w = w' := by
  by_cases h0 : 0 ≤ o
  · by_cases h1 : o < 512
    · obtain ⟨n, rfl⟩ : ∃ n : Nat, o = (n : Int) := ⟨o.toNat, by omega⟩
      obtain ⟨f1, f2, f3, f4, f5, f6, f7, f8⟩ := opts_facts ⟨n, by omega⟩
      simp only at f2 f3
      have HT := Lib.hid (fun w => two_any (n : Int) w f2 f3)
      clear f1 f2 f3 f4 f5 f6 f7 f8
      have HR : Hid (optB (n : Int) = !(sec (n : Int) && dow (n : Int))) := Lib.hid (by unfold optB; rw [decide_eq_true h0, decide_eq_true h1]; rfl)
      obtain ⟨b, hb⟩ : ∃ b, (sec (n : Int) && dow (n : Int)) = b := ⟨_, rfl⟩
      rw [hb] at HT HR
      obtain ⟨r, hr⟩ : ∃ r, optB (n : Int) = r := ⟨_, rfl⟩
      rw [hr] at HR ⊢
      clear hb hr
      go_enter Tryz.func8, Tryz.ntmps8
      go_wp2_with (go_at_call 26; refine (HT.out _).mono ?_; rintro e w' ⟨rfl, rfl⟩)
      go_ret
      exact ⟨by rw [HR.out]; rfl, rfl⟩
    · have HR : Hid (optB o = false) := Lib.hid (by unfold optB; rw [decide_eq_false h1]; simp)
      obtain ⟨r, hr⟩ : ∃ r, optB o = r := ⟨_, rfl⟩
      rw [hr] at HR ⊢
      clear hr
      go_enter Tryz.func8, Tryz.ntmps8
      go_wp2
      go_ret
      exact ⟨by rw [HR.out]; rfl, rfl⟩
  · have HR : Hid (optB o = false) := Lib.hid (by unfold optB; rw [decide_eq_false h0]; simp)
    obtain ⟨r, hr⟩ : ∃ r, optB o = r := ⟨_, rfl⟩
    rw [hr] at HR ⊢
    clear hr
    go_enter Tryz.func8, Tryz.ntmps8
    go_wp2
    go_ret
    exact ⟨by rw [HR.out]; rfl, rfl⟩
end Go.Proofs.YtmnjmhlodbifjaaGreatDoor.ZoneHead
namespace Go.Proofs.YtmnjmhlodbifjaaGreatDoor.PlainSched
open Go Go.RowKit Go.Proofs.YtmnjmhlodbifjaaGreatDoor.Mem Go.Proofs.YtmnjmhlodbifjaaGreatDoor.Aid
set_option linter.unusedVariables false
attribute [local go_sem ↓] Go.wp_at_zero Go.wp_at_succ
def SpecAt (w : World) (g : Nat) (a b c d e f : Int) (loc : Value) : Prop := Blk w g #[.int .u64 a, .int .u64 b, .int .u64 c, .int .u64 d, .int .u64 e, .int .u64 f, loc]
theorem SpecAt.after {w w' : World} {g : Nat} {a b c d e f : Int} {loc : Value} (h : SpecAt w g a b c d e f loc) (hb : Below w.heap.size w w') : SpecAt w' g a b c d e f loc := Blk.after h hb
theorem ta_spec (p : Value) (w : World) : (Instr.typeAssert (.iface 97 p) 78 97 true).run Tryz.prog w = .ok (.tuple #[p, .bool true]) w := by kernel_rfl
theorem ta_no (p : Value) (w : World) : (Instr.typeAssert (.iface 108 p) 78 97 true).run Tryz.prog w = .ok (.tuple #[.pointer none, .bool false]) w := by kernel_rfl
theorem ta_delay (p : Value) (w : World) : (Instr.typeAssert (.iface 108 p) 78 108 true).run Tryz.prog w = .ok (.tuple #[p, .bool true]) w := by kernel_rfl
theorem plain_err (s : Value) (T : TypeId) (p : Value) (w : World) :
    Calls Tryz.prog 30 #[s, .iface T p] w fun e w' => e = .returned (.tuple #[.agg #[.bool false, .int .i64 0, .int .u64 0, .int .u64 0, .int .u64 0, .int .u64 0, .int .u64 0, .int .u64 0], .bool false]) ∧ Below w.heap.size w w' := by
  have t1 := ta_spec
  have t2 := ta_no
  have t3 := ta_delay
  go_enter Tryz.func30, Tryz.ntmps30
  go_wp2
  exact bodyPost_ret (v := .tuple #[.agg #[.bool false, .int .i64 0, .int .u64 0, .int .u64 0, .int .u64 0, .int .u64 0, .int .u64 0, .int .u64 0], .bool false]) (by simp [results, Tryz.results30, go_sem]) rfl ⟨rfl, (Below.refl _ _).alloc (Nat.le_refl _) _⟩
set_option maxRecDepth 100000 in
theorem plain_delay (d : Int) (w : World) :
    Calls Tryz.prog 30 #[.iface 108 (.agg #[.int .i64 d]), .nilIface] w fun e w' => e = .returned (.tuple #[.agg #[.bool true, .int .i64 d, .int .u64 0, .int .u64 0, .int .u64 0, .int .u64 0, .int .u64 0, .int .u64 0], .bool true]) ∧ Below w.heap.size w w' := by
  have t1 := ta_spec
  have t2 := ta_no
  have t3 := ta_delay
  go_enter Tryz.func30, Tryz.ntmps30
  go_wp2
  exact bodyPost_ret (v := .tuple #[.agg #[.bool true, .int .i64 d, .int .u64 0, .int .u64 0, .int .u64 0, .int .u64 0, .int .u64 0, .int .u64 0], .bool true]) (by simp [results, Tryz.results30, go_sem]) rfl ⟨rfl, ((Below.refl _ _).alloc (Nat.le_refl _) _).alloc (by simp) _⟩
set_option maxHeartbeats 1000000 in
set_option maxRecDepth 100000 in
theorem plain_spec (g : Nat) (a b c d e f : Int) (loc : Value) (w : World) (h : SpecAt w g a b c d e f loc) :
    Calls Tryz.prog 30 #[.iface 97 (.pointer (some ⟨g, 0, none⟩)), .nilIface] w fun e' w' => e' = .returned (.tuple #[.agg #[.bool false, .int .i64 0, .int .u64 a, .int .u64 b, .int .u64 c, .int .u64 d, .int .u64 e, .int .u64 f], .bool true]) ∧ Below w.heap.size w w' := by
  have hg := Blk.lt h
  have k0 := Blk.cell h (j := 0) (v := .int .u64 a) rfl
  have k1 := Blk.cell h (j := 1) (v := .int .u64 b) rfl
  have k2 := Blk.cell h (j := 2) (v := .int .u64 c) rfl
  have k3 := Blk.cell h (j := 3) (v := .int .u64 d) rfl
  have k4 := Blk.cell h (j := 4) (v := .int .u64 e) rfl
  have k5 := Blk.cell h (j := 5) (v := .int .u64 f) rfl
  clear h
  have hgn : ¬ g = w.heap.size := by omega
  have t1 := ta_spec
  have t2 := ta_no
  have t3 := ta_delay
  go_enter Tryz.func30, Tryz.ntmps30
  go_wp2
  go_region_held3 (fun X => X.cell? ⟨g, 0, none⟩ = some (.int .u64 a) ∧ X.cell? ⟨g, 1, none⟩ = some (.int .u64 b) ∧ X.cell? ⟨g, 2, none⟩ = some (.int .u64 c) ∧ X.cell? ⟨g, 3, none⟩ = some (.int .u64 d) ∧ X.cell? ⟨g, 4, none⟩ = some (.int .u64 e) ∧ X.cell? ⟨g, 5, none⟩ = some (.int .u64 f)) (go_keep) (fail)
  all_goals
    go_wp2
    refine bodyPost_ret (v := .tuple #[.agg #[.bool false, .int .i64 0, .int .u64 a, .int .u64 b, .int .u64 c, .int .u64 d, .int .u64 e, .int .u64 f], .bool true]) (by simp [results, Tryz.results30, go_sem]) rfl ⟨rfl, ?_⟩
    exact ((Below.refl _ _).alloc (Nat.le_refl _) _).drew
end Go.Proofs.YtmnjmhlodbifjaaGreatDoor.PlainSched
