/- The reference's CronParse at texts without zone and descriptor. Conditions: options below 512, texts of at most 65536 bytes. -/
import Derived.Test.YtmnjmhlodbifjaaGreatDoorSpecPlain
import Derived.Test.YtmnjmhlodbifjaaGreatDoorZoneHead
namespace Go.Proofs.YtmnjmhlodbifjaaGreatDoor.SpecParse0
open Go Go.RowKit Go.Proofs.YtmnjmhlodbifjaaGreatDoor.Mem Go.Proofs.YtmnjmhlodbifjaaGreatDoor.Aid Go.Proofs.YtmnjmhlodbifjaaGreatDoor.Set Go.Proofs.YtmnjmhlodbifjaaGreatDoor.Fields Go.Proofs.YtmnjmhlodbifjaaGreatDoor.Big Go.Proofs.YtmnjmhlodbifjaaGreatDoor.Meaning Go.Proofs.YtmnjmhlodbifjaaGreatDoor.FillPure Go.Proofs.YtmnjmhlodbifjaaGreatDoor.PlainPure Go.Proofs.YtmnjmhlodbifjaaGreatDoor.NameRel Go.Proofs.YtmnjmhlodbifjaaGreatDoor.SpecPlain Go.Proofs.YtmnjmhlodbifjaaGreatDoor.Head Go.Proofs.YtmnjmhlodbifjaaGreatDoor.ZoneHead
set_option linter.unusedVariables false

/-- The reference's reading of a text without zone and descriptor. -/
def parseM (o : Int) (l : List UInt8) : Array Value × Nat := if l = [] then (noFields, 0) else plainM o l
theorem noFields_eq : noFields = fldArr (fun _ => false) fun _ _ => false := by unfold noFields; with_reducible rfl
theorem plainM_fld (o : Int) (l : List UInt8) : ∃ st f, (plainM o l).1 = fldArr st f := by
  unfold plainM
  split
  · refine ⟨fun _ => false, fun _ _ => false, ?_⟩; dsimp only; with_reducible exact noFields_eq
  · split
    · refine ⟨fun _ => false, fun _ _ => false, ?_⟩; dsimp only; with_reducible exact noFields_eq
    · split
      · refine ⟨fun _ => false, fun _ _ => false, ?_⟩; dsimp only; with_reducible exact noFields_eq
      · unfold sixM
        split
        · dsimp only; exact ⟨_, _, rfl⟩
        · refine ⟨fun _ => false, fun _ _ => false, ?_⟩; dsimp only; with_reducible exact noFields_eq
theorem plainM_one (o : Int) (l : List UInt8) : (plainM o l).1.all (·.oneCell') = true := by
  obtain ⟨st, f, h⟩ := plainM_fld o l
  rw [h]
  exact fldArr_one _ _

set_option maxHeartbeats 2000000 in
set_option maxRecDepth 100000 in
theorem parse0_any (o : Nat) (s : ByteArray) (w : World) (ho : o < 512) (hs : s.size ≤ 65536) (hz : zoneHead s.data.toList = 0) (ha : starts [64] s.data.toList = false) :
    Calls Tryz.prog 21 #[.int .i64 (o : Int), .string s] w fun e w' => MeanRes (parseM (o : Int) s.data.toList) e ∧ Below w.heap.size w w' := by
  have HZ := Lib.hid (fun w => zoneHead_any s w (by omega))
  rw [hz] at HZ
  have HM0 := Lib.hid (Blk.new w (meanArr false 0 noFields false) 59)
  have hbA : Below w.heap.size w (w.alloc (.cells (meanArr false 0 noFields false) 59)) := (Below.refl _ w).alloc (Nat.le_refl _) _
  have HBA := Lib.hid hbA
  have HP := Lib.hid (fun w => plain_any o s w ho hs ha)
  have HS := Lib.hid (plainM_size (o : Int) s.data.toList)
  have HO := Lib.hid (plainM_one (o : Int) s.data.toList)
  clear hbA hz ha
  unfold parseM
  by_cases h0 : s.size = 0
  · have hl : s.data.toList = [] := by
      have : s.data.toList.length = 0 := by simpa using h0
      exact List.eq_nil_of_length_eq_zero this
    rw [if_pos hl]
    have hq : (s.toList == []) = true := by rw [ByteArray.toList_eq, hl]; rfl
    have hq2 : s.toList = [] := by rw [ByteArray.toList_eq, hl]
    have hq3 : s.toList.isEmpty = true := by rw [hq2]; rfl
    have HQ2 := Lib.hid hq2
    have HL := Lib.hid hl
    clear hl hq2 h0
    go_enter Tryz.func21, Tryz.ntmps21
    go_wp2_with (first
      | (with_reducible refine wpList_alloc_mean rfl rfl ?_)
      | (with_reducible refine wpList_build_mean rfl rfl ?_)
      | (go_at_call 28; refine (HZ.out _).mono ?_; rintro e w' ⟨rfl, rfl⟩)
      | (with_reducible refine wpList_store_mean rfl (.tmp 4) (.tmp 19) rfl w.heap.size _ _ mean0 mean0 mean0_one rfl rfl HM0.out ?_))
    exact bodyPost_ret (results_mean_tmp rfl _ _ w.heap.size _ mean0 rfl (blk_row HM0.out _)) rfl ⟨by unfold MeanRes; dsimp only; rfl, below_row HBA.out (Nat.le_refl _) _⟩
  · have hl : ¬ s.data.toList = [] := by
      intro e
      have : s.data.toList.length = 0 := by rw [e]; rfl
      exact h0 (by simpa using this)
    rw [if_neg hl]
    have hq3 : s.toList.isEmpty = false := by rw [ByteArray.toList_eq]; simpa using hl
    have hq : (s.toList == []) = false := by rw [ByteArray.toList_eq]; simpa using hl
    clear hl h0
    generalize plainM (o : Int) s.data.toList = R at HP HS HO ⊢
    obtain ⟨R1, R2⟩ := R
    have hR : (meanArr false 0 R1 false).size = 387 := meanArr_size _ _ _ _ HS.out
    have HR := Lib.hid hR
    have HR1 := Lib.hid (meanArr_one false 0 R1 false HO.out)
    clear hR
    go_enter Tryz.func21, Tryz.ntmps21
    go_wp2_with (first
      | (with_reducible refine wpList_alloc_mean rfl rfl ?_)
      | (go_at_call 28; refine (HZ.out _).mono ?_; rintro e w' ⟨rfl, rfl⟩)
      | (go_at_call 42; (with_reducible refine (HP.out _).mono ?_); rintro e w1 ⟨he, hb1⟩; obtain rfl := he; have HM1 := Lib.hid (HM0.out.after hb1); have HB1 := Lib.hid (Below.trans HBA.out (hb1.mono (by simp))); clear hb1)
      | (with_reducible refine wpList_store_mean rfl (.tmp 4) (.tmp 23) rfl w.heap.size _ (meanArr false 0 R1 false) mean0 HR.out HR1.out rfl rfl HM1.out ?_))
    exact bodyPost_ret (results_mean_tmp rfl _ _ w.heap.size _ HR.out rfl (blk_row HM1.out _)) rfl ⟨by unfold MeanRes; dsimp only; rfl, below_row HB1.out (Nat.le_refl _) _⟩

end Go.Proofs.YtmnjmhlodbifjaaGreatDoor.SpecParse0
