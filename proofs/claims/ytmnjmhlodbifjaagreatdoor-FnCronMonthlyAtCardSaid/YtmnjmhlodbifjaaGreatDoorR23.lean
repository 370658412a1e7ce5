/- The reference's CronDescribed, CronDelay, CronDescriptor and cronPlain at every text. Conditions: options below 512, texts of at most 65536 bytes. · The reference's cronPlain and CronParse at every text. Conditions: options below 512, texts of at most 65536 bytes. -/
import Derived.Test.YtmnjmhlodbifjaaGreatDoorR18
import Derived.Test.YtmnjmhlodbifjaaGreatDoorR22

namespace Go.Proofs.YtmnjmhlodbifjaaGreatDoor.SpecDesc
open Go Go.RowKit Go.Proofs.YtmnjmhlodbifjaaGreatDoor.Mem Go.Proofs.YtmnjmhlodbifjaaGreatDoor.Aid Go.Proofs.YtmnjmhlodbifjaaGreatDoor.NumPure Go.Proofs.YtmnjmhlodbifjaaGreatDoor.SplitPure Go.Proofs.YtmnjmhlodbifjaaGreatDoor.Split Go.Proofs.YtmnjmhlodbifjaaGreatDoor.FillPure Go.Proofs.YtmnjmhlodbifjaaGreatDoor.FillA Go.Proofs.YtmnjmhlodbifjaaGreatDoor.PlainPure Go.Proofs.YtmnjmhlodbifjaaGreatDoor.NameRel Go.Proofs.YtmnjmhlodbifjaaGreatDoor.SpecName Go.Proofs.YtmnjmhlodbifjaaGreatDoor.SpecSix Go.Proofs.YtmnjmhlodbifjaaGreatDoor.SpecPlain Go.Proofs.YtmnjmhlodbifjaaGreatDoor.Meaning Go.Proofs.YtmnjmhlodbifjaaGreatDoor.Fields Go.Proofs.YtmnjmhlodbifjaaGreatDoor.Big Go.Proofs.YtmnjmhlodbifjaaGreatDoor.Head Go.Proofs.YtmnjmhlodbifjaaGreatDoor.ZoneName Go.Proofs.YtmnjmhlodbifjaaGreatDoor.TrimSpec Go.Proofs.YtmnjmhlodbifjaaGreatDoor.Mean Go.Proofs.YtmnjmhlodbifjaaGreatDoor.SpecDur Go.Proofs.YtmnjmhlodbifjaaGreatDoor.DurPure
set_option linter.unusedVariables false
section
variable {ops : Array Oper} {rest : List Oper} {o : Oper} {a : Act} {w : World} {Q : Exit → Act → World → Prop}
end
end Go.Proofs.YtmnjmhlodbifjaaGreatDoor.SpecDesc
namespace Go.Proofs.YtmnjmhlodbifjaaGreatDoor.SpecParse
open Go Go.RowKit Go.Proofs.YtmnjmhlodbifjaaGreatDoor.Mem Go.Proofs.YtmnjmhlodbifjaaGreatDoor.Aid Go.Proofs.YtmnjmhlodbifjaaGreatDoor.NumPure Go.Proofs.YtmnjmhlodbifjaaGreatDoor.SplitPure Go.Proofs.YtmnjmhlodbifjaaGreatDoor.FillPure Go.Proofs.YtmnjmhlodbifjaaGreatDoor.PlainPure Go.Proofs.YtmnjmhlodbifjaaGreatDoor.NameRel Go.Proofs.YtmnjmhlodbifjaaGreatDoor.SpecName Go.Proofs.YtmnjmhlodbifjaaGreatDoor.SpecSix Go.Proofs.YtmnjmhlodbifjaaGreatDoor.SpecPlain Go.Proofs.YtmnjmhlodbifjaaGreatDoor.Meaning Go.Proofs.YtmnjmhlodbifjaaGreatDoor.Fields Go.Proofs.YtmnjmhlodbifjaaGreatDoor.Big Go.Proofs.YtmnjmhlodbifjaaGreatDoor.Head Go.Proofs.YtmnjmhlodbifjaaGreatDoor.ZoneHead Go.Proofs.YtmnjmhlodbifjaaGreatDoor.ZoneName Go.Proofs.YtmnjmhlodbifjaaGreatDoor.TrimSpec Go.Proofs.YtmnjmhlodbifjaaGreatDoor.Trim Go.Proofs.YtmnjmhlodbifjaaGreatDoor.Mean Go.Proofs.YtmnjmhlodbifjaaGreatDoor.SpecDesc Go.Proofs.YtmnjmhlodbifjaaGreatDoor.SpecDur Go.Proofs.YtmnjmhlodbifjaaGreatDoor.SpecEnds
set_option linter.unusedVariables false
theorem head_no {l : List UInt8} {h : Nat} (hz : zoneHead l = h) : ∀ j, j < h → l.getD j 0 ≠ 32 := by
  intro j hlt hg
  have hpre : ∀ (p l : List UInt8), starts p l = true → ∀ j, j < p.length → l.getD j 0 = p.getD j 0 := by
    intro p l hs j hj
    unfold starts at hs
    have hs : l.take p.length = p := by simpa using hs
    have h1 : p[j]? = l[j]? := by
      conv => lhs; rw [← hs]
      rw [List.getElem?_take, if_pos hj]
    rw [List.getD_eq_getElem?_getD, List.getD_eq_getElem?_getD, h1]
  unfold zoneHead at hz
  split at hz
  · rename_i h1
    have := hpre _ _ h1 j (by unfold tzB; simp; omega)
    rw [hg] at this
    have hj3 : j = 0 ∨ j = 1 ∨ j = 2 := by omega
    rcases hj3 with rfl | rfl | rfl <;> revert this <;> decide
  · split at hz
    · rename_i h1
      have := hpre _ _ h1 j (by unfold cronB; simp; omega)
      rw [hg] at this
      have hj8 : j = 0 ∨ j = 1 ∨ j = 2 ∨ j = 3 ∨ j = 4 ∨ j = 5 ∨ j = 6 ∨ j = 7 := by omega
      rcases hj8 with rfl | rfl | rfl | rfl | rfl | rfl | rfl | rfl <;> revert this <;> decide
    · omega
theorem space_at {s : ByteArray} {h : Nat} (hh : h = 3 ∨ h = 8) (hz : zoneHead s.data.toList = h) (hn : noAnswer s.data.toList = false) : ∃ j, h ≤ j ∧ j < s.size ∧ s.data.toList.getD j 0 = 32 := by
  unfold noAnswer at hn
  rw [hz, decide_eq_true (by omega : 0 < h)] at hn
  simp only [Bool.and_true, Bool.not_eq_false'] at hn
  rw [List.contains_iff_mem] at hn
  obtain ⟨j, hj, he⟩ := List.getElem_of_mem hn
  have hg : s.data.toList.getD j 0 = 32 := by rw [List.getD_eq_getElem?_getD, List.getElem?_eq_getElem hj]; exact he
  refine ⟨j, ?_, by simpa using hj, hg⟩
  rcases Nat.lt_or_ge j h with hlt | hge
  · exact absurd hg (head_no hz j hlt)
  · exact hge
theorem zone_cases (l : List UInt8) : zoneHead l = 0 ∨ zoneHead l = 3 ∨ zoneHead l = 8 := by
  unfold zoneHead
  split
  · exact .inr (.inl rfl)
  · split
    · exact .inr (.inr rfl)
    · exact .inl rfl
theorem name_rest {s : ByteArray} {h k : Nat} (hz : zoneHead s.data.toList = h) (hk : h ≤ k) (hks : k < s.size) (h1 : ∀ j, h ≤ j → j < k → s.data.toList.getD j 0 ≠ 32) (h2 : s.data.toList.getD k 0 = 32) :
    nameOf s.data.toList = (s.extract h k).data.toList ∧ restOf s.data.toList = (s.extract k s.size).data.toList := by
  have h3 := span_from (p := fun c => c != 32) (s := s) hk (by omega) (fun j ha hj => by simpa using h1 j ha hj) (fun hlt => by rw [← Words.getD_at s k hlt, h2]; rfl)
  unfold nameOf restOf
  rw [hz, h3.1, h3.2, drop_take, Lib.extract_to_end]
  exact ⟨rfl, rfl⟩
end Go.Proofs.YtmnjmhlodbifjaaGreatDoor.SpecParse
