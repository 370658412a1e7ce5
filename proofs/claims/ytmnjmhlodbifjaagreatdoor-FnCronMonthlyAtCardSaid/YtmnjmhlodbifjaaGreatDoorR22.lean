/- The reference's cronUnit, cronTerm and CronDuration. Conditions: texts of at most 65536 bytes. -/
import Derived.Test.YtmnjmhlodbifjaaGreatDoorR19
import Derived.Test.YtmnjmhlodbifjaaGreatDoorR17
import Derived.Test.YtmnjmhlodbifjaaGreatDoorR12
import Derived.Test.YtmnjmhlodbifjaaGreatDoorR18
import Derived.Outline

namespace Go.Proofs.YtmnjmhlodbifjaaGreatDoor.SpecDur
open Go Go.RowKit Go.Proofs.YtmnjmhlodbifjaaGreatDoor.Mem Go.Proofs.YtmnjmhlodbifjaaGreatDoor.Aid Go.Proofs.YtmnjmhlodbifjaaGreatDoor.NumPure Go.Proofs.YtmnjmhlodbifjaaGreatDoor.SplitPure Go.Proofs.YtmnjmhlodbifjaaGreatDoor.DurPure Go.Proofs.YtmnjmhlodbifjaaGreatDoor.DurKept Go.Proofs.YtmnjmhlodbifjaaGreatDoor.TrimSpec Go.Proofs.YtmnjmhlodbifjaaGreatDoor.ZoneName Go.Proofs.YtmnjmhlodbifjaaGreatDoor.SpecNum Go.Proofs.YtmnjmhlodbifjaaGreatDoor.SpecEnds
set_option linter.unusedVariables false
theorem drop_take {s : ByteArray} {a b : Nat} : (s.extract a b).data.toList = (s.data.toList.drop a).take (b - a) := Lib.extract_data s a b
theorem span_from {p : UInt8 → Bool} {s : ByteArray} {a k : Nat} (hak : a ≤ k) (hk : k ≤ s.size) (h : ∀ j, a ≤ j → j < k → p (s.data.toList.getD j 0) = true) (he : ∀ h : k < s.size, p s[k] = false) :
    (s.data.toList.drop a).takeWhile p = (s.data.toList.drop a).take (k - a) ∧ (s.data.toList.drop a).dropWhile p = s.data.toList.drop k := by
  have hl : s.data.toList.length = s.size := (Lib.size_eq s).symm
  have hg : ∀ j, (s.data.toList.drop a).getD j 0 = s.data.toList.getD (a + j) 0 := fun j => by
    rw [List.getD_eq_getElem?_getD, List.getD_eq_getElem?_getD, List.getElem?_drop]
  have := span_at (p := p) (l := s.data.toList.drop a) (k := k - a) (by rw [List.length_drop]; omega) (fun j hj => by rw [hg]; exact h _ (by omega) (by omega)) (fun hlt => by
    rw [List.length_drop] at hlt
    rw [hg, show a + (k - a) = k by omega, Words.getD_at s k (by omega)]
    exact he (by omega))
  rw [List.drop_drop, show a + (k - a) = k by omega] at this
  exact this
def Run (R : Option (Option Nat)) (l : List UInt8) (sum v : Nat) : Prop := ∃ n, l.length ≤ n ∧ ((v = 1 ∧ durGo n l sum true = R) ∨ (v = 2 ∧ durGo n l 0 false = R))
theorem Run.other {R : Option (Option Nat)} {l : List UInt8} {sum v s2 : Nat} (h : Run R l sum v) (h0 : l ≠ []) (hb : termBad l = false) (ho : v = 2 ∨ termOk l = false ∨ 4611686018427387904 < sum + termNum l) : Run R (tailOf l) s2 2 := by
  obtain ⟨n, hn, h⟩ := h
  have hlt := rest_lt _ hb
  obtain ⟨m, rfl⟩ : ∃ m, n = m + 1 := ⟨n - 1, by omega⟩
  refine ⟨m, by omega, .inr ⟨rfl, ?_⟩⟩
  rcases h with ⟨h1, h⟩ | ⟨h1, h⟩
  · rw [← h, dur_open h0 hb]
    rcases ho with ho | ho | ho
    · omega
    · rw [ho]; simp
    · rw [decide_eq_false (by omega)]; simp
  · rw [← h, dur_open h0 hb]
    simp
end Go.Proofs.YtmnjmhlodbifjaaGreatDoor.SpecDur
