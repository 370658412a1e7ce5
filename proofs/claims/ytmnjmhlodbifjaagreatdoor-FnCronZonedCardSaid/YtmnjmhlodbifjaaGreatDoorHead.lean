/- Heads of texts: strings.HasPrefix, the reference's cronBegins and the law's cronHead. Conditions: none. -/
import Derived.Test.YtmnjmhlodbifjaaGreatDoorPlainPure
namespace Go.Proofs.YtmnjmhlodbifjaaGreatDoor.Head
open Go Go.RowKit Go.Proofs.YtmnjmhlodbifjaaGreatDoor.Split Go.Proofs.YtmnjmhlodbifjaaGreatDoor.SplitPure Go.Proofs.YtmnjmhlodbifjaaGreatDoor.PlainPure
set_option linter.unusedVariables false

/-- A text begins with another. -/
def starts (p l : List UInt8) : Bool := l.take p.length == p
theorem starts_short {p l : List UInt8} (h : l.length < p.length) : starts p l = false := by
  unfold starts
  rw [beq_eq_false_iff_ne]
  intro e
  have := congrArg List.length e
  simp at this
  omega
theorem starts_ext (p s : ByteArray) : ((s.extract 0 p.size).toList == p.toList) = starts p.data.toList s.data.toList := by
  unfold starts
  rw [ByteArray.toList_eq, ByteArray.toList_eq]
  simp [List.extract_eq_take_drop]

theorem slite_any (s p : ByteArray) (w : World) (hs : s.size ≤ maxLen) (hp : p.size ≤ maxLen) :
    Calls Tryz.prog 89 #[.string s, .string p] w fun e w' => e = .returned (.bool (starts p.data.toList s.data.toList)) ∧ w = w' := by
  unfold maxLen at hs hp
  by_cases h : p.size ≤ s.size
  · have HS := Lib.hid (starts_ext p s)
    obtain ⟨b, hb⟩ : ∃ b, ((s.extract 0 p.size).toList == p.toList) = b := ⟨_, rfl⟩
    go_enter Tryz.func89, Tryz.ntmps89
    go_wp2
    go_ret
    exact ⟨by rw [← HS.out, hb]; rfl, rfl⟩
  · have HS := Lib.hid (starts_short (p := p.data.toList) (l := s.data.toList) (by simp; omega))
    have hd : decide (p.size ≤ s.size) = false := decide_eq_false h
    go_enter Tryz.func89, Tryz.ntmps89
    go_wp2
    go_ret
    exact ⟨by rw [HS.out]; rfl, rfl⟩

theorem begins_any (s p : ByteArray) (w : World) (hs : s.size ≤ maxLen) (hp : p.size ≤ maxLen) :
    Calls Tryz.prog 50 #[.string s, .string p] w fun e w' => e = .returned (.bool (starts p.data.toList s.data.toList)) ∧ w = w' := by
  unfold maxLen at hs hp
  by_cases h : p.size ≤ s.size
  · have HS := Lib.hid (starts_ext p s)
    obtain ⟨b, hb⟩ : ∃ b, ((s.extract 0 p.size).toList == p.toList) = b := ⟨_, rfl⟩
    go_enter Tryz.func50, Tryz.ntmps50
    go_wp2
    go_ret
    exact ⟨by rw [← HS.out, hb]; rfl, rfl⟩
  · have HS := Lib.hid (starts_short (p := p.data.toList) (l := s.data.toList) (by simp; omega))
    have hd : decide (p.size ≤ s.size) = false := decide_eq_false h
    go_enter Tryz.func50, Tryz.ntmps50
    go_wp2
    go_ret
    exact ⟨by rw [HS.out]; rfl, rfl⟩

theorem lawHead_any (s p : ByteArray) (w : World) (hs : s.size ≤ maxLen) (hp : p.size ≤ maxLen) :
    Calls Tryz.prog 27 #[.string s, .string p] w fun e w' => e = .returned (.bool (starts p.data.toList s.data.toList)) ∧ w = w' := by
  unfold maxLen at hs hp
  by_cases h : p.size ≤ s.size
  · have HS := Lib.hid (starts_ext p s)
    obtain ⟨b, hb⟩ : ∃ b, ((s.extract 0 p.size).toList == p.toList) = b := ⟨_, rfl⟩
    go_enter Tryz.func27, Tryz.ntmps27
    go_wp2
    go_ret
    exact ⟨by rw [← HS.out, hb]; rfl, rfl⟩
  · have HS := Lib.hid (starts_short (p := p.data.toList) (l := s.data.toList) (by simp; omega))
    have hd : decide (p.size ≤ s.size) = false := decide_eq_false h
    go_enter Tryz.func27, Tryz.ntmps27
    go_wp2
    go_ret
    exact ⟨by rw [HS.out]; rfl, rfl⟩

theorem hasPrefix_any (s p : ByteArray) (w : World) (hs : s.size ≤ maxLen) (hp : p.size ≤ maxLen) :
    Calls Tryz.prog 54 #[.string s, .string p] w fun e w' => e = .returned (.bool (starts p.data.toList s.data.toList)) ∧ w = w' := by
  have HC := Lib.hid (fun w => slite_any s p w hs hp)
  go_enter Tryz.func54, Tryz.ntmps54
  go_wp2_with (go_at_call 89; refine (HC.out _).mono ?_; rintro e w' ⟨rfl, rfl⟩)
  go_ret
  exact ⟨rfl, rfl⟩

end Go.Proofs.YtmnjmhlodbifjaaGreatDoor.Head
