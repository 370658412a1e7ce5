/- What cron's Parse keeps from field to field. Conditions: strconv's sentinels hold something, texts of at most 65536 bytes. -/
import Derived.Test.YtmnjmhlodbifjaaGreatDoorFieldCall
import Derived.Test.YtmnjmhlodbifjaaGreatDoorKind
import Derived.Test.YtmnjmhlodbifjaaGreatDoorPlainPure
import Derived.Test.YtmnjmhlodbifjaaGreatDoorPlainSched
import Derived.Test.YtmnjmhlodbifjaaGreatDoorHead
import Derived.Test.YtmnjmhlodbifjaaGreatDoorNorm
namespace Go.Proofs.YtmnjmhlodbifjaaGreatDoor.ParseA
open Go Go.RowKit Go.Proofs.YtmnjmhlodbifjaaGreatDoor.Mem Go.Proofs.YtmnjmhlodbifjaaGreatDoor.Aid Go.Proofs.YtmnjmhlodbifjaaGreatDoor.Err Go.Proofs.YtmnjmhlodbifjaaGreatDoor.NumPure Go.Proofs.YtmnjmhlodbifjaaGreatDoor.Split Go.Proofs.YtmnjmhlodbifjaaGreatDoor.SplitPure Go.Proofs.YtmnjmhlodbifjaaGreatDoor.Range Go.Proofs.YtmnjmhlodbifjaaGreatDoor.FieldPure Go.Proofs.YtmnjmhlodbifjaaGreatDoor.Field Go.Proofs.YtmnjmhlodbifjaaGreatDoor.Kind Go.Proofs.YtmnjmhlodbifjaaGreatDoor.FillPure Go.Proofs.YtmnjmhlodbifjaaGreatDoor.FillA Go.Proofs.YtmnjmhlodbifjaaGreatDoor.FieldCall Go.Proofs.YtmnjmhlodbifjaaGreatDoor.PlainPure Go.Proofs.YtmnjmhlodbifjaaGreatDoor.PlainSched
set_option linter.unusedVariables false

/-- Behind k fields: the numbers xs, the variable of the error at ge, the six texts at g6. -/
def Sofar (W0 : World) (ge g6 : Nat) (fL : Nat → ByteArray) (L : List (List UInt8)) (k : Nat) (xs : List Int) (ev : Value) (w : World) : Prop :=
  Below W0.heap.size W0 w ∧ W0.heap.size ≤ ge ∧ Blk w ge #[ev] ∧ g6 ≠ ge ∧ RowAt w g6 fL ∧
    match six L k with
    | some r => r = xs ∧ ev = .nilIface
    | none => ∃ T p, ev = .iface T p
theorem Sofar.drew {W0 : World} {ge g6 : Nat} {fL : Nat → ByteArray} {L : List (List UInt8)} {k : Nat} {xs : List Int} {ev : Value} {w : World} (h : Sofar W0 ge g6 fL L k xs ev w) : Sofar W0 ge g6 fL L k xs ev w.drew :=
  ⟨h.1.drew, h.2.1, h.2.2.1.drew, h.2.2.2.1, h.2.2.2.2.1, h.2.2.2.2.2⟩
theorem Sofar.after {W0 : World} {ge g6 : Nat} {fL : Nat → ByteArray} {L : List (List UInt8)} {k : Nat} {xs : List Int} {ev : Value} {w w' : World} (h : Sofar W0 ge g6 fL L k xs ev w) (hb : Below w.heap.size w w') : Sofar W0 ge g6 fL L k xs ev w' :=
  ⟨h.1.trans (hb.mono h.1.size), h.2.1, h.2.2.1.after hb, h.2.2.2.1, h.2.2.2.2.1.below hb h.2.2.2.2.1.lt, h.2.2.2.2.2⟩
theorem Sofar.vars {W0 : World} {ge g6 : Nat} {fL : Nat → ByteArray} {L : List (List UInt8)} {k : Nat} {xs : List Int} {ev : Value} {w w' : World} (h : Sofar W0 ge g6 fL L k xs ev w) (hv : ErrVars W0) (hb : Below w.heap.size w w') : ErrVars w' := hv.below (h.after hb).1
theorem Sofar.text {W0 : World} {ge g6 : Nat} {fL : Nat → ByteArray} {L : List (List UInt8)} {k : Nat} {xs : List Int} {ev : Value} {w w' : World} (h : Sofar W0 ge g6 fL L k xs ev w) (j : Nat) (hj : j < 6) (hb : Below w.heap.size w w') : w'.cell? ⟨g6, j, none⟩ = some (.string (fL j)) := (h.after hb).2.2.2.2.1.cell j hj
theorem Sofar.err {W0 : World} {ge g6 : Nat} {fL : Nat → ByteArray} {L : List (List UInt8)} {k : Nat} {xs : List Int} {ev : Value} {w w' : World} (h : Sofar W0 ge g6 fL L k xs ev w) (hb : Below w.heap.size w w') : w'.cell? ⟨ge, 0, none⟩ = some ev := (h.after hb).2.2.1.cell rfl

theorem next_field {W0 : World} {ge g6 : Nat} {fL : Nat → ByteArray} {L : List (List UInt8)} {k : Nat} {xs : List Int} {ev : Value} {w w1 : World} (h : Sofar W0 ge g6 fL L k xs ev w) (hb : Below w.heap.size w w1) (hv : ErrVars W0) (hk : k < 6) (hL : ∀ k, L.getD k [] = (fL k).data.toList) (hs : (fL k).size ≤ 65536)
    (m : Value) (hn : NamesAt w1 m (Kind.valOf k)) :
    Calls Tryz.prog 61 #[.string (fL k), .agg #[.int .u64 (lowOf k : Int), .int .u64 (highOf k : Int), m], .pointer (some ⟨ge, 0, none⟩)] w1 fun e w' => ∃ x ev', e = .returned (.int .u64 x) ∧ Sofar W0 ge g6 fL L (k + 1) (xs ++ [x]) ev' w' := by
  have h1 := h.after hb
  obtain ⟨hB, hge, hE, hne, hrow, hst⟩ := h1
  have hlh := low_high5 k (by omega)
  cases hsx : six L k with
  | none =>
    rw [hsx] at hst
    obtain ⟨T, p, rfl⟩ := hst
    refine (call_bad ge _ _ _ _ _ rfl T p w1 hE).mono ?_
    rintro e w' ⟨x, ev', rfl, hE', hbel, hoth, hr⟩
    refine ⟨x, ev', rfl, hB.trans (hbel _ hB.size hge), hge, hE', hne, (hoth g6 hrow.lt hne).trans hrow, ?_⟩
    simp only [six, hsx]; exact hr
  | some r =>
    rw [hsx] at hst
    obtain ⟨rfl, rfl⟩ := hst
    refine (call_good ge _ _ _ m _ w1 hE hlh.1 hlh.2 hs (hv.below hB) hn).mono ?_
    rintro e w' ⟨x, ev', rfl, hE', hbel, hoth, hr⟩
    refine ⟨x, ev', rfl, hB.trans (hbel _ hB.size hge), hge, hE', hne, (hoth g6 hrow.lt hne).trans hrow, ?_⟩
    simp only [six, hsx, fieldOf, hL]
    cases ho : orOf (lowOf k) (highOf k) (Kind.valOf k) (full (fL k).data.toList) 0 with
    | none => rw [ho] at hr; exact hr
    | some v => rw [ho] at hr; obtain ⟨rfl, rfl⟩ := hr; exact ⟨rfl, rfl⟩

/-- What Parse hands back. -/
def ParseRes (r : Option (List Int)) (loc : Value) (e : Ending) (w' : World) : Prop :=
  match r with
  | some l => ∃ g, e = .returned (.tuple #[.iface 97 (.pointer (some ⟨g, 0, none⟩)), .nilIface]) ∧ SpecAt w' g (l.getD 0 0) (l.getD 1 0) (l.getD 2 0) (l.getD 3 0) (l.getD 4 0) (l.getD 5 0) loc
  | none => ∃ T p, e = .returned (.tuple #[.nilIface, .iface T p])

end Go.Proofs.YtmnjmhlodbifjaaGreatDoor.ParseA
