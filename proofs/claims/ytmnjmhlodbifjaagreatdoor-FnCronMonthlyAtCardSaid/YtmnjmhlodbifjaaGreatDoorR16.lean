/- What cron's Parse keeps from field to field. Conditions: strconv's sentinels hold something, texts of at most 65536 bytes. · (cron.Parser).Parse at a text that is not empty and begins neither with a time zone nor with an at sign. Conditions: options below 512, texts of at most 65536 bytes, strconv's sentinels hold something; the text's words are those that zzFields hands back. -/
import Derived.Test.YtmnjmhlodbifjaaGreatDoorR9
import Derived.Test.YtmnjmhlodbifjaaGreatDoorR10
import Derived.Test.YtmnjmhlodbifjaaGreatDoorR11
import Derived.Test.YtmnjmhlodbifjaaGreatDoorR15
import Derived.Test.YtmnjmhlodbifjaaGreatDoorR4
import Derived.Deep.RegionHeld3
import Derived.Deep.DrawnRows
import Derived.Deep.QuietTactic
import Derived.BigQuiet
import Derived.Outline

namespace Go.Proofs.YtmnjmhlodbifjaaGreatDoor.ParseA
open Go Go.RowKit Go.Proofs.YtmnjmhlodbifjaaGreatDoor.Mem Go.Proofs.YtmnjmhlodbifjaaGreatDoor.Aid Go.Proofs.YtmnjmhlodbifjaaGreatDoor.Err Go.Proofs.YtmnjmhlodbifjaaGreatDoor.NumPure Go.Proofs.YtmnjmhlodbifjaaGreatDoor.Split Go.Proofs.YtmnjmhlodbifjaaGreatDoor.SplitPure Go.Proofs.YtmnjmhlodbifjaaGreatDoor.Range Go.Proofs.YtmnjmhlodbifjaaGreatDoor.FieldPure Go.Proofs.YtmnjmhlodbifjaaGreatDoor.Field Go.Proofs.YtmnjmhlodbifjaaGreatDoor.Kind Go.Proofs.YtmnjmhlodbifjaaGreatDoor.FillPure Go.Proofs.YtmnjmhlodbifjaaGreatDoor.FillA Go.Proofs.YtmnjmhlodbifjaaGreatDoor.FieldCall Go.Proofs.YtmnjmhlodbifjaaGreatDoor.PlainPure Go.Proofs.YtmnjmhlodbifjaaGreatDoor.PlainSched
set_option linter.unusedVariables false
def Sofar (W0 : World) (ge g6 : Nat) (fL : Nat → ByteArray) (L : List (List UInt8)) (k : Nat) (xs : List Int) (ev : Value) (w : World) : Prop :=
  Below W0.heap.size W0 w ∧ W0.heap.size ≤ ge ∧ Blk w ge #[ev] ∧ g6 ≠ ge ∧ RowAt w g6 fL ∧
    match six L k with
    | some r => r = xs ∧ ev = .nilIface
    | none => ∃ T p, ev = .iface T p
theorem Sofar.drew {W0 : World} {ge g6 : Nat} {fL : Nat → ByteArray} {L : List (List UInt8)} {k : Nat} {xs : List Int} {ev : Value} {w : World} (h : Sofar W0 ge g6 fL L k xs ev w) : Sofar W0 ge g6 fL L k xs ev w.drew :=
  ⟨h.1.drew, h.2.1, h.2.2.1.drew, h.2.2.2.1, h.2.2.2.2.1, h.2.2.2.2.2⟩
theorem Sofar.after {W0 : World} {ge g6 : Nat} {fL : Nat → ByteArray} {L : List (List UInt8)} {k : Nat} {xs : List Int} {ev : Value} {w w' : World} (h : Sofar W0 ge g6 fL L k xs ev w) (hb : Below w.heap.size w w') : Sofar W0 ge g6 fL L k xs ev w' :=
  ⟨h.1.trans (hb.mono h.1.size), h.2.1, h.2.2.1.after hb, h.2.2.2.1, h.2.2.2.2.1.below hb h.2.2.2.2.1.lt, h.2.2.2.2.2⟩
theorem Sofar.vars {W0 : World} {ge g6 : Nat} {fL : Nat → ByteArray} {L : List (List UInt8)} {k : Nat} {xs : List Int} {ev : Value} {w w' : World} (h : Sofar W0 ge g6 fL L k xs ev w) (hv : ErrVars W0) (hb : Below w.heap.size w w') : ErrVars w' := hv.below (h.after hb).1
theorem Sofar.text {W0 : World} {ge g6 : Nat} {fL : Nat → ByteArray} {L : List (List UInt8)} {k : Nat} {xs : List Int} {ev : Value} {w w' : World} (h : Sofar W0 ge g6 fL L k xs ev w) (j : Nat) (hj : j < 6) (hb : Below w.heap.size w w') : w'.cell? ⟨g6, j, none⟩ = some (.string (fL j)) := (h.after hb).2.2.2.2.1.cell j hj
theorem Sofar.err {W0 : World} {ge g6 : Nat} {fL : Nat → ByteArray} {L : List (List UInt8)} {k : Nat} {xs : List Int} {ev : Value} {w w' : World} (h : Sofar W0 ge g6 fL L k xs ev w) (hb : Below w.heap.size w w') : w'.cell? ⟨ge, 0, none⟩ = some ev := (h.after hb).2.2.1.cell rfl
theorem next_field {W0 : World} {ge g6 : Nat} {fL : Nat → ByteArray} {L : List (List UInt8)} {k : Nat} {xs : List Int} {ev : Value} {w w1 : World} (h : Sofar W0 ge g6 fL L k xs ev w) (hb : Below w.heap.size w w1) (hv : ErrVars W0) (hk : k < 6) (hL : ∀ k, L.getD k [] = (fL k).data.toList) (hs : (fL k).size ≤ 65536)
    (m : Value) (hn : NamesAt w1 m (Kind.valOf k)) :
    Calls Tryz.prog 61 #[.string (fL k), .agg #[.int .u64 (lowOf k : Int), .int .u64 (highOf k : Int), m], .pointer (some ⟨ge, 0, none⟩)] w1 fun e w' => ∃ x ev', e = .returned (.int .u64 x) ∧ Sofar W0 ge g6 fL L (k + 1) (xs ++ [x]) ev' w' := by
  have h1 := h.after hb
  obtain ⟨hB, hge, hE, hne, hrow, hst⟩ := h1
  have hlh := low_high5 k (by omega)
  cases hsx : six L k with
  | none =>
    rw [hsx] at hst
    obtain ⟨T, p, rfl⟩ := hst
    refine (call_bad ge _ _ _ _ _ rfl T p w1 hE).mono ?_
    rintro e w' ⟨x, ev', rfl, hE', hbel, hoth, hr⟩
    refine ⟨x, ev', rfl, hB.trans (hbel _ hB.size hge), hge, hE', hne, (hoth g6 hrow.lt hne).trans hrow, ?_⟩
    simp only [six, hsx]; exact hr
  | some r =>
    rw [hsx] at hst
    obtain ⟨rfl, rfl⟩ := hst
    refine (call_good ge _ _ _ m _ w1 hE hlh.1 hlh.2 hs (hv.below hB) hn).mono ?_
    rintro e w' ⟨x, ev', rfl, hE', hbel, hoth, hr⟩
    refine ⟨x, ev', rfl, hB.trans (hbel _ hB.size hge), hge, hE', hne, (hoth g6 hrow.lt hne).trans hrow, ?_⟩
    simp only [six, hsx, fieldOf, hL]
    cases ho : orOf (lowOf k) (highOf k) (Kind.valOf k) (full (fL k).data.toList) 0 with
    | none => rw [ho] at hr; exact hr
    | some v => rw [ho] at hr; obtain ⟨rfl, rfl⟩ := hr; exact ⟨rfl, rfl⟩
def ParseRes (r : Option (List Int)) (loc : Value) (e : Ending) (w' : World) : Prop :=
  match r with
  | some l => ∃ g, e = .returned (.tuple #[.iface 97 (.pointer (some ⟨g, 0, none⟩)), .nilIface]) ∧ SpecAt w' g (l.getD 0 0) (l.getD 1 0) (l.getD 2 0) (l.getD 3 0) (l.getD 4 0) (l.getD 5 0) loc
  | none => ∃ T p, e = .returned (.tuple #[.nilIface, .iface T p])
end Go.Proofs.YtmnjmhlodbifjaaGreatDoor.ParseA
namespace Go.Proofs.YtmnjmhlodbifjaaGreatDoor.ParseP
open Go Go.RowKit Go.Proofs.YtmnjmhlodbifjaaGreatDoor.Mem Go.Proofs.YtmnjmhlodbifjaaGreatDoor.Aid Go.Proofs.YtmnjmhlodbifjaaGreatDoor.Err Go.Proofs.YtmnjmhlodbifjaaGreatDoor.NumPure Go.Proofs.YtmnjmhlodbifjaaGreatDoor.Split Go.Proofs.YtmnjmhlodbifjaaGreatDoor.SplitPure Go.Proofs.YtmnjmhlodbifjaaGreatDoor.Range Go.Proofs.YtmnjmhlodbifjaaGreatDoor.FieldPure Go.Proofs.YtmnjmhlodbifjaaGreatDoor.Field Go.Proofs.YtmnjmhlodbifjaaGreatDoor.Kind Go.Proofs.YtmnjmhlodbifjaaGreatDoor.FillPure Go.Proofs.YtmnjmhlodbifjaaGreatDoor.FillA Go.Proofs.YtmnjmhlodbifjaaGreatDoor.FieldCall Go.Proofs.YtmnjmhlodbifjaaGreatDoor.PlainPure Go.Proofs.YtmnjmhlodbifjaaGreatDoor.PlainSched Go.Proofs.YtmnjmhlodbifjaaGreatDoor.Head Go.Proofs.YtmnjmhlodbifjaaGreatDoor.Norm Go.Proofs.YtmnjmhlodbifjaaGreatDoor.ParseA
set_option linter.unusedVariables false
attribute [local go_sem ↓] Go.wp_at_zero Go.wp_at_succ
def WordsAre (ws : List (List UInt8)) (B : Nat) (e : Ending) (w' : World) : Prop :=
  ∃ v, e = .returned v ∧ w'.ownsRow B 9 1 v ws.length (Split.strs ws) ∧ (ws = [] → v = .slice none 0 0)
def ofWords (o : Int) (ws : List (List UInt8)) : Option (List Int) :=
  match fillOf o (ws.map ofL) with
  | none => none
  | some L => six (L.map fun s => s.data.toList) 6
theorem lists_at (L : List ByteArray) (k : Nat) : (L.map fun s => s.data.toList).getD k [] = (L.getD k ⟨#[]⟩).data.toList := by
  rw [List.getD_eq_getElem?_getD, List.getD_eq_getElem?_getD, List.getElem?_map]
  cases L[k]? <;> rfl
theorem filled_size {t : Nat → Bool} {fs : List ByteArray} (h : ∀ p ∈ fs, p.size ≤ 65536) (k : Nat) : ((filled t fs).getD k ⟨#[]⟩).size ≤ 65536 := by
  rw [List.getD_eq_getElem?_getD]
  cases hc : (filled t fs)[k]? with
  | none => exact Nat.zero_le _
  | some p =>
    have hm := List.mem_of_getElem? hc
    unfold filled at hm
    obtain ⟨j, _, rfl⟩ := List.mem_map.1 hm
    simp only [Option.getD_some]
    unfold at'
    split
    · rw [List.getD_eq_getElem?_getD]
      cases hd : fs[cnt t j]? with
      | none => exact Nat.zero_le _
      | some q => exact h q (List.mem_of_getElem? hd)
    · unfold dflt; split <;> decide
theorem fill_size {o : Int} {fs L : List ByteArray} (h : ∀ p ∈ fs, p.size ≤ 65536) (hf : fillOf o fs = some L) (k : Nat) : (L.getD k ⟨#[]⟩).size ≤ 65536 := by
  unfold fillOf at hf
  cases hm : missOf o fs.length with
  | none => rw [hm] at hf; cases hf
  | some miss =>
    rw [hm] at hf
    cases hf
    exact filled_size h k
theorem row_apart {w : World} {g ge : Nat} {f : Nat → ByteArray} {ev : Value} (h : RowAt w g f) (hE : Blk w ge #[ev]) : g ≠ ge := by
  rintro rfl
  obtain ⟨E, hE⟩ := hE
  have h2 := hE.symm.trans h
  have h3 : (#[ev] : Array Value) = strArr f := by injection h2 with h2; injection h2
  have := congrArg Array.size h3
  rw [strArr_size] at this
  simp at this
theorem six_start {W0 w : World} {ge g6 : Nat} {fL : Nat → ByteArray} {L : List (List UInt8)} (hB : Below W0.heap.size W0 w) (hge : W0.heap.size ≤ ge) (hE : Blk w ge #[.nilIface]) (hr : RowAt w g6 fL) : Sofar W0 ge g6 fL L 0 [] .nilIface w :=
  ⟨hB, hge, hE, row_apart hr hE, hr, rfl, rfl⟩
theorem norm_words (o : Nat) (ho : o < 512) (ws : List (List UInt8)) (B : Nat) (v : Value) (w : World) (hm : ws.length ≤ 65536) (hown : w.ownsRow B 9 1 v ws.length (Split.strs ws)) (hv : ws = [] → v = .slice none 0 0) (hB : B ≤ w.heap.size) (ge : Nat) (ev : Value) (hE : Blk w ge #[ev]) (hapart : ∀ g n c, v = .slice (some ⟨g, 0, none⟩) n c → g ≠ ge) :
    Calls Tryz.prog 60 #[v, .int .i64 (o : Int)] w fun e w' => NormRes (fillOf (o : Int) (ws.map ofL)) B e w' ∧ Below B w w' ∧ Blk w' ge #[ev] := by
  obtain ⟨f1, f2, f3, f4, f5, f6, f7, f8⟩ := opts_facts ⟨o, ho⟩
  simp only at f1 f2 f3 f4 f5 f6 f7 f8
  have hd2 : dow (opt1 (o : Int)) = dow (o : Int) := by unfold opt1; split; exact f8; rfl
  have hht : ∀ k, k < 6 → hit (more (o : Int)) k = takes (o : Int) k := fun k hk => f1 ⟨k, hk⟩
  by_cases h0 : ws = []
  · subst h0
    rw [hv rfl]
    refine (norm_nil (o : Int) w f4 f5 hd2 hht f6 f7).mono ?_
    rintro e w' ⟨h1, h2⟩
    refine ⟨?_, h2.mono hB, hE.after h2⟩
    revert h1
    unfold NormRes
    simp only [List.map_nil]
    cases fillOf (o : Int) [] with
    | none => exact id
    | some L => rintro ⟨g, a, b, c⟩; exact ⟨g, a, by omega, c⟩
  · obtain ⟨g, cap, rfl, hg⟩ := owned_shape hown (by cases ws; exact absurd rfl h0; simp)
    have e1 : (ws.map ofL).length = ws.length := by simp
    have := norm_near (o : Int) B g cap (ws.map ofL) w (by simpa using hm) (by rw [show FillA.strs (ws.map ofL) = Split.strs ws by simp [FillA.strs, Split.strs]]; simpa using hown) hB f4 f5 hd2 hht f6 f7
    rw [e1] at this
    refine this.mono ?_
    rintro e w' ⟨h1, h2, h3⟩
    refine ⟨h1, h2, ?_⟩
    obtain ⟨E, hE⟩ := hE
    exact ⟨E, (h3.block ge (Array.getElem?_eq_some_iff.1 hE).1 (hapart g _ _ rfl).symm).trans hE⟩
theorem apart {w1 : World} {B : Nat} {ws : List (List UInt8)} {v : Value} (hown : w1.ownsRow B 9 1 v ws.length (Split.strs ws)) (hv : ws = [] → v = .slice none 0 0) : ∀ g n c, v = .slice (some ⟨g, 0, none⟩) n c → g ≠ w1.heap.size := by
  intro g n c he
  by_cases h0 : ws = []
  · rw [hv h0] at he; cases he
  · obtain ⟨g', cap, h1, h2⟩ := owned_shape hown (by cases ws; exact absurd rfl h0; simp)
    rw [h1] at he
    cases he
    omega
end Go.Proofs.YtmnjmhlodbifjaaGreatDoor.ParseP
