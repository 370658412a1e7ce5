/- Heads of texts: strings.HasPrefix, the reference's cronBegins and the law's cronHead. Conditions: none. · The reference's cronPlain at texts that do not begin with an at sign. Conditions: options below 512, texts of at most 65536 bytes. · Heads of a cron text: the reference's CronZoneHead, the law's cronPlainText, the reference's CronOptions. Conditions: texts of at most 2^31 - 1 bytes. · impl.plainSchedule: a schedule of sets, one of a constant delay, an error. Conditions: none. -/
import Derived.Test.YtmnjmhlodbifjaaGreatDoorR11
import Derived.Test.YtmnjmhlodbifjaaGreatDoorR13
import Derived.Test.YtmnjmhlodbifjaaGreatDoorR14
import Derived.Test.YtmnjmhlodbifjaaGreatDoorR4
import Derived.Test.YtmnjmhlodbifjaaGreatDoorR2
import Derived.Deep.RegionHeld3
import Derived.Deep.DrawnRows

namespace Go.Proofs.YtmnjmhlodbifjaaGreatDoor.Head
open Go Go.RowKit Go.Proofs.YtmnjmhlodbifjaaGreatDoor.Split Go.Proofs.YtmnjmhlodbifjaaGreatDoor.SplitPure Go.Proofs.YtmnjmhlodbifjaaGreatDoor.PlainPure
set_option linter.unusedVariables false
def starts (p l : List UInt8) : Bool := l.take p.length == p
theorem starts_short {p l : List UInt8} (h : l.length < p.length) : starts p l = false := by
  unfold starts
  rw [beq_eq_false_iff_ne]
  intro e
  have := congrArg List.length e
  simp at this
  omega
theorem starts_ext (p s : ByteArray) : ((s.extract 0 p.size).toList == p.toList) = starts p.data.toList s.data.toList := by
  unfold starts
  rw [ByteArray.toList_eq, ByteArray.toList_eq]
  simp [List.extract_eq_take_drop]
theorem slite_any (s p : ByteArray) (w : World) (hs : s.size ≤ maxLen) (hp : p.size ≤ maxLen) :
    Calls Tryz.prog 89 #[.string s, .string p] w fun e w' => e = .returned (.bool (starts p.data.toList s.data.toList)) ∧ w = w' := by
  unfold maxLen at hs hp
  by_cases h : p.size ≤ s.size
  · have HS := Lib.hid (starts_ext p s)
    obtain ⟨b, hb⟩ : ∃ b, ((s.extract 0 p.size).toList == p.toList) = b := ⟨_, rfl⟩
    go_enter Tryz.func89, Tryz.ntmps89
    go_wp2
    go_ret
    exact ⟨by rw [← HS.out, hb]; rfl, rfl⟩
  · have HS := Lib.hid (starts_short (p := p.data.toList) (l := s.data.toList) (by simp; omega))
    have hd : decide (p.size ≤ s.size) = false := decide_eq_false h
    go_enter Tryz.func89, Tryz.ntmps89
    go_wp2
    go_ret
    exact ⟨by rw [HS.out]; rfl, rfl⟩
theorem hasPrefix_any (s p : ByteArray) (w : World) (hs : s.size ≤ maxLen) (hp : p.size ≤ maxLen) :
    Calls Tryz.prog 54 #[.string s, .string p] w fun e w' => e = .returned (.bool (starts p.data.toList s.data.toList)) ∧ w = w' := by
  have HC := Lib.hid (fun w => slite_any s p w hs hp)
  go_enter Tryz.func54, Tryz.ntmps54
  go_wp2_with (go_at_call 89; refine (HC.out _).mono ?_; rintro e w' ⟨rfl, rfl⟩)
  go_ret
  exact ⟨rfl, rfl⟩
end Go.Proofs.YtmnjmhlodbifjaaGreatDoor.Head
namespace Go.Proofs.YtmnjmhlodbifjaaGreatDoor.SpecPlain
open Go Go.RowKit Go.Proofs.YtmnjmhlodbifjaaGreatDoor.Mem Go.Proofs.YtmnjmhlodbifjaaGreatDoor.Aid Go.Proofs.YtmnjmhlodbifjaaGreatDoor.Set Go.Proofs.YtmnjmhlodbifjaaGreatDoor.Fields Go.Proofs.YtmnjmhlodbifjaaGreatDoor.Big Go.Proofs.YtmnjmhlodbifjaaGreatDoor.Meaning Go.Proofs.YtmnjmhlodbifjaaGreatDoor.NumPure Go.Proofs.YtmnjmhlodbifjaaGreatDoor.SplitPure Go.Proofs.YtmnjmhlodbifjaaGreatDoor.Split Go.Proofs.YtmnjmhlodbifjaaGreatDoor.FillPure Go.Proofs.YtmnjmhlodbifjaaGreatDoor.FillA Go.Proofs.YtmnjmhlodbifjaaGreatDoor.FillSpec Go.Proofs.YtmnjmhlodbifjaaGreatDoor.PlainPure Go.Proofs.YtmnjmhlodbifjaaGreatDoor.NameRel Go.Proofs.YtmnjmhlodbifjaaGreatDoor.SpecName Go.Proofs.YtmnjmhlodbifjaaGreatDoor.SpecSix Go.Proofs.YtmnjmhlodbifjaaGreatDoor.Words Go.Proofs.YtmnjmhlodbifjaaGreatDoor.Head
set_option linter.unusedVariables false
theorem lists_at (L : List ByteArray) (k : Nat) : (L.map fun s => s.data.toList).getD k [] = (L.getD k ⟨#[]⟩).data.toList := by
  rw [List.getD_eq_getElem?_getD, List.getD_eq_getElem?_getD, List.getElem?_map]
  cases L[k]? <;> rfl
theorem fill_size {o : Int} {fs L : List ByteArray} (h : ∀ p ∈ fs, p.size ≤ 65536) (hf : fillOf o fs = some L) (k : Nat) : (L.getD k ⟨#[]⟩).size ≤ 65536 := by
  unfold fillOf at hf
  cases hm : missOf o fs.length with
  | none => rw [hm] at hf; cases hf
  | some miss =>
    rw [hm] at hf
    cases hf
    rw [List.getD_eq_getElem?_getD]
    cases hc : (filled (without (takes o) miss) fs)[k]? with
    | none => exact Nat.zero_le _
    | some p =>
      have hm := List.mem_of_getElem? hc
      unfold filled at hm
      obtain ⟨j, _, rfl⟩ := List.mem_map.1 hm
      simp only [Option.getD_some]
      unfold at'
      split
      · rw [List.getD_eq_getElem?_getD]
        cases hd : fs[cnt (without (takes o) miss) j]? with
        | none => exact Nat.zero_le _
        | some q => exact h q (List.mem_of_getElem? hd)
      · unfold dflt; split <;> decide
end Go.Proofs.YtmnjmhlodbifjaaGreatDoor.SpecPlain
namespace Go.Proofs.YtmnjmhlodbifjaaGreatDoor.ZoneHead
open Go Go.RowKit Go.Proofs.YtmnjmhlodbifjaaGreatDoor.Mem Go.Proofs.YtmnjmhlodbifjaaGreatDoor.Aid Go.Proofs.YtmnjmhlodbifjaaGreatDoor.FillPure Go.Proofs.YtmnjmhlodbifjaaGreatDoor.FillA Go.Proofs.YtmnjmhlodbifjaaGreatDoor.PlainPure Go.Proofs.YtmnjmhlodbifjaaGreatDoor.NameRel Go.Proofs.YtmnjmhlodbifjaaGreatDoor.SpecName Go.Proofs.YtmnjmhlodbifjaaGreatDoor.Head
set_option linter.unusedVariables false
def tzB : List UInt8 := [84, 90, 61]
def cronB : List UInt8 := [67, 82, 79, 78, 95, 84, 90, 61]
def zoneHead (l : List UInt8) : Nat := if starts tzB l then 3 else if starts cronB l then 8 else 0
end Go.Proofs.YtmnjmhlodbifjaaGreatDoor.ZoneHead
namespace Go.Proofs.YtmnjmhlodbifjaaGreatDoor.PlainSched
open Go Go.RowKit Go.Proofs.YtmnjmhlodbifjaaGreatDoor.Mem Go.Proofs.YtmnjmhlodbifjaaGreatDoor.Aid
set_option linter.unusedVariables false
attribute [local go_sem ↓] Go.wp_at_zero Go.wp_at_succ
def SpecAt (w : World) (g : Nat) (a b c d e f : Int) (loc : Value) : Prop := Blk w g #[.int .u64 a, .int .u64 b, .int .u64 c, .int .u64 d, .int .u64 e, .int .u64 f, loc]
theorem SpecAt.after {w w' : World} {g : Nat} {a b c d e f : Int} {loc : Value} (h : SpecAt w g a b c d e f loc) (hb : Below w.heap.size w w') : SpecAt w' g a b c d e f loc := Blk.after h hb
theorem ta_spec (p : Value) (w : World) : (Instr.typeAssert (.iface 97 p) 78 97 true).run Tryz.prog w = .ok (.tuple #[p, .bool true]) w := by kernel_rfl
theorem ta_no (p : Value) (w : World) : (Instr.typeAssert (.iface 108 p) 78 97 true).run Tryz.prog w = .ok (.tuple #[.pointer none, .bool false]) w := by kernel_rfl
theorem ta_delay (p : Value) (w : World) : (Instr.typeAssert (.iface 108 p) 78 108 true).run Tryz.prog w = .ok (.tuple #[p, .bool true]) w := by kernel_rfl
theorem plain_err (s : Value) (T : TypeId) (p : Value) (w : World) :
    Calls Tryz.prog 30 #[s, .iface T p] w fun e w' => e = .returned (.tuple #[.agg #[.bool false, .int .i64 0, .int .u64 0, .int .u64 0, .int .u64 0, .int .u64 0, .int .u64 0, .int .u64 0], .bool false]) ∧ Below w.heap.size w w' := by
  have t1 := ta_spec
  have t2 := ta_no
  have t3 := ta_delay
  go_enter Tryz.func30, Tryz.ntmps30
  go_wp2
  exact bodyPost_ret (v := .tuple #[.agg #[.bool false, .int .i64 0, .int .u64 0, .int .u64 0, .int .u64 0, .int .u64 0, .int .u64 0, .int .u64 0], .bool false]) (by simp [results, Tryz.results30, go_sem]) rfl ⟨rfl, (Below.refl _ _).alloc (Nat.le_refl _) _⟩
set_option maxRecDepth 100000 in
theorem plain_delay (d : Int) (w : World) :
    Calls Tryz.prog 30 #[.iface 108 (.agg #[.int .i64 d]), .nilIface] w fun e w' => e = .returned (.tuple #[.agg #[.bool true, .int .i64 d, .int .u64 0, .int .u64 0, .int .u64 0, .int .u64 0, .int .u64 0, .int .u64 0], .bool true]) ∧ Below w.heap.size w w' := by
  have t1 := ta_spec
  have t2 := ta_no
  have t3 := ta_delay
  go_enter Tryz.func30, Tryz.ntmps30
  go_wp2
  exact bodyPost_ret (v := .tuple #[.agg #[.bool true, .int .i64 d, .int .u64 0, .int .u64 0, .int .u64 0, .int .u64 0, .int .u64 0, .int .u64 0], .bool true]) (by simp [results, Tryz.results30, go_sem]) rfl ⟨rfl, ((Below.refl _ _).alloc (Nat.le_refl _) _).alloc (by simp) _⟩
set_option maxHeartbeats 1000000 in
set_option maxRecDepth 100000 in
theorem plain_spec (g : Nat) (a b c d e f : Int) (loc : Value) (w : World) (h : SpecAt w g a b c d e f loc) :
    Calls Tryz.prog 30 #[.iface 97 (.pointer (some ⟨g, 0, none⟩)), .nilIface] w fun e' w' => e' = .returned (.tuple #[.agg #[.bool false, .int .i64 0, .int .u64 a, .int .u64 b, .int .u64 c, .int .u64 d, .int .u64 e, .int .u64 f], .bool true]) ∧ Below w.heap.size w w' := by
  have hg := Blk.lt h
  have k0 := Blk.cell h (j := 0) (v := .int .u64 a) rfl
  have k1 := Blk.cell h (j := 1) (v := .int .u64 b) rfl
  have k2 := Blk.cell h (j := 2) (v := .int .u64 c) rfl
  have k3 := Blk.cell h (j := 3) (v := .int .u64 d) rfl
  have k4 := Blk.cell h (j := 4) (v := .int .u64 e) rfl
  have k5 := Blk.cell h (j := 5) (v := .int .u64 f) rfl
  clear h
  have hgn : ¬ g = w.heap.size := by omega
  have t1 := ta_spec
  have t2 := ta_no
  have t3 := ta_delay
  go_enter Tryz.func30, Tryz.ntmps30
  go_wp2
  go_region_held3 (fun X => X.cell? ⟨g, 0, none⟩ = some (.int .u64 a) ∧ X.cell? ⟨g, 1, none⟩ = some (.int .u64 b) ∧ X.cell? ⟨g, 2, none⟩ = some (.int .u64 c) ∧ X.cell? ⟨g, 3, none⟩ = some (.int .u64 d) ∧ X.cell? ⟨g, 4, none⟩ = some (.int .u64 e) ∧ X.cell? ⟨g, 5, none⟩ = some (.int .u64 f)) (go_keep) (fail)
  all_goals
    go_wp2
    refine bodyPost_ret (v := .tuple #[.agg #[.bool false, .int .i64 0, .int .u64 a, .int .u64 b, .int .u64 c, .int .u64 d, .int .u64 e, .int .u64 f], .bool true]) (by simp [results, Tryz.results30, go_sem]) rfl ⟨rfl, ?_⟩
    exact ((Below.refl _ _).alloc (Nat.le_refl _) _).drew
end Go.Proofs.YtmnjmhlodbifjaaGreatDoor.PlainSched
