/- impl.plainSchedule: a schedule of sets, one of a constant delay, an error. Conditions: none. -/
import Derived.Test.YtmnjmhlodbifjaaGreatDoorBig
import Derived.Deep.RegionHeld3
import Derived.Deep.DrawnRows
namespace Go.Proofs.YtmnjmhlodbifjaaGreatDoor.PlainSched
open Go Go.RowKit Go.Proofs.YtmnjmhlodbifjaaGreatDoor.Mem Go.Proofs.YtmnjmhlodbifjaaGreatDoor.Aid
set_option linter.unusedVariables false
attribute [local go_sem ↓] Go.wp_at_zero Go.wp_at_succ

/-- A schedule of sets in memory. -/
def SpecAt (w : World) (g : Nat) (a b c d e f : Int) (loc : Value) : Prop := Blk w g #[.int .u64 a, .int .u64 b, .int .u64 c, .int .u64 d, .int .u64 e, .int .u64 f, loc]
theorem SpecAt.after {w w' : World} {g : Nat} {a b c d e f : Int} {loc : Value} (h : SpecAt w g a b c d e f loc) (hb : Below w.heap.size w w') : SpecAt w' g a b c d e f loc := Blk.after h hb

theorem ta_spec (p : Value) (w : World) : (Instr.typeAssert (.iface 97 p) 78 97 true).run Tryz.prog w = .ok (.tuple #[p, .bool true]) w := by kernel_rfl
theorem ta_no (p : Value) (w : World) : (Instr.typeAssert (.iface 108 p) 78 97 true).run Tryz.prog w = .ok (.tuple #[.pointer none, .bool false]) w := by kernel_rfl
theorem ta_delay (p : Value) (w : World) : (Instr.typeAssert (.iface 108 p) 78 108 true).run Tryz.prog w = .ok (.tuple #[p, .bool true]) w := by kernel_rfl

theorem plain_err (s : Value) (T : TypeId) (p : Value) (w : World) :
    Calls Tryz.prog 30 #[s, .iface T p] w fun e w' => e = .returned (.tuple #[.agg #[.bool false, .int .i64 0, .int .u64 0, .int .u64 0, .int .u64 0, .int .u64 0, .int .u64 0, .int .u64 0], .bool false]) ∧ Below w.heap.size w w' := by
  have t1 := ta_spec
  have t2 := ta_no
  have t3 := ta_delay
  go_enter Tryz.func30, Tryz.ntmps30
  go_wp2
  exact bodyPost_ret (v := .tuple #[.agg #[.bool false, .int .i64 0, .int .u64 0, .int .u64 0, .int .u64 0, .int .u64 0, .int .u64 0, .int .u64 0], .bool false]) (by simp [results, Tryz.results30, go_sem]) rfl ⟨rfl, (Below.refl _ _).alloc (Nat.le_refl _) _⟩

set_option maxRecDepth 100000 in
theorem plain_delay (d : Int) (w : World) :
    Calls Tryz.prog 30 #[.iface 108 (.agg #[.int .i64 d]), .nilIface] w fun e w' => e = .returned (.tuple #[.agg #[.bool true, .int .i64 d, .int .u64 0, .int .u64 0, .int .u64 0, .int .u64 0, .int .u64 0, .int .u64 0], .bool true]) ∧ Below w.heap.size w w' := by
  have t1 := ta_spec
  have t2 := ta_no
  have t3 := ta_delay
  go_enter Tryz.func30, Tryz.ntmps30
  go_wp2
  exact bodyPost_ret (v := .tuple #[.agg #[.bool true, .int .i64 d, .int .u64 0, .int .u64 0, .int .u64 0, .int .u64 0, .int .u64 0, .int .u64 0], .bool true]) (by simp [results, Tryz.results30, go_sem]) rfl ⟨rfl, ((Below.refl _ _).alloc (Nat.le_refl _) _).alloc (by simp) _⟩

set_option maxHeartbeats 1000000 in
set_option maxRecDepth 100000 in
theorem plain_spec (g : Nat) (a b c d e f : Int) (loc : Value) (w : World) (h : SpecAt w g a b c d e f loc) :
    Calls Tryz.prog 30 #[.iface 97 (.pointer (some ⟨g, 0, none⟩)), .nilIface] w fun e' w' => e' = .returned (.tuple #[.agg #[.bool false, .int .i64 0, .int .u64 a, .int .u64 b, .int .u64 c, .int .u64 d, .int .u64 e, .int .u64 f], .bool true]) ∧ Below w.heap.size w w' := by
  have hg := Blk.lt h
  have k0 := Blk.cell h (j := 0) (v := .int .u64 a) rfl
  have k1 := Blk.cell h (j := 1) (v := .int .u64 b) rfl
  have k2 := Blk.cell h (j := 2) (v := .int .u64 c) rfl
  have k3 := Blk.cell h (j := 3) (v := .int .u64 d) rfl
  have k4 := Blk.cell h (j := 4) (v := .int .u64 e) rfl
  have k5 := Blk.cell h (j := 5) (v := .int .u64 f) rfl
  clear h
  have hgn : ¬ g = w.heap.size := by omega
  have t1 := ta_spec
  have t2 := ta_no
  have t3 := ta_delay
  go_enter Tryz.func30, Tryz.ntmps30
  go_wp2
  go_region_held3 (fun X => X.cell? ⟨g, 0, none⟩ = some (.int .u64 a) ∧ X.cell? ⟨g, 1, none⟩ = some (.int .u64 b) ∧ X.cell? ⟨g, 2, none⟩ = some (.int .u64 c) ∧ X.cell? ⟨g, 3, none⟩ = some (.int .u64 d) ∧ X.cell? ⟨g, 4, none⟩ = some (.int .u64 e) ∧ X.cell? ⟨g, 5, none⟩ = some (.int .u64 f)) (go_keep) (fail)
  all_goals
    go_wp2
    refine bodyPost_ret (v := .tuple #[.agg #[.bool false, .int .i64 0, .int .u64 a, .int .u64 b, .int .u64 c, .int .u64 d, .int .u64 e, .int .u64 f], .bool true]) (by simp [results, Tryz.results30, go_sem]) rfl ⟨rfl, ?_⟩
    exact ((Below.refl _ _).alloc (Nat.le_refl _) _).drew

end Go.Proofs.YtmnjmhlodbifjaaGreatDoor.PlainSched
