/- cron.NewParser and impl.parser, which recovers. Conditions: at most one optional field. -/
import Derived.Test.YtmnjmhlodbifjaaGreatDoorFillA
import Derived.Test.YtmnjmhlodbifjaaGreatDoorAid
import Derived.Test.YtmnjmhlodbifjaaGreatDoorMem
import Derived.Defers
import Derived.Recover
import Derived.Laws.Pointers
namespace Go.Proofs.YtmnjmhlodbifjaaGreatDoor.Parser
open Go Go.RowKit Go.Proofs.YtmnjmhlodbifjaaGreatDoor.Mem Go.Proofs.YtmnjmhlodbifjaaGreatDoor.FillPure Go.Proofs.YtmnjmhlodbifjaaGreatDoor.Aid
set_option linter.unusedVariables false

theorem newParser_any (o : Int) (w : World) (h : (sec o && dow o) = false) :
    Calls Tryz.prog 52 #[.int .i64 o] w fun e w' => e = .returned (.agg #[.int .i64 o]) ∧ Below w.heap.size w w' := by
  unfold sec dow at h
  by_cases h1 : 0 < Go.bits .and .i64 o 128
  · have h2 : ¬ 0 < Go.bits .and .i64 o 2 := by
      intro e; rw [decide_eq_true h1, decide_eq_true e] at h; cases h
    clear h
    go_enter Tryz.func52, Tryz.ntmps52
    go_wp2
    exact bodyPost_ret (v := .agg #[.int .i64 o]) (by simp [results, Tryz.results52, go_sem]) rfl ⟨rfl, ((Below.refl _ _).alloc (Nat.le_refl _) _)⟩
  · clear h
    by_cases h2 : 0 < Go.bits .and .i64 o 2
    · go_enter Tryz.func52, Tryz.ntmps52
      go_wp2
      exact bodyPost_ret (v := .agg #[.int .i64 o]) (by simp [results, Tryz.results52, go_sem]) rfl ⟨rfl, ((Below.refl _ _).alloc (Nat.le_refl _) _)⟩
    · go_enter Tryz.func52, Tryz.ntmps52
      go_wp2
      exact bodyPost_ret (v := .agg #[.int .i64 o]) (by simp [results, Tryz.results52, go_sem]) rfl ⟨rfl, ((Below.refl _ _).alloc (Nat.le_refl _) _)⟩

theorem catch_idle (p : Addr) (w : World) :
    CallsD Tryz.prog 51 #[.pointer (some p)] .returning w fun e u' w' => e = .returned (.tuple #[]) ∧ u' = .returning ∧ w' = w := by
  refine callsD_of_wpS Tryz.func51 rfl fun c₀ cs hu => ?_
  apply wpS_seq
  apply wpS_region
  simp [wpOpsS, go_sem, recoverD, hu, Tryz.ntmps51, Exit.thenS]
  refine wpS_cond (t := false) (by simp [Act.eval, Array.replicate]) ?_
  simp only [Bool.false_eq_true, if_false]
  refine wpS_of_wp (wp_skip ?_)
  cases c₀
  simp_all [bodyPostS, results, Tryz.results51]

theorem parser_any (o : Int) (w : World) (h : (sec o && dow o) = false) :
    Calls Tryz.prog 29 #[.int .i64 o] w fun e w' => e = .returned (.tuple #[.agg #[.int .i64 o], .bool false]) ∧ Below w.heap.size w w' := by
  have hmf : ∀ (fn : Fn) (first cap : Array Value) (w : World), (Instr.makeFunc fn first cap).run Tryz.prog w = .ok (.func fn first cap) w := fun _ _ _ _ => rfl
  have HN := Lib.hid (fun w => newParser_any o w h)
  clear h
  go_enter_defers Tryz.func29, Tryz.ntmps29
  go_wp2_with (go_at_call 52; refine (HN.out _).mono ?_; rintro e w1 ⟨rfl, hb1⟩; obtain ⟨g1, g2⟩ := two_after hb1; have c1 := g1.cell (j := 0) rfl; have c2 := g1.free 0; have c3 := g2.cell (j := 0) rfl; have c4 := g2.free 0)
  refine leaves_cons (f := 51) (args := #[.pointer (some ⟨w.heap.size + 1, 0, none⟩)]) (by simp) (by simp [go_sem]) ?_
  refine (catch_idle ⟨w.heap.size + 1, 0, none⟩ _).mono ?_
  rintro e u' w'' ⟨rfl, rfl, rfl⟩
  have k1 := ((g1.set 0 (.int .i64 o)).other ⟨w.heap.size + 1, 0, none⟩ (.bool false) (by simp)).cell (j := 0) (v := .int .i64 o) (by rfl)
  have k2 := ((g2.other ⟨w.heap.size, 0, none⟩ (.int .i64 o) (by simp)).set 0 (.bool false)).cell (j := 0) (v := .bool false) (by rfl)
  have hB : Below w.heap.size w ((w1.setCell ⟨w.heap.size, 0, none⟩ (.int .i64 o)).setCell ⟨w.heap.size + 1, 0, none⟩ (.bool false)) :=
    (((((Below.refl _ w).alloc (Nat.le_refl _) _).alloc (by simp) _).trans (hb1.mono (by simp; omega))).setCell (by simp) _).setCell (by simp) _
  simp [Leaves, settle, results, Tryz.results29, go_sem, k1, k2, hB]

end Go.Proofs.YtmnjmhlodbifjaaGreatDoor.Parser
