/- byTime's Less and Swap: what sorting asks of them. Conditions: entries' times of years 1 to 9999 or zero. -/
import Derived.Test.YtjgamgmghelhgaaSortK
import Derived.Test.YtjgamgmghelhgaaByT
import Derived.Test.YtjgamgmghelhgaaByPure
import Derived.Test.YtjgamgmghelhgaaRegS
import Derived.Deep.DeepCutAuto
namespace Go.Proofs.Ytjgamgmghelhgaa.ByLess
open Go Go.RowKit Go.Sort Go.Proofs.Ytjgamgmghelhgaa.SortS Go.Proofs.Ytjgamgmghelhgaa.SortK Go.Proofs.Ytjgamgmghelhgaa.ByT Go.Proofs.Ytjgamgmghelhgaa.ByPure
set_option linter.unusedVariables false

/-- An entry's time in memory. -/
structure Ent (w : World) (b : Nat) (n e : Int) : Prop where
  c2 : w.cell? ⟨b, 2, none⟩ = some (.int .u64 n)
  c3 : w.cell? ⟨b, 3, none⟩ = some (.int .i64 e)
  c4 : w.cell? ⟨b, 4, none⟩ = some (.pointer none)
theorem Ent.st {w w' : World} {b blk : Nat} {n e : Int} (h : Ent w b n e) (st : St blk w w') (hb : b < w.heap.size) (hne : b ≠ blk) : Ent w' b n e :=
  ⟨(st.cell (p := ⟨b, 2, none⟩) hb hne).trans h.c2, (st.cell (p := ⟨b, 3, none⟩) hb hne).trans h.c3, (st.cell (p := ⟨b, 4, none⟩) hb hne).trans h.c4⟩
def keyOf (tn te : Nat → Int) (j : Nat) : Key := ⟨tn j == 0 && te j == 0, te j, tn j⟩

set_option maxHeartbeats 1000000 in
set_option maxRecDepth 100000 in
theorem less_any (blk n c i j bi bj : Nat) (n1 e1 n2 e2 : Int) (w : World) (hi : i < n) (hj : j < n) (hn : n < 4611686018427387904)
    (ri : w.cell? ⟨blk, i, none⟩ = some (.pointer (some ⟨bi, 0, none⟩))) (rj : w.cell? ⟨blk, j, none⟩ = some (.pointer (some ⟨bj, 0, none⟩)))
    (h1 : Ent w bi n1 e1) (h2 : Ent w bj n2 e2) (k1 : Nn n1) (k2 : Nn n2) :
    Calls Try.prog 56 #[.slice (some ⟨blk, 0, none⟩) n c, .int .i64 (i : Int), .int .i64 (j : Int)] w fun x w' => x = .returned (.bool (ltK ⟨n1 == 0 && e1 == 0, e1, n1⟩ ⟨n2 == 0 && e2 == 0, e2, n2⟩)) ∧ RowKit.Below w.heap.size w w' := by
  have li := World.block_lt_of_cell? w _ ri
  have lj := World.block_lt_of_cell? w _ rj
  have l1 := World.block_lt_of_cell? w _ h1.c2
  have l2 := World.block_lt_of_cell? w _ h2.c2
  have HC : Hid (∀ X, RowKit.Below w.heap.size w X → (X.cell? ⟨blk, i, none⟩ = some (.pointer (some ⟨bi, 0, none⟩)) ∧ X.cell? ⟨blk, j, none⟩ = some (.pointer (some ⟨bj, 0, none⟩))) ∧ Ent X bi n1 e1 ∧ Ent X bj n2 e2) := Lib.hid (fun X hX => by
    refine ⟨⟨(hX.cell (p := ⟨blk, i, none⟩) li).trans ri, (hX.cell (p := ⟨blk, j, none⟩) lj).trans rj⟩, ⟨(hX.cell (p := ⟨bi, 2, none⟩) l1).trans h1.c2, (hX.cell (p := ⟨bi, 3, none⟩) l1).trans h1.c3, (hX.cell (p := ⟨bi, 4, none⟩) l1).trans h1.c4⟩, ⟨(hX.cell (p := ⟨bj, 2, none⟩) l2).trans h2.c2, (hX.cell (p := ⟨bj, 3, none⟩) l2).trans h2.c3, (hX.cell (p := ⟨bj, 4, none⟩) l2).trans h2.c4⟩⟩)
  have HZ1 := Lib.hid (fun X => isZero_any n1 e1 none X)
  have HZ2 := Lib.hid (fun X => isZero_any n2 e2 none X)
  have HB := Lib.hid (fun X => before_any n1 e1 n2 e2 none none X k1 k2)
  obtain ⟨c2, c3, c4⟩ := h1
  clear h2 k1 k2 li lj l1 l2 rj
  unfold ltK
  obtain ⟨z1, hz1⟩ : ∃ z, (n1 == 0 && e1 == 0) = z := ⟨_, rfl⟩
  obtain ⟨z2, hz2⟩ : ∃ z, (n2 == 0 && e2 == 0) = z := ⟨_, rfl⟩
  rw [hz1] at HZ1
  rw [hz2] at HZ2
  rw [hz1, hz2]
  clear hz1 hz2
  dsimp only
  cases z1 with
  | true =>
    go_enter Try.func56, Try.ntmps56
    go_wp2_with (go_at_call 58; refine (HZ1.out _).mono ?_; rintro x X1 ⟨rfl, hb1⟩)
    go_ret
    exact ⟨rfl, hb1⟩
  | false =>
    cases z2 with
    | true =>
      go_enter Try.func56, Try.ntmps56
      go_wp2_with (go_at_call 58; first
        | (with_reducible refine (HZ1.out _).mono ?_; rintro x X1 ⟨rfl, hb1⟩; obtain ⟨⟨q1, q2⟩, ⟨d2, d3, d4⟩, ⟨g2, g3, g4⟩⟩ := HC.out X1 hb1)
        | (with_reducible refine (HZ2.out _).mono ?_; rintro x X2 ⟨rfl, hb2⟩))
      go_ret
      exact ⟨rfl, hb1.trans (hb2.mono hb1.size)⟩
    | false =>
      obtain ⟨B, hB⟩ : ∃ B, (decide (e1 < e2) || (decide (e1 = e2) && decide (n1 < n2))) = B := ⟨_, rfl⟩
      have e : (!false && (false || decide (e1 < e2) || (decide (e1 = e2) && decide (n1 < n2)))) = B := by rw [← hB]; simp
      rw [e]
      rw [hB] at HB
      clear e hB
      go_enter Try.func56, Try.ntmps56
      go_upto_region 5 with (go_at_call 58; first
        | (with_reducible refine (HZ1.out _).mono ?_; rintro x X1 ⟨rfl, hb1⟩; obtain ⟨⟨q1, q2⟩, ⟨d2, d3, d4⟩, ⟨g2, g3, g4⟩⟩ := HC.out X1 hb1)
        | (with_reducible refine (HZ2.out _).mono ?_; rintro x X2 ⟨rfl, hb2⟩; obtain ⟨⟨r1, r2⟩, ⟨s2, s3, s4⟩, ⟨t2, t3, t4⟩⟩ := HC.out X2 (hb1.trans (hb2.mono hb1.size))))
      have HW2 : Hid (∀ X, RowKit.Below X2.heap.size X2 X → RowKit.Below w.heap.size w X) := Lib.hid (fun X hX => (hb1.trans (hb2.mono hb1.size)).trans (hX.mono (Nat.le_trans hb1.size hb2.size)))
      clear q1 q2 d2 d3 d4 g2 g3 g4 r1 r2 s2 s3 s4 t2 t3 t4 ri c2 c3 c4
      refine RegS.region_S (n := 15) (S := fun X' => RowKit.Below X2.heap.size X2 X') (by kernel_rfl) rfl ((Below.refl _ _).drew) (fun inv => ?_)
      refine RegS.AnyS.take (i := 0) (v := .slice (some ⟨blk, 0, none⟩) n c) inv (by kernel_rfl) rfl rfl (by omega) (by kernel_rfl) (by kernel_rfl) (by kernel_rfl) (fun _ _ _ h => h) ⟨by rfl, fun X' hX => ?_⟩ (some 23) rfl (fun inv => ?_)
      · obtain ⟨⟨r1, r2⟩, ⟨s2, s3, s4⟩, ⟨t2, t3, t4⟩⟩ := HC.out X' (HW2.out X' hX)
        go_simp
        exact ⟨rfl, hX⟩
      simp only [Act.put, List.setIfInBounds_toArray, List.set_cons_zero, List.set_cons_succ]
      refine RegS.AnyS.take (i := 1) (v := .int .i64 (i : Int)) inv (by kernel_rfl) rfl rfl (by omega) (by kernel_rfl) (by kernel_rfl) (by kernel_rfl) (fun _ _ _ h => h) ⟨by rfl, fun X' hX => ?_⟩ (some 24) rfl (fun inv => ?_)
      · obtain ⟨⟨r1, r2⟩, ⟨s2, s3, s4⟩, ⟨t2, t3, t4⟩⟩ := HC.out X' (HW2.out X' hX)
        go_simp
        exact ⟨rfl, hX⟩
      simp only [Act.put, List.setIfInBounds_toArray, List.set_cons_zero, List.set_cons_succ]
      refine RegS.AnyS.take (i := 2) (v := .pointer (some ⟨blk, i, none⟩)) inv (by kernel_rfl) rfl rfl (by omega) (by kernel_rfl) (by kernel_rfl) (by kernel_rfl) (fun _ _ _ h => h) ⟨by rfl, fun X' hX => ?_⟩ (some 25) rfl (fun inv => ?_)
      · obtain ⟨⟨r1, r2⟩, ⟨s2, s3, s4⟩, ⟨t2, t3, t4⟩⟩ := HC.out X' (HW2.out X' hX)
        go_simp
        exact ⟨rfl, hX⟩
      simp only [Act.put, List.setIfInBounds_toArray, List.set_cons_zero, List.set_cons_succ]
      refine RegS.AnyS.take (i := 3) (v := .pointer (some ⟨bi, 0, none⟩)) inv (by kernel_rfl) rfl rfl (by omega) (by kernel_rfl) (by kernel_rfl) (by kernel_rfl) (fun _ _ _ h => h) ⟨by rfl, fun X' hX => ?_⟩ (some 26) rfl (fun inv => ?_)
      · obtain ⟨⟨r1, r2⟩, ⟨s2, s3, s4⟩, ⟨t2, t3, t4⟩⟩ := HC.out X' (HW2.out X' hX)
        go_simp
        exact ⟨rfl, hX⟩
      simp only [Act.put, List.setIfInBounds_toArray, List.set_cons_zero, List.set_cons_succ]
      refine RegS.AnyS.take (i := 4) (v := .pointer (some ⟨bi, 0, none⟩)) inv (by kernel_rfl) rfl rfl (by omega) (by kernel_rfl) (by kernel_rfl) (by kernel_rfl) (fun _ _ _ h => h) ⟨by rfl, fun X' hX => ?_⟩ (some 27) rfl (fun inv => ?_)
      · obtain ⟨⟨r1, r2⟩, ⟨s2, s3, s4⟩, ⟨t2, t3, t4⟩⟩ := HC.out X' (HW2.out X' hX)
        go_simp
        exact ⟨rfl, hX⟩
      simp only [Act.put, List.setIfInBounds_toArray, List.set_cons_zero, List.set_cons_succ]
      refine RegS.AnyS.take (i := 5) (v := .pointer (some ⟨bi, 2, none⟩)) inv (by kernel_rfl) rfl rfl (by omega) (by kernel_rfl) (by kernel_rfl) (by kernel_rfl) (fun _ _ _ h => h) ⟨by rfl, fun X' hX => ?_⟩ (some 28) rfl (fun inv => ?_)
      · obtain ⟨⟨r1, r2⟩, ⟨s2, s3, s4⟩, ⟨t2, t3, t4⟩⟩ := HC.out X' (HW2.out X' hX)
        go_simp
        exact ⟨rfl, hX⟩
      simp only [Act.put, List.setIfInBounds_toArray, List.set_cons_zero, List.set_cons_succ]
      refine RegS.AnyS.take (i := 6) (v := .agg #[.int .u64 n1, .int .i64 e1, .pointer none]) inv (by kernel_rfl) rfl rfl (by omega) (by kernel_rfl) (by kernel_rfl) (by kernel_rfl) (fun _ _ _ h => h) ⟨by rfl, fun X' hX => ?_⟩ (some 29) rfl (fun inv => ?_)
      · obtain ⟨⟨r1, r2⟩, ⟨s2, s3, s4⟩, ⟨t2, t3, t4⟩⟩ := HC.out X' (HW2.out X' hX)
        go_simp
        exact ⟨rfl, hX⟩
      simp only [Act.put, List.setIfInBounds_toArray, List.set_cons_zero, List.set_cons_succ]
      refine RegS.AnyS.take (i := 7) (v := .slice (some ⟨blk, 0, none⟩) n c) inv (by kernel_rfl) rfl rfl (by omega) (by kernel_rfl) (by kernel_rfl) (by kernel_rfl) (fun _ _ _ h => h) ⟨by rfl, fun X' hX => ?_⟩ (some 30) rfl (fun inv => ?_)
      · obtain ⟨⟨r1, r2⟩, ⟨s2, s3, s4⟩, ⟨t2, t3, t4⟩⟩ := HC.out X' (HW2.out X' hX)
        go_simp
        exact ⟨rfl, hX⟩
      simp only [Act.put, List.setIfInBounds_toArray, List.set_cons_zero, List.set_cons_succ]
      refine RegS.AnyS.take (i := 8) (v := .int .i64 (j : Int)) inv (by kernel_rfl) rfl rfl (by omega) (by kernel_rfl) (by kernel_rfl) (by kernel_rfl) (fun _ _ _ h => h) ⟨by rfl, fun X' hX => ?_⟩ (some 31) rfl (fun inv => ?_)
      · obtain ⟨⟨r1, r2⟩, ⟨s2, s3, s4⟩, ⟨t2, t3, t4⟩⟩ := HC.out X' (HW2.out X' hX)
        go_simp
        exact ⟨rfl, hX⟩
      simp only [Act.put, List.setIfInBounds_toArray, List.set_cons_zero, List.set_cons_succ]
      refine RegS.AnyS.take (i := 9) (v := .pointer (some ⟨blk, j, none⟩)) inv (by kernel_rfl) rfl rfl (by omega) (by kernel_rfl) (by kernel_rfl) (by kernel_rfl) (fun _ _ _ h => h) ⟨by rfl, fun X' hX => ?_⟩ (some 32) rfl (fun inv => ?_)
      · obtain ⟨⟨r1, r2⟩, ⟨s2, s3, s4⟩, ⟨t2, t3, t4⟩⟩ := HC.out X' (HW2.out X' hX)
        go_simp
        exact ⟨rfl, hX⟩
      simp only [Act.put, List.setIfInBounds_toArray, List.set_cons_zero, List.set_cons_succ]
      refine RegS.AnyS.take (i := 10) (v := .pointer (some ⟨bj, 0, none⟩)) inv (by kernel_rfl) rfl rfl (by omega) (by kernel_rfl) (by kernel_rfl) (by kernel_rfl) (fun _ _ _ h => h) ⟨by rfl, fun X' hX => ?_⟩ (some 33) rfl (fun inv => ?_)
      · obtain ⟨⟨r1, r2⟩, ⟨s2, s3, s4⟩, ⟨t2, t3, t4⟩⟩ := HC.out X' (HW2.out X' hX)
        go_simp
        exact ⟨rfl, hX⟩
      simp only [Act.put, List.setIfInBounds_toArray, List.set_cons_zero, List.set_cons_succ]
      refine RegS.AnyS.take (i := 11) (v := .pointer (some ⟨bj, 0, none⟩)) inv (by kernel_rfl) rfl rfl (by omega) (by kernel_rfl) (by kernel_rfl) (by kernel_rfl) (fun _ _ _ h => h) ⟨by rfl, fun X' hX => ?_⟩ (some 34) rfl (fun inv => ?_)
      · obtain ⟨⟨r1, r2⟩, ⟨s2, s3, s4⟩, ⟨t2, t3, t4⟩⟩ := HC.out X' (HW2.out X' hX)
        go_simp
        exact ⟨rfl, hX⟩
      simp only [Act.put, List.setIfInBounds_toArray, List.set_cons_zero, List.set_cons_succ]
      refine RegS.AnyS.take (i := 12) (v := .pointer (some ⟨bj, 2, none⟩)) inv (by kernel_rfl) rfl rfl (by omega) (by kernel_rfl) (by kernel_rfl) (by kernel_rfl) (fun _ _ _ h => h) ⟨by rfl, fun X' hX => ?_⟩ (some 35) rfl (fun inv => ?_)
      · obtain ⟨⟨r1, r2⟩, ⟨s2, s3, s4⟩, ⟨t2, t3, t4⟩⟩ := HC.out X' (HW2.out X' hX)
        go_simp
        exact ⟨rfl, hX⟩
      simp only [Act.put, List.setIfInBounds_toArray, List.set_cons_zero, List.set_cons_succ]
      refine RegS.AnyS.take (i := 13) (v := .agg #[.int .u64 n2, .int .i64 e2, .pointer none]) inv (by kernel_rfl) rfl rfl (by omega) (by kernel_rfl) (by kernel_rfl) (by kernel_rfl) (fun _ _ _ h => h) ⟨by rfl, fun X' hX => ?_⟩ (some 36) rfl (fun inv => ?_)
      · obtain ⟨⟨r1, r2⟩, ⟨s2, s3, s4⟩, ⟨t2, t3, t4⟩⟩ := HC.out X' (HW2.out X' hX)
        go_simp
        exact ⟨rfl, hX⟩
      simp only [Act.put, List.setIfInBounds_toArray, List.set_cons_zero, List.set_cons_succ]
      refine RegS.AnyS.take (i := 14) (v := .bool B) inv (by kernel_rfl) rfl rfl (by omega) (by kernel_rfl) (by kernel_rfl) (by kernel_rfl) (fun _ _ _ h => h) ⟨by rfl, fun X' hX => ?_⟩ (some 37) rfl (fun inv => ?_)
      · go_simp
        exact RegS.gives_call (HB.out _) hX
      simp only [Act.put, List.setIfInBounds_toArray, List.set_cons_zero, List.set_cons_succ]
      refine RegS.AnyS.last (by kernel_rfl) rfl (by kernel_rfl) (fun X4 hX K hK => ?_)
      go_simp
      refine hK.out _ _ ?_
      go_wp2_with fail
      go_ret
      exact ⟨rfl, HW2.out _ hX⟩

end Go.Proofs.Ytjgamgmghelhgaa.ByLess
