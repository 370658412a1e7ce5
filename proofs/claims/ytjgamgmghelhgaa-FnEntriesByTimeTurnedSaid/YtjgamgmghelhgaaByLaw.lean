/- The walk of FnEntriesByTimeTurned. Conditions: none. (UNDER WAY: probe.) -/
import Derived.Test.YtjgamgmghelhgaaByTurn
import Derived.Deep.RegionLaw
import Derived.Deep.RegionHeld3
namespace Go.Proofs.Ytjgamgmghelhgaa.ByLaw
open Go Go.RowKit Go.Sort Go.Proofs.Ytjgamgmghelhgaa.SortS Go.Proofs.Ytjgamgmghelhgaa.ByT Go.Proofs.Ytjgamgmghelhgaa.ByImpl Go.Proofs.Ytjgamgmghelhgaa.ByGood Go.Proofs.Ytjgamgmghelhgaa.ByTurn
set_option linter.unusedVariables false
set_option linter.unusedSimpArgs false

set_option maxHeartbeats 20000000 in
set_option maxRecDepth 100000 in
theorem law_any (pa pz : Option Addr) (n nz c cz : Nat) (k : Int) (s m : Nat → Int) (z : Nat → Bool) (w : World) (hi : Insts w pa n s m) (hz : Marks w pz nz z) (hc : n ≤ c) (hcz : nz ≤ cz) (hp : pa = none → c = 0) (hpz : pz = none → cz = 0) :
    Calls Try.prog 3 #[.slice pa n c, .slice pz nz cz, .int .i64 k] w fun e w' => e = .returned (.bool true) ∧ RowKit.Below w.heap.size w w' := by
  by_cases hn : 2147483647 < n
  · have hni : (2147483647 : Int) < (n : Int) := by omega
    go_enter Try.func3, Try.ntmps3
    go_wp2
    go_ret
    exact ⟨rfl, Below.refl _ _⟩
  have hni : ¬ (2147483647 : Int) < (n : Int) := by omega
  by_cases hnz : 2147483647 < nz
  · have hnzi : (2147483647 : Int) < (nz : Int) := by omega
    go_enter Try.func3, Try.ntmps3
    go_wp2
    go_ret
    exact ⟨rfl, Below.refl _ _⟩
  have hnzi : ¬ (2147483647 : Int) < (nz : Int) := by omega
  have HT := Lib.hid (times_any pa pz n nz c cz s m w hi (by omega) (by omega))
  have HI := Lib.hid hi
  have HZ := Lib.hid hz
  have HC := Lib.hid (And.intro (And.intro hc hp) (And.intro hcz hpz))
  have hci : (n : Int) ≤ (c : Int) := by omega
  have hczi : (nz : Int) ≤ (cz : Int) := by omega
  obtain ⟨iI, hiI, hI0, hI1, hI2⟩ := info_parts infoI
  obtain ⟨iB, hiB, hB0, hB1, hB2⟩ := info_parts infoB
  clear hi hz hc hp hcz hpz
  go_enter Try.func3, Try.ntmps3
  by_cases hk0 : k < 0
  · go_wp2_with (go_at_call 4; refine HT.out.mono ?_; rintro e X1 ⟨b, rfl, hb, hb1⟩; cases b)
    all_goals
      go_ret
      exact ⟨rfl, hb1⟩
  · by_cases hkn : (n : Int) < k
    · go_wp2_with (go_at_call 4; refine HT.out.mono ?_; rintro e X1 ⟨b, rfl, hb, hb1⟩; cases b)
      all_goals
        go_ret
        exact ⟨rfl, hb1⟩
    · go_upto_region 6 with (go_at_call 4; refine HT.out.mono ?_; rintro e X1 ⟨b, rfl, hb, hb1⟩; cases b)
      · go_wp2
        go_ret
        exact ⟨rfl, hb1⟩
      · obtain ⟨h60, rfl, hok⟩ := hb trivial
        have HOK := Lib.hid hok
        obtain ⟨kk, rfl⟩ : ∃ kk : Nat, k = (kk : Int) := ⟨k.toNat, by omega⟩
        have hkk : kk ≤ nz := by omega
        have hck : (kk : Int) ≤ (c : Int) := by omega
        have hckz : (kk : Int) ≤ (cz : Int) := by omega
        have HI1 : Hid (Insts X1 pa nz s m) := Lib.hid (fun i hi => by
          obtain ⟨x, hx, a0, a1⟩ := HI.out i hi
          exact ⟨x, hx, (hb1.cell (World.block_lt_of_cell? w _ a0)).trans a0, (hb1.cell (World.block_lt_of_cell? w _ a1)).trans a1⟩)
        have HZ1 : Hid (Marks X1 pz nz z) := Lib.hid (fun i hi => by
          obtain ⟨x, hx, a0⟩ := HZ.out i hi
          exact ⟨x, hx, (hb1.cell (World.block_lt_of_cell? w _ a0)).trans a0⟩)
        have HB1 := Lib.hid hb1
        clear hb hok hb1
        have HO1 : Hid ((X1.drew.alloc (.cells #[] 28)).ownsRow X1.heap.size 28 2 (.slice (some ⟨X1.heap.size, 0, none⟩) 0 0) 0 []) := Lib.hid (own_empty X1.drew _ _)
        have HA1 : Hid (RowKit.Below X1.heap.size X1 (X1.drew.alloc (.cells #[] 28))) := Lib.hid ((Below.refl _ X1).drew.alloc (Nat.le_refl _) _)
        have HIX : Hid (∀ X, RowKit.Below X1.heap.size X1 X → Insts X pa nz s m) := Lib.hid (fun X hX i hi => by
          obtain ⟨x, hx, a0, a1⟩ := HI1.out i hi
          exact ⟨x, hx, (hX.cell (World.block_lt_of_cell? X1 _ a0)).trans a0, (hX.cell (World.block_lt_of_cell? X1 _ a1)).trans a1⟩)
        go_region_law (first
          | (refine step_append_any rfl (.tmp 37) (.tmp 40) 22 rfl X1.heap.size 28 iI (.agg #[.int .i64 0, .int .i64 0]) 2 16 Try.underlying22 hiI hI0 hI1 hI2 rfl (by decide) _ _ _ rfl HO1.out _ (nz - kk) _ (icells (fun i => s (kk + i)) (fun i => m (kk + i)) (nz - kk)) rfl (icells_len _ _ _) (sl_none HC.out.1.2 HC.out.1.1 hkk) (insts_tail (HIX.out _ HA1.out) HC.out.1.1 hkk _ (by omega)) (icells_one _ _ _) (by unfold maxLen; omega) (by omega) (by simp) ?_; intro v1 w1 hown1 hgrow1; have HO2 := Lib.hid hown1; have HA2 := Lib.hid (HA1.out.grown hgrow1 (by simp) (fun j hj => by cases hj; exact Nat.le_refl _)); clear hown1 hgrow1)
          | (refine step_append_any rfl (.tmp 41) (.tmp 44) 22 rfl X1.heap.size 28 iI (.agg #[.int .i64 0, .int .i64 0]) 2 16 Try.underlying22 hiI hI0 hI1 hI2 rfl (by decide) _ _ _ rfl HO2.out _ kk _ (icells s m kk) rfl (icells_len _ _ _) (sl_none0 HC.out.1.2 HC.out.1.1 hkk) (insts_head (HIX.out _ HA2.out) hkk) (icells_one _ _ _) (by unfold maxLen; omega) (by omega) (by exact HA2.out.size) ?_; intro v2 w2 hown2 hgrow2))
        have hb2 := HA2.out.grown hgrow2 HA2.out.size (fun j hj => (HO2.out.lt j hj).1)
        rw [show 0 + (nz - kk) + kk = nz by omega] at hown2
        obtain ⟨qa, qc, rfl, hqc, hqi⟩ := insts_of hown2 (turned_i s m nz kk hkk)
        have HQ := Lib.hid hqi
        have HB2 := Lib.hid hb2
        have HZX : Hid (∀ X, RowKit.Below w2.heap.size w2 X → Marks X pz nz z) := Lib.hid (fun X hX i hi => by
          obtain ⟨x, hx, a0⟩ := HZ1.out i hi
          have a1 := (hb2.cell (World.block_lt_of_cell? X1 _ a0)).trans a0
          exact ⟨x, hx, (hX.cell (World.block_lt_of_cell? w2 _ a1)).trans a1⟩)
        clear hown2 hgrow2 hqi hqc hb2 HA1 HA2 HO1 HO2
        generalize (if c = kk then pa else Option.map (fun x => x.add (kk * 2)) pa) = ga
        go_upto_region 7 with fail
        have HO1 : Hid ((w2.drew.alloc (.cells #[] 4)).ownsRow w2.heap.size 4 1 (.slice (some ⟨w2.heap.size, 0, none⟩) 0 0) 0 []) := Lib.hid (own_empty w2.drew _ _)
        have HA1 : Hid (RowKit.Below w2.heap.size w2 (w2.drew.alloc (.cells #[] 4))) := Lib.hid ((Below.refl _ w2).drew.alloc (Nat.le_refl _) _)
        go_region_law (first
          | (refine step_append_any rfl (.tmp 46) (.tmp 49) 23 rfl w2.heap.size 4 iB (.bool false) 1 1 Try.underlying23 hiB hB0 hB1 hB2 rfl (by decide) _ _ _ rfl HO1.out _ (nz - kk) _ (bcells (fun i => z (kk + i)) (nz - kk)) rfl (bcells_len _ _) (sl_none HC.out.2.2 HC.out.2.1 hkk) (marks_tail (HZX.out _ HA1.out) HC.out.2.1 hkk _ (by omega)) (bcells_one _ _) (by unfold maxLen; omega) (by omega) (by simp) ?_; intro v3 w3 hown3 hgrow3; have HO2 := Lib.hid hown3; have HA2 := Lib.hid (HA1.out.grown hgrow3 (by simp) (fun j hj => by cases hj; exact Nat.le_refl _)); clear hown3 hgrow3)
          | (refine step_append_any rfl (.tmp 50) (.tmp 53) 23 rfl w2.heap.size 4 iB (.bool false) 1 1 Try.underlying23 hiB hB0 hB1 hB2 rfl (by decide) _ _ _ rfl HO2.out _ kk _ (bcells z kk) rfl (bcells_len _ _) (sl_none0 HC.out.2.2 HC.out.2.1 hkk) (marks_head (HZX.out _ HA2.out) hkk) (bcells_one _ _) (by unfold maxLen; omega) (by omega) (by exact HA2.out.size) ?_; intro v4 w4 hown4 hgrow4))
        have hb4 := HA2.out.grown hgrow4 HA2.out.size (fun j hj => (HO2.out.lt j hj).1)
        rw [show 0 + (nz - kk) + kk = nz by omega] at hown4
        obtain ⟨ra, rc, rfl, hrc, hri⟩ := marks_of hown4 (turned_b z nz kk hkk)
        have HBX : Hid (RowKit.Below X1.heap.size X1 w4) := Lib.hid (HB2.out.trans (hb4.mono HB2.out.size))
        have HIM := Lib.hid (impl_any pa pz nz c cz s m z w4 (HIX.out _ HBX.out) (HZX.out _ hb4) h60 (fun j hj => (HOK.out j hj).1))
        have HR : Hid (∀ X, RowKit.Below w4.heap.size w4 X → Insts X qa nz (turnF s nz kk) (turnF m nz kk) ∧ Marks X ra nz (turnF z nz kk)) := Lib.hid (fun X hX => ⟨fun i hi => by
          obtain ⟨x, hx, a0, a1⟩ := HQ.out i hi
          have b0 := (hb4.cell (World.block_lt_of_cell? w2 _ a0)).trans a0
          have b1 := (hb4.cell (World.block_lt_of_cell? w2 _ a1)).trans a1
          exact ⟨x, hx, (hX.cell (World.block_lt_of_cell? w4 _ b0)).trans b0, (hX.cell (World.block_lt_of_cell? w4 _ b1)).trans b1⟩, fun i hi => by
          obtain ⟨x, hx, b0⟩ := hri i hi
          exact ⟨x, hx, (hX.cell (World.block_lt_of_cell? w4 _ b0)).trans b0⟩⟩)
        have HOKT : Hid (∀ j, j < nz → 0 ≤ turnF m nz kk j ∧ turnF m nz kk j < 1000000000 ∧ -62135596800 ≤ turnF s nz kk j ∧ turnF s nz kk j ≤ 253402300799) := Lib.hid (fun j hj => by
          unfold turnF
          split
          · exact (HOK.out _ (by omega)).1
          · exact (HOK.out _ (by omega)).1)
        clear hown4 hgrow4 hri hrc hb4 HA1 HA2 HO1 HO2
        generalize (if cz = kk then pz else Option.map (fun x => x.add kk) pz) = gz
        go_wp2_with (first
          | (have hx := HW5.out; go_at_call 5; refine (impl_any qa ra nz qc rc _ _ _ _ (HR.out _ HW5.out).1 (HR.out _ HW5.out).2 h60 HOKT.out).mono ?_; rintro e w6 ⟨v6, d6, rfl, p6, s6, o6, b6⟩; have HB6 := Lib.hid b6; have HO6 := Lib.hid o6; have HP6 := Lib.hid (And.intro p6 s6); have hd6 : d6.size = nz := (by simpa using p6.length_eq); obtain ⟨g6, c6, rfl, n6⟩ := nums_of o6 hd6; have HN6 := Lib.hid n6; clear b6 o6 p6 s6 n6 hx)
          | (go_at_call 5; refine HIM.out.mono ?_; rintro e w5 ⟨v5, d5, rfl, p5, s5, o5, b5⟩; have HW5 := Lib.hid b5; have HO5 := Lib.hid o5; have HP5 := Lib.hid (And.intro p5 s5); have hd5 : d5.size = nz := (by simpa using p5.length_eq); obtain ⟨g5, c5, rfl, n5⟩ := nums_of o5 hd5; have HN5 := Lib.hid n5; clear b5 o5 p5 s5 n5))
        have HS : Hid (∀ i, i < nz → d5[i]! < nz ∧ d6[i]! < nz ∧ z d5[i]! = turnF z nz kk d6[i]! ∧ (z d5[i]! = false → s d5[i]! = turnF s nz kk d6[i]! ∧ m d5[i]! = turnF m nz kk d6[i]!)) := Lib.hid (fun i hi => same_at z s m nz kk hkk HOK.out d5 d6 HP5.out.1 HP6.out.1 HP5.out.2 HP6.out.2 i hi)
        have HE5 : Hid (∀ X, RowKit.Below w5.heap.size w5 X → Nums X g5 nz (fun i => d5[i]!)) := Lib.hid (fun X hX i hi => by
          obtain ⟨x, hx, b0⟩ := HN5.out i hi
          exact ⟨x, hx, (hX.cell (World.block_lt_of_cell? w5 _ b0)).trans b0⟩)
        have HE6 : Hid (∀ X, RowKit.Below w6.heap.size w6 X → Nums X g6 nz (fun i => d6[i]!)) := Lib.hid (fun X hX i hi => by
          obtain ⟨x, hx, b0⟩ := HN6.out i hi
          exact ⟨x, hx, (hX.cell (World.block_lt_of_cell? w6 _ b0)).trans b0⟩)
        clear HN5 HN6 HO5 HO6 HP5 HP6 HIM HOKT hd5 hd6
        go_loopw [73] (fun i wr => ∃ j : Nat, i = .int .i64 (j : Int) ∧ j ≤ nz ∧ Hid (RowKit.Below w6.heap.size w6 wr)) (fun i _ => nz - (intOf i).toNat)
        case atStart => exact ⟨0, rfl, Nat.zero_le _, Lib.hid (Below.refl _ _)⟩
        case round =>
          obtain ⟨j, rfl, hj, HL⟩ := hrel
          by_cases hjn : j < nz
          · have hb6 := HB6.out.trans (HL.out.mono HB6.out.size)
            have hb5 := HW5.out.trans (hb6.mono HW5.out.size)
            obtain ⟨hR1, hR2⟩ := HR.out wr hb5
            have hb1 := HBX.out.trans (hb5.mono HBX.out.size)
            have hI := HIX.out wr hb1
            have hZ : Marks wr pz nz z := fun i hi => by
              obtain ⟨x, hx, a0⟩ := HZ1.out i hi
              exact ⟨x, hx, (hb1.cell (World.block_lt_of_cell? X1 _ a0)).trans a0⟩
            obtain ⟨x5, rfl, a5⟩ := HE5.out wr hb6 j hjn
            obtain ⟨x6, rfl, a6⟩ := HE6.out wr HL.out j hjn
            obtain ⟨la, lb, hzz, hsm⟩ := HS.out j hjn
            simp only at a5 a6
            generalize d5[j]! = p at *
            generalize d6[j]! = q at *
            obtain ⟨xa, rfl, i0, i1⟩ := hI p la
            obtain ⟨xq, rfl, q0, q1⟩ := hR1 q lb
            obtain ⟨xz, rfl, z0⟩ := hZ p la
            obtain ⟨xr, rfl, r0⟩ := hR2 q lb
            rw [← hzz] at r0
            have hji : (j : Int) < (nz : Int) := by omega
            have hpi : (p : Int) < (nz : Int) := by omega
            have hqi : (q : Int) < (nz : Int) := by omega
            have hp0 : ¬ (p : Int) < 0 := by omega
            have hq0 : ¬ (q : Int) < 0 := by omega
            have hpn : ¬ (nz : Int) ≤ (p : Int) := by omega
            have hqn : ¬ (nz : Int) ≤ (q : Int) := by omega
            clear hI hZ hR1 hR2 hb6 hb5 hb1
            cases hzp : z p with
            | true =>
              rw [hzp] at z0 r0
              clear hsm hzz i0 i1 q0 q1
              go_upto_region 16 with fail
              refine wp_region_held_drew (S := fun X => X.cell? (x5.add j) = some (.int .i64 (p : Int)) ∧ X.cell? (x6.add j) = some (.int .i64 (q : Int)) ∧ X.cell? (xz.add p) = some (.bool true) ∧ X.cell? (xr.add q) = some (.bool true)) (by kernel_rfl) ?_ (fun hHeld => ?_)
              · exact ⟨a5, a6, z0, r0⟩
              refine wpAnyH_take (i := 0) (oi := { dst := some 104, op := Op.move (Operand.tmp 1), type := 23, pos := "cron_entries.go:285", after := #[], guard := none }) (v := ?_) rfl (by kernel_rfl) (by kernel_rfl) (by kernel_rfl) (fun _ _ _ h => h) (Or.inl ⟨by rfl, ?_⟩) (by assumption) ?_
              rotate_left
              · intro w hSw; (try dsimp only at hSw); go_simp <;> with_reducible rfl
              (try simp only [Act.put, List.setIfInBounds_toArray, List.set_cons_zero, List.set_cons_succ])
              refine wpAnyH_take (i := 1) (oi := { dst := some 105, op := Op.move (Operand.tmp 10), type := 25, pos := "cron_entries.go:285", after := #[], guard := none }) (v := ?_) rfl (by kernel_rfl) (by kernel_rfl) (by kernel_rfl) (fun _ _ _ h => h) (Or.inl ⟨by rfl, ?_⟩) (by assumption) ?_
              rotate_left
              · intro w hSw; (try dsimp only at hSw); go_simp <;> with_reducible rfl
              (try simp only [Act.put, List.setIfInBounds_toArray, List.set_cons_zero, List.set_cons_succ])
              refine wpAnyH_take (i := 2) (oi := { dst := some 106, op := Op.move (Operand.tmp 12), type := 3, pos := "cron_entries.go:285", after := #[], guard := none }) (v := ?_) rfl (by kernel_rfl) (by kernel_rfl) (by kernel_rfl) (fun _ _ _ h => h) (Or.inl ⟨by rfl, ?_⟩) (by assumption) ?_
              rotate_left
              · intro w hSw; (try dsimp only at hSw); go_simp <;> with_reducible rfl
              (try simp only [Act.put, List.setIfInBounds_toArray, List.set_cons_zero, List.set_cons_succ])
              refine wpAnyH_take (i := 3) (oi := { dst := some 107, op := Op.indexAddr 25 (Operand.tmp 105) (Operand.tmp 106), type := 0, pos := "cron_entries.go:285", after := #[{ on := 1, ground := Ground.data }, { on := 2, ground := Ground.data }], guard := none }) (v := ?_) rfl (by kernel_rfl) (by kernel_rfl) (by kernel_rfl) (fun _ _ _ h => h) (Or.inl ⟨by rfl, ?_⟩) (by assumption) ?_
              rotate_left
              · intro w hSw; (try dsimp only at hSw); go_simp <;> with_reducible rfl
              (try simp only [Act.put, List.setIfInBounds_toArray, List.set_cons_zero, List.set_cons_succ])
              refine wpAnyH_take (i := 4) (oi := { dst := some 108, op := Op.load 3 (Operand.tmp 107), type := 3, pos := "cron_entries.go:285", after := #[{ on := 3, ground := Ground.data }], guard := none }) (v := ?_) rfl (by kernel_rfl) (by kernel_rfl) (by kernel_rfl) (fun _ _ _ h => h) (Or.inl ⟨by rfl, ?_⟩) (by assumption) ?_
              rotate_left
              · intro w hSw; (try dsimp only at hSw); go_simp <;> with_reducible rfl
              (try simp only [Act.put, List.setIfInBounds_toArray, List.set_cons_zero, List.set_cons_succ])
              refine wpAnyH_take (i := 5) (oi := { dst := some 109, op := Op.indexAddr 23 (Operand.tmp 104) (Operand.tmp 108), type := 0, pos := "cron_entries.go:285", after := #[{ on := 0, ground := Ground.data }, { on := 4, ground := Ground.data }], guard := none }) (v := ?_) rfl (by kernel_rfl) (by kernel_rfl) (by kernel_rfl) (fun _ _ _ h => h) (Or.inl ⟨by rfl, ?_⟩) (by assumption) ?_
              rotate_left
              · intro w hSw; (try dsimp only at hSw); go_simp <;> with_reducible rfl
              (try simp only [Act.put, List.setIfInBounds_toArray, List.set_cons_zero, List.set_cons_succ])
              refine wpAnyH_take (i := 6) (oi := { dst := some 110, op := Op.load 4 (Operand.tmp 109), type := 4, pos := "cron_entries.go:285", after := #[{ on := 5, ground := Ground.data }], guard := none }) (v := ?_) rfl (by kernel_rfl) (by kernel_rfl) (by kernel_rfl) (fun _ _ _ h => h) (Or.inl ⟨by rfl, ?_⟩) (by assumption) ?_
              rotate_left
              · intro w hSw; (try dsimp only at hSw); go_simp <;> with_reducible rfl
              (try simp only [Act.put, List.setIfInBounds_toArray, List.set_cons_zero, List.set_cons_succ])
              refine wpAnyH_take (i := 7) (oi := { dst := some 111, op := Op.move (Operand.tmp 9), type := 23, pos := "cron_entries.go:285", after := #[], guard := none }) (v := ?_) rfl (by kernel_rfl) (by kernel_rfl) (by kernel_rfl) (fun _ _ _ h => h) (Or.inl ⟨by rfl, ?_⟩) (by assumption) ?_
              rotate_left
              · intro w hSw; (try dsimp only at hSw); go_simp <;> with_reducible rfl
              (try simp only [Act.put, List.setIfInBounds_toArray, List.set_cons_zero, List.set_cons_succ])
              refine wpAnyH_take (i := 8) (oi := { dst := some 112, op := Op.move (Operand.tmp 11), type := 25, pos := "cron_entries.go:285", after := #[], guard := none }) (v := ?_) rfl (by kernel_rfl) (by kernel_rfl) (by kernel_rfl) (fun _ _ _ h => h) (Or.inl ⟨by rfl, ?_⟩) (by assumption) ?_
              rotate_left
              · intro w hSw; (try dsimp only at hSw); go_simp <;> with_reducible rfl
              (try simp only [Act.put, List.setIfInBounds_toArray, List.set_cons_zero, List.set_cons_succ])
              refine wpAnyH_take (i := 9) (oi := { dst := some 113, op := Op.move (Operand.tmp 12), type := 3, pos := "cron_entries.go:285", after := #[], guard := none }) (v := ?_) rfl (by kernel_rfl) (by kernel_rfl) (by kernel_rfl) (fun _ _ _ h => h) (Or.inl ⟨by rfl, ?_⟩) (by assumption) ?_
              rotate_left
              · intro w hSw; (try dsimp only at hSw); go_simp <;> with_reducible rfl
              (try simp only [Act.put, List.setIfInBounds_toArray, List.set_cons_zero, List.set_cons_succ])
              refine wpAnyH_take (i := 10) (oi := { dst := some 114, op := Op.indexAddr 25 (Operand.tmp 112) (Operand.tmp 113), type := 0, pos := "cron_entries.go:285", after := #[{ on := 8, ground := Ground.data }, { on := 9, ground := Ground.data }], guard := none }) (v := ?_) rfl (by kernel_rfl) (by kernel_rfl) (by kernel_rfl) (fun _ _ _ h => h) (Or.inl ⟨by rfl, ?_⟩) (by assumption) ?_
              rotate_left
              · intro w hSw; (try dsimp only at hSw); go_simp <;> with_reducible rfl
              (try simp only [Act.put, List.setIfInBounds_toArray, List.set_cons_zero, List.set_cons_succ])
              refine wpAnyH_take (i := 11) (oi := { dst := some 115, op := Op.load 3 (Operand.tmp 114), type := 3, pos := "cron_entries.go:285", after := #[{ on := 10, ground := Ground.data }], guard := none }) (v := ?_) rfl (by kernel_rfl) (by kernel_rfl) (by kernel_rfl) (fun _ _ _ h => h) (Or.inl ⟨by rfl, ?_⟩) (by assumption) ?_
              rotate_left
              · intro w hSw; (try dsimp only at hSw); go_simp <;> with_reducible rfl
              (try simp only [Act.put, List.setIfInBounds_toArray, List.set_cons_zero, List.set_cons_succ])
              refine wpAnyH_take (i := 12) (oi := { dst := some 116, op := Op.indexAddr 23 (Operand.tmp 111) (Operand.tmp 115), type := 0, pos := "cron_entries.go:285", after := #[{ on := 7, ground := Ground.data }, { on := 11, ground := Ground.data }], guard := none }) (v := ?_) rfl (by kernel_rfl) (by kernel_rfl) (by kernel_rfl) (fun _ _ _ h => h) (Or.inl ⟨by rfl, ?_⟩) (by assumption) ?_
              rotate_left
              · intro w hSw; (try dsimp only at hSw); go_simp <;> with_reducible rfl
              (try simp only [Act.put, List.setIfInBounds_toArray, List.set_cons_zero, List.set_cons_succ])
              refine wpAnyH_take (i := 13) (oi := { dst := some 117, op := Op.load 4 (Operand.tmp 116), type := 4, pos := "cron_entries.go:285", after := #[{ on := 12, ground := Ground.data }], guard := none }) (v := ?_) rfl (by kernel_rfl) (by kernel_rfl) (by kernel_rfl) (fun _ _ _ h => h) (Or.inl ⟨by rfl, ?_⟩) (by assumption) ?_
              rotate_left
              · intro w hSw; (try dsimp only at hSw); go_simp <;> with_reducible rfl
              (try simp only [Act.put, List.setIfInBounds_toArray, List.set_cons_zero, List.set_cons_succ])
              refine wpAnyH_take (i := 14) (oi := { dst := some 118, op := Op.binOp BinOp.neq 4 (Operand.tmp 110) (Operand.tmp 117) 4, type := 4, pos := "cron_entries.go:285", after := #[{ on := 6, ground := Ground.data }, { on := 13, ground := Ground.data }], guard := none }) (v := ?_) rfl (by kernel_rfl) (by kernel_rfl) (by kernel_rfl) (fun _ _ _ h => h) (Or.inl ⟨by rfl, ?_⟩) (by assumption) ?_
              rotate_left
              · intro w hSw; (try dsimp only at hSw); go_simp <;> with_reducible rfl
              (try simp only [Act.put, List.setIfInBounds_toArray, List.set_cons_zero, List.set_cons_succ])
              refine wpAnyH_take (i := 15) (oi := { dst := some 119, op := Op.move (Operand.tmp 118), type := 4, pos := "cron_entries.go:285", after := #[{ on := 14, ground := Ground.data }], guard := none }) (v := ?_) rfl (by kernel_rfl) (by kernel_rfl) (by kernel_rfl) (fun _ _ _ h => h) (Or.inl ⟨by rfl, ?_⟩) (by assumption) ?_
              rotate_left
              · intro w hSw; (try dsimp only at hSw); go_simp <;> with_reducible rfl
              (try simp only [Act.put, List.setIfInBounds_toArray, List.set_cons_zero, List.set_cons_succ])
              refine wpAnyH_take (i := 16) (oi := { dst := some 120, op := Op.move (Operand.tmp 1), type := 23, pos := "cron_entries.go:285", after := #[{ on := 15, ground := Ground.guard }], guard := some (15, false) }) (v := ?_) rfl (by kernel_rfl) (by kernel_rfl) (by kernel_rfl) (fun _ _ _ h => h) (Or.inl ⟨by rfl, ?_⟩) (by assumption) ?_
              rotate_left
              · intro w hSw; (try dsimp only at hSw); go_simp <;> with_reducible rfl
              (try simp only [Act.put, List.setIfInBounds_toArray, List.set_cons_zero, List.set_cons_succ])
              refine wpAnyH_take (i := 17) (oi := { dst := some 121, op := Op.move (Operand.tmp 10), type := 25, pos := "cron_entries.go:285", after := #[{ on := 15, ground := Ground.guard }], guard := some (15, false) }) (v := ?_) rfl (by kernel_rfl) (by kernel_rfl) (by kernel_rfl) (fun _ _ _ h => h) (Or.inl ⟨by rfl, ?_⟩) (by assumption) ?_
              rotate_left
              · intro w hSw; (try dsimp only at hSw); go_simp <;> with_reducible rfl
              (try simp only [Act.put, List.setIfInBounds_toArray, List.set_cons_zero, List.set_cons_succ])
              refine wpAnyH_take (i := 18) (oi := { dst := some 122, op := Op.move (Operand.tmp 12), type := 3, pos := "cron_entries.go:285", after := #[{ on := 15, ground := Ground.guard }], guard := some (15, false) }) (v := ?_) rfl (by kernel_rfl) (by kernel_rfl) (by kernel_rfl) (fun _ _ _ h => h) (Or.inl ⟨by rfl, ?_⟩) (by assumption) ?_
              rotate_left
              · intro w hSw; (try dsimp only at hSw); go_simp <;> with_reducible rfl
              (try simp only [Act.put, List.setIfInBounds_toArray, List.set_cons_zero, List.set_cons_succ])
              refine wpAnyH_take (i := 19) (oi := { dst := some 123, op := Op.indexAddr 25 (Operand.tmp 121) (Operand.tmp 122), type := 0, pos := "cron_entries.go:285", after := #[{ on := 17, ground := Ground.data }, { on := 18, ground := Ground.data }, { on := 15, ground := Ground.guard }], guard := some (15, false) }) (v := ?_) rfl (by kernel_rfl) (by kernel_rfl) (by kernel_rfl) (fun _ _ _ h => h) (Or.inl ⟨by rfl, ?_⟩) (by assumption) ?_
              rotate_left
              · intro w hSw; (try dsimp only at hSw); go_simp <;> with_reducible rfl
              (try simp only [Act.put, List.setIfInBounds_toArray, List.set_cons_zero, List.set_cons_succ])
              refine wpAnyH_take (i := 20) (oi := { dst := some 124, op := Op.load 3 (Operand.tmp 123), type := 3, pos := "cron_entries.go:285", after := #[{ on := 19, ground := Ground.data }, { on := 15, ground := Ground.guard }], guard := some (15, false) }) (v := ?_) rfl (by kernel_rfl) (by kernel_rfl) (by kernel_rfl) (fun _ _ _ h => h) (Or.inl ⟨by rfl, ?_⟩) (by assumption) ?_
              rotate_left
              · intro w hSw; (try dsimp only at hSw); go_simp <;> with_reducible rfl
              (try simp only [Act.put, List.setIfInBounds_toArray, List.set_cons_zero, List.set_cons_succ])
              refine wpAnyH_take (i := 21) (oi := { dst := some 125, op := Op.indexAddr 23 (Operand.tmp 120) (Operand.tmp 124), type := 0, pos := "cron_entries.go:285", after := #[{ on := 16, ground := Ground.data }, { on := 20, ground := Ground.data }, { on := 15, ground := Ground.guard }], guard := some (15, false) }) (v := ?_) rfl (by kernel_rfl) (by kernel_rfl) (by kernel_rfl) (fun _ _ _ h => h) (Or.inl ⟨by rfl, ?_⟩) (by assumption) ?_
              rotate_left
              · intro w hSw; (try dsimp only at hSw); go_simp <;> with_reducible rfl
              (try simp only [Act.put, List.setIfInBounds_toArray, List.set_cons_zero, List.set_cons_succ])
              refine wpAnyH_take (i := 22) (oi := { dst := some 126, op := Op.load 4 (Operand.tmp 125), type := 4, pos := "cron_entries.go:285", after := #[{ on := 21, ground := Ground.data }, { on := 15, ground := Ground.guard }], guard := some (15, false) }) (v := ?_) rfl (by kernel_rfl) (by kernel_rfl) (by kernel_rfl) (fun _ _ _ h => h) (Or.inl ⟨by rfl, ?_⟩) (by assumption) ?_
              rotate_left
              · intro w hSw; (try dsimp only at hSw); go_simp <;> with_reducible rfl
              (try simp only [Act.put, List.setIfInBounds_toArray, List.set_cons_zero, List.set_cons_succ])
              refine wpAnyH_take (i := 23) (oi := { dst := some 127, op := Op.unOp UnOp.not 4 (Operand.tmp 126), type := 4, pos := "cron_entries.go:285", after := #[{ on := 22, ground := Ground.data }, { on := 15, ground := Ground.guard }], guard := some (15, false) }) (v := ?_) rfl (by kernel_rfl) (by kernel_rfl) (by kernel_rfl) (fun _ _ _ h => h) (Or.inl ⟨by rfl, ?_⟩) (by assumption) ?_
              rotate_left
              · intro w hSw; (try dsimp only at hSw); go_simp <;> with_reducible rfl
              (try simp only [Act.put, List.setIfInBounds_toArray, List.set_cons_zero, List.set_cons_succ])
              refine wpAnyH_take (i := 24) (oi := { dst := some 128, op := Op.move (Operand.tmp 127), type := 4, pos := "cron_entries.go:285", after := #[{ on := 23, ground := Ground.data }, { on := 15, ground := Ground.chain }, { on := 15, ground := Ground.guard }], guard := some (15, false) }) (v := ?_) rfl (by kernel_rfl) (by kernel_rfl) (by kernel_rfl) (fun _ _ _ h => h) (Or.inl ⟨by rfl, ?_⟩) (by assumption) ?_
              rotate_left
              · intro w hSw; (try dsimp only at hSw); go_simp <;> with_reducible rfl
              (try simp only [Act.put, List.setIfInBounds_toArray, List.set_cons_zero, List.set_cons_succ])
              refine wpAnyH_take (i := 25) (oi := { dst := some 129, op := Op.move (Operand.tmp 0), type := 22, pos := "cron_entries.go:285", after := #[{ on := 24, ground := Ground.guard }], guard := some (24, true) }) (v := undef) rfl (by kernel_rfl) (by kernel_rfl) (by kernel_rfl) (fun _ _ _ h => h) (Or.inr ⟨by rfl, rfl⟩) (by assumption) ?_
              (try simp only [Act.put, List.setIfInBounds_toArray, List.set_cons_zero, List.set_cons_succ])
              refine wpAnyH_take (i := 26) (oi := { dst := some 130, op := Op.move (Operand.tmp 10), type := 25, pos := "cron_entries.go:285", after := #[{ on := 24, ground := Ground.guard }], guard := some (24, true) }) (v := undef) rfl (by kernel_rfl) (by kernel_rfl) (by kernel_rfl) (fun _ _ _ h => h) (Or.inr ⟨by rfl, rfl⟩) (by assumption) ?_
              (try simp only [Act.put, List.setIfInBounds_toArray, List.set_cons_zero, List.set_cons_succ])
              refine wpAnyH_take (i := 27) (oi := { dst := some 131, op := Op.move (Operand.tmp 12), type := 3, pos := "cron_entries.go:285", after := #[{ on := 24, ground := Ground.guard }], guard := some (24, true) }) (v := undef) rfl (by kernel_rfl) (by kernel_rfl) (by kernel_rfl) (fun _ _ _ h => h) (Or.inr ⟨by rfl, rfl⟩) (by assumption) ?_
              (try simp only [Act.put, List.setIfInBounds_toArray, List.set_cons_zero, List.set_cons_succ])
              refine wpAnyH_take (i := 28) (oi := { dst := some 132, op := Op.indexAddr 25 (Operand.tmp 130) (Operand.tmp 131), type := 0, pos := "cron_entries.go:285", after := #[{ on := 26, ground := Ground.data }, { on := 27, ground := Ground.data }, { on := 24, ground := Ground.guard }], guard := some (24, true) }) (v := undef) rfl (by kernel_rfl) (by kernel_rfl) (by kernel_rfl) (fun _ _ _ h => h) (Or.inr ⟨by rfl, rfl⟩) (by assumption) ?_
              (try simp only [Act.put, List.setIfInBounds_toArray, List.set_cons_zero, List.set_cons_succ])
              refine wpAnyH_take (i := 29) (oi := { dst := some 133, op := Op.load 3 (Operand.tmp 132), type := 3, pos := "cron_entries.go:285", after := #[{ on := 28, ground := Ground.data }, { on := 24, ground := Ground.guard }], guard := some (24, true) }) (v := undef) rfl (by kernel_rfl) (by kernel_rfl) (by kernel_rfl) (fun _ _ _ h => h) (Or.inr ⟨by rfl, rfl⟩) (by assumption) ?_
              (try simp only [Act.put, List.setIfInBounds_toArray, List.set_cons_zero, List.set_cons_succ])
              refine wpAnyH_take (i := 30) (oi := { dst := some 134, op := Op.indexAddr 22 (Operand.tmp 129) (Operand.tmp 133), type := 0, pos := "cron_entries.go:285", after := #[{ on := 25, ground := Ground.data }, { on := 29, ground := Ground.data }, { on := 24, ground := Ground.guard }], guard := some (24, true) }) (v := undef) rfl (by kernel_rfl) (by kernel_rfl) (by kernel_rfl) (fun _ _ _ h => h) (Or.inr ⟨by rfl, rfl⟩) (by assumption) ?_
              (try simp only [Act.put, List.setIfInBounds_toArray, List.set_cons_zero, List.set_cons_succ])
              refine wpAnyH_take (i := 31) (oi := { dst := some 135, op := Op.load 28 (Operand.tmp 134), type := 28, pos := "cron_entries.go:285", after := #[{ on := 30, ground := Ground.data }, { on := 24, ground := Ground.guard }], guard := some (24, true) }) (v := undef) rfl (by kernel_rfl) (by kernel_rfl) (by kernel_rfl) (fun _ _ _ h => h) (Or.inr ⟨by rfl, rfl⟩) (by assumption) ?_
              (try simp only [Act.put, List.setIfInBounds_toArray, List.set_cons_zero, List.set_cons_succ])
              refine wpAnyH_take (i := 32) (oi := { dst := some 136, op := Op.move (Operand.tmp 8), type := 22, pos := "cron_entries.go:285", after := #[{ on := 24, ground := Ground.guard }], guard := some (24, true) }) (v := undef) rfl (by kernel_rfl) (by kernel_rfl) (by kernel_rfl) (fun _ _ _ h => h) (Or.inr ⟨by rfl, rfl⟩) (by assumption) ?_
              (try simp only [Act.put, List.setIfInBounds_toArray, List.set_cons_zero, List.set_cons_succ])
              refine wpAnyH_take (i := 33) (oi := { dst := some 137, op := Op.move (Operand.tmp 11), type := 25, pos := "cron_entries.go:285", after := #[{ on := 24, ground := Ground.guard }], guard := some (24, true) }) (v := undef) rfl (by kernel_rfl) (by kernel_rfl) (by kernel_rfl) (fun _ _ _ h => h) (Or.inr ⟨by rfl, rfl⟩) (by assumption) ?_
              (try simp only [Act.put, List.setIfInBounds_toArray, List.set_cons_zero, List.set_cons_succ])
              refine wpAnyH_take (i := 34) (oi := { dst := some 138, op := Op.move (Operand.tmp 12), type := 3, pos := "cron_entries.go:285", after := #[{ on := 24, ground := Ground.guard }], guard := some (24, true) }) (v := undef) rfl (by kernel_rfl) (by kernel_rfl) (by kernel_rfl) (fun _ _ _ h => h) (Or.inr ⟨by rfl, rfl⟩) (by assumption) ?_
              (try simp only [Act.put, List.setIfInBounds_toArray, List.set_cons_zero, List.set_cons_succ])
              refine wpAnyH_take (i := 35) (oi := { dst := some 139, op := Op.indexAddr 25 (Operand.tmp 137) (Operand.tmp 138), type := 0, pos := "cron_entries.go:285", after := #[{ on := 33, ground := Ground.data }, { on := 34, ground := Ground.data }, { on := 24, ground := Ground.guard }], guard := some (24, true) }) (v := undef) rfl (by kernel_rfl) (by kernel_rfl) (by kernel_rfl) (fun _ _ _ h => h) (Or.inr ⟨by rfl, rfl⟩) (by assumption) ?_
              (try simp only [Act.put, List.setIfInBounds_toArray, List.set_cons_zero, List.set_cons_succ])
              refine wpAnyH_take (i := 36) (oi := { dst := some 140, op := Op.load 3 (Operand.tmp 139), type := 3, pos := "cron_entries.go:285", after := #[{ on := 35, ground := Ground.data }, { on := 24, ground := Ground.guard }], guard := some (24, true) }) (v := undef) rfl (by kernel_rfl) (by kernel_rfl) (by kernel_rfl) (fun _ _ _ h => h) (Or.inr ⟨by rfl, rfl⟩) (by assumption) ?_
              (try simp only [Act.put, List.setIfInBounds_toArray, List.set_cons_zero, List.set_cons_succ])
              refine wpAnyH_take (i := 37) (oi := { dst := some 141, op := Op.indexAddr 22 (Operand.tmp 136) (Operand.tmp 140), type := 0, pos := "cron_entries.go:285", after := #[{ on := 32, ground := Ground.data }, { on := 36, ground := Ground.data }, { on := 24, ground := Ground.guard }], guard := some (24, true) }) (v := undef) rfl (by kernel_rfl) (by kernel_rfl) (by kernel_rfl) (fun _ _ _ h => h) (Or.inr ⟨by rfl, rfl⟩) (by assumption) ?_
              (try simp only [Act.put, List.setIfInBounds_toArray, List.set_cons_zero, List.set_cons_succ])
              refine wpAnyH_take (i := 38) (oi := { dst := some 142, op := Op.load 28 (Operand.tmp 141), type := 28, pos := "cron_entries.go:285", after := #[{ on := 37, ground := Ground.data }, { on := 24, ground := Ground.guard }], guard := some (24, true) }) (v := undef) rfl (by kernel_rfl) (by kernel_rfl) (by kernel_rfl) (fun _ _ _ h => h) (Or.inr ⟨by rfl, rfl⟩) (by assumption) ?_
              (try simp only [Act.put, List.setIfInBounds_toArray, List.set_cons_zero, List.set_cons_succ])
              refine wpAnyH_take (i := 39) (oi := { dst := some 143, op := Op.binOp BinOp.neq 28 (Operand.tmp 135) (Operand.tmp 142) 28, type := 4, pos := "cron_entries.go:285", after := #[{ on := 31, ground := Ground.data }, { on := 38, ground := Ground.data }, { on := 24, ground := Ground.guard }], guard := some (24, true) }) (v := undef) rfl (by kernel_rfl) (by kernel_rfl) (by kernel_rfl) (fun _ _ _ h => h) (Or.inr ⟨by rfl, rfl⟩) (by assumption) ?_
              (try simp only [Act.put, List.setIfInBounds_toArray, List.set_cons_zero, List.set_cons_succ])
              refine wpAnyH_take (i := 40) (oi := { dst := some 144, op := Op.pick (Operand.tmp 128) (Operand.tmp 143) (Operand.const (Value.bool false)), type := 4, pos := "cron_entries.go:285", after := #[{ on := 24, ground := Ground.data }, { on := 39, ground := Ground.data }, { on := 15, ground := Ground.guard }], guard := some (15, false) }) (v := ?_) rfl (by kernel_rfl) (by kernel_rfl) (by kernel_rfl) (fun _ _ _ h => h) (Or.inl ⟨by rfl, ?_⟩) (by assumption) ?_
              rotate_left
              · intro w hSw; (try dsimp only at hSw); go_simp <;> with_reducible rfl
              (try simp only [Act.put, List.setIfInBounds_toArray, List.set_cons_zero, List.set_cons_succ])
              refine wpAnyH_take (i := 41) (oi := { dst := some 145, op := Op.pick (Operand.tmp 119) (Operand.const (Value.bool true)) (Operand.tmp 144), type := 4, pos := "cron_entries.go:285", after := #[{ on := 15, ground := Ground.data }, { on := 40, ground := Ground.data }], guard := none }) (v := ?_) rfl (by kernel_rfl) (by kernel_rfl) (by kernel_rfl) (fun _ _ _ h => h) (Or.inl ⟨by rfl, ?_⟩) (by assumption) ?_
              rotate_left
              · intro w hSw; (try dsimp only at hSw); go_simp <;> with_reducible rfl
              (try simp only [Act.put, List.setIfInBounds_toArray, List.set_cons_zero, List.set_cons_succ])
              refine wpAnyH_done (by kernel_rfl) ?_ _
              all_goals
                have HD := Lib.hid HL.out.drew
                go_wp2_with fail
                go_roundw
                case rel => exact ⟨j + 1, by go_num, by omega, Lib.hid HD.out⟩
                case measure => simp [intOf]; omega
            | false =>
              rw [hzp] at z0 r0
              obtain ⟨e1, e2⟩ := hsm hzp
              rw [← e1] at q0
              rw [← e2] at q1
              clear hsm hzz e1 e2
              go_upto_region 16 with fail
              go_region_held3 (fun X => X.cell? (x5.add j) = some (.int .i64 (p : Int)) ∧ X.cell? (x6.add j) = some (.int .i64 (q : Int)) ∧ X.cell? (xz.add p) = some (.bool false) ∧ X.cell? (xr.add q) = some (.bool false) ∧ X.cell? (xa.add (p * 2)) = some (.int .i64 (s p)) ∧ X.cell? ⟨(xa.add (p * 2)).block, (xa.add (p * 2)).off + 1, none⟩ = some (.int .i64 (m p)) ∧ X.cell? (xq.add (q * 2)) = some (.int .i64 (s p)) ∧ X.cell? ⟨(xq.add (q * 2)).block, (xq.add (q * 2)).off + 1, none⟩ = some (.int .i64 (m p))) (go_keep) (fail)
              all_goals
                have HD := Lib.hid HL.out.drew
                go_wp2_with fail
                go_roundw
                case rel => exact ⟨j + 1, by go_num, by omega, Lib.hid HD.out⟩
                case measure => simp [intOf]; omega
          · obtain rfl : j = nz := by omega
            have hji : ¬ (j : Int) < (j : Int) := by omega
            go_wp2_with fail
            go_ret
            exact ⟨rfl, HB1.out.trans ((HBX.out.trans ((HW5.out.trans ((HB6.out.trans (HL.out.mono HB6.out.size)).mono HW5.out.size)).mono HBX.out.size)).mono HB1.out.size)⟩

end Go.Proofs.Ytjgamgmghelhgaa.ByLaw
