/- laws.entriesTimes: at most 60 good instants, none the zero time, with as many marks. Conditions: none. -/
import Derived.Test.YtjgamgmghelhgaaByImpl
namespace Go.Proofs.Ytjgamgmghelhgaa.ByGood
open Go Go.RowKit Go.Sort Go.Proofs.Ytjgamgmghelhgaa.SortS Go.Proofs.Ytjgamgmghelhgaa.ByT Go.Proofs.Ytjgamgmghelhgaa.ByImpl
set_option linter.unusedVariables false

def okT (s m : Int) : Prop := (0 ≤ m ∧ m < 1000000000 ∧ -62135596800 ≤ s ∧ s ≤ 253402300799) ∧ ¬ (s = -62135596800 ∧ m = 0)
def TimesT (n nz : Nat) (s m : Nat → Int) (w : World) (e : Ending) (w' : World) : Prop := ∃ b : Bool, e = .returned (.bool b) ∧ (b = true → n ≤ 60 ∧ nz = n ∧ ∀ j, j < n → okT (s j) (m j)) ∧ RowKit.Below w.heap.size w w'
set_option maxHeartbeats 1000000 in
set_option maxRecDepth 100000 in
theorem times_any (pa pz : Option Addr) (n nz c cz : Nat) (s m : Nat → Int) (w : World) (hi : Insts w pa n s m) (hn : n ≤ 2147483647) (hnz : nz ≤ 2147483647) :
    Calls Try.prog 4 #[.slice pa n c, .slice pz nz cz] w (TimesT n nz s m w) := by
  have HI := Lib.hid hi
  clear hi
  by_cases h60 : 60 < n
  · have h60i : (60 : Int) < (n : Int) := by omega
    go_enter Try.func4, Try.ntmps4
    go_wp2
    go_ret
    exact ⟨false, rfl, by simp, Below.refl _ _⟩
  have h60i : ¬ (60 : Int) < (n : Int) := by omega
  by_cases hnn : nz = n
  · subst hnn
    go_enter Try.func4, Try.ntmps4
    go_wp2
    go_loopw [19] (fun i wr => ∃ k : Nat, i = .int .i64 (k : Int) ∧ k ≤ nz ∧ Hid (RowKit.Below w.heap.size w wr ∧ ∀ j, j < k → okT (s j) (m j))) (fun i _ => nz - (intOf i).toNat)
    case atStart => exact ⟨0, rfl, Nat.zero_le _, Lib.hid ⟨Below.refl _ _, fun j hj => by omega⟩⟩
    case round =>
      obtain ⟨k, rfl, hk, HL⟩ := hrel
      have hsz := HL.out.1.size
      by_cases hkn : k < nz
      · obtain ⟨x, rfl, c0, c1⟩ := HI.out k hkn
        have d0 := (HL.out.1.cell (World.block_lt_of_cell? w _ c0)).trans c0
        have d1 := (HL.out.1.cell (World.block_lt_of_cell? w _ c1)).trans c1
        have hki : (k : Int) < (nz : Int) := by omega
        clear c0 c1
        have HGD := Lib.hid (fun X => good_b (s k) (m k) X)
        have HZR := Lib.hid (fun X => cronZero_any (s k) (m k) X)
        obtain ⟨gb, hgb⟩ : ∃ b, goodB (s k) (m k) = b := ⟨_, rfl⟩
        obtain ⟨zb, hzb⟩ : ∃ b, (s k == -62135596800 && m k == 0) = b := ⟨_, rfl⟩
        rw [hgb] at HGD
        rw [hzb] at HZR
        have HGB := Lib.hid hgb
        have HZB := Lib.hid hzb
        clear hgb hzb
        have HBW : Hid (RowKit.Below wr.heap.size wr (wr.alloc (Obj.cells #[.int .i64 (s k), .int .i64 (m k)] 28))) := Lib.hid ((Below.refl _ _).alloc (Nat.le_refl _) _)
        have HT7 : Hid (∀ X, RowKit.Below (wr.alloc (Obj.cells #[.int .i64 (s k), .int .i64 (m k)] 28)).heap.size (wr.alloc (Obj.cells #[.int .i64 (s k), .int .i64 (m k)] 28)) X → X.cell? ⟨wr.heap.size, 0, none⟩ = some (.int .i64 (s k)) ∧ X.cell? ⟨wr.heap.size, 1, none⟩ = some (.int .i64 (m k))) := Lib.hid (fun X hX => by
          have hh := heap_alloc_new wr (Obj.cells #[.int .i64 (s k), .int .i64 (m k)] 28)
          have h2 := hX.block wr.heap.size (by simp)
          rw [hh] at h2
          constructor <;> (unfold World.cell?; simp only [h2]; rfl))
        cases gb with
        | false =>
          go_wp2_with (go_at_call 6; refine (HGD.out _).mono ?_; rintro e X1 ⟨rfl, hb1⟩)
          go_ret
          exact ⟨false, rfl, by simp, HL.out.1.trans ((HBW.out.trans (hb1.mono HBW.out.size)).mono hsz)⟩
        | true =>
          cases zb with
          | true =>
            go_wp2_with (first
              | (go_at_call 6; refine (HGD.out _).mono ?_; rintro e X1 ⟨rfl, hb1⟩; obtain ⟨p0, p1⟩ := HT7.out X1 hb1)
              | (go_at_call 7; refine (HZR.out _).mono ?_; rintro e X2 ⟨rfl, hb2⟩))
            go_ret
            exact ⟨false, rfl, by simp, HL.out.1.trans ((HBW.out.trans ((hb1.trans (hb2.mono hb1.size)).mono HBW.out.size)).mono hsz)⟩
          | false =>
            go_wp2_with (first
              | (go_at_call 6; refine (HGD.out _).mono ?_; rintro e X1 ⟨rfl, hb1⟩; obtain ⟨p0, p1⟩ := HT7.out X1 hb1)
              | (go_at_call 7; refine (HZR.out _).mono ?_; rintro e X2 ⟨rfl, hb2⟩))
            have hbb := HL.out.1.trans ((HBW.out.trans ((hb1.trans (hb2.mono hb1.size)).mono HBW.out.size)).mono hsz)
            have HBB := Lib.hid hbb
            go_roundw
            case rel => exact ⟨k + 1, by go_num, by omega, Lib.hid ⟨HBB.out, fun j hj => by
              by_cases hjk : j < k
              · exact HL.out.2 j hjk
              · obtain rfl : j = k := by omega
                obtain ⟨g1, g2, g3⟩ := goodB_facts HGB.out
                have hz := HZB.out
                refine ⟨⟨g2, g3, g1.1, g1.2⟩, fun h => ?_⟩
                rw [h.1, h.2] at hz
                exact absurd hz (by decide)⟩⟩
            case measure => simp [intOf]; omega
      · obtain rfl : k = nz := by omega
        have hki : ¬ (k : Int) < (k : Int) := by omega
        go_wp2_with fail
        go_ret
        exact ⟨true, rfl, fun _ => ⟨by omega, rfl, HL.out.2⟩, HL.out.1⟩
  · have hnni : (((nz : Int) == (n : Int))) = false := by rw [beq_eq_false_iff_ne]; omega
    go_enter Try.func4, Try.ntmps4
    go_wp2
    go_ret
    exact ⟨false, rfl, by simp, Below.refl _ _⟩

end Go.Proofs.Ytjgamgmghelhgaa.ByGood
