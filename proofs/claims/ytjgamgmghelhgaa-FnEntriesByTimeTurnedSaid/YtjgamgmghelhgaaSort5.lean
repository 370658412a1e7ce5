/- sort.xorshift, nextPowerOfTwo, breakPatterns over byTime. Conditions: indices within the row. (Printed by mkxor.py.) -/
import Derived.Test.YtjgamgmghelhgaaSortK
import Derived.Test.YtjgamgmghelhgaaRegS
import Derived.Sort.Walk7
import Derived.Deep.DeepCutAuto
namespace Go.Proofs.Ytjgamgmghelhgaa.Sort5
open Go Go.RowKit Go.Sort Go.Proofs.Ytjgamgmghelhgaa.SortS Go.Proofs.Ytjgamgmghelhgaa.SortK
set_option linter.unusedVariables false

theorem ofInt_nat (r : UInt64) : BitVec.ofInt 64 (r.toNat : Int) = r.toBitVec := by
  rw [BitVec.ofInt_natCast]
  apply BitVec.eq_of_toNat_eq
  rw [BitVec.toNat_ofNat]
  exact Nat.mod_eq_of_lt r.toNat_lt
theorem wrap_nat (n : Nat) : IntKind.u64.wrap (n : Int) = ((n % 18446744073709551616 : Nat) : Int) := by
  simp [IntKind.wrap, IntKind.bits, IntKind.signed]
theorem xor_nat (a b : UInt64) : Go.bits .xor .u64 (a.toNat : Int) (b.toNat : Int) = ((a ^^^ b).toNat : Int) := by
  show IntKind.u64.wrap (((BitVec.ofInt 64 (a.toNat : Int)) ^^^ (BitVec.ofInt 64 (b.toNat : Int))).toNat : Int) = _
  rw [ofInt_nat, ofInt_nat, wrap_nat]
  have h : (a.toBitVec ^^^ b.toBitVec).toNat = (a ^^^ b).toNat := rfl
  rw [h, Nat.mod_eq_of_lt (a ^^^ b).toNat_lt]
theorem shl_nat (r : UInt64) (k : Nat) (hk : k < 64) : IntKind.u64.wrap ((r.toNat : Int) * ((2 ^ k : Nat) : Int)) = ((r <<< (UInt64.ofNat k)).toNat : Int) := by
  rw [← Int.natCast_mul, wrap_nat]
  congr 1
  rw [UInt64.toNat_shiftLeft]
  simp [Nat.shiftLeft_eq, Nat.mod_eq_of_lt (show k < 18446744073709551616 by omega), Nat.mod_eq_of_lt hk]
theorem shr_nat (r : UInt64) (k : Nat) (hk : k < 64) : ((r.toNat : Int) / ((2 ^ k : Nat) : Int)) = ((r >>> (UInt64.ofNat k)).toNat : Int) := by
  rw [← Int.natCast_ediv]
  congr 1
  rw [UInt64.toNat_shiftRight]
  simp [Nat.shiftRight_eq_div_pow, Nat.mod_eq_of_lt (show k < 18446744073709551616 by omega), Nat.mod_eq_of_lt hk]

set_option maxHeartbeats 1000000 in
set_option maxRecDepth 100000 in
theorem next_any (p : Nat) (r : UInt64) (w : World) (hc : w.cell? ⟨p, 0, none⟩ = some (.int .u64 (r.toNat : Int))) (hf : w.frozen? ⟨p, 0, none⟩ = false) :
    Calls Try.prog 32 #[.pointer (some ⟨p, 0, none⟩)] w fun e w' => e = .returned (.int .u64 ((xorNext r).toNat : Int)) ∧ St p w w' ∧ w'.cell? ⟨p, 0, none⟩ = some (.int .u64 ((xorNext r).toNat : Int)) ∧ w'.frozen? ⟨p, 0, none⟩ = false := by
  obtain ⟨x0, hx0⟩ : ∃ x : Int, (r.toNat : Int) = x := ⟨_, rfl⟩
  obtain ⟨x1, hx1⟩ : ∃ x : Int, bits .xor .u64 x0 (IntKind.u64.wrap (x0 * 8192)) = x := ⟨_, rfl⟩
  obtain ⟨x2, hx2⟩ : ∃ x : Int, bits .xor .u64 x1 (x1 / 128) = x := ⟨_, rfl⟩
  obtain ⟨x3, hx3⟩ : ∃ x : Int, bits .xor .u64 x2 (IntKind.u64.wrap (x2 * 131072)) = x := ⟨_, rfl⟩
  have hfin : x3 = ((xorNext r).toNat : Int) := by
    have e1 : x1 = ((r ^^^ (r <<< 13)).toNat : Int) := by
      rw [← hx1, ← hx0, show (8192 : Int) = ((2 ^ 13 : Nat) : Int) from rfl, shl_nat r 13 (by decide)]
      exact xor_nat _ _
    have e2 : x2 = (((r ^^^ (r <<< 13)) ^^^ ((r ^^^ (r <<< 13)) >>> 7)).toNat : Int) := by
      rw [← hx2, e1, show (128 : Int) = ((2 ^ 7 : Nat) : Int) from rfl, shr_nat _ 7 (by decide)]
      exact xor_nat _ _
    rw [← hx3, e2, show (131072 : Int) = ((2 ^ 17 : Nat) : Int) from rfl, shl_nat _ 17 (by decide)]
    exact xor_nat _ _
  have b0 : 0 ≤ x0 ∧ x0 ≤ 18446744073709551615 := by rw [← hx0]; have := r.toNat_lt; omega
  have hb : ∀ a b : Int, 0 ≤ bits .xor .u64 a b ∧ bits .xor .u64 a b ≤ 18446744073709551615 := fun a b => by
    show 0 ≤ IntKind.u64.wrap _ ∧ IntKind.u64.wrap _ ≤ _
    rw [wrap_nat]
    omega
  have b1 : 0 ≤ x1 ∧ x1 ≤ 18446744073709551615 := by rw [← hx1]; exact hb _ _
  have b2 : 0 ≤ x2 ∧ x2 ≤ 18446744073709551615 := by rw [← hx2]; exact hb _ _
  have b3 : 0 ≤ x3 ∧ x3 ≤ 18446744073709551615 := by rw [← hx3]; exact hb _ _
  rw [hx0] at hc
  rw [← hfin]
  have HB := Lib.hid (And.intro b0 (And.intro b1 (And.intro b2 b3)))
  clear hfin hx0 hb
  have HY0 : Hid (w.cell? ⟨p, 0, none⟩ = some (.int .u64 x0) ∧ w.frozen? ⟨p, 0, none⟩ = false ∧ St p w w) := Lib.hid ⟨hc, hf, St.refl _ _⟩
  clear hc hf
  go_enter Try.func32, Try.ntmps32
  go_wp2_with fail
  refine RegS.region_S (n := 9) (S := fun X => (fun X => X.cell? ⟨p, 0, none⟩ = some (.int .u64 x0) ∧ X.frozen? ⟨p, 0, none⟩ = false ∧ St p w X) X) (by kernel_rfl) rfl (⟨HY0.out.1, HY0.out.2.1, HY0.out.2.2.drew⟩) (fun inv => ?_)
  refine RegS.AnyS.take (i := 0) (v := .pointer (some ⟨p, 0, none⟩)) inv (by kernel_rfl) rfl rfl (by omega) (by kernel_rfl) (by kernel_rfl) (by kernel_rfl) (fun _ _ _ h => h) ⟨by rfl, fun X' hX => ?_⟩ (some 3) rfl (fun inv => ?_)
  · have hc := hX.1
    go_simp
    exact ⟨rfl, hX⟩
  simp only [Act.put, List.setIfInBounds_toArray, List.set_cons_zero, List.set_cons_succ]
  refine RegS.AnyS.take (i := 1) (v := .pointer (some ⟨p, 0, none⟩)) inv (by kernel_rfl) rfl rfl (by omega) (by kernel_rfl) (by kernel_rfl) (by kernel_rfl) (fun _ _ _ h => h) ⟨by rfl, fun X' hX => ?_⟩ (some 4) rfl (fun inv => ?_)
  · have hc := hX.1
    go_simp
    exact ⟨rfl, hX⟩
  simp only [Act.put, List.setIfInBounds_toArray, List.set_cons_zero, List.set_cons_succ]
  refine RegS.AnyS.take (i := 2) (v := .int .u64 x0) inv (by kernel_rfl) rfl rfl (by omega) (by kernel_rfl) (by kernel_rfl) (by kernel_rfl) (fun _ _ _ h => h) ⟨by rfl, fun X' hX => ?_⟩ (some 5) rfl (fun inv => ?_)
  · have hc := hX.1
    go_simp
    exact ⟨rfl, hX⟩
  simp only [Act.put, List.setIfInBounds_toArray, List.set_cons_zero, List.set_cons_succ]
  refine RegS.AnyS.take (i := 3) (v := .pointer (some ⟨p, 0, none⟩)) inv (by kernel_rfl) rfl rfl (by omega) (by kernel_rfl) (by kernel_rfl) (by kernel_rfl) (fun _ _ _ h => h) ⟨by rfl, fun X' hX => ?_⟩ (some 6) rfl (fun inv => ?_)
  · have hc := hX.1
    go_simp
    exact ⟨rfl, hX⟩
  simp only [Act.put, List.setIfInBounds_toArray, List.set_cons_zero, List.set_cons_succ]
  refine RegS.AnyS.take (i := 4) (v := .pointer (some ⟨p, 0, none⟩)) inv (by kernel_rfl) rfl rfl (by omega) (by kernel_rfl) (by kernel_rfl) (by kernel_rfl) (fun _ _ _ h => h) ⟨by rfl, fun X' hX => ?_⟩ (some 7) rfl (fun inv => ?_)
  · have hc := hX.1
    go_simp
    exact ⟨rfl, hX⟩
  simp only [Act.put, List.setIfInBounds_toArray, List.set_cons_zero, List.set_cons_succ]
  refine RegS.AnyS.take (i := 5) (v := .int .u64 x0) inv (by kernel_rfl) rfl rfl (by omega) (by kernel_rfl) (by kernel_rfl) (by kernel_rfl) (fun _ _ _ h => h) ⟨by rfl, fun X' hX => ?_⟩ (some 8) rfl (fun inv => ?_)
  · have hc := hX.1
    go_simp
    exact ⟨rfl, hX⟩
  simp only [Act.put, List.setIfInBounds_toArray, List.set_cons_zero, List.set_cons_succ]
  refine RegS.AnyS.take (i := 6) (v := .int .u64 (IntKind.u64.wrap (x0 * 8192))) inv (by kernel_rfl) rfl rfl (by omega) (by kernel_rfl) (by kernel_rfl) (by kernel_rfl) (fun _ _ _ h => h) ⟨by rfl, fun X' hX => ?_⟩ (some 9) rfl (fun inv => ?_)
  · have hc := hX.1
    go_simp
    exact ⟨rfl, hX⟩
  simp only [Act.put, List.setIfInBounds_toArray, List.set_cons_zero, List.set_cons_succ]
  refine RegS.AnyS.take (i := 7) (v := .int .u64 (x1)) inv (by kernel_rfl) rfl rfl (by omega) (by kernel_rfl) (by kernel_rfl) (by kernel_rfl) (fun _ _ _ h => h) ⟨by rfl, fun X' hX => ?_⟩ (some 10) rfl (fun inv => ?_)
  · have hc := hX.1
    go_simp
    exact ⟨rfl, hX⟩
  simp only [Act.put, List.setIfInBounds_toArray, List.set_cons_zero, List.set_cons_succ]
  refine RegS.AnyS.take (i := 8) (v := .pointer (some ⟨p, 0, none⟩)) inv (by kernel_rfl) rfl rfl (by omega) (by kernel_rfl) (by kernel_rfl) (by kernel_rfl) (fun _ _ _ h => h) ⟨by rfl, fun X' hX => ?_⟩ (some 11) rfl (fun inv => ?_)
  · have hc := hX.1
    go_simp
    exact ⟨rfl, hX⟩
  simp only [Act.put, List.setIfInBounds_toArray, List.set_cons_zero, List.set_cons_succ]
  refine RegS.AnyS.last (by kernel_rfl) rfl (by kernel_rfl) (fun X4 hX K hK => ?_)
  obtain ⟨c4, f4, st4⟩ := hX
  go_simp
  refine hK.out _ _ ?_
  obtain ⟨Y1, hY1⟩ : ∃ Y, X4.setCell ⟨p, 0, none⟩ (.int .u64 x1) = Y := ⟨_, rfl⟩
  have HY1 : Hid (Y1.cell? ⟨p, 0, none⟩ = some (.int .u64 x1) ∧ Y1.frozen? ⟨p, 0, none⟩ = false ∧ St p w Y1) := Lib.hid (by rw [← hY1]; exact ⟨World.cell?_setCell_same _ _ _ c4, by simpa using f4, st4.setCell (p := ⟨p, 0, none⟩) (.inl rfl) _⟩)
  rw [hY1]
  clear hK hY1 c4 f4 st4
  go_wp2_with fail
  refine RegS.region_S (n := 9) (S := fun X => (fun X => X.cell? ⟨p, 0, none⟩ = some (.int .u64 x1) ∧ X.frozen? ⟨p, 0, none⟩ = false ∧ St p w X) X) (by kernel_rfl) rfl (⟨HY1.out.1, HY1.out.2.1, HY1.out.2.2.drew⟩) (fun inv => ?_)
  refine RegS.AnyS.take (i := 0) (v := .pointer (some ⟨p, 0, none⟩)) inv (by kernel_rfl) rfl rfl (by omega) (by kernel_rfl) (by kernel_rfl) (by kernel_rfl) (fun _ _ _ h => h) ⟨by rfl, fun X' hX => ?_⟩ (some 12) rfl (fun inv => ?_)
  · have hc := hX.1
    go_simp
    exact ⟨rfl, hX⟩
  simp only [Act.put, List.setIfInBounds_toArray, List.set_cons_zero, List.set_cons_succ]
  refine RegS.AnyS.take (i := 1) (v := .pointer (some ⟨p, 0, none⟩)) inv (by kernel_rfl) rfl rfl (by omega) (by kernel_rfl) (by kernel_rfl) (by kernel_rfl) (fun _ _ _ h => h) ⟨by rfl, fun X' hX => ?_⟩ (some 13) rfl (fun inv => ?_)
  · have hc := hX.1
    go_simp
    exact ⟨rfl, hX⟩
  simp only [Act.put, List.setIfInBounds_toArray, List.set_cons_zero, List.set_cons_succ]
  refine RegS.AnyS.take (i := 2) (v := .int .u64 x1) inv (by kernel_rfl) rfl rfl (by omega) (by kernel_rfl) (by kernel_rfl) (by kernel_rfl) (fun _ _ _ h => h) ⟨by rfl, fun X' hX => ?_⟩ (some 14) rfl (fun inv => ?_)
  · have hc := hX.1
    go_simp
    exact ⟨rfl, hX⟩
  simp only [Act.put, List.setIfInBounds_toArray, List.set_cons_zero, List.set_cons_succ]
  refine RegS.AnyS.take (i := 3) (v := .pointer (some ⟨p, 0, none⟩)) inv (by kernel_rfl) rfl rfl (by omega) (by kernel_rfl) (by kernel_rfl) (by kernel_rfl) (fun _ _ _ h => h) ⟨by rfl, fun X' hX => ?_⟩ (some 15) rfl (fun inv => ?_)
  · have hc := hX.1
    go_simp
    exact ⟨rfl, hX⟩
  simp only [Act.put, List.setIfInBounds_toArray, List.set_cons_zero, List.set_cons_succ]
  refine RegS.AnyS.take (i := 4) (v := .pointer (some ⟨p, 0, none⟩)) inv (by kernel_rfl) rfl rfl (by omega) (by kernel_rfl) (by kernel_rfl) (by kernel_rfl) (fun _ _ _ h => h) ⟨by rfl, fun X' hX => ?_⟩ (some 16) rfl (fun inv => ?_)
  · have hc := hX.1
    go_simp
    exact ⟨rfl, hX⟩
  simp only [Act.put, List.setIfInBounds_toArray, List.set_cons_zero, List.set_cons_succ]
  refine RegS.AnyS.take (i := 5) (v := .int .u64 x1) inv (by kernel_rfl) rfl rfl (by omega) (by kernel_rfl) (by kernel_rfl) (by kernel_rfl) (fun _ _ _ h => h) ⟨by rfl, fun X' hX => ?_⟩ (some 17) rfl (fun inv => ?_)
  · have hc := hX.1
    go_simp
    exact ⟨rfl, hX⟩
  simp only [Act.put, List.setIfInBounds_toArray, List.set_cons_zero, List.set_cons_succ]
  refine RegS.AnyS.take (i := 6) (v := .int .u64 (x1 / 128)) inv (by kernel_rfl) rfl rfl (by omega) (by kernel_rfl) (by kernel_rfl) (by kernel_rfl) (fun _ _ _ h => h) ⟨by rfl, fun X' hX => ?_⟩ (some 18) rfl (fun inv => ?_)
  · have hc := hX.1
    go_simp
    exact ⟨rfl, hX⟩
  simp only [Act.put, List.setIfInBounds_toArray, List.set_cons_zero, List.set_cons_succ]
  refine RegS.AnyS.take (i := 7) (v := .int .u64 (x2)) inv (by kernel_rfl) rfl rfl (by omega) (by kernel_rfl) (by kernel_rfl) (by kernel_rfl) (fun _ _ _ h => h) ⟨by rfl, fun X' hX => ?_⟩ (some 19) rfl (fun inv => ?_)
  · have hc := hX.1
    go_simp
    exact ⟨rfl, hX⟩
  simp only [Act.put, List.setIfInBounds_toArray, List.set_cons_zero, List.set_cons_succ]
  refine RegS.AnyS.take (i := 8) (v := .pointer (some ⟨p, 0, none⟩)) inv (by kernel_rfl) rfl rfl (by omega) (by kernel_rfl) (by kernel_rfl) (by kernel_rfl) (fun _ _ _ h => h) ⟨by rfl, fun X' hX => ?_⟩ (some 20) rfl (fun inv => ?_)
  · have hc := hX.1
    go_simp
    exact ⟨rfl, hX⟩
  simp only [Act.put, List.setIfInBounds_toArray, List.set_cons_zero, List.set_cons_succ]
  refine RegS.AnyS.last (by kernel_rfl) rfl (by kernel_rfl) (fun X4 hX K hK => ?_)
  obtain ⟨c4, f4, st4⟩ := hX
  go_simp
  refine hK.out _ _ ?_
  obtain ⟨Y2, hY2⟩ : ∃ Y, X4.setCell ⟨p, 0, none⟩ (.int .u64 x2) = Y := ⟨_, rfl⟩
  have HY2 : Hid (Y2.cell? ⟨p, 0, none⟩ = some (.int .u64 x2) ∧ Y2.frozen? ⟨p, 0, none⟩ = false ∧ St p w Y2) := Lib.hid (by rw [← hY2]; exact ⟨World.cell?_setCell_same _ _ _ c4, by simpa using f4, st4.setCell (p := ⟨p, 0, none⟩) (.inl rfl) _⟩)
  rw [hY2]
  clear hK hY2 c4 f4 st4
  go_wp2_with fail
  refine RegS.region_S (n := 9) (S := fun X => (fun X => X.cell? ⟨p, 0, none⟩ = some (.int .u64 x2) ∧ X.frozen? ⟨p, 0, none⟩ = false ∧ St p w X) X) (by kernel_rfl) rfl (⟨HY2.out.1, HY2.out.2.1, HY2.out.2.2.drew⟩) (fun inv => ?_)
  refine RegS.AnyS.take (i := 0) (v := .pointer (some ⟨p, 0, none⟩)) inv (by kernel_rfl) rfl rfl (by omega) (by kernel_rfl) (by kernel_rfl) (by kernel_rfl) (fun _ _ _ h => h) ⟨by rfl, fun X' hX => ?_⟩ (some 21) rfl (fun inv => ?_)
  · have hc := hX.1
    go_simp
    exact ⟨rfl, hX⟩
  simp only [Act.put, List.setIfInBounds_toArray, List.set_cons_zero, List.set_cons_succ]
  refine RegS.AnyS.take (i := 1) (v := .pointer (some ⟨p, 0, none⟩)) inv (by kernel_rfl) rfl rfl (by omega) (by kernel_rfl) (by kernel_rfl) (by kernel_rfl) (fun _ _ _ h => h) ⟨by rfl, fun X' hX => ?_⟩ (some 22) rfl (fun inv => ?_)
  · have hc := hX.1
    go_simp
    exact ⟨rfl, hX⟩
  simp only [Act.put, List.setIfInBounds_toArray, List.set_cons_zero, List.set_cons_succ]
  refine RegS.AnyS.take (i := 2) (v := .int .u64 x2) inv (by kernel_rfl) rfl rfl (by omega) (by kernel_rfl) (by kernel_rfl) (by kernel_rfl) (fun _ _ _ h => h) ⟨by rfl, fun X' hX => ?_⟩ (some 23) rfl (fun inv => ?_)
  · have hc := hX.1
    go_simp
    exact ⟨rfl, hX⟩
  simp only [Act.put, List.setIfInBounds_toArray, List.set_cons_zero, List.set_cons_succ]
  refine RegS.AnyS.take (i := 3) (v := .pointer (some ⟨p, 0, none⟩)) inv (by kernel_rfl) rfl rfl (by omega) (by kernel_rfl) (by kernel_rfl) (by kernel_rfl) (fun _ _ _ h => h) ⟨by rfl, fun X' hX => ?_⟩ (some 24) rfl (fun inv => ?_)
  · have hc := hX.1
    go_simp
    exact ⟨rfl, hX⟩
  simp only [Act.put, List.setIfInBounds_toArray, List.set_cons_zero, List.set_cons_succ]
  refine RegS.AnyS.take (i := 4) (v := .pointer (some ⟨p, 0, none⟩)) inv (by kernel_rfl) rfl rfl (by omega) (by kernel_rfl) (by kernel_rfl) (by kernel_rfl) (fun _ _ _ h => h) ⟨by rfl, fun X' hX => ?_⟩ (some 25) rfl (fun inv => ?_)
  · have hc := hX.1
    go_simp
    exact ⟨rfl, hX⟩
  simp only [Act.put, List.setIfInBounds_toArray, List.set_cons_zero, List.set_cons_succ]
  refine RegS.AnyS.take (i := 5) (v := .int .u64 x2) inv (by kernel_rfl) rfl rfl (by omega) (by kernel_rfl) (by kernel_rfl) (by kernel_rfl) (fun _ _ _ h => h) ⟨by rfl, fun X' hX => ?_⟩ (some 26) rfl (fun inv => ?_)
  · have hc := hX.1
    go_simp
    exact ⟨rfl, hX⟩
  simp only [Act.put, List.setIfInBounds_toArray, List.set_cons_zero, List.set_cons_succ]
  refine RegS.AnyS.take (i := 6) (v := .int .u64 (IntKind.u64.wrap (x2 * 131072))) inv (by kernel_rfl) rfl rfl (by omega) (by kernel_rfl) (by kernel_rfl) (by kernel_rfl) (fun _ _ _ h => h) ⟨by rfl, fun X' hX => ?_⟩ (some 27) rfl (fun inv => ?_)
  · have hc := hX.1
    go_simp
    exact ⟨rfl, hX⟩
  simp only [Act.put, List.setIfInBounds_toArray, List.set_cons_zero, List.set_cons_succ]
  refine RegS.AnyS.take (i := 7) (v := .int .u64 (x3)) inv (by kernel_rfl) rfl rfl (by omega) (by kernel_rfl) (by kernel_rfl) (by kernel_rfl) (fun _ _ _ h => h) ⟨by rfl, fun X' hX => ?_⟩ (some 28) rfl (fun inv => ?_)
  · have hc := hX.1
    go_simp
    exact ⟨rfl, hX⟩
  simp only [Act.put, List.setIfInBounds_toArray, List.set_cons_zero, List.set_cons_succ]
  refine RegS.AnyS.take (i := 8) (v := .pointer (some ⟨p, 0, none⟩)) inv (by kernel_rfl) rfl rfl (by omega) (by kernel_rfl) (by kernel_rfl) (by kernel_rfl) (fun _ _ _ h => h) ⟨by rfl, fun X' hX => ?_⟩ (some 29) rfl (fun inv => ?_)
  · have hc := hX.1
    go_simp
    exact ⟨rfl, hX⟩
  simp only [Act.put, List.setIfInBounds_toArray, List.set_cons_zero, List.set_cons_succ]
  refine RegS.AnyS.last (by kernel_rfl) rfl (by kernel_rfl) (fun X4 hX K hK => ?_)
  obtain ⟨c4, f4, st4⟩ := hX
  go_simp
  refine hK.out _ _ ?_
  obtain ⟨Y3, hY3⟩ : ∃ Y, X4.setCell ⟨p, 0, none⟩ (.int .u64 x3) = Y := ⟨_, rfl⟩
  have HY3 : Hid (Y3.cell? ⟨p, 0, none⟩ = some (.int .u64 x3) ∧ Y3.frozen? ⟨p, 0, none⟩ = false ∧ St p w Y3) := Lib.hid (by rw [← hY3]; exact ⟨World.cell?_setCell_same _ _ _ c4, by simpa using f4, st4.setCell (p := ⟨p, 0, none⟩) (.inl rfl) _⟩)
  rw [hY3]
  clear hK hY3 c4 f4 st4
  have c9 := HY3.out.1
  go_wp2_with fail
  go_ret
  exact ⟨rfl, HY3.out.2.2, HY3.out.1, HY3.out.2.1⟩

end Go.Proofs.Ytjgamgmghelhgaa.Sort5
