/- sort.nextPowerOfTwo, sort.breakPatterns over byTime. Conditions: indices within the row. -/
import Derived.Test.YtjgamgmghelhgaaSort5
import Derived.Test.YtjgamgmghelhgaaShelf
namespace Go.Proofs.Ytjgamgmghelhgaa.Sort6
open Go Go.RowKit Go.Sort Go.Proofs.Ytjgamgmghelhgaa.SortS Go.Proofs.Ytjgamgmghelhgaa.SortK Go.Proofs.Ytjgamgmghelhgaa.Sort5
set_option linter.unusedVariables false

theorem np2_any (n : Nat) (hn : n < 4611686018427387904) (w : World) :
    Calls Try.prog 31 #[.int .i64 (n : Int)] w fun e w' => e = .returned (.int .u64 ((1 <<< bitsLen n : Nat) : Int)) ∧ w' = w := by
  have hLen : ∀ w, Calls Try.prog 16 #[.int .u64 (n : Int)] w fun e w' => e = .returned (.int .i64 (bitsLen n : Nat)) ∧ w' = w := fun w => by
    have h := Try.bits_Len (n : Int) w (by omega) (by omega)
    rwa [Int.toNat_natCast, bitLen_eq _ (by omega)] at h
  have hk : bitsLen n ≤ 62 := (bitsLen_le_iff n 62).2 (by omega)
  have hp := wrap_two_pow (bitsLen n) hk
  go_enter Try.func31, Try.ntmps31
  go_wp2_with (first | (go_at_call 16; refine (hLen _).mono ?_; rintro e w' ⟨rfl, rfl⟩))
  go_ret
  exact ⟨rfl, rfl⟩

section
variable {α : Type} [Inhabited α] {enc : α → Value} {lt : α → α → Bool} {blk n : Nat} {rv : Value} {w0 X wr w1 : World} {dk d : Array α}
/-- A store into a box of the call's own. -/
theorem K.stp {p : Nat} (k : K enc blk n w0 X wr dk) (hb : blk < w0.heap.size) (hp : X.heap.size ≤ p) (st : St p wr w1) : K enc blk n w0 X w1 dk := by
  have hne : blk ≠ p := by have := k.beg.size; omega
  have hlt : blk < wr.heap.size := k.inn hb
  refine ⟨k.beg, ⟨st.os.trans k.st.os, st.tape.trans k.st.tape, st.output.trans k.st.output, Nat.le_trans k.st.size st.size, fun i hi hib => (st.block i (Nat.lt_of_lt_of_le hi k.st.size) (by omega)).trans (k.st.block i hi hib)⟩, fun j hj => ?_, k.len⟩
  obtain ⟨h1, h2⟩ := k.row j hj
  exact ⟨(st.cell (p := ⟨blk, 0 + j, none⟩) hlt hne).trans h1, (st.frozen (p := ⟨blk, 0 + j, none⟩) hlt hne).trans h2⟩

set_option maxHeartbeats 4000000 in
set_option maxRecDepth 100000 in
theorem break_any (cx : Cx enc lt blk rv n w0) (d : Array α) (a L : Nat) (hb : a + L ≤ n) :
    Does enc blk n w0 23 #[.iface 56 rv, .int .i64 (a : Int), .int .i64 ((a + L : Nat) : Int)] d (breakPatterns d a (a + L)) (.tuple #[]) := by
  intro X k0
  have hbig := cx.big
  have hblk := cx.blk
  have hmS := meth_swap
  have CX := Lib.hid cx
  have hold : blk < X.heap.size := k0.inn hblk
  by_cases h8 : 8 ≤ L
  · rw [breakPatterns_eq d a L h8]
    obtain ⟨M, hM⟩ : ∃ M : Nat, M = 1 <<< bitsLen L := ⟨_, rfl⟩
    have hM1 : 1 ≤ M := by rw [hM, Nat.one_shiftLeft]; exact Nat.two_pow_pos _
    have hM2 : M ≤ 2 * L := by rw [hM, Nat.one_shiftLeft]; exact two_pow_bitsLen_le (by omega)
    have hNP : ∀ w, Calls Try.prog 31 #[.int .i64 (L : Int)] w fun e w' => e = .returned (.int .u64 (M : Int)) ∧ w' = w := by rw [hM]; exact fun w => np2_any L (by omega) w
    rw [← hM]
    clear hM
    obtain ⟨i0, hi0⟩ : ∃ i0 : Nat, a + L / 4 * 2 - 1 = i0 := ⟨_, rfl⟩
    rw [hi0]
    have hrL : ((UInt64.ofNat L).toNat : Int) = (L : Int) := by simp; omega
    have HK0 : Hid (K enc blk n w0 X (X.alloc (Obj.cells #[.int .u64 (L : Int)] 80)) d ∧ (X.alloc (Obj.cells #[.int .u64 (L : Int)] 80)).cell? ⟨X.heap.size, 0, none⟩ = some (.int .u64 ((UInt64.ofNat L).toNat : Int)) ∧ (X.alloc (Obj.cells #[.int .u64 (L : Int)] 80)).frozen? ⟨X.heap.size, 0, none⟩ = false ∧ X.heap.size < (X.alloc (Obj.cells #[.int .u64 (L : Int)] 80)).heap.size) :=
      Lib.hid ⟨k0.alloc hblk _, by rw [hrL]; simp [go_sem], by simp [go_sem], by simp⟩
    clear k0 cx
    go_enter Try.func23, Try.ntmps23
    go_wp2_with (first | (go_at_call 31; rw [show ((a : Int) + (L : Int) - (a : Int)) = (L : Int) by omega]; refine (hNP _).mono ?_; rintro e w' ⟨rfl, rfl⟩))
    go_loopw [9] (fun vi wr => ∃ (t : Nat) (r : UInt64) (dk : Array α), vi = .int .i64 ((i0 + t : Nat) : Int) ∧ t ≤ 3 ∧
        Hid (K enc blk n w0 X wr dk ∧ wr.cell? ⟨X.heap.size, 0, none⟩ = some (.int .u64 (r.toNat : Int)) ∧ wr.frozen? ⟨X.heap.size, 0, none⟩ = false ∧ X.heap.size < wr.heap.size ∧
        bpRest a L M i0 (3 - t) t (r, dk) = bpRest a L M i0 3 0 (UInt64.ofNat L, d))) (fun vi _ => a + L / 4 * 2 + 3 - (intOf vi).toNat)
    case atStart => exact ⟨0, UInt64.ofNat L, d, by congr 1; omega, by omega, Lib.hid ⟨HK0.out.1, HK0.out.2.1, HK0.out.2.2.1, HK0.out.2.2.2, rfl⟩⟩
    case round =>
      obtain ⟨t, r, dk, rfl, ht, HR⟩ := hrel
      by_cases ht3 : t = 3
      · subst ht3
        have hfin : ¬ (((i0 + 3 : Nat) : Int) ≤ (a : Int) + (L : Int).tdiv 4 * 2 + 1) := by rw [Int.tdiv_eq_ediv_of_nonneg (by omega)]; omega
        go_wp2_with fail
        go_end0
        refine ⟨rfl, ?_⟩
        have e := HR.out.2.2.2.2
        rw [← e]
        exact HR.out.1
      obtain ⟨x, hx⟩ : ∃ x : Nat, i0 + t = x := ⟨_, rfl⟩
      obtain ⟨R', hR'⟩ : ∃ R' : Nat, R' = (xorNext r).toNat := ⟨_, rfl⟩
      have lR' : R' < 18446744073709551616 := by rw [hR']; exact (xorNext r).toNat_lt
      obtain ⟨O, hO⟩ : ∃ O : Nat, O = R' &&& (M - 1) := ⟨_, rfl⟩
      have lO : O ≤ M - 1 := by rw [hO]; exact Nat.and_le_right
      have eAnd : bits .and .u64 (R' : Int) ((M : Int) - 1) = (O : Int) := by
        rw [show ((M : Int) - 1) = ((M - 1 : Nat) : Int) by omega, bits_and_u64_nat _ _ lR' (by omega), hO]
      have hNext := next_any X.heap.size r wr HR.out.2.1 HR.out.2.2.1
      rw [← hR'] at hNext
      have HN : Hid (R' = (xorNext r).toNat ∧ O = (xorNext r).toNat &&& (M - 1)) := by
        exact Lib.hid ⟨hR', by rw [hO, hR']⟩
      have HNX := Lib.hid hNext
      clear hR' hO hNext
      rw [hx]
      by_cases hLO : L ≤ O
      · have hLOi : (L : Int) ≤ (O : Int) := by omega
        obtain ⟨q, hq⟩ : ∃ q : Nat, a + (O - L) = q := ⟨_, rfl⟩
        have hqi : (a : Int) + ((O : Int) - (L : Int)) = (q : Int) := by omega
        have HQ : Hid (bpRest a L M i0 (3 - t) t (r, dk) = bpRest a L M i0 (3 - (t + 1)) (t + 1) (xorNext r, swp dk x q) ∧ q < n) := Lib.hid ⟨by rw [bp_step a L M i0 t r dk ((O - L)) (by omega) (by rw [← HN.out.2, if_pos (by omega)]), hx, hq], by omega⟩
        have HXN : Hid (x < n) := Lib.hid (by omega)
        have HXE := Lib.hid hx
        clear hq
        go_wp2_with (first
          | (go_at_call 32; refine HNX.out.mono ?_; rintro e w2 ⟨rfl, st2, c2, f2⟩; have HK2 := Lib.hid (K.stp HR.out.1 hblk (Nat.le_refl _) st2); have HS2 := Lib.hid (And.intro st2 (And.intro c2 f2)); clear st2 c2 f2)
          | (go_at_call 57; refine (CX.out.swap w2 dk HK2.out.all HK2.out.row HK2.out.len x q HXN.out HQ.out.2).mono ?_; rintro e w3 ⟨rfl, st3, row3⟩; have HS3 := Lib.hid (And.intro st3 row3); clear st3 row3))
        go_roundw
        case rel =>
          have hp2 : X.heap.size < w2.heap.size := Nat.lt_of_lt_of_le HR.out.2.2.2.1 HS2.out.1.size
          exact ⟨t + 1, xorNext r, swp dk x q, by congr 1; omega, by omega, Lib.hid ⟨⟨HK2.out.beg, HK2.out.st.trans HS3.out.1, HS3.out.2, by rw [size_swp]; exact HK2.out.len⟩, (HS3.out.1.cell (p := ⟨X.heap.size, 0, none⟩) hp2 (by show X.heap.size ≠ blk; omega)).trans (by rw [← HN.out.1]; exact HS2.out.2.1), (HS3.out.1.frozen (p := ⟨X.heap.size, 0, none⟩) hp2 (by show X.heap.size ≠ blk; omega)).trans HS2.out.2.2, Nat.lt_of_lt_of_le hp2 HS3.out.1.size, by rw [← HR.out.2.2.2.2, HQ.out.1]⟩⟩
        case measure => simp [intOf]; omega

      · have hLOi : ¬ (L : Int) ≤ (O : Int) := by omega
        obtain ⟨q, hq⟩ : ∃ q : Nat, a + O = q := ⟨_, rfl⟩
        have hqi : (a : Int) + (O : Int) = (q : Int) := by omega
        have HQ : Hid (bpRest a L M i0 (3 - t) t (r, dk) = bpRest a L M i0 (3 - (t + 1)) (t + 1) (xorNext r, swp dk x q) ∧ q < n) := Lib.hid ⟨by rw [bp_step a L M i0 t r dk (O) (by omega) (by rw [← HN.out.2, if_neg (by omega)]), hx, hq], by omega⟩
        have HXN : Hid (x < n) := Lib.hid (by omega)
        have HXE := Lib.hid hx
        clear hq
        go_wp2_with (first
          | (go_at_call 32; refine HNX.out.mono ?_; rintro e w2 ⟨rfl, st2, c2, f2⟩; have HK2 := Lib.hid (K.stp HR.out.1 hblk (Nat.le_refl _) st2); have HS2 := Lib.hid (And.intro st2 (And.intro c2 f2)); clear st2 c2 f2)
          | (go_at_call 57; refine (CX.out.swap w2 dk HK2.out.all HK2.out.row HK2.out.len x q HXN.out HQ.out.2).mono ?_; rintro e w3 ⟨rfl, st3, row3⟩; have HS3 := Lib.hid (And.intro st3 row3); clear st3 row3))
        go_roundw
        case rel =>
          have hp2 : X.heap.size < w2.heap.size := Nat.lt_of_lt_of_le HR.out.2.2.2.1 HS2.out.1.size
          exact ⟨t + 1, xorNext r, swp dk x q, by congr 1; omega, by omega, Lib.hid ⟨⟨HK2.out.beg, HK2.out.st.trans HS3.out.1, HS3.out.2, by rw [size_swp]; exact HK2.out.len⟩, (HS3.out.1.cell (p := ⟨X.heap.size, 0, none⟩) hp2 (by show X.heap.size ≠ blk; omega)).trans (by rw [← HN.out.1]; exact HS2.out.2.1), (HS3.out.1.frozen (p := ⟨X.heap.size, 0, none⟩) hp2 (by show X.heap.size ≠ blk; omega)).trans HS2.out.2.2, Nat.lt_of_lt_of_le hp2 HS3.out.1.size, by rw [← HR.out.2.2.2.2, HQ.out.1]⟩⟩
        case measure => simp [intOf]; omega
  · have hv : breakPatterns d a (a + L) = d := by unfold breakPatterns; simp only [Nat.add_sub_cancel_left]; rw [if_neg h8]
    rw [hv]
    have HK := Lib.hid k0
    clear k0 cx
    go_enter Try.func23, Try.ntmps23
    go_wp2_with fail
    go_end0
    exact ⟨rfl, HK.out⟩
end

end Go.Proofs.Ytjgamgmghelhgaa.Sort6
