/- sort.Sort over byTime: the row in order. Conditions: none but Cx. -/
import Derived.Test.YtjgamgmghelhgaaSort7
namespace Go.Proofs.Ytjgamgmghelhgaa.Sort8
open Go Go.RowKit Go.Sort Go.Proofs.Ytjgamgmghelhgaa.SortS Go.Proofs.Ytjgamgmghelhgaa.SortK
set_option linter.unusedVariables false

theorem len_any (p : Option Addr) (n c : Nat) (w : World) (hn : n < 4611686018427387904) :
    Calls Try.prog 55 #[.slice p n c] w fun e w' => e = .returned (.int .i64 (n : Int)) ∧ w' = w := by
  go_enter Try.func55, Try.ntmps55
  go_wp2_with fail
  go_ret
  exact ⟨rfl, rfl⟩

theorem ext_all {α : Type} (a : Array α) (n : Nat) (h : a.size = n) : a.extract 0 n = a := by subst h; simp
section
variable {α : Type} [Inhabited α] {enc : α → Value} {lt : α → α → Bool} {blk n c : Nat} {w0 : World}
theorem sort_any (cx : Cx enc lt blk (.slice (some ⟨blk, 0, none⟩) n c) n w0) (hO : SWO lt) (d : Array α) (hd : d.size = n) :
    ∃ d' : Array α, d'.size = n ∧ d'.toList.Perm d.toList ∧ SortedIn lt 0 n d' ∧
      Does enc blk n w0 13 #[.iface 56 (.slice (some ⟨blk, 0, none⟩) n c)] d d' (.tuple #[]) := by
  have hbig := cx.big
  have hblk := cx.blk
  have hmN := meth_len
  have CX := Lib.hid cx
  clear cx
  by_cases h1 : n ≤ 1
  · refine ⟨d, hd, List.Perm.refl _, fun i j hi hij hj => by omega, fun X k0 => ?_⟩
    have HK := Lib.hid k0
    clear k0
    have h1i : (n : Int) ≤ 1 := by omega
    go_enter Try.func13, Try.ntmps13
    go_wp2_with (go_at_call 55; refine (len_any _ _ _ _ hbig).mono ?_; rintro e w1 ⟨rfl, rfl⟩)
    (try simp only [Exit.inBlock, Exit.then]); refine bodyPost_ret (results_none rfl _ _ _) rfl ?_
    exact ⟨rfl, HK.out⟩
  · have hB : Sort.Below lt 0 n d := Or.inl rfl
    obtain ⟨pm, st⟩ := pdq_sorts lt hO d 0 n (bitsLen n) true true (by omega) (by omega) hB
    refine ⟨pdq lt d 0 n (bitsLen n) true true, pm.1.trans hd, by have h := pm.2.2; rwa [ext_all _ _ (pm.1.trans hd), ext_all _ _ hd] at h, st, fun X k0 => ?_⟩
    have hlim : bitsLen n ≤ 62 := (bitsLen_le_iff n 62).2 (by omega)
    have hk := Sort7.pdq_any CX.out hO (n + 1) 0 n (bitsLen n) d (by omega) (by omega) (Nat.le_refl _) (by omega) hd hB
    have HP := Lib.hid (fun X (k : K enc blk n w0 X X d) => hk X k)
    have hLen : ∀ w, Calls Try.prog 16 #[.int .u64 (n : Int)] w fun e w' => e = .returned (.int .i64 (bitsLen n : Nat)) ∧ w' = w := fun w => by
      have h := Try.bits_Len (n : Int) w (by omega) (by omega)
      rwa [Int.toNat_natCast, bitLen_eq _ (by omega)] at h
    have HK := Lib.hid k0
    have h1i : ¬ (n : Int) ≤ 1 := by omega
    clear k0 hk pm st hB
    go_enter Try.func13, Try.ntmps13
    go_wp2_with (first
      | (go_at_call 55; refine (len_any _ _ _ _ hbig).mono ?_; rintro e w1 ⟨rfl, rfl⟩)
      | (go_at_call 16; refine (hLen _).mono ?_; rintro e w1 ⟨rfl, rfl⟩)
      | (go_at_call 17; refine (HP.out _ HK.out).mono ?_; rintro e w1 ⟨rfl, hw1⟩; have HW1 := Lib.hid hw1; clear hw1))
    go_end0
    exact ⟨rfl, HW1.out⟩
end

end Go.Proofs.Ytjgamgmghelhgaa.Sort8
