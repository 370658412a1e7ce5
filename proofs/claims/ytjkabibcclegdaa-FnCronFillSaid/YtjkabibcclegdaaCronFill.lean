/- The walk of the law FnCronFill: CronFields puts the texts of the fields in their places. Conditions: none. -/
import Derived.Test.YtjkabibcclegdaaFillImpl
namespace Go.Proofs.Ytjkabibcclegdaa.fnCronFill
open Go Go.RowKit Go.Proofs.Ytjkabibcclegdaa.Mem Go.Proofs.Ytjkabibcclegdaa.FillPure Go.Proofs.Ytjkabibcclegdaa.FillA Go.Proofs.Ytjkabibcclegdaa.FillSpec Go.Proofs.Ytjkabibcclegdaa.FillNorm Go.Proofs.Ytjkabibcclegdaa.FillImpl
set_option linter.unusedVariables false

/-- What a walk is told of a slice of strings that came in. -/
def IsTexts (w : World) (v : Value) : Prop :=
  v = .slice none 0 0 ∨ ∃ (a : Addr) (len cap : Nat) (ss : List ByteArray), v = .slice (some a) len cap ∧ len ≤ cap ∧ cap ≤ maxLen ∧ len ≤ ss.length ∧
    (∀ i, i < ss.length → w.cell? (a.add i) = some (.string (ss.getD i ByteArray.empty))) ∧ ∀ s ∈ ss, s.size ≤ maxLen

set_option maxHeartbeats 1000000 in
set_option maxRecDepth 100000 in
theorem core (o : Int) (oa : Option Addr) (cap : Nat) (fs : List ByteArray) (w : World) (w1 : (Lit.int .i64 o).wf = true) (hl : fs.length ≤ 9223372036854775807) (hsz : ∀ s ∈ fs, s.size ≤ 9223372036854775807) (ht : Texts w oa fs)
    (hC : fs.length ≤ 64 → Opts o → ∀ w', Below w.heap.size w w' → Calls Try.prog 12 #[.slice oa fs.length cap, .int .i64 o] w' fun e w'' => FillRes (fillOf o fs) w'.heap.size e w'' ∧ Below w'.heap.size w' w'') :
    Calls Try.prog 5 #[.slice oa fs.length cap, .int .i64 o] w fun e w' => e = .returned (.bool true) ∧ Below w.heap.size w w' := by
  have b1 := bounds_i64 w1
  have HF := Lib.hid (fits_any oa cap fs w hl hsz ht)
  clear w1 hsz
  by_cases h1 : o < 0
  · go_enter Try.func5, Try.ntmps5
    go_wp2_with (go_at_call 10; refine HF.out.mono ?_; rintro e w' ⟨⟨b, rfl⟩, rfl⟩)
    all_goals
      go_ret
      exact ⟨rfl, Below.refl _ _⟩
  by_cases h2 : 512 ≤ o
  · go_enter Try.func5, Try.ntmps5
    go_wp2_with (go_at_call 10; refine HF.out.mono ?_; rintro e w' ⟨⟨b, rfl⟩, rfl⟩)
    all_goals
      go_ret
      exact ⟨rfl, Below.refl _ _⟩
  by_cases h3 : 64 < fs.length
  · go_enter Try.func5, Try.ntmps5
    go_wp2_with (go_at_call 10; refine HF.out.mono ?_; rintro e w' ⟨⟨b, rfl⟩, rfl⟩)
    all_goals
      go_ret
      exact ⟨rfl, Below.refl _ _⟩
  obtain ⟨n, rfl⟩ := Int.eq_ofNat_of_zero_le (show 0 ≤ o by omega)
  have ho := opts n (by omega)
  have hm : fs.length ≤ 64 := by omega
  have HS := Lib.hid (fill_any (n : Int) oa cap fs w hm ht ho.b2 ho.b128 ho.hs ho.hd)
  have HC := Lib.hid (hC hm ho)
  clear hC ht ho
  cases hf : fillOf (n : Int) fs with
  | none =>
    rw [hf] at HS HC
    clear hf
    go_enter Try.func5, Try.ntmps5
    go_wp2_with (first
      | (go_at_call 10; refine HF.out.mono ?_; rintro e w' ⟨⟨b, rfl⟩, rfl⟩)
      | (go_at_call 11; refine HS.out.mono ?_; rintro e w2 ⟨rfl, hb2⟩)
      | (go_at_call 12; refine (HC.out _ hb2).mono ?_; rintro e w3 ⟨rfl, hb3⟩))
    · go_ret
      exact ⟨rfl, Below.refl _ _⟩
    · go_ret
      exact ⟨rfl, hb2.trans (hb3.mono hb2.size)⟩
  | some L =>
    rw [hf] at HS HC
    clear hf
    go_enter Try.func5, Try.ntmps5
    go_wp2_with (first
      | (go_at_call 10; refine HF.out.mono ?_; rintro e w' ⟨⟨b, rfl⟩, rfl⟩)
      | (go_at_call 11; refine HS.out.mono ?_; rintro e w2 ⟨⟨g2, rfl, hg2, hr2⟩, hb2⟩)
      | (go_at_call 12; refine (HC.out _ hb2).mono ?_; rintro e w3 ⟨⟨g3, rfl, hg3, hr3⟩, hb3⟩; (have HR2 := Lib.hid (hr2.below hb3 hr2.lt)); (have HR3 := Lib.hid hr3)))
    · go_ret
      exact ⟨rfl, Below.refl _ _⟩
    · have HB := Lib.hid (hb2.trans (hb3.mono hb2.size))
      clear hr2 hr3
      go_loop [9, 10, 58] (fun _ _ v => ∃ k : Nat, v = .int .i64 (k : Int) ∧ k ≤ 6) (fun _ _ v => 6 - (intOf v).toNat)
      case atStart => exact ⟨0, rfl, Nat.zero_le _⟩
      case round =>
        obtain ⟨k, rfl, hk⟩ := hrel
        by_cases hlt : k < 6
        · have hc2 := HR2.out.cell k hlt
          have hc3 := HR3.out.cell k hlt
          have hli : (k : Int) < 6 := by omega
          generalize L.getD k ⟨#[]⟩ = x at hc2 hc3
          have hq : (x.toList != x.toList) = false := by simp
          go_wp2
          go_round
          case rel => exact ⟨k + 1, by go_num, by omega⟩
          case measure => simp [intOf]; omega
        · go_wp2
          go_ret
          exact ⟨rfl, HB.out⟩

theorem walk (v : Value) (o : Int) (w : World) (hv : IsTexts w v) (w1 : (Lit.int .i64 o).wf = true) :
    Calls Try.prog 5 #[v, .int .i64 o] w fun e w' => e = .returned (.bool true) ∧ Below w.heap.size w w' := by
  rcases hv with rfl | ⟨a, len, cap, ss, rfl, hl, hm, hs, hc, hsz⟩
  · exact core o none 0 [] w w1 (Nat.zero_le _) (by simp) (fun i s h => by simp at h) (fun _ ho w' _ => fields_none o w' ho)
  · have hlen : (ss.take len).length = len := by simp; omega
    have ht : Texts w (some a) (ss.take len) := by
      intro i s h
      have hi : i < len := by have := (List.getElem?_eq_some_iff.1 h).1; omega
      refine ⟨a, rfl, ?_⟩
      rw [hc i (by omega)]
      rw [List.getElem?_take, if_pos hi] at h
      rw [List.getD_eq_getElem?_getD, h]; rfl
    have h := core o (some a) cap (ss.take len) w w1 (by unfold maxLen at hm; omega) (fun s hs' => by have := hsz s (List.mem_of_mem_take hs'); unfold maxLen at this; omega) ht (fun h64 ho w' hb => fields_some o a cap (ss.take len) w' h64 (ht.below hb) ho)
    rwa [hlen] at h

end Go.Proofs.Ytjkabibcclegdaa.fnCronFill
