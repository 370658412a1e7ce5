/- The reference's cronPieces. Conditions: texts of at most 65536 bytes. -/
import Derived.Test.YtjdpmcacnllfpaaDoorSplit
namespace Go.Proofs.YtjdpmcacnllfpaaDoor.SpecPieces
open Go.RowKit Go.Proofs.YtjdpmcacnllfpaaDoor.Mem Go.Proofs.YtjdpmcacnllfpaaDoor.Split Go.Proofs.YtjdpmcacnllfpaaDoor.SplitPure

/-- The loop's relation: what stands before 'from' is parted; between 'from' and i there is no c. -/
def Rel (s : ByteArray) (c : UInt8) (B : Nat) (w0 : World) (v fr i : Value) (wr : World) : Prop :=
  ∃ (k f : Nat) (done : List (List UInt8)), i = .int .i64 (k : Int) ∧ fr = .int .i64 (f : Int) ∧ f ≤ k ∧ k ≤ s.size ∧ done.length ≤ f ∧
    pieces c s.data.toList = done ++ pieces c (s.data.toList.drop f) ∧ c ∉ (s.data.toList.drop f).take (k - f) ∧
    wr.ownsRow B 9 1 v done.length (strs done) ∧ Below B w0 wr

theorem rel_skip {s : ByteArray} {c : UInt8} {k f : Nat} (hk : k < s.size) (hf : f ≤ k) (h : c ∉ (s.data.toList.drop f).take (k - f)) (hc : ¬ s[k] = c) : c ∉ (s.data.toList.drop f).take (k + 1 - f) := by
  rw [show k + 1 - f = (k - f) + 1 by omega, List.take_succ_eq_append_getElem (by simp; omega)]
  simp only [List.mem_append, not_or]
  refine ⟨h, ?_⟩
  simp only [List.getElem_drop, List.mem_singleton]
  rw [show s.data.toList[f + (k - f)]'(by simp; omega) = s[k] by congr 1; omega]
  exact fun e => hc e.symm

theorem rel_cut {s : ByteArray} {c : UInt8} {k f : Nat} (hk : k < s.size) (hf : f ≤ k) (h : c ∉ (s.data.toList.drop f).take (k - f)) (hc : s[k] = c) :
    pieces c (s.data.toList.drop f) = (s.data.toList.drop f).take (k - f) :: pieces c (s.data.toList.drop (k + 1)) := by
  have h1 : s.data.toList.drop f = (s.data.toList.drop f).take (k - f) ++ c :: s.data.toList.drop (k + 1) := by
    have h2 := (List.take_append_drop (k - f) (s.data.toList.drop f)).symm
    rw [List.drop_drop, show f + (k - f) = k by omega, List.drop_eq_getElem_cons (i := k) (by simpa using hk)] at h2
    rw [show s.data.toList[k]'(by simpa using hk) = c from hc] at h2
    exact h2
  have h3 := congrArg (pieces c) h1
  rw [pieces_cons h] at h3
  exact h3

theorem rel_next {s : ByteArray} {c : UInt8} {k f : Nat} {done : List (List UInt8)} {B : Nat} {w0 w1 : World} {v' : Value} (hk : k < s.size) (hf : f ≤ k) (hd : done.length ≤ f)
    (hp : pieces c s.data.toList = done ++ pieces c (s.data.toList.drop f)) (h : c ∉ (s.data.toList.drop f).take (k - f)) (hc : s[k] = c)
    (hown : w1.ownsRow B 9 1 v' (done.length + 1) (strs done ++ [.string (s.extract f k)])) (hb : Below B w0 w1) :
    Rel s c B w0 v' (.int .i64 ((k : Int) + 1)) (.int .i64 ((k : Int) + 1)) w1 := by
  refine ⟨k + 1, k + 1, done ++ [(s.data.toList.drop f).take (k - f)], by go_num, by go_num, Nat.le_refl _, hk, by simp; omega, ?_, by simp, ?_, hb⟩
  · rw [hp, rel_cut hk hf h hc]; simp
  · rw [strs_append, List.length_append]
    rw [extract_sub] at hown
    simpa [strs] using hown

set_option maxHeartbeats 1000000 in
set_option maxRecDepth 100000 in
theorem pieces_any (s : ByteArray) (c : UInt8) (w : World) (hs : s.size ≤ 65536) :
    Calls Tryd.prog 25 #[.string s, .int .u8 (c.toNat : Int)] w fun e w' =>
      ∃ g cap, e = .returned (.slice (some ⟨g, 0, none⟩) (pieces c s.data.toList).length cap) ∧ (pieces c s.data.toList).length ≤ cap ∧ w.heap.size ≤ g ∧ Strs w' g (pieces c s.data.toList) ∧ Below w.heap.size w w' := by
  obtain ⟨i0, hi, hz0, hz1, hz2⟩ := info_parts Tryd.info9
  go_enter Tryd.func25, Tryd.ntmps25
  go_wp2
  go_loopw [5, 6, 7, 10] (fun v fr _ i wr => Hid (Rel s c w.heap.size w v fr i wr) ∧ (∃ k : Nat, i = .int .i64 (k : Int) ∧ k ≤ s.size) ∧ ∃ f : Nat, fr = .int .i64 (f : Int)) (fun _ _ _ i _ => s.size - (intOf i).toNat)
  case atStart => exact ⟨Lib.hid ⟨0, 0, [], rfl, rfl, Nat.le_refl _, Nat.zero_le _, Nat.le_refl _, by simp, by simp, World.ownsRow_nil w _ _ _, Below.refl _ _⟩, ⟨0, rfl, Nat.zero_le _⟩, 0, rfl⟩
  case round =>
    obtain ⟨⟨k, f, done, rfl, rfl, hf, hk, hd, HP, HN, hown, hbel⟩, -⟩ := hrel
    have HP := Lib.hid HP
    have HN := Lib.hid HN
    have HB := Lib.hid hbel
    have hsz := hbel.size
    clear hbel
    by_cases hlt : k < s.size
    · by_cases hc : s[k] = c
      · have hq : ((s[k].toNat : Int) == (c.toNat : Int)) = true := by rw [hc]; simp
        have Hc := Lib.hid hc
        clear hc
        go_wp2_with (at_builtin; refine wpList_append_own _ rfl (.tmp 18) (.tmp 23) 54 rfl w.heap.size 9 i0 (.string ⟨#[]⟩) 1 16 Tryd.underlying54 hi hz0 hz1 hz2 rfl (by decide) _ _ _ rfl (hown.alloc _) ⟨wr.heap.size, 0, none⟩ 1 1 [.string (s.extract f k)] rfl rfl (one_cell _ _ _) (by simp [Value.oneCell']) (by unfold maxLen; omega) (by omega) (by simp; omega) ?_; intro v' w1 hown1 hgrow1 _)
        have hb1 : Below w.heap.size w w1 := (HB.out.alloc HB.out.size _).grown hgrow1 (by have := HB.out.size; simp; omega) (fun j hj => (hown.lt j hj).1)
        have hr := rel_next hlt hf hd HP.out HN.out Hc.out hown1 hb1
        go_roundw
        case rel => exact ⟨Lib.hid hr, ⟨k + 1, by go_num, by omega⟩, k + 1, by go_num⟩
        case measure => simp [intOf]; omega
      · have hq : ((s[k].toNat : Int) == (c.toNat : Int)) = false := by
          rw [beq_eq_false_iff_ne]; intro e; exact hc (UInt8.toNat_inj.1 (by omega))
        have hr := Lib.hid (rel_skip hlt hf HN.out hc)
        clear hc
        go_wp2
        go_roundw
        case rel => exact ⟨Lib.hid ⟨k + 1, f, done, by go_num, rfl, by omega, by omega, hd, HP.out, hr.out, hown, HB.out⟩, ⟨k + 1, by go_num, by omega⟩, f, rfl⟩
        case measure => simp [intOf]; omega
    · have HP2 : Hid (pieces c s.data.toList = done ++ [s.data.toList.drop f]) := Lib.hid (by
        have h2 := HN.out
        rw [List.take_of_length_le (by simp; omega)] at h2
        rw [HP.out, pieces_none h2])
      have hfs : (f : Int) ≤ (s.size : Int) := by omega
      go_wp2_with (at_builtin; refine wpList_append_own _ rfl (.tmp 28) (.tmp 32) 54 rfl w.heap.size 9 i0 (.string ⟨#[]⟩) 1 16 Tryd.underlying54 hi hz0 hz1 hz2 rfl (by decide) _ _ _ rfl (hown.alloc _) ⟨wr.heap.size, 0, none⟩ 1 1 [.string (s.extract f s.size)] rfl rfl (one_cell _ _ _) (by simp [Value.oneCell']) (by unfold maxLen; omega) (by omega) (by simp; omega) ?_; intro v' w1 hown1 hgrow1 _)
      have hb1 : Below w.heap.size w w1 := (HB.out.alloc HB.out.size _).grown hgrow1 (by have := HB.out.size; simp; omega) (fun j hj => (hown.lt j hj).1)
      have hown2 : w1.ownsRow w.heap.size 9 1 v' (done.length + 1) (strs (pieces c s.data.toList)) := by
        rw [HP2.out, strs_append]
        have := Lib.extract_to_end s f
        rw [eq_ofL this] at hown1
        simpa [strs] using hown1
      obtain ⟨g, cap, rfl, h1, h2, h3⟩ := strs_of_owns hown2 (by rw [HP2.out]; simp)
      go_ret
      exact ⟨g, cap, rfl, h1, h2, h3, hb1⟩

end Go.Proofs.YtjdpmcacnllfpaaDoor.SpecPieces
