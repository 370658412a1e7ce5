/- cron's zzIndex and zzSplit at a separator of one byte. Conditions: texts of at most 65536 bytes. -/
import Derived.Test.YtmnjmhlodbifjaaGreatDoorChecked
import Derived.Test.YtmnjmhlodbifjaaGreatDoorBig
import Derived.Test.YtmnjmhlodbifjaaGreatDoorFillPure
import Derived.ProofKit
import Derived.OpenShut
import Derived.Lib.Hide
import Derived.WalkSpells
namespace Go.Proofs.YtmnjmhlodbifjaaGreatDoor.Split
open Go.RowKit Go.Proofs.YtmnjmhlodbifjaaGreatDoor.Mem Go.Proofs.YtmnjmhlodbifjaaGreatDoor.SplitPure

theorem take_snoc (s : ByteArray) (k : Nat) (h : k < s.size) : s.data.toList.take (k + 1) = s.data.toList.take k ++ [s[k]] := by
  rw [List.take_succ_eq_append_getElem (by simpa using h)]; rfl

theorem one_eq (s : ByteArray) (k : Nat) (h : k < s.size) : s.extract k (k + 1) = ⟨#[s[k]]⟩ := by
  rw [extract_sub, Nat.add_sub_cancel_left, List.drop_eq_getElem_cons (by simpa using h)]
  rfl

set_option maxHeartbeats 400000 in
theorem index_any (s : ByteArray) (c : UInt8) (w : World) (hs : s.size ≤ 65536) :
    Calls Tryz.prog 55 #[.string s, .string ⟨#[c]⟩] w fun e w' => e = .returned (.int .i64 (idxOf c s.data.toList)) ∧ w = w' := by
  have h1 : ((⟨#[c]⟩ : ByteArray).size) = 1 := rfl
  go_enter Tryz.func55, Tryz.ntmps55
  go_wp2
  go_loop [5] (fun i => ∃ k : Nat, k ≤ s.size ∧ i = .int .i64 k ∧ Hid (c ∉ s.data.toList.take k)) (fun i => s.size - (intOf i).toNat)
  case atStart => exact ⟨0, Nat.zero_le _, rfl, Lib.hid (by simp)⟩
  case round =>
    obtain ⟨k, hk, rfl, HN⟩ := hrel
    by_cases hlt : k < s.size
    · have hone : (s.extract k (k + 1)).toList = [s[k]] := by rw [ByteArray.toList_eq, one_eq s k hlt]
      have hat : s.data.toList[k]? = some s[k] := by rw [List.getElem?_eq_getElem (by simpa using hlt)]; rfl
      by_cases hc : s[k] = c
      · have hq : ((s.extract k (k + 1)).toList == [c]) = true := by rw [hone, hc]; simp
        have HF : Hid (idxOf c s.data.toList = (k : Int)) := Lib.hid (by
          have h2 := fstAt_at HN.out (by rw [hat, hc])
          rw [idxOf_some (by rw [h2]; simpa using hlt), h2])
        clear hone hat hc
        go_wp2
        go_ret
        exact ⟨by rw [HF.out]; rfl, rfl⟩
      · have hq : ((s.extract k (k + 1)).toList == [c]) = false := by rw [hone]; simpa using hc
        have HN2 : Hid (c ∉ s.data.toList.take (k + 1)) := Lib.hid (by
          rw [take_snoc s k hlt]; simp only [List.mem_append, not_or]; exact ⟨HN.out, by simpa using fun e => hc e.symm⟩)
        clear hone hat hc
        go_wp2
        go_round
        case rel => exact ⟨k + 1, by omega, by go_num, HN2⟩
        case measure => simp [intOf]; omega
    · have hdec : decide ((k : Int) + 1 ≤ (s.size : Int)) = false := decide_eq_false (by omega)
      have HF : Hid (idxOf c s.data.toList = -1) := Lib.hid (by
        have h2 := HN.out
        rw [List.take_of_length_le (by simp; omega)] at h2
        exact idxOf_none h2)
      go_wp2
      go_ret
      exact ⟨by rw [HF.out]; rfl, rfl⟩

def strSize : Value → Nat
  | .string s => s.size
  | _ => 0

def strs (ps : List (List UInt8)) : List Value := ps.map fun p => .string (ofL p)
theorem strs_append (a b : List (List UInt8)) : strs (a ++ b) = strs a ++ strs b := by simp [strs]
theorem strs_length (a : List (List UInt8)) : (strs a).length = a.length := by simp [strs]

theorem one_cell (w : World) (e : TypeId) (a : Value) : ∀ j u, [a][j]? = some u → (w.alloc (.cells #[a] e)).cell? ((⟨w.heap.size, 0, none⟩ : Addr).add j) = some u := by
  intro j u h
  have hh : (w.alloc (.cells #[a] e)).heap[w.heap.size]? = some (.cells #[a] e) := heap_alloc_new w _
  match j, h with
  | 0, h => simp at h; subst h; unfold World.cell?; simp only [Addr.add_lit, hh]; rfl
  | n + 1, h => simp at h

theorem Tryz.info9 : (Tryz.prog.info? 9).map (fun i => (i.zero, i.size, i.bytes)) = some (some (.string ⟨#[]⟩), 1, 16) := by kernel_rfl

/-- What a row of texts holds. -/
def Strs (w : World) (g : Nat) (ps : List (List UInt8)) : Prop := g < w.heap.size ∧ ∀ (i : Nat) p, ps[i]? = some p → w.cell? ⟨g, i, none⟩ = some (.string (ofL p))
theorem Strs.below {w w' : World} {g : Nat} {ps : List (List UInt8)} (h : Strs w g ps) (hb : Below w.heap.size w w') : Strs w' g ps :=
  ⟨Nat.lt_of_lt_of_le h.1 hb.size, fun i p hp => (hb.cell (p := ⟨g, i, none⟩) h.1).trans (h.2 i p hp)⟩
theorem strs_of_owns {w : World} {base E n : Nat} {v : Value} {ps : List (List UInt8)} (h : w.ownsRow base E 1 v n (strs ps)) (hn : 0 < ps.length) :
    ∃ g cap, v = .slice (some ⟨g, 0, none⟩) ps.length cap ∧ ps.length ≤ cap ∧ base ≤ g ∧ Strs w g ps := by
  have hl : ps.length = n := by have := h.1; rw [strs_length] at this; omega
  rcases h.2 with ⟨_, h0⟩ | ⟨g, cap, cur, rfl, hb, hg, hle, hm, hcur, htake⟩
  · omega
  · subst hl
    refine ⟨g, cap, rfl, hle, hb, (Array.getElem?_eq_some_iff.1 hg).1, fun i p hp => ?_⟩
    have h2 := World.ownsRow.cells h (g := g) rfl i (.string (ofL p)) (by simp [strs, hp])
    rw [← h2]; congr 1; unfold Addr.add; split <;> simp_all

/-- The loop's relation. -/
def Rel (s : ByteArray) (c : UInt8) (B : Nat) (w0 : World) (t v : Value) (wr : World) : Prop :=
  ∃ (u : ByteArray) (done : List (List UInt8)), t = .string u ∧ u.size + done.length ≤ s.size ∧ pieces c s.data.toList = done ++ pieces c u.data.toList ∧
    wr.ownsRow B 9 1 v done.length (strs done) ∧ Below B w0 wr

theorem rel_next (s : ByteArray) (c : UInt8) (u : ByteArray) (done : List (List UInt8)) (k : Nat) (w : World) (v' : Value) (w1 : World) (hlen : u.size + done.length ≤ s.size) (hk : k < u.size)
    (hf : fstAt c u.data.toList = k) (hp : pieces c s.data.toList = done ++ pieces c u.data.toList)
    (hst : pieces c u.data.toList = u.data.toList.take (fstAt c u.data.toList) :: pieces c (u.data.toList.drop (fstAt c u.data.toList + 1)))
    (hown : w1.ownsRow w.heap.size 9 1 v' (done.length + 1) (strs done ++ [.string (u.extract 0 k)])) (hb : Below w.heap.size w w1) :
    Rel s c w.heap.size w (.string (u.extract (k + 1) u.size)) v' w1 := by
  refine ⟨u.extract (k + 1) u.size, done ++ [u.data.toList.take k], rfl, by simp; omega, ?_, ?_, hb⟩
  · rw [hp, hst, hf, Lib.extract_to_end]; simp
  · rw [strs_append, List.length_append]
    simp only [strs, List.map_cons, List.map_nil, List.length_cons, List.length_nil]
    rw [extract_sub] at hown
    simpa [strs] using hown

set_option maxHeartbeats 1000000 in
set_option maxRecDepth 100000 in
theorem split_any (s : ByteArray) (c : UInt8) (w : World) (hs : s.size ≤ 65536) :
    Calls Tryz.prog 128 #[.string s, .string ⟨#[c]⟩] w fun e w' =>
      ∃ g cap, e = .returned (.slice (some ⟨g, 0, none⟩) (pieces c s.data.toList).length cap) ∧ (pieces c s.data.toList).length ≤ cap ∧ w.heap.size ≤ g ∧ Strs w' g (pieces c s.data.toList) ∧ Below w.heap.size w w' := by
  obtain ⟨i0, hi, hz0, hz1, hz2⟩ := info_parts Tryz.info9
  have hsep : ((⟨#[c]⟩ : ByteArray).size) = 1 := rfl
  go_enter Tryz.func128, Tryz.ntmps128
  go_wp2
  go_loopw [0, 5, 6] (fun t v _ wr => Hid (Rel s c w.heap.size w t v wr) ∧ ∃ u, t = .string u) (fun t _ _ _ => strSize t)
  case atStart => exact ⟨Lib.hid ⟨s, [], rfl, by simp, rfl, World.ownsRow_nil w _ _ _, Below.refl _ _⟩, s, rfl⟩
  case round =>
    obtain ⟨⟨u, done, rfl, hlen, HP, hown, hbel⟩, -⟩ := hrel
    have HP := Lib.hid HP
    have HB := Lib.hid hbel
    have hsz := hbel.size
    clear hbel
    by_cases hin : fstAt c u.data.toList < u.data.toList.length
    · have Hi := Lib.hid (idxOf_some hin)
      have Hst := Lib.hid (pieces_step hin)
      have hul := length_toList u
      obtain ⟨k, Hk⟩ : ∃ k, Hid (fstAt c u.data.toList = k) := ⟨_, Lib.hid rfl⟩
      have hk : k < u.size := by rw [← Hk.out, ← hul]; exact hin
      clear hul hin
      go_wp2_with (first
        | (go_at_call 55; refine (index_any u c _ (by omega)).mono ?_; rintro e w' ⟨rfl, rfl⟩; rw [Hi.out, Hk.out])
        | (at_builtin; refine wpList_append_own _ rfl (.tmp 16) (.tmp 20) 114 rfl w.heap.size 9 i0 (.string ⟨#[]⟩) 1 16 Tryz.underlying114 hi hz0 hz1 hz2 rfl (by decide) _ _ _ rfl (hown.alloc _) ⟨wr.heap.size, 0, none⟩ 1 1 [.string (u.extract 0 k)] rfl rfl (one_cell _ _ _) (by simp [Value.oneCell']) (by unfold maxLen; omega) (by omega) (by simp; omega) ?_; intro v' w1 hown1 hgrow1 _))
      have hb1 : Below w.heap.size w w1 := (HB.out.alloc HB.out.size _).grown hgrow1 (by have := HB.out.size; simp; omega) (fun j hj => (hown.lt j hj).1)
      have hr := rel_next s c u done k w v' w1 hlen hk Hk.out HP.out Hst.out hown1 hb1
      go_roundw
      case rel => exact ⟨Lib.hid hr, _, rfl⟩
      case measure => simp [strSize]; omega
    · have hno : c ∉ u.data.toList := fun h => hin (fstAt_mem.2 h)
      have Hi := Lib.hid (idxOf_none hno)
      have HP2 : Hid (pieces c s.data.toList = done ++ [u.data.toList]) := Lib.hid (by rw [HP.out, pieces_none hno])
      clear hin
      go_wp2_with (first
        | (go_at_call 55; refine (index_any u c _ (by omega)).mono ?_; rintro e w' ⟨rfl, rfl⟩; rw [Hi.out])
        | (at_builtin; refine wpList_append_own _ rfl (.tmp 12) (.tmp 14) 114 rfl w.heap.size 9 i0 (.string ⟨#[]⟩) 1 16 Tryz.underlying114 hi hz0 hz1 hz2 rfl (by decide) _ _ _ rfl (hown.alloc _) ⟨wr.heap.size, 0, none⟩ 1 1 [.string u] rfl rfl (one_cell _ _ _) (by simp [Value.oneCell']) (by unfold maxLen; omega) (by omega) (by simp; omega) ?_; intro v' w1 hown1 hgrow1 _))
      have hb1 : Below w.heap.size w w1 := (HB.out.alloc HB.out.size _).grown hgrow1 (by have := HB.out.size; simp; omega) (fun j hj => (hown.lt j hj).1)
      have hown2 : w1.ownsRow w.heap.size 9 1 v' (done.length + 1) (strs (pieces c s.data.toList)) := by
        rw [HP2.out, strs_append]; simpa [strs, ofL_toList] using hown1
      obtain ⟨g, cap, rfl, h1, h2, h3⟩ := strs_of_owns hown2 (by rw [HP2.out]; simp)
      go_ret
      exact ⟨g, cap, rfl, h1, h2, h3, hb1⟩

end Go.Proofs.YtmnjmhlodbifjaaGreatDoor.Split
