/- cron's zzLower at every text. Conditions: texts of at most 65536 bytes. -/
import Derived.Test.YtjdpmcacnllfpaaDoorSplit
import Derived.Lib.AppendStr
import Derived.Deep.DeepCutAuto
import Derived.Lib.OthersKept
import Derived.Lib.RuneBytes
import Derived.Lib.RuneCount
import Derived.Laws.Runes
import Derived.Laws.RangeAny
namespace Go.Proofs.YtjdpmcacnllfpaaDoor.Lower
open Go Go.RowKit Go.Proofs.YtjdpmcacnllfpaaDoor.Mem Go.Proofs.YtjdpmcacnllfpaaDoor.Split Go.Proofs.YtjdpmcacnllfpaaDoor.SplitPure
set_option linter.unusedVariables false

/-- What a rune becomes. -/
def lowB (r : Nat) : List UInt8 := if 65 ≤ r ∧ r ≤ 90 then [UInt8.ofNat (r + 32)] else if r = 304 then [105] else if r = 8490 then [107] else (Utf8.encode (r : Int)).data.toList
def lowGo (s : ByteArray) : Nat → Nat → List UInt8
  | 0, _ => []
  | f + 1, pos => if pos < s.size then lowB (Utf8.decode s pos).1 ++ lowGo s f (pos + (Utf8.decode s pos).2) else []
def lower (s : ByteArray) : List UInt8 := lowGo s s.size 0
theorem lowGo_end (s : ByteArray) (f pos : Nat) (h : ¬ pos < s.size) : lowGo s f pos = [] := by
  cases f with
  | zero => rfl
  | succ f => simp [lowGo, h]
theorem lowGo_next (s : ByteArray) (f pos : Nat) (h : pos < s.size) : lowGo s (f + 1) pos = lowB (Utf8.decode s pos).1 ++ lowGo s f (pos + (Utf8.decode s pos).2) := by simp [lowGo, h]
set_option maxRecDepth 10000 in
theorem encode_le (r : Nat) : (Utf8.encode (r : Int)).size ≤ 4 := by
  unfold Utf8.encode
  dsimp only
  generalize (if Utf8.valid (r : Int) then (r : Int).toNat else Utf8.runeError) = c
  split
  · rw [ByteArray.size]; simp
  · split
    · rw [ByteArray.size]; simp
    · split
      · rw [ByteArray.size]; simp
      · rw [ByteArray.size]; simp
theorem lowB_le (r : Nat) : (lowB r).length ≤ 4 := by
  unfold lowB
  by_cases h1 : 65 ≤ r ∧ r ≤ 90
  · rw [if_pos h1]; exact (show 1 ≤ 4 by omega)
  · rw [if_neg h1]
    by_cases h2 : r = 304
    · rw [if_pos h2]; exact (show 1 ≤ 4 by omega)
    · rw [if_neg h2]
      by_cases h3 : r = 8490
      · rw [if_pos h3]; exact (show 1 ≤ 4 by omega)
      · rw [if_neg h3, length_toList]; exact encode_le r

/-- Bytes as cells. -/
def cells (l : List UInt8) : List Value := l.map fun b => .int .u8 (b.toNat : Int)
theorem cells_append (a b : List UInt8) : cells (a ++ b) = cells a ++ cells b := by simp [cells]
theorem Tryd.info5 : (Tryd.prog.info? 5).map (fun i => (i.zero, i.size, i.bytes)) = some (some (.int .u8 0), 1, 1) := by kernel_rfl

theorem strOf_eq (l : List UInt8) : strOfNums (l.map fun b => (b.toNat : Int)) = ofL l := by
  simp [strOfNums, ofL, Function.comp_def]
theorem owns_iter {w : World} {B k n pos : Nat} {v : Value} {xs : List Value} {s : ByteArray} (h : w.ownsRow B 5 1 v n xs) (hk : k < B) : (w.iterAt k s pos).ownsRow B 5 1 v n xs := by
  refine ⟨h.1, ?_⟩
  rcases h.2 with h0 | ⟨g, cap, cur, he, hb, hg, hle, hm, hcur, htake⟩
  · exact .inl h0
  · refine .inr ⟨g, cap, cur, he, hb, ?_, hle, hm, hcur, htake⟩
    rw [← hg]
    simp only [World.iterAt, Array.getElem?_setIfInBounds]
    rw [if_neg (by omega)]
theorem cell_up {r : Nat} (h : 65 ≤ r ∧ r ≤ 90) : cells [UInt8.ofNat (r + 32)] = [Value.int .u8 ((r : Int) - 65 + 97)] := by
  have e : (UInt8.ofNat (r + 32)).toNat = r + 32 := by
    rw [UInt8.toNat_ofNat']
    exact Nat.mod_eq_of_lt (by omega)
  unfold cells
  rw [List.map_cons, e, List.map_nil]
  congr 2
  omega

/-- The loop's relation. -/
def Rel (s : ByteArray) (w0 : World) (v : Value) (wr : World) : Prop :=
  ∃ (pos f : Nat) (acc : List UInt8), wr.ownsRow (w0.heap.size + 1) 5 1 v acc.length (cells acc) ∧ wr.heap[w0.heap.size]? = some (.stringIter s pos) ∧ Below w0.heap.size w0 wr ∧
    acc ++ lowGo s f pos = lower s ∧ s.size ≤ f + pos ∧ acc.length ≤ 4 * pos

/-- Behind an append of one round. -/
theorem rel_next {s : ByteArray} {w0 w2 w3 : World} {pos f m : Nat} {acc add : List UInt8} {v' v : Value} {o : Obj} (hown : w2.ownsRow (w0.heap.size + 1) 5 1 v acc.length (cells acc))
    (hit : w2.heap[w0.heap.size]? = some (.stringIter s (pos + (Utf8.decode s pos).2))) (hbel : Below w0.heap.size w0 w2) (hp : pos < s.size) (hadd : lowB (Utf8.decode s pos).1 = add)
    (hacc : acc ++ lowGo s (f + 1) pos = lower s) (hfu : s.size ≤ f + 1 + pos) (hal : acc.length ≤ 4 * pos)
    (hown3 : w3.ownsRow (w0.heap.size + 1) 5 1 v' (acc.length + m) (cells acc ++ cells add)) (hgrow : Below (w0.heap.size + 1) w2 w3) (hm : m = add.length) :
    Rel s w0 v' w3 ∧ w3.iterPos w0.heap.size = pos + (Utf8.decode s pos).2 := by
  have hit3 := (hgrow.block w0.heap.size (by omega)).trans hit
  have hw := Lib.decode_width_pos s pos hp
  have hl := lowB_le (Utf8.decode s pos).1
  rw [hadd] at hl
  refine ⟨⟨pos + (Utf8.decode s pos).2, f, acc ++ add, ?_, hit3, hbel.trans (hgrow.mono (by omega)), ?_, by omega, by simp; omega⟩, by simp only [World.iterPos, hit3]⟩
  · rw [cells_append, List.length_append, ← hm]; exact hown3
  · rw [← hacc, lowGo_next s f pos hp, hadd, List.append_assoc]

set_option maxHeartbeats 1000000 in
set_option maxRecDepth 100000 in
theorem lower_any (s : ByteArray) (w : World) (hs : s.size ≤ 65536) :
    Calls Tryd.prog 70 #[.string s] w fun e w' => e = .returned (.string (ofL (lower s))) ∧ Below w.heap.size w w' := by
  obtain ⟨i0, hi, hz0, hz1, hz2⟩ := info_parts Tryd.info5
  go_enter Tryd.func70, Tryd.ntmps70
  go_wp2
  go_loopw [3] (fun v wr => Hid (Rel s w v wr)) (fun _ wr => s.size - wr.iterPos w.heap.size)
  case atStart =>
    refine Lib.hid ⟨0, s.size, [], World.ownsRow_nil _ _ _ _, World.iter_heap w s 0, (Below.refl _ w).alloc (Nat.le_refl _) _, rfl, by omega, by simp⟩
  case round =>
    obtain ⟨pos, f, acc, hown, hit, hbel, hacc, hfu, hal⟩ := hrel.out
    have hkz : w.heap.size < wr.heap.size := (Array.getElem?_eq_some_iff.1 hit).1
    by_cases hp : pos < s.size
    · have hnx : ∀ ty, (Instr.next (.pointer (some ⟨w.heap.size, 0, none⟩)) true ty).run Tryd.prog wr = _ := fun ty => Lib.run_next_any_at wr w.heap.size s pos ty hit hp
      have hown2 := owns_iter (s := s) (pos := pos + (Utf8.decode s pos).2) hown (show w.heap.size < w.heap.size + 1 by omega)
      have hit2 := Lib.iterAt_heap wr w.heap.size s pos (pos + (Utf8.decode s pos).2) hit
      have hbel2 := Lib.below_iterAt hbel (k := w.heap.size) (by omega) s (pos + (Utf8.decode s pos).2)
      have hsz2 : w.heap.size + 1 ≤ (wr.iterAt w.heap.size s (pos + (Utf8.decode s pos).2)).heap.size := by rw [Lib.iterAt_size]; omega
      have hd1 := decode_le s pos
      have hrp : wr.iterPos w.heap.size = pos := by simp only [World.iterPos, hit]
      have hwd := Lib.decode_width_pos s pos hp
      obtain ⟨f, rfl⟩ : ∃ f', f = f' + 1 := ⟨f - 1, by omega⟩
      have HN := Lib.hid (fun (w3 : World) (v' : Value) (m : Nat) (add : List UInt8) h1 h2 h3 h4 => rel_next (w3 := w3) (v' := v') (m := m) (add := add) (o := .stringIter s 0) hown2 hit2 hbel2 hp h1 hacc hfu hal h2 h3 h4)
      clear hacc hrel
      generalize hr : (Utf8.decode s pos).1 = r at hnx hd1
      by_cases hA : 65 ≤ r ∧ r ≤ 90
      · have hA1 := hA.1
        have hA2 := hA.2
        go_wp2_with (at_builtin; refine wpList_append_own _ rfl (.tmp 22) (.tmp 27) 80 rfl (w.heap.size + 1) 5 i0 (.int .u8 0) 1 1 Tryd.underlying80 hi hz0 hz1 hz2 rfl (by decide) _ _ _ rfl (hown2.alloc _) ⟨_, 0, none⟩ 1 1 [_] rfl rfl (one_cell _ _ _) (by simp [Value.oneCell']) (by unfold maxLen; omega) (by omega) (by simp; omega) ?_; intro v' w3 hown3 hgrow3 _)
        have hgB : Below (w.heap.size + 1) (wr.iterAt w.heap.size s (pos + (Utf8.decode s pos).2)) w3 := ((Below.refl (w.heap.size + 1) _).alloc hsz2 _).grown hgrow3 (by simp; omega) (fun j hj => (hown2.lt j hj).1)
        have hq := HN.out w3 v' 1 [UInt8.ofNat (r + 32)] (by rw [hr]; exact if_pos hA) (by rw [cell_up hA]; exact hown3) hgB rfl
        exact ⟨Lib.hid hq.1, by rw [hq.2, hrp]; omega⟩
      · have hA3 : ¬ (65 ≤ (r : Int) ∧ (r : Int) ≤ 90) := by omega
        by_cases h304 : r = 304
        · subst h304
          go_wp2_with (at_builtin; refine wpList_append_own _ rfl (.tmp 32) (.tmp 33) 80 rfl (w.heap.size + 1) 5 i0 (.int .u8 0) 1 1 Tryd.underlying80 hi hz0 hz1 hz2 rfl (by decide) _ _ _ rfl (hown2.alloc _) ⟨_, 0, none⟩ 1 1 [_] rfl rfl (one_cell _ _ _) (by simp [Value.oneCell']) (by unfold maxLen; omega) (by omega) (by simp; omega) ?_; intro v' w3 hown3 hgrow3 _)
          have hgB : Below (w.heap.size + 1) (wr.iterAt w.heap.size s (pos + (Utf8.decode s pos).2)) w3 := ((Below.refl (w.heap.size + 1) _).alloc hsz2 _).grown hgrow3 (by simp; omega) (fun j hj => (hown2.lt j hj).1)
          have hq := HN.out w3 v' 1 [105] (by rw [hr]; rfl) hown3 hgB rfl
          exact ⟨Lib.hid hq.1, by rw [hq.2, hrp]; omega⟩
        · by_cases h8490 : r = 8490
          · subst h8490
            go_wp2_with (at_builtin; refine wpList_append_own _ rfl (.tmp 38) (.tmp 39) 80 rfl (w.heap.size + 1) 5 i0 (.int .u8 0) 1 1 Tryd.underlying80 hi hz0 hz1 hz2 rfl (by decide) _ _ _ rfl (hown2.alloc _) ⟨_, 0, none⟩ 1 1 [_] rfl rfl (one_cell _ _ _) (by simp [Value.oneCell']) (by unfold maxLen; omega) (by omega) (by simp; omega) ?_; intro v' w3 hown3 hgrow3 _)
            have hgB : Below (w.heap.size + 1) (wr.iterAt w.heap.size s (pos + (Utf8.decode s pos).2)) w3 := ((Below.refl (w.heap.size + 1) _).alloc hsz2 _).grown hgrow3 (by simp; omega) (fun j hj => (hown2.lt j hj).1)
            have hq := HN.out w3 v' 1 [107] (by rw [hr]; rfl) hown3 hgB rfl
            exact ⟨Lib.hid hq.1, by rw [hq.2, hrp]; omega⟩
          · have q1 : ((r : Int) == 304) = false := by rw [beq_eq_false_iff_ne]; omega
            have q2 : ((r : Int) == 8490) = false := by rw [beq_eq_false_iff_ne]; omega
            have HEL := Lib.hid (encode_le r)
            have HLOW : Hid (lowB r = (Utf8.encode (r : Int)).data.toList) := Lib.hid (by unfold lowB; rw [if_neg hA, if_neg h304, if_neg h8490])
            clear h304 h8490
            obtain ⟨R, hR⟩ : ∃ R : Int, (r : Int) = R := ⟨_, rfl⟩
            rw [hR] at hnx q1 q2 HEL HLOW
            have hR0 : 0 ≤ R := by omega
            by_cases hlo : 65 ≤ R
            · have hhi : ¬ R ≤ 90 := fun h => hA ⟨by omega, by omega⟩
              clear hA hA3 hR
              go_wp2_with (at_builtin; refine Lib.wpList_append_own_string _ rfl (.tmp 11) (.tmp 13) 80 9 rfl (w.heap.size + 1) 5 i0 Tryd.underlying80 Tryd.underlying9 hi hz0 hz1 hz2 _ _ _ rfl hown2 (Utf8.encode R) rfl (by have := HEL.out; unfold maxLen; omega) (by have := HEL.out; omega) hsz2 ?_; intro v' w3 hown3 hgrow3 _)
              have hgB : Below (w.heap.size + 1) (wr.iterAt w.heap.size s (pos + (Utf8.decode s pos).2)) w3 := (Below.refl (w.heap.size + 1) _).grown hgrow3 hsz2 (fun j hj => (hown2.lt j hj).1)
              have hq := HN.out w3 v' (Utf8.encode R).size (Utf8.encode R).data.toList (by rw [hr]; exact HLOW.out) hown3 hgB (by simp)
              exact ⟨Lib.hid hq.1, by rw [hq.2, hrp]; omega⟩
            · clear hA hA3 hR
              go_wp2_with (at_builtin; refine Lib.wpList_append_own_string _ rfl (.tmp 11) (.tmp 13) 80 9 rfl (w.heap.size + 1) 5 i0 Tryd.underlying80 Tryd.underlying9 hi hz0 hz1 hz2 _ _ _ rfl hown2 (Utf8.encode R) rfl (by have := HEL.out; unfold maxLen; omega) (by have := HEL.out; omega) hsz2 ?_; intro v' w3 hown3 hgrow3 _)
              have hgB : Below (w.heap.size + 1) (wr.iterAt w.heap.size s (pos + (Utf8.decode s pos).2)) w3 := (Below.refl (w.heap.size + 1) _).grown hgrow3 hsz2 (fun j hj => (hown2.lt j hj).1)
              have hq := HN.out w3 v' (Utf8.encode R).size (Utf8.encode R).data.toList (by rw [hr]; exact HLOW.out) hown3 hgB (by simp)
              exact ⟨Lib.hid hq.1, by rw [hq.2, hrp]; omega⟩
    · have hnx : ∀ ty, (Instr.next (.pointer (some ⟨w.heap.size, 0, none⟩)) true ty).run Tryd.prog wr = _ := fun ty => Lib.run_next_end_at wr w.heap.size s pos ty hit hp
      have HACC : Hid (acc = lower s) := Lib.hid (by rw [← hacc, lowGo_end s f pos hp, List.append_nil])
      clear hacc
      have hcv := run_convert_own (P := Tryd.prog) wr 80 5 9 Tryd.underlying80 Tryd.underlying5 Tryd.underlying9 (xs := acc.map fun b => (b.toNat : Int)) (n := acc.length) (by simpa [cells, List.map_map, Function.comp_def] using hown)
      rw [strOf_eq] at hcv
      go_wp2
      go_ret
      exact ⟨by rw [← HACC.out]; rfl, hbel⟩

end Go.Proofs.YtjdpmcacnllfpaaDoor.Lower
