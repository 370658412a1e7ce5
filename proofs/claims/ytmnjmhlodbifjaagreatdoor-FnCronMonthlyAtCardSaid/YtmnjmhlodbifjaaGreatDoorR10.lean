/- cron's zzLower at every text. Conditions: texts of at most 65536 bytes. · A map from texts to numbers that a literal lays: insert and lookup. Conditions: none. · cron's names of months and days: the two maps. Conditions: none. · parseIntOrName over a map of names. Conditions: none. · The six fields: bounds and names, the code's and the reference's. Conditions: strconv's sentinels hold something. -/
import Derived.Test.YtmnjmhlodbifjaaGreatDoorR5
import Derived.Lib.AppendStr
import Derived.Deep.DeepCutAuto
import Derived.Lib.OthersKept
import Derived.Lib.RuneBytes
import Derived.Lib.RuneCount
import Derived.Laws.Runes
import Derived.Laws.RangeAny
import Derived.Test.YtmnjmhlodbifjaaGreatDoorR8
import Derived.WalkSpells

namespace Go.Proofs.YtmnjmhlodbifjaaGreatDoor.Lower
open Go Go.RowKit Go.Proofs.YtmnjmhlodbifjaaGreatDoor.Mem Go.Proofs.YtmnjmhlodbifjaaGreatDoor.Split Go.Proofs.YtmnjmhlodbifjaaGreatDoor.SplitPure
set_option linter.unusedVariables false
def lowB (r : Nat) : List UInt8 := if 65 ≤ r ∧ r ≤ 90 then [UInt8.ofNat (r + 32)] else if r = 304 then [105] else if r = 8490 then [107] else (Utf8.encode (r : Int)).data.toList
def lowGo (s : ByteArray) : Nat → Nat → List UInt8
  | 0, _ => []
  | f + 1, pos => if pos < s.size then lowB (Utf8.decode s pos).1 ++ lowGo s f (pos + (Utf8.decode s pos).2) else []
def lower (s : ByteArray) : List UInt8 := lowGo s s.size 0
theorem lowGo_end (s : ByteArray) (f pos : Nat) (h : ¬ pos < s.size) : lowGo s f pos = [] := by
  cases f with
  | zero => rfl
  | succ f => simp [lowGo, h]
theorem lowGo_next (s : ByteArray) (f pos : Nat) (h : pos < s.size) : lowGo s (f + 1) pos = lowB (Utf8.decode s pos).1 ++ lowGo s f (pos + (Utf8.decode s pos).2) := by simp [lowGo, h]
set_option maxRecDepth 10000 in
theorem encode_le (r : Nat) : (Utf8.encode (r : Int)).size ≤ 4 := by
  unfold Utf8.encode
  dsimp only
  generalize (if Utf8.valid (r : Int) then (r : Int).toNat else Utf8.runeError) = c
  split
  · rw [ByteArray.size]; simp
  · split
    · rw [ByteArray.size]; simp
    · split
      · rw [ByteArray.size]; simp
      · rw [ByteArray.size]; simp
theorem lowB_le (r : Nat) : (lowB r).length ≤ 4 := by
  unfold lowB
  by_cases h1 : 65 ≤ r ∧ r ≤ 90
  · rw [if_pos h1]; exact (show 1 ≤ 4 by omega)
  · rw [if_neg h1]
    by_cases h2 : r = 304
    · rw [if_pos h2]; exact (show 1 ≤ 4 by omega)
    · rw [if_neg h2]
      by_cases h3 : r = 8490
      · rw [if_pos h3]; exact (show 1 ≤ 4 by omega)
      · rw [if_neg h3, length_toList]; exact encode_le r
def cells (l : List UInt8) : List Value := l.map fun b => .int .u8 (b.toNat : Int)
theorem cells_append (a b : List UInt8) : cells (a ++ b) = cells a ++ cells b := by simp [cells]
theorem Tryz.info5 : (Tryz.prog.info? 5).map (fun i => (i.zero, i.size, i.bytes)) = some (some (.int .u8 0), 1, 1) := by kernel_rfl
theorem strOf_eq (l : List UInt8) : strOfNums (l.map fun b => (b.toNat : Int)) = ofL l := by
  simp [strOfNums, ofL, Function.comp_def]
theorem owns_iter {w : World} {B k n pos : Nat} {v : Value} {xs : List Value} {s : ByteArray} (h : w.ownsRow B 5 1 v n xs) (hk : k < B) : (w.iterAt k s pos).ownsRow B 5 1 v n xs := by
  refine ⟨h.1, ?_⟩
  rcases h.2 with h0 | ⟨g, cap, cur, he, hb, hg, hle, hm, hcur, htake⟩
  · exact .inl h0
  · refine .inr ⟨g, cap, cur, he, hb, ?_, hle, hm, hcur, htake⟩
    rw [← hg]
    simp only [World.iterAt, Array.getElem?_setIfInBounds]
    rw [if_neg (by omega)]
theorem cell_up {r : Nat} (h : 65 ≤ r ∧ r ≤ 90) : cells [UInt8.ofNat (r + 32)] = [Value.int .u8 ((r : Int) - 65 + 97)] := by
  have e : (UInt8.ofNat (r + 32)).toNat = r + 32 := by
    rw [UInt8.toNat_ofNat']
    exact Nat.mod_eq_of_lt (by omega)
  unfold cells
  rw [List.map_cons, e, List.map_nil]
  congr 2
  omega
def Rel (s : ByteArray) (w0 : World) (v : Value) (wr : World) : Prop :=
  ∃ (pos f : Nat) (acc : List UInt8), wr.ownsRow (w0.heap.size + 1) 5 1 v acc.length (cells acc) ∧ wr.heap[w0.heap.size]? = some (.stringIter s pos) ∧ Below w0.heap.size w0 wr ∧
    acc ++ lowGo s f pos = lower s ∧ s.size ≤ f + pos ∧ acc.length ≤ 4 * pos
theorem rel_next {s : ByteArray} {w0 w2 w3 : World} {pos f m : Nat} {acc add : List UInt8} {v' v : Value} {o : Obj} (hown : w2.ownsRow (w0.heap.size + 1) 5 1 v acc.length (cells acc))
    (hit : w2.heap[w0.heap.size]? = some (.stringIter s (pos + (Utf8.decode s pos).2))) (hbel : Below w0.heap.size w0 w2) (hp : pos < s.size) (hadd : lowB (Utf8.decode s pos).1 = add)
    (hacc : acc ++ lowGo s (f + 1) pos = lower s) (hfu : s.size ≤ f + 1 + pos) (hal : acc.length ≤ 4 * pos)
    (hown3 : w3.ownsRow (w0.heap.size + 1) 5 1 v' (acc.length + m) (cells acc ++ cells add)) (hgrow : Below (w0.heap.size + 1) w2 w3) (hm : m = add.length) :
    Rel s w0 v' w3 ∧ w3.iterPos w0.heap.size = pos + (Utf8.decode s pos).2 := by
  have hit3 := (hgrow.block w0.heap.size (by omega)).trans hit
  have hw := Lib.decode_width_pos s pos hp
  have hl := lowB_le (Utf8.decode s pos).1
  rw [hadd] at hl
  refine ⟨⟨pos + (Utf8.decode s pos).2, f, acc ++ add, ?_, hit3, hbel.trans (hgrow.mono (by omega)), ?_, by omega, by simp; omega⟩, by simp only [World.iterPos, hit3]⟩
  · rw [cells_append, List.length_append, ← hm]; exact hown3
  · rw [← hacc, lowGo_next s f pos hp, hadd, List.append_assoc]
set_option maxHeartbeats 1000000 in
set_option maxRecDepth 100000 in
theorem lower_any (s : ByteArray) (w : World) (hs : s.size ≤ 65536) :
    Calls Tryz.prog 146 #[.string s] w fun e w' => e = .returned (.string (ofL (lower s))) ∧ Below w.heap.size w w' := by
  obtain ⟨i0, hi, hz0, hz1, hz2⟩ := info_parts Tryz.info5
  go_enter Tryz.func146, Tryz.ntmps146
  go_wp2
  go_loopw [3] (fun v wr => Hid (Rel s w v wr)) (fun _ wr => s.size - wr.iterPos w.heap.size)
  case atStart =>
    refine Lib.hid ⟨0, s.size, [], World.ownsRow_nil _ _ _ _, World.iter_heap w s 0, (Below.refl _ w).alloc (Nat.le_refl _) _, rfl, by omega, by simp⟩
  case round =>
    obtain ⟨pos, f, acc, hown, hit, hbel, hacc, hfu, hal⟩ := hrel.out
    have hkz : w.heap.size < wr.heap.size := (Array.getElem?_eq_some_iff.1 hit).1
    by_cases hp : pos < s.size
    · have hnx : ∀ ty, (Instr.next (.pointer (some ⟨w.heap.size, 0, none⟩)) true ty).run Tryz.prog wr = _ := fun ty => Lib.run_next_any_at wr w.heap.size s pos ty hit hp
      have hown2 := owns_iter (s := s) (pos := pos + (Utf8.decode s pos).2) hown (show w.heap.size < w.heap.size + 1 by omega)
      have hit2 := Lib.iterAt_heap wr w.heap.size s pos (pos + (Utf8.decode s pos).2) hit
      have hbel2 := Lib.below_iterAt hbel (k := w.heap.size) (by omega) s (pos + (Utf8.decode s pos).2)
      have hsz2 : w.heap.size + 1 ≤ (wr.iterAt w.heap.size s (pos + (Utf8.decode s pos).2)).heap.size := by rw [Lib.iterAt_size]; omega
      have hd1 := decode_le s pos
      have hrp : wr.iterPos w.heap.size = pos := by simp only [World.iterPos, hit]
      have hwd := Lib.decode_width_pos s pos hp
      obtain ⟨f, rfl⟩ : ∃ f', f = f' + 1 := ⟨f - 1, by omega⟩
      have HN := Lib.hid (fun (w3 : World) (v' : Value) (m : Nat) (add : List UInt8) h1 h2 h3 h4 => rel_next (w3 := w3) (v' := v') (m := m) (add := add) (o := .stringIter s 0) hown2 hit2 hbel2 hp h1 hacc hfu hal h2 h3 h4)
      clear hacc hrel
      generalize hr : (Utf8.decode s pos).1 = r at hnx hd1
      by_cases hA : 65 ≤ r ∧ r ≤ 90
      · have hA1 := hA.1
        have hA2 := hA.2
        go_wp2_with (at_builtin; refine wpList_append_own _ rfl (.tmp 22) (.tmp 27) 68 rfl (w.heap.size + 1) 5 i0 (.int .u8 0) 1 1 Tryz.underlying68 hi hz0 hz1 hz2 rfl (by decide) _ _ _ rfl (hown2.alloc _) ⟨_, 0, none⟩ 1 1 [_] rfl rfl (one_cell _ _ _) (by simp [Value.oneCell']) (by unfold maxLen; omega) (by omega) (by simp; omega) ?_; intro v' w3 hown3 hgrow3 _)
        have hgB : Below (w.heap.size + 1) (wr.iterAt w.heap.size s (pos + (Utf8.decode s pos).2)) w3 := ((Below.refl (w.heap.size + 1) _).alloc hsz2 _).grown hgrow3 (by simp; omega) (fun j hj => (hown2.lt j hj).1)
        have hq := HN.out w3 v' 1 [UInt8.ofNat (r + 32)] (by rw [hr]; exact if_pos hA) (by rw [cell_up hA]; exact hown3) hgB rfl
        exact ⟨Lib.hid hq.1, by rw [hq.2, hrp]; omega⟩
      · have hA3 : ¬ (65 ≤ (r : Int) ∧ (r : Int) ≤ 90) := by omega
        by_cases h304 : r = 304
        · subst h304
          go_wp2_with (at_builtin; refine wpList_append_own _ rfl (.tmp 32) (.tmp 33) 68 rfl (w.heap.size + 1) 5 i0 (.int .u8 0) 1 1 Tryz.underlying68 hi hz0 hz1 hz2 rfl (by decide) _ _ _ rfl (hown2.alloc _) ⟨_, 0, none⟩ 1 1 [_] rfl rfl (one_cell _ _ _) (by simp [Value.oneCell']) (by unfold maxLen; omega) (by omega) (by simp; omega) ?_; intro v' w3 hown3 hgrow3 _)
          have hgB : Below (w.heap.size + 1) (wr.iterAt w.heap.size s (pos + (Utf8.decode s pos).2)) w3 := ((Below.refl (w.heap.size + 1) _).alloc hsz2 _).grown hgrow3 (by simp; omega) (fun j hj => (hown2.lt j hj).1)
          have hq := HN.out w3 v' 1 [105] (by rw [hr]; rfl) hown3 hgB rfl
          exact ⟨Lib.hid hq.1, by rw [hq.2, hrp]; omega⟩
        · by_cases h8490 : r = 8490
          · subst h8490
            go_wp2_with (at_builtin; refine wpList_append_own _ rfl (.tmp 38) (.tmp 39) 68 rfl (w.heap.size + 1) 5 i0 (.int .u8 0) 1 1 Tryz.underlying68 hi hz0 hz1 hz2 rfl (by decide) _ _ _ rfl (hown2.alloc _) ⟨_, 0, none⟩ 1 1 [_] rfl rfl (one_cell _ _ _) (by simp [Value.oneCell']) (by unfold maxLen; omega) (by omega) (by simp; omega) ?_; intro v' w3 hown3 hgrow3 _)
            have hgB : Below (w.heap.size + 1) (wr.iterAt w.heap.size s (pos + (Utf8.decode s pos).2)) w3 := ((Below.refl (w.heap.size + 1) _).alloc hsz2 _).grown hgrow3 (by simp; omega) (fun j hj => (hown2.lt j hj).1)
            have hq := HN.out w3 v' 1 [107] (by rw [hr]; rfl) hown3 hgB rfl
            exact ⟨Lib.hid hq.1, by rw [hq.2, hrp]; omega⟩
          · have q1 : ((r : Int) == 304) = false := by rw [beq_eq_false_iff_ne]; omega
            have q2 : ((r : Int) == 8490) = false := by rw [beq_eq_false_iff_ne]; omega
            have HEL := Lib.hid (encode_le r)
            have HLOW : Hid (lowB r = (Utf8.encode (r : Int)).data.toList) := Lib.hid (by unfold lowB; rw [if_neg hA, if_neg h304, if_neg h8490])
            clear h304 h8490
            obtain ⟨R, hR⟩ : ∃ R : Int, (r : Int) = R := ⟨_, rfl⟩
            rw [hR] at hnx q1 q2 HEL HLOW
            have hR0 : 0 ≤ R := by omega
            by_cases hlo : 65 ≤ R
            · have hhi : ¬ R ≤ 90 := fun h => hA ⟨by omega, by omega⟩
              clear hA hA3 hR
              go_wp2_with (at_builtin; refine Lib.wpList_append_own_string _ rfl (.tmp 11) (.tmp 13) 68 9 rfl (w.heap.size + 1) 5 i0 Tryz.underlying68 Tryz.underlying9 hi hz0 hz1 hz2 _ _ _ rfl hown2 (Utf8.encode R) rfl (by have := HEL.out; unfold maxLen; omega) (by have := HEL.out; omega) hsz2 ?_; intro v' w3 hown3 hgrow3 _)
              have hgB : Below (w.heap.size + 1) (wr.iterAt w.heap.size s (pos + (Utf8.decode s pos).2)) w3 := (Below.refl (w.heap.size + 1) _).grown hgrow3 hsz2 (fun j hj => (hown2.lt j hj).1)
              have hq := HN.out w3 v' (Utf8.encode R).size (Utf8.encode R).data.toList (by rw [hr]; exact HLOW.out) hown3 hgB (by simp)
              exact ⟨Lib.hid hq.1, by rw [hq.2, hrp]; omega⟩
            · clear hA hA3 hR
              go_wp2_with (at_builtin; refine Lib.wpList_append_own_string _ rfl (.tmp 11) (.tmp 13) 68 9 rfl (w.heap.size + 1) 5 i0 Tryz.underlying68 Tryz.underlying9 hi hz0 hz1 hz2 _ _ _ rfl hown2 (Utf8.encode R) rfl (by have := HEL.out; unfold maxLen; omega) (by have := HEL.out; omega) hsz2 ?_; intro v' w3 hown3 hgrow3 _)
              have hgB : Below (w.heap.size + 1) (wr.iterAt w.heap.size s (pos + (Utf8.decode s pos).2)) w3 := (Below.refl (w.heap.size + 1) _).grown hgrow3 hsz2 (fun j hj => (hown2.lt j hj).1)
              have hq := HN.out w3 v' (Utf8.encode R).size (Utf8.encode R).data.toList (by rw [hr]; exact HLOW.out) hown3 hgB (by simp)
              exact ⟨Lib.hid hq.1, by rw [hq.2, hrp]; omega⟩
    · have hnx : ∀ ty, (Instr.next (.pointer (some ⟨w.heap.size, 0, none⟩)) true ty).run Tryz.prog wr = _ := fun ty => Lib.run_next_end_at wr w.heap.size s pos ty hit hp
      have HACC : Hid (acc = lower s) := Lib.hid (by rw [← hacc, lowGo_end s f pos hp, List.append_nil])
      clear hacc
      have hcv := run_convert_own (P := Tryz.prog) wr 68 5 9 Tryz.underlying68 Tryz.underlying5 Tryz.underlying9 (xs := acc.map fun b => (b.toNat : Int)) (n := acc.length) (by simpa [cells, List.map_map, Function.comp_def] using hown)
      rw [strOf_eq] at hcv
      go_wp2
      go_ret
      exact ⟨by rw [← HACC.out]; rfl, hbel⟩
end Go.Proofs.YtmnjmhlodbifjaaGreatDoor.Lower
namespace Go.Proofs.YtmnjmhlodbifjaaGreatDoor.NameMap
open Go Go.RowKit
set_option linter.unusedSimpArgs false
def entsFrom (i : Nat) : List (ByteArray × Nat) → List MapEntry
  | [] => []
  | (s, n) :: r => ⟨.string s, .int .u64 (n : Int), i⟩ :: entsFrom (i + 1) r
def NMapAt (w : World) (b : Nat) (l : List (ByteArray × Nat)) : Prop := w.heap[b]? = some (.map (entsFrom 0 l).toArray l.length)
theorem entsFrom_snoc (i : Nat) (l : List (ByteArray × Nat)) (s : ByteArray) (n : Nat) : entsFrom i (l ++ [(s, n)]) = entsFrom i l ++ [⟨.string s, .int .u64 (n : Int), i + l.length⟩] := by
  induction l generalizing i with
  | nil => simp [entsFrom]
  | cons p r ih =>
    obtain ⟨t, m⟩ := p
    simp only [List.cons_append, entsFrom, ih, List.length_cons]
    rw [show i + 1 + r.length = i + (r.length + 1) by omega]
def nlook : List (ByteArray × Nat) → ByteArray → Option Nat
  | [], _ => none
  | (t, n) :: r, s => if (s == t) = true then some n else nlook r s
theorem findNow_none (s : ByteArray) : ∀ (l : List (ByteArray × Nat)) (i j : Nat), nlook l s = none → Instr.findNow .string (.string s) (entsFrom i l) j = some none
  | [], _, _, _ => rfl
  | (t, n) :: r, i, j, h => by
    cases hq : (s == t) with
    | true => simp [nlook, hq] at h
    | false =>
      simp only [nlook, hq] at h
      simp only [entsFrom, Instr.findNow, Instr.sameNow, hq]
      exact findNow_none s r _ _ (by simpa using h)
theorem findNow_some (s : ByteArray) (v : Nat) : ∀ (l : List (ByteArray × Nat)) (i j : Nat), nlook l s = some v → ∃ k, Instr.findNow .string (.string s) (entsFrom i l) j = some (some (k, .int .u64 (v : Int)))
  | [], _, _, h => by cases h
  | (t, n) :: r, i, j, h => by
    cases hq : (s == t) with
    | true =>
      simp [nlook, hq] at h
      subst h
      exact ⟨j, by simp only [entsFrom, Instr.findNow, Instr.sameNow, hq]⟩
    | false =>
      simp only [nlook, hq] at h
      obtain ⟨k, hk⟩ := findNow_some s v r (i + 1) (j + 1) (by simpa using h)
      exact ⟨k, by simp only [entsFrom, Instr.findNow, Instr.sameNow, hq]; exact hk⟩
theorem run_check_n (w : World) (empty : Bool) (m : Nat) (s : ByteArray) : (Instr.checkKey empty (m + 1) 9 (.string s)).run Tryz.prog w = .ok () w := by
  unfold Instr.checkKey
  simp [Sem.run_bind, run_underlying Tryz.underlying9]
theorem run_check (w : World) (empty : Bool) (s : ByteArray) : (Instr.checkKey empty 10000 9 (.string s)).run Tryz.prog w = .ok () w := run_check_n w empty 9999 s
theorem run_find (w : World) (s : ByteArray) (es : List MapEntry) (r : Option (Nat × Value)) (h : Instr.findNow .string (.string s) es 0 = some r) : (Instr.findKey 9 (.string s) es).run Tryz.prog w = .ok r w := by
  unfold Instr.findKey
  simp [Sem.run_bind, run_underlying Tryz.underlying9, h]
theorem run_insert (w : World) (b : Nat) (l : List (ByteArray × Nat)) (s : ByteArray) (n : Nat) (h : NMapAt w b l) (hno : nlook l s = none) :
    ∃ w', (Instr.mapUpdate 119 (.map (some b)) (.string s) (.int .u64 (n : Int))).run Tryz.prog w = .ok () w' ∧ NMapAt w' b (l ++ [(s, n)]) ∧ w.grownBy w' (some b) := by
  have hf := findNow_none s l 0 0 hno
  refine ⟨{ w with heap := w.heap.setIfInBounds b (.map ((entsFrom 0 l).toArray.push ⟨.string s, .int .u64 (n : Int), l.length⟩) (l.length + 1)) }, ?_, ?_, ?_⟩
  · have hg : w.heap[b]? = some (.map (entsFrom 0 l).toArray l.length) := h
    have hr := run_find w s _ _ hf
    simp [Instr.mapUpdate, Sem.run_bind, run_underlying Tryz.underlying119, getObj, setObj, Sem.run, hg, run_check, hr]
  · unfold NMapAt
    have hlt : b < w.heap.size := (Array.getElem?_eq_some_iff.1 h).1
    rw [entsFrom_snoc]
    simp [hlt]
  · refine ⟨rfl, rfl, rfl, by simp, fun i _ hi => ?_⟩
    simp only [Array.getElem?_setIfInBounds]
    rw [if_neg (fun e => hi (by rw [e]))]
theorem zeroUint (w : World) : (zeroValue 118).run Tryz.prog w = .ok (.int .u64 0) w := by kernel_rfl
def found (r : Option Nat) : Value :=
  match r with
  | some v => .tuple #[.int .u64 (v : Int), .bool true]
  | none => .tuple #[.int .u64 0, .bool false]
theorem run_lookup (w : World) (b : Nat) (l : List (ByteArray × Nat)) (s : ByteArray) (h : NMapAt w b l) :
    (Instr.lookup 119 (.map (some b)) (.string s) true).run Tryz.prog w = .ok (found (nlook l s)) w := by
  have hg : w.heap[b]? = some (.map (entsFrom 0 l).toArray l.length) := h
  cases hl : nlook l s with
  | none =>
    have hr := run_find w s _ _ (findNow_none s l 0 0 hl)
    simp [Instr.lookup, Sem.run_bind, run_underlying Tryz.underlying119, getObj, Sem.run, hg, run_check, hr, zeroUint, found]
  | some v =>
    obtain ⟨k, hk⟩ := findNow_some s v l 0 0 hl
    have hr := run_find w s _ _ hk
    simp [Instr.lookup, Sem.run_bind, run_underlying Tryz.underlying119, getObj, Sem.run, hg, run_check, hr, found]
theorem NMapAt.lt {w : World} {b : Nat} {l : List (ByteArray × Nat)} (h : NMapAt w b l) : b < w.heap.size := (Array.getElem?_eq_some_iff.1 h).1
theorem NMapAt.below {w w' : World} {b B : Nat} {l : List (ByteArray × Nat)} (h : NMapAt w b l) (hb : Below B w w') (hB : b < B) : NMapAt w' b l := (hb.block b hB).trans h
theorem NMapAt.new (w : World) : NMapAt (w.alloc (.map #[] 0)) w.heap.size [] := heap_alloc_new w _
section
variable {ops : Array Oper} {rest : List Oper} {o : Oper} {a : Act} {w : World} {Q : Exit → Act → World → Prop}
theorem wpList_insert (hg : o.guard = none) (m x y : Operand) (ho : o.op = .insert 119 m x y) (b : Nat) (l : List (ByteArray × Nat)) (s : ByteArray) (n : Nat)
    (hm : a.eval m = .map (some b)) (hx : a.eval x = .string s) (hy : a.eval y = .int .u64 (n : Int)) (h : NMapAt w b l) (hno : nlook l s = none)
    (hK : ∀ w', NMapAt w' b (l ++ [(s, n)]) → w.grownBy w' (some b) → wpList Tryz.prog ops Q rest (a.put o.dst undef) w') : wpList Tryz.prog ops Q (o :: rest) a w := by
  refine wpList_plain hg fun K hK' => ?_
  obtain ⟨w', hrun, h1, h2⟩ := run_insert w b l s n h hno
  unfold Oper.wp
  simp [execOp, ho, hm, hx, hy, hrun, Result.andThen]
  exact hK' _ _ (hK w' h1 h2)
theorem wpList_lookup (hg : o.guard = none) (m x : Operand) (ho : o.op = .lookup 119 m x true) (b : Nat) (l : List (ByteArray × Nat)) (s : ByteArray)
    (hm : a.eval m = .map (some b)) (hx : a.eval x = .string s) (h : NMapAt w b l)
    (hK : wpList Tryz.prog ops Q rest (a.put o.dst (found (nlook l s))) w) : wpList Tryz.prog ops Q (o :: rest) a w := by
  refine wpList_plain hg fun K hK' => ?_
  have hrun := run_lookup w b l s h
  unfold Oper.wp
  simp [execOp, ho, hm, hx, hrun, Result.andThen]
  exact hK' _ _ hK
theorem wpList_makeMap (hg : o.guard = none) (ho : o.op = .makeMap 119 none)
    (hK : wpList Tryz.prog ops Q rest (a.put o.dst (.map (some w.heap.size))) (w.alloc (.map #[] 0))) : wpList Tryz.prog ops Q (o :: rest) a w := by
  refine wpList_plain hg fun K hK' => ?_
  unfold Oper.wp
  simp [execOp, ho, Instr.makeMap, Sem.run_bind, run_underlying Tryz.underlying119, Result.andThen]
  exact hK' _ _ hK
end
end Go.Proofs.YtmnjmhlodbifjaaGreatDoor.NameMap
namespace Go.Proofs.YtmnjmhlodbifjaaGreatDoor.Names
open Go Go.RowKit Go.Proofs.YtmnjmhlodbifjaaGreatDoor.NameMap Go.Proofs.YtmnjmhlodbifjaaGreatDoor.Range
def dayNames : List (ByteArray × Nat) := [(⟨#[115, 117, 110]⟩, 0), (⟨#[109, 111, 110]⟩, 1), (⟨#[116, 117, 101]⟩, 2), (⟨#[119, 101, 100]⟩, 3), (⟨#[116, 104, 117]⟩, 4), (⟨#[102, 114, 105]⟩, 5), (⟨#[115, 97, 116]⟩, 6)]
def monthNames : List (ByteArray × Nat) := [(⟨#[106, 97, 110]⟩, 1), (⟨#[102, 101, 98]⟩, 2), (⟨#[109, 97, 114]⟩, 3), (⟨#[97, 112, 114]⟩, 4), (⟨#[109, 97, 121]⟩, 5), (⟨#[106, 117, 110]⟩, 6), (⟨#[106, 117, 108]⟩, 7), (⟨#[97, 117, 103]⟩, 8), (⟨#[115, 101, 112]⟩, 9), (⟨#[111, 99, 116]⟩, 10), (⟨#[110, 111, 118]⟩, 11), (⟨#[100, 101, 99]⟩, 12)]
theorem step {B : Nat} {wA w w' : World} {l : List (ByteArray × Nat)} {b : Nat} (hm : NMapAt w b l) (hB : B ≤ b) (h : Below B wA w) (hg : w.grownBy w' (some b)) : Below B wA w' :=
  h.grown hg (Nat.le_of_lt (Nat.lt_of_le_of_lt hB hm.lt)) (fun j hj => by cases hj; exact hB)
theorem start (w : World) :
    NMapAt ((w.alloc (.cells #[.int .u64 0, .int .u64 0, .map none] 121)).alloc (.map #[] 0)) (w.alloc (.cells #[.int .u64 0, .int .u64 0, .map none] 121)).heap.size [] ∧
    (((w.alloc (.cells #[.int .u64 0, .int .u64 0, .map none] 121)).alloc (.map #[] 0)).cell? ⟨w.heap.size, 0, none⟩ = some (.int .u64 0) ∧ ((w.alloc (.cells #[.int .u64 0, .int .u64 0, .map none] 121)).alloc (.map #[] 0)).cell? ⟨w.heap.size, 1, none⟩ = some (.int .u64 0) ∧ ((w.alloc (.cells #[.int .u64 0, .int .u64 0, .map none] 121)).alloc (.map #[] 0)).cell? ⟨w.heap.size, 2, none⟩ = some (.map none)) ∧
    Below w.heap.size w ((w.alloc (.cells #[.int .u64 0, .int .u64 0, .map none] 121)).alloc (.map #[] 0)) ∧
    ∀ j, ((w.alloc (.cells #[.int .u64 0, .int .u64 0, .map none] 121)).alloc (.map #[] 0)).frozen? ⟨w.heap.size, j, none⟩ = false := by
  have h1 := box_new w 121 (.int .u64 0) (.int .u64 0) (.map none)
  have h2 : w.heap.size < (w.alloc (.cells #[.int .u64 0, .int .u64 0, .map none] 121)).heap.size := by simp
  have h3 : ∀ j, (w.alloc (.cells #[.int .u64 0, .int .u64 0, .map none] 121)).frozen? ⟨w.heap.size, j, none⟩ = false := fun j => frozen_of_row _ _ _ _ _ (heap_alloc_new w _)
  have h4 : Below w.heap.size w (w.alloc (.cells #[.int .u64 0, .int .u64 0, .map none] 121)) := (Below.refl _ _).alloc (Nat.le_refl _) _
  have h5 : (w.alloc (.cells #[.int .u64 0, .int .u64 0, .map none] 121)).heap.size = w.heap.size + 1 := by simp
  generalize w.alloc (.cells #[.int .u64 0, .int .u64 0, .map none] 121) = w1 at h1 h2 h3 h4 h5 ⊢
  have hb : Below w1.heap.size w1 (w1.alloc (.map #[] 0)) := (Below.refl _ _).alloc (Nat.le_refl _) _
  refine ⟨NMapAt.new w1, (h1.below hb).2, h4.trans (hb.mono (by omega)), fun j => ?_⟩
  rw [hb.frozen (p := ⟨w.heap.size, j, none⟩) h2]
  exact h3 j
theorem keep3 {w : World} {B : Nat} {l : List (ByteArray × Nat)} {j1 j2 j3 : Nat} {x y z : Value} (h : NMapAt w (B + 1) l) : NMapAt (((w.setCell ⟨B, j1, none⟩ x).setCell ⟨B, j2, none⟩ y).setCell ⟨B, j3, none⟩ z) (B + 1) l := by
  unfold NMapAt at *
  rw [heap_setCell_other _ _ _ _ (by show B + 1 ≠ B; omega), heap_setCell_other _ _ _ _ (by show B + 1 ≠ B; omega), heap_setCell_other _ _ _ _ (by show B + 1 ≠ B; omega)]
  exact h
set_option maxHeartbeats 2000000 in
set_option maxRecDepth 100000 in
theorem dow_any (w : World) :
    Calls Tryz.prog 68 #[] w fun e w' => ∃ m, e = .returned (.agg #[.int .u64 0, .int .u64 6, .map (some m)]) ∧ NMapAt w' m dayNames ∧ w.heap.size ≤ m ∧ Below w.heap.size w w' := by
  have HS := Lib.hid (start w)
  have hm0 := Lib.hid HS.out.1
  have hb0 := Lib.hid (Below.refl (w.heap.size + 1) ((w.alloc (.cells #[.int .u64 0, .int .u64 0, .map none] 121)).alloc (.map #[] 0)))
  go_enter Tryz.func68, Tryz.ntmps68
  go_wp2_with (first
    | (with_reducible refine wpList_makeMap rfl rfl ?_)
    | (with_reducible refine wpList_insert rfl (.tmp 1) (.const (.string ⟨#[115, 117, 110]⟩)) (.const (.int .u64 0)) rfl _ [] ⟨#[115, 117, 110]⟩ 0 rfl rfl rfl hm0.out rfl ?_; intro w1 hn1 hg1; (have hm1 := Lib.hid hn1); (have hb1 := Lib.hid (step hm0.out (by simp) hb0.out hg1)); clear hn1 hg1)
    | (with_reducible refine wpList_insert rfl (.tmp 1) (.const (.string ⟨#[109, 111, 110]⟩)) (.const (.int .u64 1)) rfl _ [(⟨#[115, 117, 110]⟩, 0)] ⟨#[109, 111, 110]⟩ 1 rfl rfl rfl hm1.out rfl ?_; intro w2 hn2 hg2; (have hm2 := Lib.hid hn2); (have hb2 := Lib.hid (step hm1.out (by simp) hb1.out hg2)); clear hn2 hg2)
    | (with_reducible refine wpList_insert rfl (.tmp 1) (.const (.string ⟨#[116, 117, 101]⟩)) (.const (.int .u64 2)) rfl _ [(⟨#[115, 117, 110]⟩, 0), (⟨#[109, 111, 110]⟩, 1)] ⟨#[116, 117, 101]⟩ 2 rfl rfl rfl hm2.out rfl ?_; intro w3 hn3 hg3; (have hm3 := Lib.hid hn3); (have hb3 := Lib.hid (step hm2.out (by simp) hb2.out hg3)); clear hn3 hg3)
    | (with_reducible refine wpList_insert rfl (.tmp 1) (.const (.string ⟨#[119, 101, 100]⟩)) (.const (.int .u64 3)) rfl _ [(⟨#[115, 117, 110]⟩, 0), (⟨#[109, 111, 110]⟩, 1), (⟨#[116, 117, 101]⟩, 2)] ⟨#[119, 101, 100]⟩ 3 rfl rfl rfl hm3.out rfl ?_; intro w4 hn4 hg4; (have hm4 := Lib.hid hn4); (have hb4 := Lib.hid (step hm3.out (by simp) hb3.out hg4)); clear hn4 hg4)
    | (with_reducible refine wpList_insert rfl (.tmp 1) (.const (.string ⟨#[116, 104, 117]⟩)) (.const (.int .u64 4)) rfl _ [(⟨#[115, 117, 110]⟩, 0), (⟨#[109, 111, 110]⟩, 1), (⟨#[116, 117, 101]⟩, 2), (⟨#[119, 101, 100]⟩, 3)] ⟨#[116, 104, 117]⟩ 4 rfl rfl rfl hm4.out rfl ?_; intro w5 hn5 hg5; (have hm5 := Lib.hid hn5); (have hb5 := Lib.hid (step hm4.out (by simp) hb4.out hg5)); clear hn5 hg5)
    | (with_reducible refine wpList_insert rfl (.tmp 1) (.const (.string ⟨#[102, 114, 105]⟩)) (.const (.int .u64 5)) rfl _ [(⟨#[115, 117, 110]⟩, 0), (⟨#[109, 111, 110]⟩, 1), (⟨#[116, 117, 101]⟩, 2), (⟨#[119, 101, 100]⟩, 3), (⟨#[116, 104, 117]⟩, 4)] ⟨#[102, 114, 105]⟩ 5 rfl rfl rfl hm5.out rfl ?_; intro w6 hn6 hg6; (have hm6 := Lib.hid hn6); (have hb6 := Lib.hid (step hm5.out (by simp) hb5.out hg6)); clear hn6 hg6)
    | (with_reducible refine wpList_insert rfl (.tmp 1) (.const (.string ⟨#[115, 97, 116]⟩)) (.const (.int .u64 6)) rfl _ [(⟨#[115, 117, 110]⟩, 0), (⟨#[109, 111, 110]⟩, 1), (⟨#[116, 117, 101]⟩, 2), (⟨#[119, 101, 100]⟩, 3), (⟨#[116, 104, 117]⟩, 4), (⟨#[102, 114, 105]⟩, 5)] ⟨#[115, 97, 116]⟩ 6 rfl rfl rfl hm6.out rfl ?_; intro w7 hn7 hg7; (have hm7 := Lib.hid hn7); (have hb7 := Lib.hid (step hm6.out (by simp) hb6.out hg7)); clear hn7 hg7; (have hc0 := (hb7.out.cell (p := ⟨w.heap.size, 0, none⟩) (Nat.lt_succ_self _)).trans HS.out.2.1.1); (have hc1 := (hb7.out.cell (p := ⟨w.heap.size, 1, none⟩) (Nat.lt_succ_self _)).trans HS.out.2.1.2.1); (have hc2 := (hb7.out.cell (p := ⟨w.heap.size, 2, none⟩) (Nat.lt_succ_self _)).trans HS.out.2.1.2.2); (have hf0 := (hb7.out.frozen (p := ⟨w.heap.size, 0, none⟩) (Nat.lt_succ_self _)).trans (HS.out.2.2.2 0)); (have hf1 := (hb7.out.frozen (p := ⟨w.heap.size, 1, none⟩) (Nat.lt_succ_self _)).trans (HS.out.2.2.2 1)); (have hf2 := (hb7.out.frozen (p := ⟨w.heap.size, 2, none⟩) (Nat.lt_succ_self _)).trans (HS.out.2.2.2 2))))
  refine bodyPost_ret (v := .agg #[.int .u64 0, .int .u64 6, .map (some (w.heap.size + 1))]) ?hres rfl ?_
  case hres => simp [results, Tryz.results68, go_sem, *]
  exact ⟨_, rfl, keep3 (B := w.heap.size) (by have h := hm7.out; rw [show (w.alloc (.cells #[.int .u64 0, .int .u64 0, .map none] 121)).heap.size = w.heap.size + 1 by simp] at h; exact h), Nat.le_succ _, (((HS.out.2.2.1.trans (hb7.out.mono (by omega))).setCell (Nat.le_refl _) _).setCell (Nat.le_refl _) _).setCell (Nat.le_refl _) _⟩
set_option maxHeartbeats 2000000 in
set_option maxRecDepth 100000 in
theorem months_any (w : World) :
    Calls Tryz.prog 67 #[] w fun e w' => ∃ m, e = .returned (.agg #[.int .u64 1, .int .u64 12, .map (some m)]) ∧ NMapAt w' m monthNames ∧ w.heap.size ≤ m ∧ Below w.heap.size w w' := by
  have HS := Lib.hid (start w)
  have hm0 := Lib.hid HS.out.1
  have hb0 := Lib.hid (Below.refl (w.heap.size + 1) ((w.alloc (.cells #[.int .u64 0, .int .u64 0, .map none] 121)).alloc (.map #[] 0)))
  go_enter Tryz.func67, Tryz.ntmps67
  go_wp2_with (first
    | (with_reducible refine wpList_makeMap rfl rfl ?_)
    | (with_reducible refine wpList_insert rfl (.tmp 1) (.const (.string ⟨#[106, 97, 110]⟩)) (.const (.int .u64 1)) rfl _ [] ⟨#[106, 97, 110]⟩ 1 rfl rfl rfl hm0.out rfl ?_; intro w1 hn1 hg1; (have hm1 := Lib.hid hn1); (have hb1 := Lib.hid (step hm0.out (by simp) hb0.out hg1)); clear hn1 hg1)
    | (with_reducible refine wpList_insert rfl (.tmp 1) (.const (.string ⟨#[102, 101, 98]⟩)) (.const (.int .u64 2)) rfl _ [(⟨#[106, 97, 110]⟩, 1)] ⟨#[102, 101, 98]⟩ 2 rfl rfl rfl hm1.out rfl ?_; intro w2 hn2 hg2; (have hm2 := Lib.hid hn2); (have hb2 := Lib.hid (step hm1.out (by simp) hb1.out hg2)); clear hn2 hg2)
    | (with_reducible refine wpList_insert rfl (.tmp 1) (.const (.string ⟨#[109, 97, 114]⟩)) (.const (.int .u64 3)) rfl _ [(⟨#[106, 97, 110]⟩, 1), (⟨#[102, 101, 98]⟩, 2)] ⟨#[109, 97, 114]⟩ 3 rfl rfl rfl hm2.out rfl ?_; intro w3 hn3 hg3; (have hm3 := Lib.hid hn3); (have hb3 := Lib.hid (step hm2.out (by simp) hb2.out hg3)); clear hn3 hg3)
    | (with_reducible refine wpList_insert rfl (.tmp 1) (.const (.string ⟨#[97, 112, 114]⟩)) (.const (.int .u64 4)) rfl _ [(⟨#[106, 97, 110]⟩, 1), (⟨#[102, 101, 98]⟩, 2), (⟨#[109, 97, 114]⟩, 3)] ⟨#[97, 112, 114]⟩ 4 rfl rfl rfl hm3.out rfl ?_; intro w4 hn4 hg4; (have hm4 := Lib.hid hn4); (have hb4 := Lib.hid (step hm3.out (by simp) hb3.out hg4)); clear hn4 hg4)
    | (with_reducible refine wpList_insert rfl (.tmp 1) (.const (.string ⟨#[109, 97, 121]⟩)) (.const (.int .u64 5)) rfl _ [(⟨#[106, 97, 110]⟩, 1), (⟨#[102, 101, 98]⟩, 2), (⟨#[109, 97, 114]⟩, 3), (⟨#[97, 112, 114]⟩, 4)] ⟨#[109, 97, 121]⟩ 5 rfl rfl rfl hm4.out rfl ?_; intro w5 hn5 hg5; (have hm5 := Lib.hid hn5); (have hb5 := Lib.hid (step hm4.out (by simp) hb4.out hg5)); clear hn5 hg5)
    | (with_reducible refine wpList_insert rfl (.tmp 1) (.const (.string ⟨#[106, 117, 110]⟩)) (.const (.int .u64 6)) rfl _ [(⟨#[106, 97, 110]⟩, 1), (⟨#[102, 101, 98]⟩, 2), (⟨#[109, 97, 114]⟩, 3), (⟨#[97, 112, 114]⟩, 4), (⟨#[109, 97, 121]⟩, 5)] ⟨#[106, 117, 110]⟩ 6 rfl rfl rfl hm5.out rfl ?_; intro w6 hn6 hg6; (have hm6 := Lib.hid hn6); (have hb6 := Lib.hid (step hm5.out (by simp) hb5.out hg6)); clear hn6 hg6)
    | (with_reducible refine wpList_insert rfl (.tmp 1) (.const (.string ⟨#[106, 117, 108]⟩)) (.const (.int .u64 7)) rfl _ [(⟨#[106, 97, 110]⟩, 1), (⟨#[102, 101, 98]⟩, 2), (⟨#[109, 97, 114]⟩, 3), (⟨#[97, 112, 114]⟩, 4), (⟨#[109, 97, 121]⟩, 5), (⟨#[106, 117, 110]⟩, 6)] ⟨#[106, 117, 108]⟩ 7 rfl rfl rfl hm6.out rfl ?_; intro w7 hn7 hg7; (have hm7 := Lib.hid hn7); (have hb7 := Lib.hid (step hm6.out (by simp) hb6.out hg7)); clear hn7 hg7)
    | (with_reducible refine wpList_insert rfl (.tmp 1) (.const (.string ⟨#[97, 117, 103]⟩)) (.const (.int .u64 8)) rfl _ [(⟨#[106, 97, 110]⟩, 1), (⟨#[102, 101, 98]⟩, 2), (⟨#[109, 97, 114]⟩, 3), (⟨#[97, 112, 114]⟩, 4), (⟨#[109, 97, 121]⟩, 5), (⟨#[106, 117, 110]⟩, 6), (⟨#[106, 117, 108]⟩, 7)] ⟨#[97, 117, 103]⟩ 8 rfl rfl rfl hm7.out rfl ?_; intro w8 hn8 hg8; (have hm8 := Lib.hid hn8); (have hb8 := Lib.hid (step hm7.out (by simp) hb7.out hg8)); clear hn8 hg8)
    | (with_reducible refine wpList_insert rfl (.tmp 1) (.const (.string ⟨#[115, 101, 112]⟩)) (.const (.int .u64 9)) rfl _ [(⟨#[106, 97, 110]⟩, 1), (⟨#[102, 101, 98]⟩, 2), (⟨#[109, 97, 114]⟩, 3), (⟨#[97, 112, 114]⟩, 4), (⟨#[109, 97, 121]⟩, 5), (⟨#[106, 117, 110]⟩, 6), (⟨#[106, 117, 108]⟩, 7), (⟨#[97, 117, 103]⟩, 8)] ⟨#[115, 101, 112]⟩ 9 rfl rfl rfl hm8.out rfl ?_; intro w9 hn9 hg9; (have hm9 := Lib.hid hn9); (have hb9 := Lib.hid (step hm8.out (by simp) hb8.out hg9)); clear hn9 hg9)
    | (with_reducible refine wpList_insert rfl (.tmp 1) (.const (.string ⟨#[111, 99, 116]⟩)) (.const (.int .u64 10)) rfl _ [(⟨#[106, 97, 110]⟩, 1), (⟨#[102, 101, 98]⟩, 2), (⟨#[109, 97, 114]⟩, 3), (⟨#[97, 112, 114]⟩, 4), (⟨#[109, 97, 121]⟩, 5), (⟨#[106, 117, 110]⟩, 6), (⟨#[106, 117, 108]⟩, 7), (⟨#[97, 117, 103]⟩, 8), (⟨#[115, 101, 112]⟩, 9)] ⟨#[111, 99, 116]⟩ 10 rfl rfl rfl hm9.out rfl ?_; intro w10 hn10 hg10; (have hm10 := Lib.hid hn10); (have hb10 := Lib.hid (step hm9.out (by simp) hb9.out hg10)); clear hn10 hg10)
    | (with_reducible refine wpList_insert rfl (.tmp 1) (.const (.string ⟨#[110, 111, 118]⟩)) (.const (.int .u64 11)) rfl _ [(⟨#[106, 97, 110]⟩, 1), (⟨#[102, 101, 98]⟩, 2), (⟨#[109, 97, 114]⟩, 3), (⟨#[97, 112, 114]⟩, 4), (⟨#[109, 97, 121]⟩, 5), (⟨#[106, 117, 110]⟩, 6), (⟨#[106, 117, 108]⟩, 7), (⟨#[97, 117, 103]⟩, 8), (⟨#[115, 101, 112]⟩, 9), (⟨#[111, 99, 116]⟩, 10)] ⟨#[110, 111, 118]⟩ 11 rfl rfl rfl hm10.out rfl ?_; intro w11 hn11 hg11; (have hm11 := Lib.hid hn11); (have hb11 := Lib.hid (step hm10.out (by simp) hb10.out hg11)); clear hn11 hg11)
    | (with_reducible refine wpList_insert rfl (.tmp 1) (.const (.string ⟨#[100, 101, 99]⟩)) (.const (.int .u64 12)) rfl _ [(⟨#[106, 97, 110]⟩, 1), (⟨#[102, 101, 98]⟩, 2), (⟨#[109, 97, 114]⟩, 3), (⟨#[97, 112, 114]⟩, 4), (⟨#[109, 97, 121]⟩, 5), (⟨#[106, 117, 110]⟩, 6), (⟨#[106, 117, 108]⟩, 7), (⟨#[97, 117, 103]⟩, 8), (⟨#[115, 101, 112]⟩, 9), (⟨#[111, 99, 116]⟩, 10), (⟨#[110, 111, 118]⟩, 11)] ⟨#[100, 101, 99]⟩ 12 rfl rfl rfl hm11.out rfl ?_; intro w12 hn12 hg12; (have hm12 := Lib.hid hn12); (have hb12 := Lib.hid (step hm11.out (by simp) hb11.out hg12)); clear hn12 hg12; (have hc0 := (hb12.out.cell (p := ⟨w.heap.size, 0, none⟩) (Nat.lt_succ_self _)).trans HS.out.2.1.1); (have hc1 := (hb12.out.cell (p := ⟨w.heap.size, 1, none⟩) (Nat.lt_succ_self _)).trans HS.out.2.1.2.1); (have hc2 := (hb12.out.cell (p := ⟨w.heap.size, 2, none⟩) (Nat.lt_succ_self _)).trans HS.out.2.1.2.2); (have hf0 := (hb12.out.frozen (p := ⟨w.heap.size, 0, none⟩) (Nat.lt_succ_self _)).trans (HS.out.2.2.2 0)); (have hf1 := (hb12.out.frozen (p := ⟨w.heap.size, 1, none⟩) (Nat.lt_succ_self _)).trans (HS.out.2.2.2 1)); (have hf2 := (hb12.out.frozen (p := ⟨w.heap.size, 2, none⟩) (Nat.lt_succ_self _)).trans (HS.out.2.2.2 2))))
  refine bodyPost_ret (v := .agg #[.int .u64 1, .int .u64 12, .map (some (w.heap.size + 1))]) ?hres rfl ?_
  case hres => simp [results, Tryz.results67, go_sem, *]
  exact ⟨_, rfl, keep3 (B := w.heap.size) (by have h := hm12.out; rw [show (w.alloc (.cells #[.int .u64 0, .int .u64 0, .map none] 121)).heap.size = w.heap.size + 1 by simp] at h; exact h), Nat.le_succ _, (((HS.out.2.2.1.trans (hb12.out.mono (by omega))).setCell (Nat.le_refl _) _).setCell (Nat.le_refl _) _).setCell (Nat.le_refl _) _⟩
end Go.Proofs.YtmnjmhlodbifjaaGreatDoor.Names
namespace Go.Proofs.YtmnjmhlodbifjaaGreatDoor.NamesAt
open Go Go.RowKit Go.Proofs.YtmnjmhlodbifjaaGreatDoor.Err Go.Proofs.YtmnjmhlodbifjaaGreatDoor.NumPure Go.Proofs.YtmnjmhlodbifjaaGreatDoor.Atoi Go.Proofs.YtmnjmhlodbifjaaGreatDoor.SplitPure Go.Proofs.YtmnjmhlodbifjaaGreatDoor.NameMap Go.Proofs.YtmnjmhlodbifjaaGreatDoor.Names Go.Proofs.YtmnjmhlodbifjaaGreatDoor.Range Go.Proofs.YtmnjmhlodbifjaaGreatDoor.Lower
def nameOr (l : List (ByteArray × Nat)) (t : List UInt8) : Option Nat :=
  match nlook l (ofL (lower (ofL t))) with
  | some v => some v
  | none => numberOf t
set_option maxHeartbeats 1000000 in
theorem names_map (w : World) (b : Nat) (l : List (ByteArray × Nat)) (hm : NMapAt w b l) (hl : ∀ s v, nlook l s = some v → v ≤ 9223372036854775807) (hv : ErrVars w) : NamesAt w (.map (some b)) (nameOr l) := by
  refine ⟨fun t n h => ?_, fun w' hb s hs => ?_⟩
  · unfold nameOr at h
    split at h
    · rename_i v hv'; cases h; exact hl _ _ hv'
    · exact numberOf_le h
  · have hv' := Lib.hid (hv.below hb)
    have hm' := Lib.hid (hm.below hb hm.lt)
    have HL := Lib.hid (fun w => lower_any s w hs)
    clear hb hv hm hl
    have qT : ∀ (w : World), (binOp .neq 119 (.map (some b)) (.map none)).run Tryz.prog w = .ok (.bool true) w := fun w => run_neq_map_nil w _ _ _ (some b) Tryz.underlying119
    cases hf : nlook l (ofL (lower s)) with
    | some v =>
      have HR : Hid (nameOr l s.data.toList = some v) := Lib.hid (by unfold nameOr; rw [ofL_toList, hf])
      go_enter Tryz.func129, Tryz.ntmps129
      go_wp2_with (first
        | (go_at_call 146; refine (HL.out _).mono ?_; rintro e w1 ⟨rfl, hb1⟩)
        | (with_reducible refine wpList_lookup rfl (.tmp 11) (.tmp 13) rfl b l (ofL (lower s)) rfl rfl (by exact hm'.out.below hb1 hm'.out.lt) ?_; rw [hf]; unfold found))
      go_ret2
      exact ⟨by rw [HR.out]; rfl, hb1⟩
    | none =>
      have HR : Hid (nameOr l s.data.toList = numberOf s.data.toList) := Lib.hid (by unfold nameOr; rw [ofL_toList, hf])
      cases h : numberOf s.data.toList with
      | some n =>
        go_enter Tryz.func129, Tryz.ntmps129
        go_wp2_with (first
          | (go_at_call 146; refine (HL.out _).mono ?_; rintro e w1 ⟨rfl, hb1⟩)
          | (with_reducible refine wpList_lookup rfl (.tmp 11) (.tmp 13) rfl b l (ofL (lower s)) rfl rfl (by exact hm'.out.below hb1 hm'.out.lt) ?_; rw [hf]; unfold found)
          | (go_at_call 130; refine (must_ok s n _ (by omega) h).mono ?_; rintro e w2 ⟨rfl, hb2⟩))
        go_ret2
        exact ⟨by rw [HR.out, h]; rfl, hb1.trans (hb2.mono hb1.size)⟩
      | none =>
        go_enter Tryz.func129, Tryz.ntmps129
        go_wp2_with (first
          | (go_at_call 146; refine (HL.out _).mono ?_; rintro e w1 ⟨rfl, hb1⟩)
          | (with_reducible refine wpList_lookup rfl (.tmp 11) (.tmp 13) rfl b l (ofL (lower s)) rfl rfl (by exact hm'.out.below hb1 hm'.out.lt) ?_; rw [hf]; unfold found)
          | (go_at_call 130; refine (must_bad s _ (hv'.out.below hb1) (by omega) h).mono ?_; rintro e w2 ⟨⟨T, p, rfl⟩, hb2⟩))
        go_ret2
        exact ⟨by rw [HR.out, h]; exact ⟨_, _, rfl⟩, hb1.trans (hb2.mono hb1.size)⟩
end Go.Proofs.YtmnjmhlodbifjaaGreatDoor.NamesAt
namespace Go.Proofs.YtmnjmhlodbifjaaGreatDoor.Kind
open Go Go.RowKit Go.Proofs.YtmnjmhlodbifjaaGreatDoor.Err Go.Proofs.YtmnjmhlodbifjaaGreatDoor.NumPure Go.Proofs.YtmnjmhlodbifjaaGreatDoor.NameMap Go.Proofs.YtmnjmhlodbifjaaGreatDoor.Names Go.Proofs.YtmnjmhlodbifjaaGreatDoor.NamesAt Go.Proofs.YtmnjmhlodbifjaaGreatDoor.Range
def lowOf (kind : Nat) : Nat := if kind = 3 ∨ kind = 4 then 1 else 0
def highOf (kind : Nat) : Nat := match kind with
  | 2 => 23
  | 3 => 31
  | 4 => 12
  | 5 => 6
  | _ => 59
theorem seconds_any (w : World) :
    Calls Tryz.prog 63 #[] w fun e w' => e = .returned (.agg #[.int .u64 0, .int .u64 59, .map none]) ∧ Below w.heap.size w w' := by
  go_enter Tryz.func63, Tryz.ntmps63
  go_wp2
  exact bodyPost_ret (v := .agg #[.int .u64 0, .int .u64 59, .map none]) (by simp [results, Tryz.results63, go_sem]) rfl ⟨rfl, (Below.refl _ _).alloc (Nat.le_refl _) _⟩
theorem minutes_any (w : World) :
    Calls Tryz.prog 64 #[] w fun e w' => e = .returned (.agg #[.int .u64 0, .int .u64 59, .map none]) ∧ Below w.heap.size w w' := by
  go_enter Tryz.func64, Tryz.ntmps64
  go_wp2
  exact bodyPost_ret (v := .agg #[.int .u64 0, .int .u64 59, .map none]) (by simp [results, Tryz.results64, go_sem]) rfl ⟨rfl, (Below.refl _ _).alloc (Nat.le_refl _) _⟩
theorem hours_any (w : World) :
    Calls Tryz.prog 65 #[] w fun e w' => e = .returned (.agg #[.int .u64 0, .int .u64 23, .map none]) ∧ Below w.heap.size w w' := by
  go_enter Tryz.func65, Tryz.ntmps65
  go_wp2
  exact bodyPost_ret (v := .agg #[.int .u64 0, .int .u64 23, .map none]) (by simp [results, Tryz.results65, go_sem]) rfl ⟨rfl, (Below.refl _ _).alloc (Nat.le_refl _) _⟩
theorem dom_any (w : World) :
    Calls Tryz.prog 66 #[] w fun e w' => e = .returned (.agg #[.int .u64 1, .int .u64 31, .map none]) ∧ Below w.heap.size w w' := by
  go_enter Tryz.func66, Tryz.ntmps66
  go_wp2
  exact bodyPost_ret (v := .agg #[.int .u64 1, .int .u64 31, .map none]) (by simp [results, Tryz.results66, go_sem]) rfl ⟨rfl, (Below.refl _ _).alloc (Nat.le_refl _) _⟩
def valOf (kind : Nat) : List UInt8 → Option Nat := if kind = 4 then nameOr monthNames else if kind = 5 then nameOr dayNames else numberOf
theorem nlook_le (l : List (ByteArray × Nat)) (hl : ∀ p ∈ l, p.2 ≤ 12) : ∀ s v, nlook l s = some v → v ≤ 9223372036854775807 := by
  intro s v
  induction l with
  | nil => intro h; cases h
  | cons p r ih =>
    obtain ⟨t, n⟩ := p
    intro h
    unfold nlook at h
    split at h
    · have h2 := hl (t, n) (by simp)
      cases h
      simp only at h2; omega
    · exact ih (fun q hq => hl q (by simp [hq])) h
def BoundsRes (kind : Nat) (e : Ending) (w' : World) : Prop := ∃ m, e = .returned (.agg #[.int .u64 (lowOf kind : Int), .int .u64 (highOf kind : Int), m]) ∧ NamesAt w' m (valOf kind)
theorem seconds_b (w : World) (hv : ErrVars w) : Calls Tryz.prog 63 #[] w fun e w' => BoundsRes 0 e w' ∧ Below w.heap.size w w' := by
  refine (seconds_any w).mono ?_
  rintro e w' ⟨rfl, hb⟩
  exact ⟨⟨_, rfl, names_none w' (hv.below hb)⟩, hb⟩
theorem minutes_b (w : World) (hv : ErrVars w) : Calls Tryz.prog 64 #[] w fun e w' => BoundsRes 1 e w' ∧ Below w.heap.size w w' := by
  refine (minutes_any w).mono ?_
  rintro e w' ⟨rfl, hb⟩
  exact ⟨⟨_, rfl, names_none w' (hv.below hb)⟩, hb⟩
theorem hours_b (w : World) (hv : ErrVars w) : Calls Tryz.prog 65 #[] w fun e w' => BoundsRes 2 e w' ∧ Below w.heap.size w w' := by
  refine (hours_any w).mono ?_
  rintro e w' ⟨rfl, hb⟩
  exact ⟨⟨_, rfl, names_none w' (hv.below hb)⟩, hb⟩
theorem dom_b (w : World) (hv : ErrVars w) : Calls Tryz.prog 66 #[] w fun e w' => BoundsRes 3 e w' ∧ Below w.heap.size w w' := by
  refine (dom_any w).mono ?_
  rintro e w' ⟨rfl, hb⟩
  exact ⟨⟨_, rfl, names_none w' (hv.below hb)⟩, hb⟩
theorem months_b (w : World) (hv : ErrVars w) : Calls Tryz.prog 67 #[] w fun e w' => BoundsRes 4 e w' ∧ Below w.heap.size w w' := by
  refine (months_any w).mono ?_
  rintro e w' ⟨m, rfl, hm, -, hb⟩
  exact ⟨⟨_, rfl, names_map w' m monthNames hm (nlook_le _ (by decide)) (hv.below hb)⟩, hb⟩
theorem dow_b (w : World) (hv : ErrVars w) : Calls Tryz.prog 68 #[] w fun e w' => BoundsRes 5 e w' ∧ Below w.heap.size w w' := by
  refine (dow_any w).mono ?_
  rintro e w' ⟨m, rfl, hm, -, hb⟩
  exact ⟨⟨_, rfl, names_map w' m dayNames hm (nlook_le _ (by decide)) (hv.below hb)⟩, hb⟩
theorem low_high5 (kind : Nat) (hk : kind ≤ 5) : lowOf kind ≤ highOf kind ∧ highOf kind ≤ 62 := by
  have h : kind = 0 ∨ kind = 1 ∨ kind = 2 ∨ kind = 3 ∨ kind = 4 ∨ kind = 5 := by omega
  rcases h with rfl | rfl | rfl | rfl | rfl | rfl <;> decide
end Go.Proofs.YtmnjmhlodbifjaaGreatDoor.Kind
