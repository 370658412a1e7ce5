/- cron's getField: the union of a list's items; conditions: bounds within 0 to 62, texts of at most 65536 bytes, strconv's sentinels hold something. · The function value in cron's Parse that reads one field. Conditions: bounds within 0 to 62, texts of at most 65536 bytes, strconv's sentinels hold something. -/
import Derived.Test.YtmnjmhlodbifjaaGreatDoorR8
import Derived.Test.YtmnjmhlodbifjaaGreatDoorR3
import Derived.Test.YtmnjmhlodbifjaaGreatDoorR6
import Derived.Test.YtmnjmhlodbifjaaGreatDoorR2

namespace Go.Proofs.YtmnjmhlodbifjaaGreatDoor.Field
open Go.RowKit Go.Proofs.YtmnjmhlodbifjaaGreatDoor.Err Go.Proofs.YtmnjmhlodbifjaaGreatDoor.NumPure Go.Proofs.YtmnjmhlodbifjaaGreatDoor.Split Go.Proofs.YtmnjmhlodbifjaaGreatDoor.SplitPure Go.Proofs.YtmnjmhlodbifjaaGreatDoor.Bits Go.Proofs.YtmnjmhlodbifjaaGreatDoor.Range Go.Proofs.YtmnjmhlodbifjaaGreatDoor.FieldPure
def orOf (lo hi : Nat) (val : List UInt8 → Option Nat) : List (List UInt8) → Int → Option Int
  | [], b => some b
  | p :: r, b => match rangeOf lo hi val p with
    | none => none
    | some c => orOf lo hi val r (Go.bits .or .u64 b c)
def FieldErr (r : Option Int) (e : Ending) : Prop :=
  match r with
  | some b => e = .returned (.tuple #[.int .u64 b, .nilIface])
  | none => ∃ x T p, e = .returned (.tuple #[.int .u64 x, .iface T p])
theorem comma_pays (w : World) : PredAtRunes Tryz.prog 99 #[] isComma w := by
  intro W x hx hb
  show Calls Tryz.prog 99 #[.int .i32 (x : Int)] W _
  have hq : ((x : Int) == 44) = isComma x := by unfold isComma; rw [Bool.eq_iff_iff, beq_iff_eq, beq_iff_eq]; omega
  go_enter Tryz.func99, Tryz.ntmps99
  go_wp2
  go_ret
  first
    | exact ⟨rfl, 0, rfl⟩
    | exact ⟨by rw [hq], 0, rfl⟩
    | exact ⟨by simp [hq], 0, rfl⟩
theorem strs_of {w : World} {A n : Nat} {base E : Nat} {ps : List (List UInt8)} (h : w.ownsRow base E 1 (.slice (some ⟨A, 0, none⟩) n n) n (strs ps)) : Strs w A ps := by
  rcases h.2 with ⟨h0, _⟩ | ⟨g, cap, cur, he, hb, hg, hle, hm, hcur, htake⟩
  · cases h0
  · cases he
    refine ⟨(Array.getElem?_eq_some_iff.1 hg).1, fun i p hp => ?_⟩
    have h2 := World.ownsRow.cells h (g := A) rfl i (.string (ofL p)) (by simp [strs, hp])
    rw [← h2]; congr 1; unfold Addr.add; split <;> simp_all
theorem full_le {l p : List UInt8} (h : p ∈ full l) : p.length ≤ l.length := by
  unfold full at h
  exact pieces_sum _ _ _ (List.mem_filter.1 h).1
theorem full_count (l : List UInt8) : (full l).length ≤ l.length + 1 := Nat.le_trans (List.length_filter_le _ _) (pieces_count _ _)
theorem fieldsFunc_any (s : ByteArray) (w : World) (hs : s.size ≤ 65536) :
    Calls Tryz.prog 98 #[.string s, .func (.func 99) #[] #[]] w fun e w' => ∃ A, e = .returned (.slice (some ⟨A, 0, none⟩) (full s.data.toList).length (full s.data.toList).length) ∧ w.heap.size ≤ A ∧
      Strs w' A (full s.data.toList) ∧ Below w.heap.size w w' := by
  refine (Tryz.strings_FieldsFunc_runes 99 #[] (enters_of Tryz.func99 (by kernel_rfl) rfl) isComma s w (by omega) (comma_pays w)).mono ?_
  rw [fields_full, List.length_map, List.map_map]
  rintro e w' ⟨A, rfl, hA, hown, hb⟩
  exact ⟨A, rfl, hA, strs_of hown, hb⟩
def Rel (lo hi : Nat) (m : Value) (val : List UInt8 → Option Nat) (ps : List (List UInt8)) (t : Option Int) (w0 : World) (A : Nat) (b i : Value) (wr : World) : Prop :=
  ∃ (k : Nat) (x : Int), i = .int .i64 (k : Int) ∧ b = .int .u64 x ∧ k ≤ ps.length ∧ orOf lo hi val (ps.drop k) x = t ∧
    Box wr w0.heap.size (.int .u64 (lo : Int)) (.int .u64 (hi : Int)) m ∧ Strs wr A ps ∧ Below w0.heap.size w0 wr
set_option maxHeartbeats 1000000 in
set_option maxRecDepth 100000 in
theorem field_any (s : ByteArray) (lo hi : Nat) (m : Value) (val : List UInt8 → Option Nat) (w : World) (hlo : lo ≤ hi) (hhi : hi ≤ 62) (hs : s.size ≤ 65536) (hv : ErrVars w) (hn : NamesAt w m val) :
    Calls Tryz.prog 62 #[.string s, .agg #[.int .u64 (lo : Int), .int .u64 (hi : Int), m]] w fun e w' => FieldErr (orOf lo hi val (full s.data.toList) 0) e ∧ Below w.heap.size w w' := by
  have HC := Lib.hid (fun w => fieldsFunc_any s w hs)
  have HL := Lib.hid (fun p (h : p ∈ full s.data.toList) => full_le h)
  have hcount := full_count s.data.toList
  rw [length_toList] at hcount
  have HV := Lib.hid hv
  have HN := Lib.hid hn
  clear hv hn
  obtain ⟨ps, Hps⟩ : ∃ ps, Hid (full s.data.toList = ps) := ⟨_, Lib.hid rfl⟩
  rw [Hps.out] at hcount ⊢
  rw [Hps.out] at HC HL
  obtain ⟨t, Ht⟩ : ∃ t, Hid (orOf lo hi val ps 0 = t) := ⟨_, Lib.hid rfl⟩
  rw [Ht.out]
  go_enter Tryz.func62, Tryz.ntmps62
  go_wp2_with (go_at_call 98; refine (HC.out _).mono ?_; rintro e w1 ⟨A, rfl, hA, hS, hb1⟩; (have HX := Lib.hid (And.intro ((box_new w _ (.int .u64 (lo : Int)) (.int .u64 (hi : Int)) m).below hb1) (And.intro hS (((Below.refl w.heap.size w).alloc (Nat.le_refl _) _).trans (hb1.mono (by simp)))))))
  go_loopw [4, 5, 6, 9, 10, 11, 16] (fun _ _ b _ _ _ i wr => Hid (Rel lo hi m val ps t w A b i wr) ∧ (∃ k : Nat, i = .int .i64 (k : Int) ∧ k ≤ ps.length) ∧ ∃ x, b = .int .u64 x) (fun _ _ _ _ _ _ i _ => ps.length - (intOf i).toNat)
  case atStart => exact ⟨Lib.hid ⟨0, 0, rfl, rfl, Nat.zero_le _, Ht.out, HX.out.1, HX.out.2.1, HX.out.2.2⟩, ⟨0, rfl, Nat.zero_le _⟩, 0, rfl⟩
  case round =>
    obtain ⟨⟨k, x, rfl, rfl, hk, HT, hbox, hS, hbel⟩, -⟩ := hrel
    have HT := Lib.hid HT
    by_cases hlt : k < ps.length
    · have hat : ps[k]? = some ps[k] := List.getElem?_eq_getElem hlt
      have hmem : ps[k] ∈ ps := List.getElem_mem hlt
      have hpl : (ofL ps[k]).size ≤ 65536 := by rw [size_ofL]; have := HL.out _ hmem; rw [length_toList] at this; omega
      have hck := hS.2 k _ hat
      have HR := Lib.hid (range_any (ofL ps[k]) lo hi m val wr hlo hhi hpl (HV.out.below hbel) (HN.out.below hbel))
      rw [toList_ofL] at HR
      have hd : ps.drop k = ps[k] :: ps.drop (k + 1) := List.drop_eq_getElem_cons hlt
      rw [hd] at HT
      obtain ⟨p, hp⟩ : ∃ p, ps[k] = p := ⟨_, rfl⟩
      rw [hp] at HT HR hck
      clear hd hat hmem hpl hp
      obtain ⟨hc0, hc1, hc2⟩ := hbox.2
      have HB := Lib.hid (And.intro hbox (And.intro hS hbel))
      have hAl := hS.1
      clear hbox hS hbel
      cases hr : rangeOf lo hi val p with
      | some c =>
        have HT2 : Hid (orOf lo hi val (ps.drop (k + 1)) (Go.bits .or .u64 x c) = t) := Lib.hid (by rw [← HT.out]; simp only [orOf, hr])
        rw [hr] at HR
        clear hr HT
        go_wp2_with (go_at_call 100; refine HR.out.mono ?_; rintro e w2 ⟨rfl, hb2⟩)
        go_roundw
        case rel => exact ⟨Lib.hid ⟨k + 1, _, by go_num, rfl, by omega, HT2.out, HB.out.1.below hb2, HB.out.2.1.below hb2, HB.out.2.2.trans (hb2.mono HB.out.2.2.size)⟩, ⟨k + 1, by go_num, by omega⟩, _, rfl⟩
        case measure => simp [intOf]; omega
      | none =>
        have HT2 : Hid (t = none) := Lib.hid (by rw [← HT.out]; simp only [orOf, hr])
        rw [hr] at HR
        clear hr HT
        go_wp2_with (go_at_call 100; refine HR.out.mono ?_; rintro e w2 ⟨⟨T, p, rfl⟩, hb2⟩)
        go_ret2
        exact ⟨by rw [HT2.out]; exact ⟨_, _, _, rfl⟩, HB.out.2.2.trans (hb2.mono HB.out.2.2.size)⟩
    · have HT2 : Hid (t = some x) := Lib.hid (by rw [← HT.out, List.drop_of_length_le (by omega)]; rfl)
      go_wp2
      go_ret2
      exact ⟨by rw [HT2.out]; rfl, hbel⟩
end Go.Proofs.YtmnjmhlodbifjaaGreatDoor.Field
namespace Go.Proofs.YtmnjmhlodbifjaaGreatDoor.FieldCall
open Go Go.RowKit Go.Proofs.YtmnjmhlodbifjaaGreatDoor.Mem Go.Proofs.YtmnjmhlodbifjaaGreatDoor.Aid Go.Proofs.YtmnjmhlodbifjaaGreatDoor.Err Go.Proofs.YtmnjmhlodbifjaaGreatDoor.NumPure Go.Proofs.YtmnjmhlodbifjaaGreatDoor.Range Go.Proofs.YtmnjmhlodbifjaaGreatDoor.FieldPure Go.Proofs.YtmnjmhlodbifjaaGreatDoor.Field
set_option linter.unusedVariables false
def Read (r : Option Int) (ge : Nat) (w : World) (e : Ending) (w' : World) : Prop :=
  ∃ x ev, e = .returned (.int .u64 x) ∧ Blk w' ge #[ev] ∧ (∀ B, B ≤ w.heap.size → B ≤ ge → Below B w w') ∧ (∀ b, b < w.heap.size → b ≠ ge → w'.heap[b]? = w.heap[b]?) ∧
    match r with
    | some v => x = v ∧ ev = .nilIface
    | none => ∃ T p, ev = .iface T p
theorem call_bad (ge : Nat) (s : ByteArray) (bd : Array Value) (a b c : Value) (hbd : bd = #[a, b, c]) (T : TypeId) (p : Value) (w : World) (hE : Blk w ge #[.iface T p]) :
    Calls Tryz.prog 61 #[.string s, .agg bd, .pointer (some ⟨ge, 0, none⟩)] w fun e w' => Read none ge w e w' := by
  subst hbd
  have hl := hE.lt
  have c1 := hE.cell (j := 0) (v := .iface T p) rfl
  have hne : ¬ ge = w.heap.size := by omega
  have HR : Hid (Read none ge w (.returned (.int .u64 0)) (w.alloc (.cells #[a, b, c] 121))) := Lib.hid ⟨0, _, rfl, hE.alloc _, fun B hB _ => ((Below.refl B w).alloc hB _), fun k hk _ => Below.heap_alloc w _ k hk, T, p, rfl⟩
  clear hE
  go_enter Tryz.func61, Tryz.ntmps61
  go_wp2
  go_ret
  exact HR.out
theorem call_good (ge : Nat) (s : ByteArray) (lo hi : Nat) (m : Value) (val : List UInt8 → Option Nat) (w : World) (hE : Blk w ge #[.nilIface]) (hlo : lo ≤ hi) (hhi : hi ≤ 62) (hs : s.size ≤ 65536) (hv : ErrVars w) (hn : NamesAt w m val) :
    Calls Tryz.prog 61 #[.string s, .agg #[.int .u64 (lo : Int), .int .u64 (hi : Int), m], .pointer (some ⟨ge, 0, none⟩)] w fun e w' => Read (orOf lo hi val (full s.data.toList) 0) ge w e w' := by
  have hl := hE.lt
  have c1 := hE.cell (j := 0) (v := .nilIface) rfl
  have hne : ¬ ge = w.heap.size := by omega
  have hA : Below w.heap.size w (w.alloc (.cells #[.int .u64 (lo : Int), .int .u64 (hi : Int), m] 121)) := (Below.refl _ w).alloc (Nat.le_refl _) _
  have HF := Lib.hid (field_any s lo hi m val _ hlo hhi hs (hv.below hA) (hn.below hA))
  have HA := Lib.hid hA
  have HE := Lib.hid (hE.alloc (.cells #[.int .u64 (lo : Int), .int .u64 (hi : Int), m] 121))
  obtain ⟨r, hr⟩ : ∃ r, orOf lo hi val (full s.data.toList) 0 = r := ⟨_, rfl⟩
  rw [hr] at HF ⊢
  have HW := Lib.hid (fun b (hb : b < w.heap.size) => Below.heap_alloc w (.cells #[.int .u64 (lo : Int), .int .u64 (hi : Int), m] 121) b hb)
  clear hr hE hn hv hA
  cases r with
  | some v =>
    go_enter Tryz.func61, Tryz.ntmps61
    go_wp2_with (go_at_call 62; refine HF.out.mono ?_; rintro e w1 ⟨he, hb1⟩; obtain rfl := he; have g1 := HE.out.after hb1; have c2 := g1.cell (j := 0) (v := .nilIface) rfl; have c3 := g1.free 0)
    go_ret
    exact ⟨v, .nilIface, rfl, g1.set 0 _, fun B hB hB2 => (((Below.refl B w).alloc hB _).trans (hb1.mono (by simp; omega))).setCell hB2 _, fun b hl hb => (heap_setCell_other _ _ b _ hb).trans ((hb1.block b (by simp; omega)).trans (HW.out b hl)), rfl, rfl⟩
  | none =>
    go_enter Tryz.func61, Tryz.ntmps61
    go_wp2_with (go_at_call 62; refine HF.out.mono ?_; rintro e w1 ⟨he, hb1⟩; obtain ⟨x, T, p, rfl⟩ := he; have g1 := HE.out.after hb1; have c2 := g1.cell (j := 0) (v := .nilIface) rfl; have c3 := g1.free 0)
    go_ret
    exact ⟨x, .iface T p, rfl, g1.set 0 _, fun B hB hB2 => (((Below.refl B w).alloc hB _).trans (hb1.mono (by simp; omega))).setCell hB2 _, fun b hl hb => (heap_setCell_other _ _ b _ hb).trans ((hb1.block b (by simp; omega)).trans (HW.out b hl)), T, p, rfl⟩
end Go.Proofs.YtmnjmhlodbifjaaGreatDoor.FieldCall
