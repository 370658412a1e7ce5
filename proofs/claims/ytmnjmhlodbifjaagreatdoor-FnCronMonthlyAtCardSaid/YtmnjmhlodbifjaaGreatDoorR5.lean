/- cron's zzIndex and zzSplit at a separator of one byte. Conditions: texts of at most 65536 bytes. · Plain lemmas on sets of bits: a number of 64 bits as the set of its bits. Conditions: none. · The contract of cron's getBits: the set of low, low + step, .. up to high; conditions: low to high within 0 to 63, a step of 1 to 2^63. -/
import Derived.Test.YtmnjmhlodbifjaaGreatDoorChecked
import Derived.Test.YtmnjmhlodbifjaaGreatDoorR2
import Derived.Test.YtmnjmhlodbifjaaGreatDoorR3
import Derived.ProofKit
import Derived.OpenShut
import Derived.Lib.Hide
import Derived.WalkSpells
import Derived.WalkKit

namespace Go.Proofs.YtmnjmhlodbifjaaGreatDoor.Split
open Go.RowKit Go.Proofs.YtmnjmhlodbifjaaGreatDoor.Mem Go.Proofs.YtmnjmhlodbifjaaGreatDoor.SplitPure
theorem take_snoc (s : ByteArray) (k : Nat) (h : k < s.size) : s.data.toList.take (k + 1) = s.data.toList.take k ++ [s[k]] := by
  rw [List.take_succ_eq_append_getElem (by simpa using h)]; rfl
theorem one_eq (s : ByteArray) (k : Nat) (h : k < s.size) : s.extract k (k + 1) = ⟨#[s[k]]⟩ := by
  rw [extract_sub, Nat.add_sub_cancel_left, List.drop_eq_getElem_cons (by simpa using h)]
  rfl
set_option maxHeartbeats 400000 in
theorem index_any (s : ByteArray) (c : UInt8) (w : World) (hs : s.size ≤ 65536) :
    Calls Tryz.prog 55 #[.string s, .string ⟨#[c]⟩] w fun e w' => e = .returned (.int .i64 (idxOf c s.data.toList)) ∧ w = w' := by
  have h1 : ((⟨#[c]⟩ : ByteArray).size) = 1 := rfl
  go_enter Tryz.func55, Tryz.ntmps55
  go_wp2
  go_loop [5] (fun i => ∃ k : Nat, k ≤ s.size ∧ i = .int .i64 k ∧ Hid (c ∉ s.data.toList.take k)) (fun i => s.size - (intOf i).toNat)
  case atStart => exact ⟨0, Nat.zero_le _, rfl, Lib.hid (by simp)⟩
  case round =>
    obtain ⟨k, hk, rfl, HN⟩ := hrel
    by_cases hlt : k < s.size
    · have hone : (s.extract k (k + 1)).toList = [s[k]] := by rw [ByteArray.toList_eq, one_eq s k hlt]
      have hat : s.data.toList[k]? = some s[k] := by rw [List.getElem?_eq_getElem (by simpa using hlt)]; rfl
      by_cases hc : s[k] = c
      · have hq : ((s.extract k (k + 1)).toList == [c]) = true := by rw [hone, hc]; simp
        have HF : Hid (idxOf c s.data.toList = (k : Int)) := Lib.hid (by
          have h2 := fstAt_at HN.out (by rw [hat, hc])
          rw [idxOf_some (by rw [h2]; simpa using hlt), h2])
        clear hone hat hc
        go_wp2
        go_ret
        exact ⟨by rw [HF.out]; rfl, rfl⟩
      · have hq : ((s.extract k (k + 1)).toList == [c]) = false := by rw [hone]; simpa using hc
        have HN2 : Hid (c ∉ s.data.toList.take (k + 1)) := Lib.hid (by
          rw [take_snoc s k hlt]; simp only [List.mem_append, not_or]; exact ⟨HN.out, by simpa using fun e => hc e.symm⟩)
        clear hone hat hc
        go_wp2
        go_round
        case rel => exact ⟨k + 1, by omega, by go_num, HN2⟩
        case measure => simp [intOf]; omega
    · have hdec : decide ((k : Int) + 1 ≤ (s.size : Int)) = false := decide_eq_false (by omega)
      have HF : Hid (idxOf c s.data.toList = -1) := Lib.hid (by
        have h2 := HN.out
        rw [List.take_of_length_le (by simp; omega)] at h2
        exact idxOf_none h2)
      go_wp2
      go_ret
      exact ⟨by rw [HF.out]; rfl, rfl⟩
def strSize : Value → Nat
  | .string s => s.size
  | _ => 0
def strs (ps : List (List UInt8)) : List Value := ps.map fun p => .string (ofL p)
theorem strs_append (a b : List (List UInt8)) : strs (a ++ b) = strs a ++ strs b := by simp [strs]
theorem strs_length (a : List (List UInt8)) : (strs a).length = a.length := by simp [strs]
theorem one_cell (w : World) (e : TypeId) (a : Value) : ∀ j u, [a][j]? = some u → (w.alloc (.cells #[a] e)).cell? ((⟨w.heap.size, 0, none⟩ : Addr).add j) = some u := by
  intro j u h
  have hh : (w.alloc (.cells #[a] e)).heap[w.heap.size]? = some (.cells #[a] e) := heap_alloc_new w _
  match j, h with
  | 0, h => simp at h; subst h; unfold World.cell?; simp only [Addr.add_lit, hh]; rfl
  | n + 1, h => simp at h
theorem Tryz.info9 : (Tryz.prog.info? 9).map (fun i => (i.zero, i.size, i.bytes)) = some (some (.string ⟨#[]⟩), 1, 16) := by kernel_rfl
def Strs (w : World) (g : Nat) (ps : List (List UInt8)) : Prop := g < w.heap.size ∧ ∀ (i : Nat) p, ps[i]? = some p → w.cell? ⟨g, i, none⟩ = some (.string (ofL p))
theorem Strs.below {w w' : World} {g : Nat} {ps : List (List UInt8)} (h : Strs w g ps) (hb : Below w.heap.size w w') : Strs w' g ps :=
  ⟨Nat.lt_of_lt_of_le h.1 hb.size, fun i p hp => (hb.cell (p := ⟨g, i, none⟩) h.1).trans (h.2 i p hp)⟩
theorem strs_of_owns {w : World} {base E n : Nat} {v : Value} {ps : List (List UInt8)} (h : w.ownsRow base E 1 v n (strs ps)) (hn : 0 < ps.length) :
    ∃ g cap, v = .slice (some ⟨g, 0, none⟩) ps.length cap ∧ ps.length ≤ cap ∧ base ≤ g ∧ Strs w g ps := by
  have hl : ps.length = n := by have := h.1; rw [strs_length] at this; omega
  rcases h.2 with ⟨_, h0⟩ | ⟨g, cap, cur, rfl, hb, hg, hle, hm, hcur, htake⟩
  · omega
  · subst hl
    refine ⟨g, cap, rfl, hle, hb, (Array.getElem?_eq_some_iff.1 hg).1, fun i p hp => ?_⟩
    have h2 := World.ownsRow.cells h (g := g) rfl i (.string (ofL p)) (by simp [strs, hp])
    rw [← h2]; congr 1; unfold Addr.add; split <;> simp_all
def Rel (s : ByteArray) (c : UInt8) (B : Nat) (w0 : World) (t v : Value) (wr : World) : Prop :=
  ∃ (u : ByteArray) (done : List (List UInt8)), t = .string u ∧ u.size + done.length ≤ s.size ∧ pieces c s.data.toList = done ++ pieces c u.data.toList ∧
    wr.ownsRow B 9 1 v done.length (strs done) ∧ Below B w0 wr
theorem rel_next (s : ByteArray) (c : UInt8) (u : ByteArray) (done : List (List UInt8)) (k : Nat) (w : World) (v' : Value) (w1 : World) (hlen : u.size + done.length ≤ s.size) (hk : k < u.size)
    (hf : fstAt c u.data.toList = k) (hp : pieces c s.data.toList = done ++ pieces c u.data.toList)
    (hst : pieces c u.data.toList = u.data.toList.take (fstAt c u.data.toList) :: pieces c (u.data.toList.drop (fstAt c u.data.toList + 1)))
    (hown : w1.ownsRow w.heap.size 9 1 v' (done.length + 1) (strs done ++ [.string (u.extract 0 k)])) (hb : Below w.heap.size w w1) :
    Rel s c w.heap.size w (.string (u.extract (k + 1) u.size)) v' w1 := by
  refine ⟨u.extract (k + 1) u.size, done ++ [u.data.toList.take k], rfl, by simp; omega, ?_, ?_, hb⟩
  · rw [hp, hst, hf, Lib.extract_to_end]; simp
  · rw [strs_append, List.length_append]
    simp only [strs, List.map_cons, List.map_nil, List.length_cons, List.length_nil]
    rw [extract_sub] at hown
    simpa [strs] using hown
set_option maxHeartbeats 1000000 in
set_option maxRecDepth 100000 in
theorem split_any (s : ByteArray) (c : UInt8) (w : World) (hs : s.size ≤ 65536) :
    Calls Tryz.prog 128 #[.string s, .string ⟨#[c]⟩] w fun e w' =>
      ∃ g cap, e = .returned (.slice (some ⟨g, 0, none⟩) (pieces c s.data.toList).length cap) ∧ (pieces c s.data.toList).length ≤ cap ∧ w.heap.size ≤ g ∧ Strs w' g (pieces c s.data.toList) ∧ Below w.heap.size w w' := by
  obtain ⟨i0, hi, hz0, hz1, hz2⟩ := info_parts Tryz.info9
  have hsep : ((⟨#[c]⟩ : ByteArray).size) = 1 := rfl
  go_enter Tryz.func128, Tryz.ntmps128
  go_wp2
  go_loopw [0, 5, 6] (fun t v _ wr => Hid (Rel s c w.heap.size w t v wr) ∧ ∃ u, t = .string u) (fun t _ _ _ => strSize t)
  case atStart => exact ⟨Lib.hid ⟨s, [], rfl, by simp, rfl, World.ownsRow_nil w _ _ _, Below.refl _ _⟩, s, rfl⟩
  case round =>
    obtain ⟨⟨u, done, rfl, hlen, HP, hown, hbel⟩, -⟩ := hrel
    have HP := Lib.hid HP
    have HB := Lib.hid hbel
    have hsz := hbel.size
    clear hbel
    by_cases hin : fstAt c u.data.toList < u.data.toList.length
    · have Hi := Lib.hid (idxOf_some hin)
      have Hst := Lib.hid (pieces_step hin)
      have hul := length_toList u
      obtain ⟨k, Hk⟩ : ∃ k, Hid (fstAt c u.data.toList = k) := ⟨_, Lib.hid rfl⟩
      have hk : k < u.size := by rw [← Hk.out, ← hul]; exact hin
      clear hul hin
      go_wp2_with (first
        | (go_at_call 55; refine (index_any u c _ (by omega)).mono ?_; rintro e w' ⟨rfl, rfl⟩; rw [Hi.out, Hk.out])
        | (at_builtin; refine wpList_append_own _ rfl (.tmp 16) (.tmp 20) 114 rfl w.heap.size 9 i0 (.string ⟨#[]⟩) 1 16 Tryz.underlying114 hi hz0 hz1 hz2 rfl (by decide) _ _ _ rfl (hown.alloc _) ⟨wr.heap.size, 0, none⟩ 1 1 [.string (u.extract 0 k)] rfl rfl (one_cell _ _ _) (by simp [Value.oneCell']) (by unfold maxLen; omega) (by omega) (by simp; omega) ?_; intro v' w1 hown1 hgrow1 _))
      have hb1 : Below w.heap.size w w1 := (HB.out.alloc HB.out.size _).grown hgrow1 (by have := HB.out.size; simp; omega) (fun j hj => (hown.lt j hj).1)
      have hr := rel_next s c u done k w v' w1 hlen hk Hk.out HP.out Hst.out hown1 hb1
      go_roundw
      case rel => exact ⟨Lib.hid hr, _, rfl⟩
      case measure => simp [strSize]; omega
    · have hno : c ∉ u.data.toList := fun h => hin (fstAt_mem.2 h)
      have Hi := Lib.hid (idxOf_none hno)
      have HP2 : Hid (pieces c s.data.toList = done ++ [u.data.toList]) := Lib.hid (by rw [HP.out, pieces_none hno])
      clear hin
      go_wp2_with (first
        | (go_at_call 55; refine (index_any u c _ (by omega)).mono ?_; rintro e w' ⟨rfl, rfl⟩; rw [Hi.out])
        | (at_builtin; refine wpList_append_own _ rfl (.tmp 12) (.tmp 14) 114 rfl w.heap.size 9 i0 (.string ⟨#[]⟩) 1 16 Tryz.underlying114 hi hz0 hz1 hz2 rfl (by decide) _ _ _ rfl (hown.alloc _) ⟨wr.heap.size, 0, none⟩ 1 1 [.string u] rfl rfl (one_cell _ _ _) (by simp [Value.oneCell']) (by unfold maxLen; omega) (by omega) (by simp; omega) ?_; intro v' w1 hown1 hgrow1 _))
      have hb1 : Below w.heap.size w w1 := (HB.out.alloc HB.out.size _).grown hgrow1 (by have := HB.out.size; simp; omega) (fun j hj => (hown.lt j hj).1)
      have hown2 : w1.ownsRow w.heap.size 9 1 v' (done.length + 1) (strs (pieces c s.data.toList)) := by
        rw [HP2.out, strs_append]; simpa [strs, ofL_toList] using hown1
      obtain ⟨g, cap, rfl, h1, h2, h3⟩ := strs_of_owns hown2 (by rw [HP2.out]; simp)
      go_ret
      exact ⟨g, cap, rfl, h1, h2, h3, hb1⟩
end Go.Proofs.YtmnjmhlodbifjaaGreatDoor.Split
namespace Go.Proofs.YtmnjmhlodbifjaaGreatDoor.Bits
open Go.RowKit
def setN (p : Nat → Bool) : Nat → Nat
  | 0 => 0
  | n + 1 => setN p n ||| (if p n then 2 ^ n else 0)
theorem testBit_setN (p : Nat → Bool) (n i : Nat) : (setN p n).testBit i = (decide (i < n) && p i) := by
  induction n with
  | zero => simp [setN]
  | succ n ih =>
    simp only [setN, Nat.testBit_or, ih]
    by_cases h : i = n
    · subst h
      cases hp : p i <;> simp
    · have h2 : decide (i < n + 1) = decide (i < n) := by rw [decide_eq_decide]; omega
      rw [h2]
      cases hp : p n
      · simp
      · simp [Nat.testBit_two_pow]; omega
theorem setN_lt (p : Nat → Bool) (n : Nat) : setN p n < 2 ^ n := by
  induction n with
  | zero => simp [setN]
  | succ n ih =>
    simp only [setN]
    apply Nat.or_lt_two_pow
    · exact Nat.lt_of_lt_of_le ih (Nat.pow_le_pow_right (by decide) (by omega))
    · split
      · exact Nat.pow_lt_pow_right (by decide) (by omega)
      · exact Nat.two_pow_pos _
def bset (p : Nat → Bool) : Int := (setN p 64 : Int)
theorem setN_congr {p q : Nat → Bool} {n : Nat} (h : ∀ i, i < n → p i = q i) : setN p n = setN q n := by
  apply Nat.eq_of_testBit_eq
  intro i
  rw [testBit_setN, testBit_setN]
  by_cases hi : i < n
  · rw [h i hi]
  · simp [hi]
theorem bset_congr {p q : Nat → Bool} (h : ∀ i, i < 64 → p i = q i) : bset p = bset q := by
  unfold bset; rw [setN_congr h]
theorem ofNat_eq_bset (n : Nat) (h : n < 18446744073709551616) : (n : Int) = bset (fun i => n.testBit i) := by
  unfold bset
  congr 1
  apply Nat.eq_of_testBit_eq
  intro i
  rw [testBit_setN]
  by_cases hi : i < 64
  · simp [hi]
  · simp only [hi, decide_false, Bool.false_and]
    exact Nat.testBit_lt_two_pow (Nat.lt_of_lt_of_le (m := 2 ^ 64) (by simpa using h) (Nat.pow_le_pow_right (by decide) (by omega)))
theorem eq_bset (x : Int) (h0 : 0 ≤ x) (h : x < 18446744073709551616) : x = bset (fun i => x.toNat.testBit i) := by
  obtain ⟨n, rfl⟩ := Int.eq_ofNat_of_zero_le h0
  simpa using ofNat_eq_bset n (by omega)
theorem wrap_u64_nat (n : Nat) : IntKind.u64.wrap (n : Int) = ((n % 18446744073709551616 : Nat) : Int) := by
  unfold IntKind.wrap
  simp [IntKind.bits, IntKind.signed]
theorem wrap_u64_in (x : Int) (h0 : 0 ≤ x) (h : x < 18446744073709551616) : IntKind.u64.wrap x = x := by
  unfold IntKind.wrap
  simp [IntKind.bits, IntKind.signed]
  omega
theorem ofInt_bset (p : Nat → Bool) : (BitVec.ofInt 64 (bset p)) = BitVec.ofNat 64 (setN p 64) := by
  unfold bset; exact BitVec.ofInt_natCast 64 _
theorem toNat_ofInt_bset (p : Nat → Bool) : (BitVec.ofInt 64 (bset p)).toNat = setN p 64 := by
  rw [ofInt_bset, BitVec.toNat_ofNat]
  exact Nat.mod_eq_of_lt (setN_lt p 64)
theorem wrap_toNat (b : BitVec 64) : IntKind.u64.wrap (b.toNat : Int) = (b.toNat : Int) :=
  wrap_u64_in _ (by omega) (by have := b.isLt; omega)
theorem bits_and (p q : Nat → Bool) : Go.bits .and .u64 (bset p) (bset q) = bset fun i => p i && q i := by
  show IntKind.u64.wrap (((BitVec.ofInt 64 (bset p)) &&& (BitVec.ofInt 64 (bset q))).toNat : Int) = _
  rw [wrap_toNat, BitVec.toNat_and, toNat_ofInt_bset, toNat_ofInt_bset]
  unfold bset
  congr 1
  apply Nat.eq_of_testBit_eq
  intro i
  simp only [Nat.testBit_and, testBit_setN]
  cases decide (i < 64) <;> simp
theorem bits_or (p q : Nat → Bool) : Go.bits .or .u64 (bset p) (bset q) = bset fun i => p i || q i := by
  show IntKind.u64.wrap (((BitVec.ofInt 64 (bset p)) ||| (BitVec.ofInt 64 (bset q))).toNat : Int) = _
  rw [wrap_toNat, BitVec.toNat_or, toNat_ofInt_bset, toNat_ofInt_bset]
  unfold bset
  congr 1
  apply Nat.eq_of_testBit_eq
  intro i
  simp only [Nat.testBit_or, testBit_setN]
  cases decide (i < 64) <;> simp
theorem bits_xor (p q : Nat → Bool) : Go.bits .xor .u64 (bset p) (bset q) = bset fun i => p i ^^ q i := by
  show IntKind.u64.wrap (((BitVec.ofInt 64 (bset p)) ^^^ (BitVec.ofInt 64 (bset q))).toNat : Int) = _
  rw [wrap_toNat, BitVec.toNat_xor, toNat_ofInt_bset, toNat_ofInt_bset]
  unfold bset
  congr 1
  apply Nat.eq_of_testBit_eq
  intro i
  simp only [Nat.testBit_xor, testBit_setN]
  cases decide (i < 64) <;> simp
theorem wrap_pow (k : Nat) : IntKind.u64.wrap (2 ^ k) = bset fun i => decide (i = k) := by
  rw [show ((2 : Int) ^ k) = ((2 ^ k : Nat) : Int) by simp, wrap_u64_nat]
  unfold bset
  congr 1
  apply Nat.eq_of_testBit_eq
  intro i
  rw [testBit_setN, show (18446744073709551616 : Nat) = 2 ^ 64 by decide, Nat.testBit_mod_two_pow, Nat.testBit_two_pow]
  congr 1
  rw [decide_eq_decide]; omega
theorem wrap_max_shl (k : Nat) : IntKind.u64.wrap (18446744073709551615 * 2 ^ k) = bset fun i => decide (k ≤ i) := by
  rw [show ((18446744073709551615 : Int) * 2 ^ k) = (((2 ^ 64 - 1) * 2 ^ k : Nat) : Int) by simp, wrap_u64_nat]
  unfold bset
  congr 1
  apply Nat.eq_of_testBit_eq
  intro i
  rw [testBit_setN, show (18446744073709551616 : Nat) = 2 ^ 64 by decide, Nat.testBit_mod_two_pow, Nat.testBit_mul_two_pow,
    Nat.testBit_two_pow_sub_one]
  by_cases h : i < 64
  · by_cases h2 : k ≤ i
    · simp [h, h2]; omega
    · simp [h2]
  · simp [h]
theorem max_eq : IntKind.u64.max = bset fun _ => true := by
  have h := wrap_max_shl 0
  rw [show (18446744073709551615 * 2 ^ 0 : Int) = 18446744073709551615 by decide, wrap_u64_in _ (by decide) (by decide)] at h
  show (2 ^ 64 - 1 : Int) = _
  rw [show (2 ^ 64 - 1 : Int) = 18446744073709551615 by decide, h]
  exact bset_congr fun i _ => by simp
theorem zero_eq : (0 : Int) = bset fun _ => false := by
  unfold bset
  have : setN (fun _ => false) 64 = 0 := by
    apply Nat.eq_of_testBit_eq; intro i; rw [testBit_setN]; simp
  rw [this]; rfl
end Go.Proofs.YtmnjmhlodbifjaaGreatDoor.Bits
namespace Go.Proofs.YtmnjmhlodbifjaaGreatDoor.GetBits
open Go.RowKit Go.Proofs.YtmnjmhlodbifjaaGreatDoor.Bits
def inRange (a b s : Nat) (i : Nat) : Bool := decide (a ≤ i) && decide (i ≤ b) && decide ((i - a) % s = 0)
theorem step_one (a b : Nat) : bits BinOp.and IntKind.u64 (bits BinOp.xor IntKind.u64 IntKind.u64.max (IntKind.u64.wrap (18446744073709551615 * 2 ^ (b + 1)))) (IntKind.u64.wrap (18446744073709551615 * 2 ^ a)) = bset (inRange a b 1) := by
  rw [wrap_max_shl, wrap_max_shl, max_eq, bits_xor, bits_and]
  refine bset_congr fun i _ => ?_
  simp only [inRange, Nat.mod_one, decide_true, Bool.and_true]
  by_cases h1 : a ≤ i <;> by_cases h2 : i ≤ b <;> simp [h1, h2] <;> omega
def upTo (a s k : Nat) (i : Nat) : Bool := decide (a ≤ i) && decide (i < a + k * s) && decide ((i - a) % s = 0)
theorem upTo_zero (a s : Nat) : bset (upTo a s 0) = 0 := by
  rw [zero_eq]; exact bset_congr fun i _ => by simp [upTo]; omega
theorem upTo_succ (a s k : Nat) (hs : 1 ≤ s) : bits BinOp.or IntKind.u64 (bset (upTo a s k)) (IntKind.u64.wrap (2 ^ (a + k * s))) = bset (upTo a s (k + 1)) := by
  rw [wrap_pow, bits_or]
  refine bset_congr fun i _ => ?_
  rw [Bool.eq_iff_iff]
  simp only [upTo, Bool.or_eq_true, Bool.and_eq_true, decide_eq_true_eq, Nat.add_mul, Nat.one_mul]
  constructor
  · rintro (⟨⟨h1, h2⟩, h3⟩ | rfl)
    · exact ⟨⟨h1, by omega⟩, h3⟩
    · refine ⟨⟨by omega, by omega⟩, ?_⟩
      rw [Nat.add_sub_cancel_left]; exact Nat.mul_mod_left k s
  · rintro ⟨⟨h1, h2⟩, h3⟩
    by_cases h : i < a + k * s
    · exact .inl ⟨⟨h1, h⟩, h3⟩
    · right
      obtain ⟨d, hd⟩ : ∃ d, i = a + k * s + d := ⟨i - (a + k * s), by omega⟩
      have h4 : (k * s + d) % s = 0 := by rw [← h3]; congr 1; omega
      rw [Nat.add_comm, Nat.add_mul_mod_self_right, Nat.mod_eq_of_lt (by omega)] at h4
      omega
theorem upTo_end (a b s k : Nat) (h : b < a + k * s) (h2 : k = 0 ∨ a + (k - 1) * s ≤ b) : bset (upTo a s k) = bset (inRange a b s) := by
  refine bset_congr fun i _ => ?_
  rw [Bool.eq_iff_iff]
  simp only [upTo, inRange, Bool.and_eq_true, decide_eq_true_eq]
  constructor
  · rintro ⟨⟨h3, h4⟩, h5⟩
    refine ⟨⟨h3, ?_⟩, h5⟩
    rcases h2 with rfl | h2
    · omega
    · obtain ⟨q, hq⟩ := Nat.dvd_of_mod_eq_zero h5
      have h6 : q < k := by
        rcases Nat.lt_or_ge q k with h | h
        · exact h
        · have := Nat.mul_le_mul_left s h
          rw [Nat.mul_comm s k] at this; omega
      have h7 : s * q ≤ s * (k - 1) := Nat.mul_le_mul_left s (by omega)
      rw [Nat.mul_comm s (k - 1)] at h7
      omega
  · rintro ⟨⟨h3, h4⟩, h5⟩
    exact ⟨⟨h3, by omega⟩, h5⟩
set_option maxHeartbeats 400000 in
theorem getBits_one (a b : Nat) (w : World) (hab : a ≤ b) (hb : b ≤ 63) :
    Calls Tryz.prog 123 #[.int .u64 (a : Int), .int .u64 (b : Int), .int .u64 1] w fun e w' => e = .returned (.int .u64 (bset (inRange a b 1))) ∧ w = w' := by
  have h1 : (((1 : Int) == 1)) = true := rfl
  go_enter Tryz.func123, Tryz.ntmps123
  go_wp2
  go_ret
  refine ⟨?_, rfl⟩
  rw [← step_one]
  rfl
set_option maxHeartbeats 400000 in
theorem getBits_more (a b s : Nat) (w : World) (hab : a ≤ b) (hb : b ≤ 63) (hs1 : 1 ≤ s) (hs2 : s ≤ 9223372036854775808) (hne : (((s : Nat) : Int) == 1) = false) :
    Calls Tryz.prog 123 #[.int .u64 (a : Int), .int .u64 (b : Int), .int .u64 (s : Int)] w fun e w' => e = .returned (.int .u64 (bset (inRange a b s))) ∧ w = w' := by
  go_enter Tryz.func123, Tryz.ntmps123
  go_wp2
  go_loop [7, 8] (fun r i => ∃ (k j : Nat), Hid (j = a + k * s) ∧ Hid (k = 0 ∨ a + (k - 1) * s ≤ b) ∧ j ≤ b + s ∧ i = .int .u64 (j : Int) ∧ r = .int .u64 (bset (upTo a s k))) (fun _ i => (b + s + 1 - intOf i).toNat)
  case atStart => exact ⟨0, a, Lib.hid (by simp), Lib.hid (.inl rfl), by omega, rfl, by rw [upTo_zero]⟩
  case round =>
    obtain ⟨k, j, H5, H6, h7, rfl, rfl⟩ := hrel
    by_cases hlt : j ≤ b
    · go_wp2
      go_round
      case rel =>
        refine ⟨k + 1, j + s, Lib.hid ?_, Lib.hid (.inr ?_), by omega, by go_num, ?_⟩
        · rw [H5.out, Nat.add_mul]; omega
        · rw [Nat.add_sub_cancel, ← H5.out]; exact hlt
        · rw [← upTo_succ a s k hs1, ← H5.out]
      case measure => simp [intOf]; omega
    · go_wp2
      go_ret
      exact ⟨by rw [← upTo_end a b s k (by rw [← H5.out]; omega) H6.out]; rfl, rfl⟩
theorem getBits_any (a b s : Int) (w : World) (h0 : 0 ≤ a) (hab : a ≤ b) (hb : b ≤ 63) (hs1 : 1 ≤ s) (hs2 : s ≤ 9223372036854775808) :
    Calls Tryz.prog 123 #[.int .u64 a, .int .u64 b, .int .u64 s] w fun e w' => e = .returned (.int .u64 (bset (inRange a.toNat b.toNat s.toNat))) ∧ w = w' := by
  obtain ⟨a, rfl⟩ := Int.eq_ofNat_of_zero_le h0
  obtain ⟨b, rfl⟩ := Int.eq_ofNat_of_zero_le (Int.le_trans h0 hab)
  obtain ⟨s, rfl⟩ := Int.eq_ofNat_of_zero_le (show 0 ≤ s by omega)
  simp only [Int.toNat_natCast]
  by_cases h : s = 1
  · subst h
    exact getBits_one a b w (by omega) (by omega)
  · exact getBits_more a b s w (by omega) (by omega) (by omega) (by omega) (beq_eq_false_iff_ne.2 (by omega))
end Go.Proofs.YtmnjmhlodbifjaaGreatDoor.GetBits
