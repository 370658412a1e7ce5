/- The times that entries are sorted by: a moment at UTC, IsZero, Before; the reference's good instants. Conditions: instants of the years 1 to 9999. (Printed by mkbytime.py.) -/
import Derived.Test.YtjgamgmghelhgaaSortS
import Derived.Deep.RegionHeld3
import Derived.Laws.Bits64
import Derived.Laws.Bits64b
namespace Go.Proofs.Ytjgamgmghelhgaa.ByT
open Go Go.RowKit
set_option linter.unusedVariables false

theorem big_and (n : Int) (h0 : 0 ≤ n) (h1 : n < 1073741824) : Go.bits .and .u64 n 9223372036854775808 = 0 := by
  obtain ⟨n, rfl⟩ := Int.eq_ofNat_of_zero_le h0
  show IntKind.u64.wrap (((BitVec.ofInt 64 (n : Int)) &&& (BitVec.ofInt 64 9223372036854775808)).toNat : Int) = _
  have e : (BitVec.ofInt 64 (n : Int) &&& BitVec.ofInt 64 9223372036854775808).toNat = 0 := by
    rw [BitVec.ofInt_natCast, BitVec.toNat_and, BitVec.toNat_ofNat, Nat.mod_eq_of_lt (by omega), show (BitVec.ofInt 64 9223372036854775808).toNat = 2 ^ 63 by decide]
    apply Nat.eq_of_testBit_eq
    intro i
    rw [Nat.testBit_and, Nat.testBit_two_pow]
    by_cases hi : 63 = i
    · subst hi
      rw [Nat.testBit_lt_two_pow (Nat.lt_of_lt_of_le (m := 2 ^ 30) (by omega) (Nat.pow_le_pow_right (by decide) (by decide)))]
      simp
    · simp [hi]
  rw [e]; rfl
theorem mask_and (n : Int) (h0 : 0 ≤ n) (h1 : n < 1073741824) : Go.bits .and .u64 n 1073741823 = n := by
  obtain ⟨n, rfl⟩ := Int.eq_ofNat_of_zero_le h0
  show IntKind.u64.wrap (((BitVec.ofInt 64 (n : Int)) &&& (BitVec.ofInt 64 1073741823)).toNat : Int) = _
  have e : (BitVec.ofInt 64 (n : Int) &&& BitVec.ofInt 64 1073741823).toNat = n := by
    rw [BitVec.ofInt_natCast, BitVec.toNat_and, BitVec.toNat_ofNat, Nat.mod_eq_of_lt (by omega), show (BitVec.ofInt 64 1073741823).toNat = 2 ^ 30 - 1 by decide, Nat.and_two_pow_sub_one_eq_mod, Nat.mod_eq_of_lt (by omega)]
  rw [e]
  rw [IntWalk.u64_in _ (by omega)]
/-- Nanoseconds. -/
def Nn (n : Int) : Prop := 0 ≤ n ∧ n < 1073741824
section
variable {w : World} {b : Nat} {n e : Int}
theorem sec_at (hc0 : w.cell? ⟨b, 0, none⟩ = some (.int .u64 n)) (hc1 : w.cell? ⟨b, 1, none⟩ = some (.int .i64 e)) (hn : Nn n) :
    Calls Try.prog 29 #[.pointer (some ⟨b, 0, none⟩)] w fun x w' => x = .returned (.int .i64 e) ∧ w = w' := by
  have hb := big_and n hn.1 hn.2
  go_enter Try.func29, Try.ntmps29
  go_wp2
  go_ret
  exact ⟨rfl, rfl⟩
theorem nsec_at (hc0 : w.cell? ⟨b, 0, none⟩ = some (.int .u64 n)) (hn : Nn n) :
    Calls Try.prog 60 #[.pointer (some ⟨b, 0, none⟩)] w fun x w' => x = .returned (.int .i32 n) ∧ w = w' := by
  have hb := mask_and n hn.1 hn.2
  have h1 := hn.1
  have h2 := hn.2
  go_enter Try.func60, Try.ntmps60
  go_wp2
  go_ret
  exact ⟨rfl, rfl⟩
theorem strip_at (hc0 : w.cell? ⟨b, 0, none⟩ = some (.int .u64 n)) (hn : Nn n) :
    Calls Try.prog 18 #[.pointer (some ⟨b, 0, none⟩)] w fun x w' => x = .returned (.tuple #[]) ∧ w = w' := by
  have hb := big_and n hn.1 hn.2
  go_enter Try.func18, Try.ntmps18
  go_wp2
  go_end0
  exact ⟨rfl, rfl⟩
end
/-- The place that UTC makes. -/
structure UtcAt (w : World) (b : Nat) : Prop where
  lt : b < w.heap.size
  utc : w.cell? ⟨b, 0, none⟩ = some (.bool true)
  row : w.cell? ⟨b, 2, none⟩ = some (.slice none 0 0)
theorem UtcAt.below {w w' : World} {b : Nat} (h : UtcAt w b) (hb : Below w.heap.size w w') : UtcAt w' b :=
  ⟨Nat.lt_of_lt_of_le h.lt hb.size, (hb.cell (World.block_lt_of_cell? w _ h.utc)).trans h.utc, (hb.cell (World.block_lt_of_cell? w _ h.row)).trans h.row⟩
/-- UTC makes such a place. -/
theorem utc_any (w : World) : Calls Try.prog 9 #[] w fun e w' => ∃ b, (e = .returned (.pointer (some ⟨b, 0, none⟩)) ∧ UtcAt w' b) ∧ Below w.heap.size w w' := by
  go_enter Try.func9, Try.ntmps9
  go_wp2
  go_ret
  have hh : ∀ (cs : Array Value) (E : TypeId), (w.alloc (.cells cs E)).heap[w.heap.size]? = some (.cells cs E) := fun cs E => heap_alloc_new w _
  refine ⟨w.heap.size, ⟨rfl, by simp, ?_, ?_⟩, (Below.refl _ _).alloc (Nat.le_refl _) _⟩ <;> (unfold World.cell?; simp only [hh]; rfl)
def Box (w : World) (b : Nat) (x y z : Value) : Prop := b < w.heap.size ∧ w.cell? ⟨b, 0, none⟩ = some x ∧ w.cell? ⟨b, 1, none⟩ = some y ∧ w.cell? ⟨b, 2, none⟩ = some z
theorem Box.below {w w' : World} {b : Nat} {x y z : Value} {B : Nat} (h : Box w b x y z) (hb : Below B w w') (hB : b < B) : Box w' b x y z :=
  ⟨Nat.lt_of_lt_of_le h.1 hb.size, (hb.cell (p := ⟨b, 0, none⟩) hB).trans h.2.1, (hb.cell (p := ⟨b, 1, none⟩) hB).trans h.2.2.1, (hb.cell (p := ⟨b, 2, none⟩) hB).trans h.2.2.2⟩
theorem box_new (w : World) (E : TypeId) (x y z : Value) : Box (w.alloc (.cells #[x, y, z] E)) w.heap.size x y z := by
  have hh : (w.alloc (.cells #[x, y, z] E)).heap[w.heap.size]? = some (.cells #[x, y, z] E) := heap_alloc_new w _
  refine ⟨by simp, ?_, ?_, ?_⟩ <;> (unfold World.cell?; simp only [hh]; rfl)
theorem free_new (w : World) (E : TypeId) (cs : Array Value) (j : Nat) : (w.alloc (.cells cs E)).frozen? ⟨w.heap.size, j, none⟩ = false := by
  have hh : (w.alloc (.cells cs E)).heap[w.heap.size]? = some (.cells cs E) := heap_alloc_new w _
  exact frozen_of_row _ _ j _ _ hh
/-- setLoc: nil for UTC. -/
theorem setLoc_any (t b : Nat) (n : Int) (w : World) (hc0 : w.cell? ⟨t, 0, none⟩ = some (.int .u64 n)) (hc2 : ∃ v, w.cell? ⟨t, 2, none⟩ = some v) (hf2 : w.frozen? ⟨t, 2, none⟩ = false) (hn : Nn n) (h2 : UtcAt w b) :
    Calls Try.prog 15 #[.pointer (some ⟨t, 0, none⟩), .pointer (some ⟨b, 0, none⟩)] w fun x w' => x = .returned (.tuple #[]) ∧ w.setCell ⟨t, 2, none⟩ (.pointer none) = w' := by
  have HS := Lib.hid (strip_at hc0 hn)
  obtain ⟨v, hv⟩ := hc2
  clear hc0
  have hu := h2.utc
  go_enter Try.func15, Try.ntmps15
  go_wp2_with (go_at_call 18; refine HS.out.mono ?_; rintro x w' ⟨rfl, rfl⟩)
  go_end0
  exact ⟨rfl, rfl⟩
theorem in_any (n e : Int) (l0 : Option Addr) (b : Nat) (w : World) (hn : Nn n) (hp : UtcAt w b) :
    Calls Try.prog 12 #[.agg #[.int .u64 n, .int .i64 e, .pointer l0], .pointer (some ⟨b, 0, none⟩)] w fun x w' => x = .returned (.agg #[.int .u64 n, .int .i64 e, .pointer none]) ∧ Below w.heap.size w w' := by
  have hx := (box_new w 35 (.int .u64 n) (.int .i64 e) (.pointer l0)).below (Below.alloc (Below.refl (w.heap.size + 1) _) (by simp) (.cells #[.int .u64 0, .int .i64 0, .pointer none] 35)) (by simp)
  have hf : ((w.alloc (.cells #[.int .u64 n, .int .i64 e, .pointer l0] 35)).alloc (.cells #[.int .u64 0, .int .i64 0, .pointer none] 35)).frozen? ⟨w.heap.size, 2, none⟩ = false := by
    rw [(Below.alloc (Below.refl (w.heap.size + 1) (w.alloc (.cells #[.int .u64 n, .int .i64 e, .pointer l0] 35))) (by simp) (.cells #[.int .u64 0, .int .i64 0, .pointer none] 35)).frozen (p := ⟨w.heap.size, 2, none⟩) (by simp)]
    exact free_new _ _ _ _
  have hbw : Below w.heap.size w ((w.alloc (.cells #[.int .u64 n, .int .i64 e, .pointer l0] 35)).alloc (.cells #[.int .u64 0, .int .i64 0, .pointer none] 35)) := ((Below.refl _ _).alloc (Nat.le_refl _) _).alloc (by simp) _
  have HS := Lib.hid (setLoc_any w.heap.size b n _ hx.2.1 ⟨_, hx.2.2.2⟩ hf hn (hp.below hbw))
  clear hx hf
  go_enter Try.func12, Try.ntmps12
  go_wp2_with (go_at_call 15; refine HS.out.mono ?_; rintro x w' ⟨rfl, rfl⟩)
  refine bodyPost_ret (v := .agg #[.int .u64 n, .int .i64 e, .pointer none]) (by simp [results, Try.results12, go_sem]) rfl ⟨rfl, ?_⟩
  exact ((Below.refl _ _).alloc (Nat.le_refl _) _).alloc (by simp) _
theorem unixTime_any (s n : Int) (w : World) (h0 : 0 ≤ n) (h1 : n < 1000000000) (hs0 : -1000000000000 ≤ s) (hs1 : s ≤ 1000000000000) :
    Calls Try.prog 14 #[.int .i64 s, .int .i32 n] w fun x w' => x = .returned (.agg #[.int .u64 n, .int .i64 (s + 62135596800), .pointer none]) ∧ Below w.heap.size w w' := by
  go_enter Try.func14, Try.ntmps14
  go_wp2
  refine bodyPost_ret (v := .agg #[.int .u64 n, .int .i64 (s + 62135596800), .pointer none]) (by simp [results, Try.results14, go_sem]) rfl ⟨rfl, ?_⟩
  exact (Below.refl _ _).alloc (Nat.le_refl _) _
/-- A box behind a call. -/
theorem box_after {w w1 : World} {E : TypeId} {x y z : Value} (hb : Below (w.alloc (.cells #[x, y, z] E)).heap.size (w.alloc (.cells #[x, y, z] E)) w1) :
    w1.cell? ⟨w.heap.size, 0, none⟩ = some x ∧ w1.cell? ⟨w.heap.size, 1, none⟩ = some y ∧ w1.cell? ⟨w.heap.size, 2, none⟩ = some z ∧ w1.frozen? ⟨w.heap.size, 0, none⟩ = false ∧ w1.frozen? ⟨w.heap.size, 1, none⟩ = false ∧ w1.frozen? ⟨w.heap.size, 2, none⟩ = false := by
  have h := (box_new w E x y z).below hb (by simp)
  have f : ∀ j, w1.frozen? ⟨w.heap.size, j, none⟩ = false := fun j => (hb.frozen (p := ⟨w.heap.size, j, none⟩) (by simp)).trans (free_new w E _ j)
  exact ⟨h.2.1, h.2.2.1, h.2.2.2, f 0, f 1, f 2⟩
theorem below_set3 {w w1 : World} {B b : Nat} {x y z : Value} (hb : Below B w w1) (h : B ≤ b) : Below B w (((w1.setCell ⟨b, 0, none⟩ x).setCell ⟨b, 1, none⟩ y).setCell ⟨b, 2, none⟩ z) :=
  ((hb.setCell (p := ⟨b, 0, none⟩) h _).setCell (p := ⟨b, 1, none⟩) h _).setCell (p := ⟨b, 2, none⟩) h _
theorem unix_any' (s n : Int) (w : World) (h0 : 0 ≤ n) (h1 : n < 1000000000) (hs0 : -1000000000000 ≤ s) (hs1 : s ≤ 1000000000000) :
    Calls Try.prog 11 #[.int .i64 s, .int .i64 n] w fun x w' => x = .returned (.agg #[.int .u64 n, .int .i64 (s + 62135596800), .pointer none]) ∧ Below w.heap.size w w' := by
  go_enter Try.func11, Try.ntmps11
  go_wp2_with (go_at_call 14; refine (unixTime_any s n _ h0 h1 hs0 hs1).mono ?_; rintro x w1 ⟨rfl, hb⟩; obtain ⟨c0, c1, c2, f0, f1, f2⟩ := box_after hb)
  refine bodyPost_ret (v := .agg #[.int .u64 n, .int .i64 (s + 62135596800), .pointer none]) (by simp [results, Try.results11, go_sem, *]) rfl ⟨rfl, ?_⟩
  exact below_set3 (((Below.refl _ _).alloc (Nat.le_refl _) _).trans (hb.mono (by simp))) (Nat.le_refl _)
/-- The second of two boxes, behind calls. -/
theorem box2_after {w w1 : World} {E : TypeId} {A : Obj} {x y z : Value} (hb : Below ((w.alloc A).alloc (.cells #[x, y, z] E)).heap.size ((w.alloc A).alloc (.cells #[x, y, z] E)) w1) :
    w1.cell? ⟨w.heap.size + 1, 0, none⟩ = some x ∧ w1.cell? ⟨w.heap.size + 1, 1, none⟩ = some y ∧ w1.cell? ⟨w.heap.size + 1, 2, none⟩ = some z ∧ w1.frozen? ⟨w.heap.size + 1, 0, none⟩ = false ∧ w1.frozen? ⟨w.heap.size + 1, 1, none⟩ = false ∧ w1.frozen? ⟨w.heap.size + 1, 2, none⟩ = false := by
  have h := box_after (w := w.alloc A) hb
  rw [show (w.alloc A).heap.size = w.heap.size + 1 by simp] at h
  exact h
theorem moment_any (s n : Int) (b : Nat) (w : World) (hp : UtcAt w b) (h0 : 0 ≤ n) (h1 : n < 1000000000) (hs0 : -700000000000 ≤ s) (hs1 : s ≤ 700000000000) :
    Calls Try.prog 8 #[.agg #[.int .i64 s, .int .i64 n], .pointer (some ⟨b, 0, none⟩)] w fun x w' => x = .returned (.agg #[.int .u64 n, .int .i64 (s + 62135596800), .pointer none]) ∧ Below w.heap.size w w' := by
  have hbw : Below w.heap.size w ((w.alloc (.cells #[.int .i64 s, .int .i64 n] 28)).alloc (.cells #[.int .u64 0, .int .i64 0, .pointer none] 35)) := ((Below.refl _ _).alloc (Nat.le_refl _) _).alloc (by simp) _
  have HP := Lib.hid hp
  have HN : Nn n := ⟨h0, by omega⟩
  have HNn := Lib.hid HN
  clear hp HN
  go_enter Try.func8, Try.ntmps8
  go_wp2_with fail
  refine (unix_any' s n _ h0 h1 (by omega) (by omega)).mono ?_
  rintro x w1 ⟨rfl, hb1⟩
  have HB1 := Lib.hid hb1
  clear hb1
  go_wp2_with fail
  refine (in_any n (s + 62135596800) none b _ HNn.out ((HP.out.below hbw).below HB1.out)).mono ?_
  rintro x w2 ⟨rfl, hb2⟩
  have hb3 := HB1.out.trans (hb2.mono HB1.out.size)
  have hlt : w.heap.size + 1 < w2.heap.size := Nat.lt_of_lt_of_le (by simp) hb3.size
  have HB3 := Lib.hid hb3
  clear hb2
  obtain ⟨c0, c1, c2, f0, f1, f2⟩ := box2_after hb3
  clear hb3
  go_wp2_with fail
  refine bodyPost_ret (v := .agg #[.int .u64 n, .int .i64 (s + 62135596800), .pointer none]) (by simp [results, Try.results8, go_sem, *]) rfl ⟨rfl, ?_⟩
  · exact below_set3 (hbw.trans (HB3.out.mono hbw.size)) (Nat.le_succ _)
def goodB (s n : Int) : Bool := decide (-62135596800 ≤ s) && decide (s ≤ 253402300799) && decide (0 ≤ n) && decide (n < 1000000000)
theorem goodB_facts {s n : Int} (h : goodB s n = true) : (-62135596800 ≤ s ∧ s ≤ 253402300799) ∧ 0 ≤ n ∧ n < 1000000000 := by
  unfold goodB at h
  simp only [Bool.and_eq_true, decide_eq_true_eq] at h
  omega
theorem good_b (s n : Int) (w : World) : Calls Try.prog 6 #[.agg #[.int .i64 s, .int .i64 n]] w fun e w' => e = .returned (.bool (goodB s n)) ∧ Below w.heap.size w w' := by
  unfold goodB
  by_cases h0 : s < -62135596800
  · go_enter Try.func6, Try.ntmps6
    go_wp2
    go_ret
    exact ⟨by simp <;> omega, (Below.refl _ _).alloc (Nat.le_refl _) _⟩
  by_cases h1 : 253402300799 < s
  · go_enter Try.func6, Try.ntmps6
    go_wp2
    go_ret
    exact ⟨by simp <;> omega, (Below.refl _ _).alloc (Nat.le_refl _) _⟩
  by_cases h2 : n < 0
  · go_enter Try.func6, Try.ntmps6
    go_wp2
    go_ret
    exact ⟨by simp <;> omega, (Below.refl _ _).alloc (Nat.le_refl _) _⟩
  by_cases h3 : 1000000000 ≤ n
  · go_enter Try.func6, Try.ntmps6
    go_wp2
    go_ret
    exact ⟨by simp <;> omega, (Below.refl _ _).alloc (Nat.le_refl _) _⟩
  go_enter Try.func6, Try.ntmps6
  go_wp2
  go_ret
  exact ⟨by simp <;> omega, (Below.refl _ _).alloc (Nat.le_refl _) _⟩
theorem isZero_any (n e : Int) (loc : Option Addr) (w : World) : Calls Try.prog 58 #[.agg #[.int .u64 n, .int .i64 e, .pointer loc]] w fun x w' => x = .returned (.bool (n == 0 && e == 0)) ∧ Below w.heap.size w w' := by
  have hb : Below w.heap.size w (w.alloc (.cells #[.int .u64 n, .int .i64 e, .pointer loc] 35)) := (Below.refl _ _).alloc (Nat.le_refl _) _
  obtain ⟨p, hp⟩ : ∃ p, (n == 0) = p := ⟨_, rfl⟩
  obtain ⟨q, hq⟩ : ∃ q, (e == 0) = q := ⟨_, rfl⟩
  rw [hp, hq]
  cases p <;> cases q
  all_goals
    go_enter Try.func58, Try.ntmps58
    go_wp2_with fail
    go_ret
    exact ⟨rfl, hb⟩
theorem cronZero_any (s n : Int) (w : World) : Calls Try.prog 7 #[.agg #[.int .i64 s, .int .i64 n]] w fun e w' => e = .returned (.bool (s == -62135596800 && n == 0)) ∧ Below w.heap.size w w' := by
  have hb : Below w.heap.size w (w.alloc (.cells #[.int .i64 s, .int .i64 n] 28)) := (Below.refl _ _).alloc (Nat.le_refl _) _
  obtain ⟨p, hp⟩ : ∃ p, (s == -62135596800) = p := ⟨_, rfl⟩
  obtain ⟨q, hq⟩ : ∃ q, (n == 0) = q := ⟨_, rfl⟩
  rw [hp, hq]
  cases p <;> cases q
  all_goals
    go_enter Try.func7, Try.ntmps7
    go_wp2_with fail
    go_ret
    exact ⟨rfl, hb⟩
theorem and_low (n m : Int) (hn : Nn n) (hm : Nn m) : Go.bits .and .u64 (Go.bits .and .u64 n m) 9223372036854775808 = 0 := by
  obtain ⟨a, rfl⟩ := Int.eq_ofNat_of_zero_le hn.1
  obtain ⟨b, rfl⟩ := Int.eq_ofNat_of_zero_le hm.1
  have h1 := hn.2
  have h2 := hm.2
  have e : Go.bits .and .u64 (a : Int) (b : Int) = ((a &&& b : Nat) : Int) := bits_and_u64_nat a b (by omega) (by omega)
  rw [e]
  have : a &&& b ≤ a := Nat.and_le_left
  exact big_and _ (by omega) (by omega)
theorem box_two (w : World) (E : TypeId) (x y z a b c : Value) : Box ((w.alloc (.cells #[x, y, z] E)).alloc (.cells #[a, b, c] E)) w.heap.size x y z ∧ Box ((w.alloc (.cells #[x, y, z] E)).alloc (.cells #[a, b, c] E)) (w.heap.size + 1) a b c ∧ Below w.heap.size w ((w.alloc (.cells #[x, y, z] E)).alloc (.cells #[a, b, c] E)) := by
  refine ⟨(box_new w E x y z).below (Below.alloc (Below.refl (w.heap.size + 1) _) (by simp) _) (by simp), ?_, ((Below.refl _ _).alloc (Nat.le_refl _) _).alloc (by simp) _⟩
  have h := box_new (w.alloc (.cells #[x, y, z] E)) E a b c
  rwa [show (w.alloc (.cells #[x, y, z] E)).heap.size = w.heap.size + 1 by simp] at h
set_option maxHeartbeats 1000000 in
theorem before_any (n e m f : Int) (l k : Option Addr) (w : World) (hn : Nn n) (hm : Nn m) :
    Calls Try.prog 59 #[.agg #[.int .u64 n, .int .i64 e, .pointer l], .agg #[.int .u64 m, .int .i64 f, .pointer k]] w fun x w' => x = .returned (.bool (decide (e < f) || (decide (e = f) && decide (n < m)))) ∧ Below w.heap.size w w' := by
  obtain ⟨bx, by', hbw⟩ := box_two w 35 (.int .u64 n) (.int .i64 e) (.pointer l) (.int .u64 m) (.int .i64 f) (.pointer k)
  have S1 := Lib.hid (sec_at bx.2.1 bx.2.2.1 hn)
  have S2 := Lib.hid (sec_at by'.2.1 by'.2.2.1 hm)
  have N1 := Lib.hid (nsec_at bx.2.1 hn)
  have N2 := Lib.hid (nsec_at by'.2.1 hm)
  have ha := and_low n m hn hm
  have hn0 := hn.1
  have hn1 := hn.2
  have hm0 := hm.1
  have hm1 := hm.2
  clear bx by'
  rcases Int.lt_trichotomy e f with h | h | h
  · go_enter Try.func59, Try.ntmps59
    go_wp2_with (go_at_call 29; first | (with_reducible refine S1.out.mono ?_; rintro x w' ⟨rfl, rfl⟩) | (with_reducible refine S2.out.mono ?_; rintro x w' ⟨rfl, rfl⟩))
    go_ret
    exact ⟨by simp [h], hbw⟩
  · subst h
    by_cases h2 : n < m
    · go_enter Try.func59, Try.ntmps59
      go_wp2_with (first | (go_at_call 29; first | (with_reducible refine S1.out.mono ?_; rintro x w' ⟨rfl, rfl⟩) | (with_reducible refine S2.out.mono ?_; rintro x w' ⟨rfl, rfl⟩)) | (go_at_call 60; first | (with_reducible refine N1.out.mono ?_; rintro x w' ⟨rfl, rfl⟩) | (with_reducible refine N2.out.mono ?_; rintro x w' ⟨rfl, rfl⟩)))
      go_ret
      exact ⟨by simp [h2], hbw⟩
    · go_enter Try.func59, Try.ntmps59
      go_wp2_with (first | (go_at_call 29; first | (with_reducible refine S1.out.mono ?_; rintro x w' ⟨rfl, rfl⟩) | (with_reducible refine S2.out.mono ?_; rintro x w' ⟨rfl, rfl⟩)) | (go_at_call 60; first | (with_reducible refine N1.out.mono ?_; rintro x w' ⟨rfl, rfl⟩) | (with_reducible refine N2.out.mono ?_; rintro x w' ⟨rfl, rfl⟩)))
      go_ret
      exact ⟨by simp, hbw⟩
  · have h1 : ¬ e < f := by omega
    have h2 : ¬ e = f := by omega
    go_enter Try.func59, Try.ntmps59
    go_wp2_with (go_at_call 29; first | (with_reducible refine S1.out.mono ?_; rintro x w' ⟨rfl, rfl⟩) | (with_reducible refine S2.out.mono ?_; rintro x w' ⟨rfl, rfl⟩))
    go_ret
    exact ⟨by simp [h2], hbw⟩

end Go.Proofs.Ytjgamgmghelhgaa.ByT
