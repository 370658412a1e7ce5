/- Times made: In, Add, Unix, Date. Conditions: instants within 10^12 seconds of 1970, zones in order. -/
import Derived.Test.YtoekefbclkmchaaTime
namespace Go.Proofs.Ytoekefbclkmchaa.Time2
open Go Go.RowKit Go.Proofs.Ytoekefbclkmchaa.Cal Go.Proofs.Ytoekefbclkmchaa.Off Go.Proofs.Ytoekefbclkmchaa.TimeNum Go.Proofs.Ytoekefbclkmchaa.Lookup Go.Proofs.Ytoekefbclkmchaa.Time
set_option linter.unusedVariables false

/-- A time's own place and the place that it is asked for by. -/
def Pair (w : World) (loc : Option Addr) (b : Nat) (off : Int → Int) : Prop := (loc = none ∧ UtcAt w b ∧ off = zero) ∨ ∃ z : ZoneD, loc = some ⟨b, 0, none⟩ ∧ z.Good ∧ LocAt w b z ∧ off = z.off
theorem Pair.below {w w' : World} {loc : Option Addr} {b : Nat} {off : Int → Int} (h : Pair w loc b off) (hb : Below w.heap.size w w') : Pair w' loc b off := by
  rcases h with ⟨h1, h2, h3⟩ | ⟨z, h1, h2, h3, h4⟩
  · exact .inl ⟨h1, h2.below hb, h3⟩
  · exact .inr ⟨z, h1, h2, h3.below hb, h4⟩
theorem Pair.clock {w : World} {loc : Option Addr} {b : Nat} {off : Int → Int} (h : Pair w loc b off) : Clock w loc off := by
  rcases h with ⟨h1, h2, h3⟩ | ⟨z, h1, h2, h3, h4⟩
  · exact .inl ⟨h1, h3⟩
  · exact .inr ⟨b, z, h1, h2, h3, h4⟩
theorem Pair.zone {w : World} {loc : Option Addr} {b : Nat} {off : Int → Int} (h : Pair w loc b off) : ZoneAt w b off := by
  rcases h with ⟨h1, h2, h3⟩ | ⟨z, h1, h2, h3, h4⟩
  · exact .inl ⟨h2, h3⟩
  · exact .inr ⟨z, h2, h3, h4⟩

theorem free_new (w : World) (E : TypeId) (cs : Array Value) (j : Nat) : (w.alloc (.cells cs E)).frozen? ⟨w.heap.size, j, none⟩ = false := by
  have hh : (w.alloc (.cells cs E)).heap[w.heap.size]? = some (.cells cs E) := heap_alloc_new w _
  exact frozen_of_row _ _ j _ _ hh

/-- setLoc: nil for UTC. -/
theorem setLoc_any (t b : Nat) (n : Int) (loc : Option Addr) (off : Int → Int) (w : World) (hc0 : w.cell? ⟨t, 0, none⟩ = some (.int .u64 n)) (hc2 : ∃ v, w.cell? ⟨t, 2, none⟩ = some v) (hf2 : w.frozen? ⟨t, 2, none⟩ = false) (hn : Nn n) (hp : Pair w loc b off) :
    Calls Try.prog 73 #[.pointer (some ⟨t, 0, none⟩), .pointer (some ⟨b, 0, none⟩)] w fun x w' => x = .returned (.tuple #[]) ∧ w.setCell ⟨t, 2, none⟩ (.pointer loc) = w' := by
  have HS := Lib.hid (strip_at hc0 hn)
  obtain ⟨v, hv⟩ := hc2
  clear hc0
  rcases hp with ⟨rfl, h2, rfl⟩ | ⟨z, rfl, h2, h3, rfl⟩
  · have hu := h2.utc
    go_enter Try.func73, Try.ntmps73
    go_wp2_with (go_at_call 90; refine HS.out.mono ?_; rintro x w' ⟨rfl, rfl⟩)
    go_end0
    exact ⟨rfl, rfl⟩
  · have hu := h3.utc
    go_enter Try.func73, Try.ntmps73
    go_wp2_with (go_at_call 90; refine HS.out.mono ?_; rintro x w' ⟨rfl, rfl⟩)
    go_end0
    exact ⟨rfl, rfl⟩

theorem in_any (n e : Int) (l0 loc : Option Addr) (b : Nat) (off : Int → Int) (w : World) (hn : Nn n) (hp : Pair w loc b off) :
    Calls Try.prog 60 #[.agg #[.int .u64 n, .int .i64 e, .pointer l0], .pointer (some ⟨b, 0, none⟩)] w fun x w' => x = .returned (.agg #[.int .u64 n, .int .i64 e, .pointer loc]) ∧ Below w.heap.size w w' := by
  have hx := (box_new w 78 (.int .u64 n) (.int .i64 e) (.pointer l0)).below (Below.alloc (Below.refl (w.heap.size + 1) _) (by simp) (.cells #[.int .u64 0, .int .i64 0, .pointer none] 78)) (by simp)
  have hf : ((w.alloc (.cells #[.int .u64 n, .int .i64 e, .pointer l0] 78)).alloc (.cells #[.int .u64 0, .int .i64 0, .pointer none] 78)).frozen? ⟨w.heap.size, 2, none⟩ = false := by
    rw [(Below.alloc (Below.refl (w.heap.size + 1) (w.alloc (.cells #[.int .u64 n, .int .i64 e, .pointer l0] 78))) (by simp) (.cells #[.int .u64 0, .int .i64 0, .pointer none] 78)).frozen (p := ⟨w.heap.size, 2, none⟩) (by simp)]
    exact free_new _ _ _ _
  have hbw : Below w.heap.size w ((w.alloc (.cells #[.int .u64 n, .int .i64 e, .pointer l0] 78)).alloc (.cells #[.int .u64 0, .int .i64 0, .pointer none] 78)) := ((Below.refl _ _).alloc (Nat.le_refl _) _).alloc (by simp) _
  have HS := Lib.hid (setLoc_any w.heap.size b n loc off _ hx.2.1 ⟨_, hx.2.2.2⟩ hf hn (hp.below hbw))
  clear hx hf
  go_enter Try.func60, Try.ntmps60
  go_wp2_with (go_at_call 73; refine HS.out.mono ?_; rintro x w' ⟨rfl, rfl⟩)
  refine bodyPost_ret (v := .agg #[.int .u64 n, .int .i64 e, .pointer loc]) (by simp [results, Try.results60, go_sem]) rfl ⟨rfl, ?_⟩
  exact ((Below.refl _ _).alloc (Nat.le_refl _) _).alloc (by simp) _

/-- addSec -/
theorem addSec_at (t : Nat) (n e d : Int) (w : World) (hc0 : w.cell? ⟨t, 0, none⟩ = some (.int .u64 n)) (hc1 : w.cell? ⟨t, 1, none⟩ = some (.int .i64 e)) (hf1 : w.frozen? ⟨t, 1, none⟩ = false) (hn : Nn n) (he : Es e) (hd0 : -100000000000 ≤ d) (hd1 : d ≤ 100000000000) :
    Calls Try.prog 142 #[.pointer (some ⟨t, 0, none⟩), .int .i64 d] w fun x w' => x = .returned (.tuple #[]) ∧ w.setCell ⟨t, 1, none⟩ (.int .i64 (e + d)) = w' := by
  have hb := big_and n hn.1 hn.2
  have h1 := he.1
  have h2 := he.2
  have hq : (decide (e < e + d) == decide (0 < d)) = true := by simp; omega
  go_enter Try.func142, Try.ntmps142
  go_wp2
  go_end0
  exact ⟨rfl, rfl⟩

/-- A time's box beside a result's. -/
theorem box2 (w : World) (E : TypeId) (x y z a b c : Value) : Box ((w.alloc (.cells #[x, y, z] E)).alloc (.cells #[a, b, c] E)) w.heap.size x y z ∧ (∀ j, ((w.alloc (.cells #[x, y, z] E)).alloc (.cells #[a, b, c] E)).frozen? ⟨w.heap.size, j, none⟩ = false) ∧ Below w.heap.size w ((w.alloc (.cells #[x, y, z] E)).alloc (.cells #[a, b, c] E)) := by
  refine ⟨(box_new w E x y z).below (Below.alloc (Below.refl (w.heap.size + 1) _) (by simp) _) (by simp), fun j => ?_, ((Below.refl _ _).alloc (Nat.le_refl _) _).alloc (by simp) _⟩
  rw [(Below.alloc (Below.refl (w.heap.size + 1) (w.alloc (.cells #[x, y, z] E))) (by simp) (.cells #[a, b, c] E)).frozen (p := ⟨w.heap.size, j, none⟩) (by simp)]
  exact free_new _ _ _ _

theorem add_A (n e d q r : Int) (loc : Option Addr) (w : World) (hn0 : 0 ≤ n) (hn1 : n < 1000000000) (he : Es e) (hq : d.tdiv 1000000000 = q) (hr : d.tmod 1000000000 = r) (h0 : 0 ≤ n + r) (h1 : n + r < 1000000000) (hq0 : -10000000 ≤ q) (hq1 : q ≤ 10000000) (hd0 : -9000000000000000000 ≤ d) (hd1 : d ≤ 9000000000000000000) :
    Calls Try.prog 133 #[.agg #[.int .u64 n, .int .i64 e, .pointer loc], .int .i64 d] w fun x w' => x = .returned (.agg #[.int .u64 (n + r), .int .i64 (e + q), .pointer loc]) ∧ Below w.heap.size w w' := by
  have hx := box2 w 78 (.int .u64 n) (.int .i64 e) (.pointer loc) (.int .u64 0) (.int .i64 0) (.pointer none)
  have hy := box2 w 78 (.int .u64 (n + r)) (.int .i64 e) (.pointer loc) (.int .u64 0) (.int .i64 0) (.pointer none)
  have HN := Lib.hid (nsec_at hx.1.2.1 (show Nn n from ⟨hn0, by omega⟩))
  have HS := Lib.hid (addSec_at w.heap.size (n + r) e q _ hy.1.2.1 hy.1.2.2.1 (hy.2.1 1) ⟨h0, by omega⟩ he (by omega) (by omega))
  have hm1 := mask_not n hn0 (by omega)
  have hm2 := or_zero (n + r) h0 (by omega)
  have hm3 := big_and (n + r) h0 (by omega)
  have hr9 : -1000000000 < r ∧ r < 1000000000 := by rw [← hr]; exact ⟨Int.lt_tmod_of_pos d (by decide), Int.tmod_lt_of_pos d (by decide)⟩
  clear hx hy he
  go_enter Try.func133, Try.ntmps133
  go_wp2_with (first
    | (go_at_call 92; refine HN.out.mono ?_; rintro x w' ⟨rfl, rfl⟩)
    | (go_at_call 142; refine HS.out.mono ?_; rintro x w' ⟨rfl, rfl⟩))
  refine bodyPost_ret (v := .agg #[.int .u64 (n + r), .int .i64 (e + q), .pointer loc]) (by simp [results, Try.results133, go_sem]) rfl ⟨rfl, ?_⟩
  exact ((Below.refl _ _).alloc (Nat.le_refl _) _).alloc (by simp) _

theorem add_B (n e d q r : Int) (loc : Option Addr) (w : World) (hn0 : 0 ≤ n) (hn1 : n < 1000000000) (he : Es e) (hq : d.tdiv 1000000000 = q) (hr : d.tmod 1000000000 = r) (h0 : 1000000000 ≤ n + r) (h1 : n + r < 2000000000) (hq0 : -10000000 ≤ q) (hq1 : q ≤ 10000000) (hd0 : -9000000000000000000 ≤ d) (hd1 : d ≤ 9000000000000000000) :
    Calls Try.prog 133 #[.agg #[.int .u64 n, .int .i64 e, .pointer loc], .int .i64 d] w fun x w' => x = .returned (.agg #[.int .u64 (n + r - 1000000000), .int .i64 (e + (q + 1)), .pointer loc]) ∧ Below w.heap.size w w' := by
  have hx := box2 w 78 (.int .u64 n) (.int .i64 e) (.pointer loc) (.int .u64 0) (.int .i64 0) (.pointer none)
  have hy := box2 w 78 (.int .u64 (n + r - 1000000000)) (.int .i64 e) (.pointer loc) (.int .u64 0) (.int .i64 0) (.pointer none)
  have HN := Lib.hid (nsec_at hx.1.2.1 (show Nn n from ⟨hn0, by omega⟩))
  have HS := Lib.hid (addSec_at w.heap.size (n + r - 1000000000) e (q + 1) _ hy.1.2.1 hy.1.2.2.1 (hy.2.1 1) ⟨by omega, by omega⟩ he (by omega) (by omega))
  have hm1 := mask_not n hn0 (by omega)
  have hm2 := or_zero (n + r - 1000000000) (by omega) (by omega)
  have hm3 := big_and (n + r - 1000000000) (by omega) (by omega)
  have hr9 : -1000000000 < r ∧ r < 1000000000 := by rw [← hr]; exact ⟨Int.lt_tmod_of_pos d (by decide), Int.tmod_lt_of_pos d (by decide)⟩
  clear hx hy he
  go_enter Try.func133, Try.ntmps133
  go_wp2_with (first
    | (go_at_call 92; refine HN.out.mono ?_; rintro x w' ⟨rfl, rfl⟩)
    | (go_at_call 142; refine HS.out.mono ?_; rintro x w' ⟨rfl, rfl⟩))
  refine bodyPost_ret (v := .agg #[.int .u64 (n + r - 1000000000), .int .i64 (e + (q + 1)), .pointer loc]) (by simp [results, Try.results133, go_sem]) rfl ⟨rfl, ?_⟩
  exact ((Below.refl _ _).alloc (Nat.le_refl _) _).alloc (by simp) _

theorem unixTime_any (s n : Int) (w : World) (h0 : 0 ≤ n) (h1 : n < 1000000000) (hs0 : -1000000000000 ≤ s) (hs1 : s ≤ 1000000000000) :
    Calls Try.prog 72 #[.int .i64 s, .int .i32 n] w fun x w' => x = .returned (.agg #[.int .u64 n, .int .i64 (s + 62135596800), .pointer none]) ∧ Below w.heap.size w w' := by
  go_enter Try.func72, Try.ntmps72
  go_wp2
  refine bodyPost_ret (v := .agg #[.int .u64 n, .int .i64 (s + 62135596800), .pointer none]) (by simp [results, Try.results72, go_sem]) rfl ⟨rfl, ?_⟩
  exact (Below.refl _ _).alloc (Nat.le_refl _) _
/-- A box behind a call. -/
theorem box_after {w w1 : World} {E : TypeId} {x y z : Value} (hb : Below (w.alloc (.cells #[x, y, z] E)).heap.size (w.alloc (.cells #[x, y, z] E)) w1) :
    w1.cell? ⟨w.heap.size, 0, none⟩ = some x ∧ w1.cell? ⟨w.heap.size, 1, none⟩ = some y ∧ w1.cell? ⟨w.heap.size, 2, none⟩ = some z ∧ w1.frozen? ⟨w.heap.size, 0, none⟩ = false ∧ w1.frozen? ⟨w.heap.size, 1, none⟩ = false ∧ w1.frozen? ⟨w.heap.size, 2, none⟩ = false := by
  have h := (box_new w E x y z).below hb (by simp)
  have f : ∀ j, w1.frozen? ⟨w.heap.size, j, none⟩ = false := fun j => (hb.frozen (p := ⟨w.heap.size, j, none⟩) (by simp)).trans (free_new w E _ j)
  exact ⟨h.2.1, h.2.2.1, h.2.2.2, f 0, f 1, f 2⟩
theorem below_set3 {w w1 : World} {B b : Nat} {x y z : Value} (hb : Below B w w1) (h : B ≤ b) : Below B w (((w1.setCell ⟨b, 0, none⟩ x).setCell ⟨b, 1, none⟩ y).setCell ⟨b, 2, none⟩ z) :=
  ((hb.setCell (p := ⟨b, 0, none⟩) h _).setCell (p := ⟨b, 1, none⟩) h _).setCell (p := ⟨b, 2, none⟩) h _
theorem unix_any' (s n : Int) (w : World) (h0 : 0 ≤ n) (h1 : n < 1000000000) (hs0 : -1000000000000 ≤ s) (hs1 : s ≤ 1000000000000) :
    Calls Try.prog 59 #[.int .i64 s, .int .i64 n] w fun x w' => x = .returned (.agg #[.int .u64 n, .int .i64 (s + 62135596800), .pointer none]) ∧ Below w.heap.size w w' := by
  go_enter Try.func59, Try.ntmps59
  go_wp2_with (go_at_call 72; refine (unixTime_any s n _ h0 h1 hs0 hs1).mono ?_; rintro x w1 ⟨rfl, hb⟩; obtain ⟨c0, c1, c2, f0, f1, f2⟩ := box_after hb)
  refine bodyPost_ret (v := .agg #[.int .u64 n, .int .i64 (s + 62135596800), .pointer none]) (by simp [results, Try.results59, go_sem, *]) rfl ⟨rfl, ?_⟩
  exact below_set3 (((Below.refl _ _).alloc (Nat.le_refl _) _).trans (hb.mono (by simp))) (Nat.le_refl _)

end Go.Proofs.Ytoekefbclkmchaa.Time2
