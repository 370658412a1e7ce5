/- Times made: In, Add, Unix, Date. Conditions: instants within 10^12 seconds of 1970, zones in order. · Zones that come in: the reference's offset, and the program's place. Conditions: UTC or a zone in order. -/
import Derived.Test.YtmnjmhlodbifjaaGreatDoorR25
import Derived.Test.YtmnjmhlodbifjaaGreatDoorR2

namespace Go.Proofs.YtmnjmhlodbifjaaGreatDoor.Time2
open Go Go.RowKit Go.Proofs.YtmnjmhlodbifjaaGreatDoor.Cal Go.Proofs.YtmnjmhlodbifjaaGreatDoor.Off Go.Proofs.YtmnjmhlodbifjaaGreatDoor.TimeNum Go.Proofs.YtmnjmhlodbifjaaGreatDoor.Lookup Go.Proofs.YtmnjmhlodbifjaaGreatDoor.Time
set_option linter.unusedVariables false
def Pair (w : World) (loc : Option Addr) (b : Nat) (off : Int → Int) : Prop := (loc = none ∧ UtcAt w b ∧ off = zero) ∨ ∃ z : ZoneD, loc = some ⟨b, 0, none⟩ ∧ z.Good ∧ LocAt w b z ∧ off = z.off
theorem Pair.below {w w' : World} {loc : Option Addr} {b : Nat} {off : Int → Int} (h : Pair w loc b off) (hb : Below w.heap.size w w') : Pair w' loc b off := by
  rcases h with ⟨h1, h2, h3⟩ | ⟨z, h1, h2, h3, h4⟩
  · exact .inl ⟨h1, h2.below hb, h3⟩
  · exact .inr ⟨z, h1, h2, h3.below hb, h4⟩
theorem Pair.clock {w : World} {loc : Option Addr} {b : Nat} {off : Int → Int} (h : Pair w loc b off) : Clock w loc off := by
  rcases h with ⟨h1, h2, h3⟩ | ⟨z, h1, h2, h3, h4⟩
  · exact .inl ⟨h1, h3⟩
  · exact .inr ⟨b, z, h1, h2, h3, h4⟩
theorem Pair.zone {w : World} {loc : Option Addr} {b : Nat} {off : Int → Int} (h : Pair w loc b off) : ZoneAt w b off := by
  rcases h with ⟨h1, h2, h3⟩ | ⟨z, h1, h2, h3, h4⟩
  · exact .inl ⟨h2, h3⟩
  · exact .inr ⟨z, h2, h3, h4⟩
theorem free_new (w : World) (E : TypeId) (cs : Array Value) (j : Nat) : (w.alloc (.cells cs E)).frozen? ⟨w.heap.size, j, none⟩ = false := by
  have hh : (w.alloc (.cells cs E)).heap[w.heap.size]? = some (.cells cs E) := heap_alloc_new w _
  exact frozen_of_row _ _ j _ _ hh
theorem setLoc_any (t b : Nat) (n : Int) (loc : Option Addr) (off : Int → Int) (w : World) (hc0 : w.cell? ⟨t, 0, none⟩ = some (.int .u64 n)) (hc2 : ∃ v, w.cell? ⟨t, 2, none⟩ = some v) (hf2 : w.frozen? ⟨t, 2, none⟩ = false) (hn : Nn n) (hp : Pair w loc b off) :
    Calls Tryz.prog 108 #[.pointer (some ⟨t, 0, none⟩), .pointer (some ⟨b, 0, none⟩)] w fun x w' => x = .returned (.tuple #[]) ∧ w.setCell ⟨t, 2, none⟩ (.pointer loc) = w' := by
  have HS := Lib.hid (strip_at hc0 hn)
  obtain ⟨v, hv⟩ := hc2
  clear hc0
  rcases hp with ⟨rfl, h2, rfl⟩ | ⟨z, rfl, h2, h3, rfl⟩
  · have hu := h2.utc
    go_enter Tryz.func108, Tryz.ntmps108
    go_wp2_with (go_at_call 138; refine HS.out.mono ?_; rintro x w' ⟨rfl, rfl⟩)
    go_end0
    exact ⟨rfl, rfl⟩
  · have hu := h3.utc
    go_enter Tryz.func108, Tryz.ntmps108
    go_wp2_with (go_at_call 138; refine HS.out.mono ?_; rintro x w' ⟨rfl, rfl⟩)
    go_end0
    exact ⟨rfl, rfl⟩
theorem in_any (n e : Int) (l0 loc : Option Addr) (b : Nat) (off : Int → Int) (w : World) (hn : Nn n) (hp : Pair w loc b off) :
    Calls Tryz.prog 74 #[.agg #[.int .u64 n, .int .i64 e, .pointer l0], .pointer (some ⟨b, 0, none⟩)] w fun x w' => x = .returned (.agg #[.int .u64 n, .int .i64 e, .pointer loc]) ∧ Below w.heap.size w w' := by
  have hx := (box_new w 86 (.int .u64 n) (.int .i64 e) (.pointer l0)).below (Below.alloc (Below.refl (w.heap.size + 1) _) (by simp) (.cells #[.int .u64 0, .int .i64 0, .pointer none] 86)) (by simp)
  have hf : ((w.alloc (.cells #[.int .u64 n, .int .i64 e, .pointer l0] 86)).alloc (.cells #[.int .u64 0, .int .i64 0, .pointer none] 86)).frozen? ⟨w.heap.size, 2, none⟩ = false := by
    rw [(Below.alloc (Below.refl (w.heap.size + 1) (w.alloc (.cells #[.int .u64 n, .int .i64 e, .pointer l0] 86))) (by simp) (.cells #[.int .u64 0, .int .i64 0, .pointer none] 86)).frozen (p := ⟨w.heap.size, 2, none⟩) (by simp)]
    exact free_new _ _ _ _
  have hbw : Below w.heap.size w ((w.alloc (.cells #[.int .u64 n, .int .i64 e, .pointer l0] 86)).alloc (.cells #[.int .u64 0, .int .i64 0, .pointer none] 86)) := ((Below.refl _ _).alloc (Nat.le_refl _) _).alloc (by simp) _
  have HS := Lib.hid (setLoc_any w.heap.size b n loc off _ hx.2.1 ⟨_, hx.2.2.2⟩ hf hn (hp.below hbw))
  clear hx hf
  go_enter Tryz.func74, Tryz.ntmps74
  go_wp2_with (go_at_call 108; refine HS.out.mono ?_; rintro x w' ⟨rfl, rfl⟩)
  refine bodyPost_ret (v := .agg #[.int .u64 n, .int .i64 e, .pointer loc]) (by simp [results, Tryz.results74, go_sem]) rfl ⟨rfl, ?_⟩
  exact ((Below.refl _ _).alloc (Nat.le_refl _) _).alloc (by simp) _
theorem addSec_at (t : Nat) (n e d : Int) (w : World) (hc0 : w.cell? ⟨t, 0, none⟩ = some (.int .u64 n)) (hc1 : w.cell? ⟨t, 1, none⟩ = some (.int .i64 e)) (hf1 : w.frozen? ⟨t, 1, none⟩ = false) (hn : Nn n) (he : Es e) (hd0 : -100000000000 ≤ d) (hd1 : d ≤ 100000000000) :
    Calls Tryz.prog 205 #[.pointer (some ⟨t, 0, none⟩), .int .i64 d] w fun x w' => x = .returned (.tuple #[]) ∧ w.setCell ⟨t, 1, none⟩ (.int .i64 (e + d)) = w' := by
  have hb := big_and n hn.1 hn.2
  have h1 := he.1
  have h2 := he.2
  have hq : (decide (e < e + d) == decide (0 < d)) = true := by simp; omega
  go_enter Tryz.func205, Tryz.ntmps205
  go_wp2
  go_end0
  exact ⟨rfl, rfl⟩
theorem box2 (w : World) (E : TypeId) (x y z a b c : Value) : Box ((w.alloc (.cells #[x, y, z] E)).alloc (.cells #[a, b, c] E)) w.heap.size x y z ∧ (∀ j, ((w.alloc (.cells #[x, y, z] E)).alloc (.cells #[a, b, c] E)).frozen? ⟨w.heap.size, j, none⟩ = false) ∧ Below w.heap.size w ((w.alloc (.cells #[x, y, z] E)).alloc (.cells #[a, b, c] E)) := by
  refine ⟨(box_new w E x y z).below (Below.alloc (Below.refl (w.heap.size + 1) _) (by simp) _) (by simp), fun j => ?_, ((Below.refl _ _).alloc (Nat.le_refl _) _).alloc (by simp) _⟩
  rw [(Below.alloc (Below.refl (w.heap.size + 1) (w.alloc (.cells #[x, y, z] E))) (by simp) (.cells #[a, b, c] E)).frozen (p := ⟨w.heap.size, j, none⟩) (by simp)]
  exact free_new _ _ _ _
theorem add_A (n e d q r : Int) (loc : Option Addr) (w : World) (hn0 : 0 ≤ n) (hn1 : n < 1000000000) (he : Es e) (hq : d.tdiv 1000000000 = q) (hr : d.tmod 1000000000 = r) (h0 : 0 ≤ n + r) (h1 : n + r < 1000000000) (hq0 : -10000000000 ≤ q) (hq1 : q ≤ 10000000000) (hd0 : -9000000000000000000 ≤ d) (hd1 : d ≤ 9000000000000000000) :
    Calls Tryz.prog 191 #[.agg #[.int .u64 n, .int .i64 e, .pointer loc], .int .i64 d] w fun x w' => x = .returned (.agg #[.int .u64 (n + r), .int .i64 (e + q), .pointer loc]) ∧ Below w.heap.size w w' := by
  have hx := box2 w 86 (.int .u64 n) (.int .i64 e) (.pointer loc) (.int .u64 0) (.int .i64 0) (.pointer none)
  have hy := box2 w 86 (.int .u64 (n + r)) (.int .i64 e) (.pointer loc) (.int .u64 0) (.int .i64 0) (.pointer none)
  have HN := Lib.hid (nsec_at hx.1.2.1 (show Nn n from ⟨hn0, by omega⟩))
  have HS := Lib.hid (addSec_at w.heap.size (n + r) e q _ hy.1.2.1 hy.1.2.2.1 (hy.2.1 1) ⟨h0, by omega⟩ he (by omega) (by omega))
  have hm1 := mask_not n hn0 (by omega)
  have hm2 := or_zero (n + r) h0 (by omega)
  have hm3 := big_and (n + r) h0 (by omega)
  have hr9 : -1000000000 < r ∧ r < 1000000000 := by rw [← hr]; exact ⟨Int.lt_tmod_of_pos d (by decide), Int.tmod_lt_of_pos d (by decide)⟩
  clear hx hy he
  go_enter Tryz.func191, Tryz.ntmps191
  go_wp2_with (first
    | (go_at_call 137; refine HN.out.mono ?_; rintro x w' ⟨rfl, rfl⟩)
    | (go_at_call 205; refine HS.out.mono ?_; rintro x w' ⟨rfl, rfl⟩))
  refine bodyPost_ret (v := .agg #[.int .u64 (n + r), .int .i64 (e + q), .pointer loc]) (by simp [results, Tryz.results191, go_sem]) rfl ⟨rfl, ?_⟩
  exact ((Below.refl _ _).alloc (Nat.le_refl _) _).alloc (by simp) _
theorem add_B (n e d q r : Int) (loc : Option Addr) (w : World) (hn0 : 0 ≤ n) (hn1 : n < 1000000000) (he : Es e) (hq : d.tdiv 1000000000 = q) (hr : d.tmod 1000000000 = r) (h0 : 1000000000 ≤ n + r) (h1 : n + r < 2000000000) (hq0 : -10000000000 ≤ q) (hq1 : q ≤ 10000000000) (hd0 : -9000000000000000000 ≤ d) (hd1 : d ≤ 9000000000000000000) :
    Calls Tryz.prog 191 #[.agg #[.int .u64 n, .int .i64 e, .pointer loc], .int .i64 d] w fun x w' => x = .returned (.agg #[.int .u64 (n + r - 1000000000), .int .i64 (e + (q + 1)), .pointer loc]) ∧ Below w.heap.size w w' := by
  have hx := box2 w 86 (.int .u64 n) (.int .i64 e) (.pointer loc) (.int .u64 0) (.int .i64 0) (.pointer none)
  have hy := box2 w 86 (.int .u64 (n + r - 1000000000)) (.int .i64 e) (.pointer loc) (.int .u64 0) (.int .i64 0) (.pointer none)
  have HN := Lib.hid (nsec_at hx.1.2.1 (show Nn n from ⟨hn0, by omega⟩))
  have HS := Lib.hid (addSec_at w.heap.size (n + r - 1000000000) e (q + 1) _ hy.1.2.1 hy.1.2.2.1 (hy.2.1 1) ⟨by omega, by omega⟩ he (by omega) (by omega))
  have hm1 := mask_not n hn0 (by omega)
  have hm2 := or_zero (n + r - 1000000000) (by omega) (by omega)
  have hm3 := big_and (n + r - 1000000000) (by omega) (by omega)
  have hr9 : -1000000000 < r ∧ r < 1000000000 := by rw [← hr]; exact ⟨Int.lt_tmod_of_pos d (by decide), Int.tmod_lt_of_pos d (by decide)⟩
  clear hx hy he
  go_enter Tryz.func191, Tryz.ntmps191
  go_wp2_with (first
    | (go_at_call 137; refine HN.out.mono ?_; rintro x w' ⟨rfl, rfl⟩)
    | (go_at_call 205; refine HS.out.mono ?_; rintro x w' ⟨rfl, rfl⟩))
  refine bodyPost_ret (v := .agg #[.int .u64 (n + r - 1000000000), .int .i64 (e + (q + 1)), .pointer loc]) (by simp [results, Tryz.results191, go_sem]) rfl ⟨rfl, ?_⟩
  exact ((Below.refl _ _).alloc (Nat.le_refl _) _).alloc (by simp) _
theorem unixTime_any (s n : Int) (w : World) (h0 : 0 ≤ n) (h1 : n < 1000000000) (hs0 : -1000000000000 ≤ s) (hs1 : s ≤ 1000000000000) :
    Calls Tryz.prog 107 #[.int .i64 s, .int .i32 n] w fun x w' => x = .returned (.agg #[.int .u64 n, .int .i64 (s + 62135596800), .pointer none]) ∧ Below w.heap.size w w' := by
  go_enter Tryz.func107, Tryz.ntmps107
  go_wp2
  refine bodyPost_ret (v := .agg #[.int .u64 n, .int .i64 (s + 62135596800), .pointer none]) (by simp [results, Tryz.results107, go_sem]) rfl ⟨rfl, ?_⟩
  exact (Below.refl _ _).alloc (Nat.le_refl _) _
theorem box_after {w w1 : World} {E : TypeId} {x y z : Value} (hb : Below (w.alloc (.cells #[x, y, z] E)).heap.size (w.alloc (.cells #[x, y, z] E)) w1) :
    w1.cell? ⟨w.heap.size, 0, none⟩ = some x ∧ w1.cell? ⟨w.heap.size, 1, none⟩ = some y ∧ w1.cell? ⟨w.heap.size, 2, none⟩ = some z ∧ w1.frozen? ⟨w.heap.size, 0, none⟩ = false ∧ w1.frozen? ⟨w.heap.size, 1, none⟩ = false ∧ w1.frozen? ⟨w.heap.size, 2, none⟩ = false := by
  have h := (box_new w E x y z).below hb (by simp)
  have f : ∀ j, w1.frozen? ⟨w.heap.size, j, none⟩ = false := fun j => (hb.frozen (p := ⟨w.heap.size, j, none⟩) (by simp)).trans (free_new w E _ j)
  exact ⟨h.2.1, h.2.2.1, h.2.2.2, f 0, f 1, f 2⟩
theorem below_set3 {w w1 : World} {B b : Nat} {x y z : Value} (hb : Below B w w1) (h : B ≤ b) : Below B w (((w1.setCell ⟨b, 0, none⟩ x).setCell ⟨b, 1, none⟩ y).setCell ⟨b, 2, none⟩ z) :=
  ((hb.setCell (p := ⟨b, 0, none⟩) h _).setCell (p := ⟨b, 1, none⟩) h _).setCell (p := ⟨b, 2, none⟩) h _
theorem unix_any' (s n : Int) (w : World) (h0 : 0 ≤ n) (h1 : n < 1000000000) (hs0 : -1000000000000 ≤ s) (hs1 : s ≤ 1000000000000) :
    Calls Tryz.prog 73 #[.int .i64 s, .int .i64 n] w fun x w' => x = .returned (.agg #[.int .u64 n, .int .i64 (s + 62135596800), .pointer none]) ∧ Below w.heap.size w w' := by
  go_enter Tryz.func73, Tryz.ntmps73
  go_wp2_with (go_at_call 107; refine (unixTime_any s n _ h0 h1 hs0 hs1).mono ?_; rintro x w1 ⟨rfl, hb⟩; obtain ⟨c0, c1, c2, f0, f1, f2⟩ := box_after hb)
  refine bodyPost_ret (v := .agg #[.int .u64 n, .int .i64 (s + 62135596800), .pointer none]) (by simp [results, Tryz.results73, go_sem, *]) rfl ⟨rfl, ?_⟩
  exact below_set3 (((Below.refl _ _).alloc (Nat.le_refl _) _).trans (hb.mono (by simp))) (Nat.le_refl _)
end Go.Proofs.YtmnjmhlodbifjaaGreatDoor.Time2
namespace Go.Proofs.YtmnjmhlodbifjaaGreatDoor.Zone2
open Go Go.RowKit Go.Proofs.YtmnjmhlodbifjaaGreatDoor.Cal Go.Proofs.YtmnjmhlodbifjaaGreatDoor.Off Go.Proofs.YtmnjmhlodbifjaaGreatDoor.TimeNum Go.Proofs.YtmnjmhlodbifjaaGreatDoor.Lookup Go.Proofs.YtmnjmhlodbifjaaGreatDoor.Time Go.Proofs.YtmnjmhlodbifjaaGreatDoor.Time2 Go.Proofs.YtmnjmhlodbifjaaGreatDoor.SpecCal Go.Proofs.YtmnjmhlodbifjaaGreatDoor.Zone
set_option linter.unusedVariables false
def Raw.off (r : Raw) : Int → Int := r.toD.off
theorem off_utc {r : Raw} (h : r.nw = 0) : Raw.off r = zero := by
  funext s
  unfold Raw.off ZoneD.off Raw.toD zero
  simp only
  rw [h]; rfl
set_option maxHeartbeats 1000000 in
theorem offset_any (r : Raw) (co cd cw ci : Nat) (sec : Int) (w : World) (h : r.At w) (hok : r.Ok) :
    Calls Tryz.prog 39 #[.agg #[.slice r.ao r.no co, .slice r.ad r.nd cd, .slice r.aw r.nw cw, .slice r.ai r.ni ci], .int .i64 sec] w fun e w' => e = .returned (.int .i64 (Raw.off r sec)) ∧ Below w.heap.size w w' := by
  obtain ⟨ao, ad, aw, ai, no, nd, nw, ni, o, d, wh, ix⟩ := r
  obtain ⟨ro, rd, rw', ri, -, -, -, -, bo, bw, bi⟩ := h
  rcases hok with ⟨z0, z1, z2, z3⟩ | ⟨hg, z1, z2, z3⟩
  · simp only at *
    subst z0; subst z1; subst z2; subst z3
    have HO := Lib.hid (off_utc (r := ⟨ao, ad, aw, ai, 0, 0, 0, 0, o, d, wh, ix⟩) rfl)
    clear ro rd rw' ri bo bw bi
    go_enter Tryz.func39, Tryz.ntmps39
    go_wp2
    go_loop [5, 11] (fun a i => a = .int .i64 0 ∧ i = .int .i64 0) (fun _ _ => 0)
    case atStart => exact ⟨rfl, rfl⟩
    case round =>
      obtain ⟨rfl, rfl⟩ := hrel
      go_wp2
      go_ret
      exact ⟨ret_i (by rw [HO.out]; rfl), (Below.refl _ _).alloc (Nat.le_refl _) _⟩
  · simp only at *
    subst z1; subst z2
    have hn1 : 1 ≤ nd := hg.n1
    have hn2 : nd ≤ 64 := hg.n64
    have hm1 : 1 ≤ ni := hg.m1
    have hm2 : ni ≤ 4096 := hg.m4096
    obtain ⟨xo, rfl, -⟩ := ro 0 (by omega)
    obtain ⟨xw, rfl, -⟩ := rw' 0 (by omega)
    obtain ⟨xi, rfl, -⟩ := ri 0 (by omega)
    have hbw : Below w.heap.size w (w.alloc (.cells #[.slice (some xo) nd co, .slice ad nd cd, .slice (some xw) ni cw, .slice (some xi) ni ci] 43)) := (Below.refl _ _).alloc (Nat.le_refl _) _
    have HO := Lib.hid (ro.below hbw)
    have HW := Lib.hid (rw'.below hbw)
    have HI := Lib.hid (ri.below hbw)
    have HZ := Lib.hid z3
    have HG := Lib.hid hg
    have HBO := Lib.hid bo
    have HBW := Lib.hid bw
    clear ro rd rw' ri bo bw bi z3 hg
    go_enter Tryz.func39, Tryz.ntmps39
    go_wp2
    go_loopw [5, 11] (fun a i wr => ∃ k : Nat, k ≤ ni ∧ i = .int .i64 (k : Int) ∧ a = .int .i64 (offK o wh (fun i => (ix i).toNat) sec k) ∧ Hid (Below (w.alloc (.cells #[.slice (some xo) nd co, .slice ad nd cd, .slice (some xw) ni cw, .slice (some xi) ni ci] 43)).heap.size (w.alloc (.cells #[.slice (some xo) nd co, .slice ad nd cd, .slice (some xw) ni cw, .slice (some xi) ni ci] 43)) wr)) (fun _ i _ => ni - (intOf i).toNat)
    case atStart => exact ⟨0, Nat.zero_le _, rfl, rfl, Lib.hid (Below.refl _ _)⟩
    case round =>
      obtain ⟨k, hk, rfl, rfl, HX⟩ := hrel
      obtain ⟨q0, q1, q2, q3⟩ := box4_after HX.out
      by_cases hlt : k < ni
      · have hcw := (HW.out.below HX.out).cell hlt
        have hwb := HBW.out k hlt
        by_cases hs : wh k ≤ sec
        · have hci := (HI.out.below HX.out).cell hlt
          have hix := HZ.out k hlt
          obtain ⟨q, hq⟩ : ∃ q : Nat, ix k = q := ⟨(ix k).toNat, by omega⟩
          have hqn : q < nd := by have := HG.out.ixn k hlt; simp only [Raw.toD] at this; omega
          have hco := (HO.out.below HX.out).cell hqn
          rw [hq] at hci
          have HF := Lib.hid (show offK o wh (fun i => (ix i).toNat) sec (k + 1) = o q by
            rw [offK]; rw [if_pos hs, hq]; simp)
          clear hq hix
          go_wp2
          go_quiet (fail)
          go_wp2
          go_roundw
          case rel => exact ⟨k + 1, by omega, by go_num, by rw [HF.out], Lib.hid (HX.out.trans (Lookup.below_drewN _ nq))⟩
          case measure => simp [intOf]; omega
        · have HF := Lib.hid (show offK o wh (fun i => (ix i).toNat) sec (k + 1) = offK o wh (fun i => (ix i).toNat) sec k by
            rw [offK]; rw [if_neg hs])
          go_wp2
          go_roundw
          case rel => exact ⟨k + 1, by omega, by go_num, by rw [HF.out], HX⟩
          case measure => simp [intOf]; omega
      · obtain rfl : k = ni := by omega
        have hd : decide ((k : Int) < (k : Int)) = false := by simp
        go_wp2
        go_ret
        exact ⟨rfl, hbw.trans (HX.out.mono hbw.size)⟩
end Go.Proofs.YtmnjmhlodbifjaaGreatDoor.Zone2
