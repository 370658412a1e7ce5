/- A zone in memory, and what the program looks up in it. Conditions: transitions in order, the first ahead of all instants. -/
import Derived.Test.YtoekefbclkmchaaTimeNum
import Derived.Deep.QuietTactic
import Derived.BigQuiet
import Derived.WalkSpells
import Derived.Below
import Derived.BigFrame
namespace Go.Proofs.Ytoekefbclkmchaa.Lookup
open Go Go.RowKit Go.Proofs.Ytoekefbclkmchaa.Cal Go.Proofs.Ytoekefbclkmchaa.Off Go.Proofs.Ytoekefbclkmchaa.TimeNum
set_option linter.unusedVariables false

/-- The offset behind k transitions. -/
def offK (o : Nat → Int) (wh : Nat → Int) (ix : Nat → Nat) (sec : Int) : Nat → Int
  | 0 => 0
  | k + 1 => if wh k ≤ sec then o (ix k) else offK o wh ix sec k

/-- A zone as data: n offsets, m transitions. -/
structure ZoneD where
  n : Nat
  m : Nat
  o : Nat → Int
  d : Nat → Bool
  wh : Nat → Int
  ix : Nat → Nat

/-- As the statements ask it. -/
structure ZoneD.Good (z : ZoneD) : Prop where
  n1 : 1 ≤ z.n
  n64 : z.n ≤ 64
  m1 : 1 ≤ z.m
  m4096 : z.m ≤ 4096
  w0 : z.wh 0 = -9223372036854775808
  asc : ∀ i j, i < j → j < z.m → z.wh i < z.wh j
  w64 : ∀ i, i < z.m → -9223372036854775808 ≤ z.wh i ∧ z.wh i ≤ 9223372036854775807
  o1 : ∀ k, k < z.n → -86400 ≤ z.o k ∧ z.o k ≤ 86400
  ixn : ∀ i, i < z.m → z.ix i < z.n

def ZoneD.off (z : ZoneD) (sec : Int) : Int := offK z.o z.wh z.ix sec z.m

theorem ZoneD.Good.asc' {z : ZoneD} (h : z.Good) {i j : Nat} (hij : i ≤ j) (hj : j < z.m) : z.wh i ≤ z.wh j := by
  rcases Nat.lt_or_ge i j with h1 | h1
  · exact Int.le_of_lt (h.asc i j h1 hj)
  · obtain rfl : i = j := by omega
    exact Int.le_refl _

theorem offK_at {z : ZoneD} (h : z.Good) (sec : Int) (j : Nat) (hj : z.wh j ≤ sec) : ∀ k, j < k → k ≤ z.m → (∀ i, j < i → i < k → sec < z.wh i) → offK z.o z.wh z.ix sec k = z.o (z.ix j) := by
  intro k
  induction k with
  | zero => intro h1; omega
  | succ k ih =>
    intro h1 h2 h3
    unfold offK
    by_cases hk : j = k
    · subst hk; rw [if_pos hj]
    · rw [if_neg (by have := h3 k (by omega) (by omega); omega)]
      exact ih (by omega) (by omega) (fun i a b => h3 i a (by omega))
/-- In use from transition j on up to the next. -/
theorem off_at {z : ZoneD} (h : z.Good) (sec : Int) (j : Nat) (hj : j < z.m) (h1 : z.wh j ≤ sec) (h2 : j + 1 = z.m ∨ sec < z.wh (j + 1)) : z.off sec = z.o (z.ix j) :=
  offK_at h sec j h1 z.m hj (Nat.le_refl _) fun i a b => by
    rcases h2 with h2 | h2
    · omega
    · exact Int.lt_of_lt_of_le h2 (h.asc' (by omega) b)
theorem ZoneD.Good.bd {z : ZoneD} (h : z.Good) (sec : Int) : -86400 ≤ z.off sec ∧ z.off sec ≤ 86400 := by
  have key : ∀ k, k ≤ z.m → -86400 ≤ offK z.o z.wh z.ix sec k ∧ offK z.o z.wh z.ix sec k ≤ 86400 := by
    intro k
    induction k with
    | zero => intro _; simp [offK]
    | succ k ih =>
      intro hk
      unfold offK
      split
      · exact h.o1 _ (h.ixn k (by omega))
      · exact ih (by omega)
  exact key z.m (Nat.le_refl _)

/-- A place of a new array. -/
structure LocAt (w : World) (b : Nat) (z : ZoneD) : Prop where
  lt : b < w.heap.size
  utc : w.cell? ⟨b, 0, none⟩ = some (.bool false)
  rows : ∃ g cg h ch, w.cell? ⟨b, 2, none⟩ = some (.slice (some ⟨g, 0, none⟩) z.n cg) ∧ w.cell? ⟨b, 3, none⟩ = some (.slice (some ⟨h, 0, none⟩) z.m ch) ∧ z.n ≤ cg ∧ z.m ≤ ch ∧
    (∀ k, k < z.n → (∃ s, w.cell? ⟨g, k * 3, none⟩ = some (.string s)) ∧ w.cell? ⟨g, k * 3 + 1, none⟩ = some (.int .i64 (z.o k)) ∧ w.cell? ⟨g, k * 3 + 2, none⟩ = some (.bool (z.d k))) ∧
    (∀ i, i < z.m → w.cell? ⟨h, i * 4, none⟩ = some (.int .i64 (z.wh i)) ∧ w.cell? ⟨h, i * 4 + 1, none⟩ = some (.int .u8 (z.ix i : Int)))
  cache : w.cell? ⟨b, 7, none⟩ = some (.pointer none)

theorem LocAt.below {w w' : World} {b : Nat} {z : ZoneD} (h : LocAt w b z) (hb : Below w.heap.size w w') : LocAt w' b z := by
  obtain ⟨g, cg, hh, ch, r1, r2, r3, r4, r5, r6⟩ := h.rows
  have old : ∀ {p : Addr} {v : Value}, w.cell? p = some v → w'.cell? p = some v := fun hv => (hb.cell (World.block_lt_of_cell? w _ hv)).trans hv
  refine ⟨Nat.lt_of_lt_of_le h.lt hb.size, old h.utc, ⟨g, cg, hh, ch, old r1, old r2, r3, r4, fun k hk => ?_, fun i hi => ?_⟩, old h.cache⟩
  · obtain ⟨⟨s, q1⟩, q2, q3⟩ := r5 k hk
    exact ⟨⟨s, old q1⟩, old q2, old q3⟩
  · obtain ⟨q1, q2⟩ := r6 i hi
    exact ⟨old q1, old q2⟩

theorem below_drewN {B : Nat} (w : World) (n : Nat) : Below B w (w.drewN n) := ⟨rfl, rfl, rfl, Nat.le_refl _, fun _ _ => rfl⟩
theorem get_some (b : Nat) (w : World) : Calls Try.prog 103 #[.pointer (some ⟨b, 0, none⟩)] w fun e w' => e = .returned (.pointer (some ⟨b, 0, none⟩)) ∧ w = w' := by
  go_enter Try.func103, Try.ntmps103
  go_wp2
  go_ret
  exact ⟨rfl, rfl⟩

/-- What is looked up: the offset in use, and from when to when. -/
def Found (z : ZoneD) (sec : Int) (w : World) (e : Ending) (w' : World) : Prop :=
  ∃ (s : ByteArray) (start stop : Int) (d : Bool), e = .returned (.tuple #[.string s, .int .i64 (z.off sec), .int .i64 start, .int .i64 stop, .bool d]) ∧ (∀ x, start ≤ x → x < stop → z.off x = z.off sec) ∧
    (-9223372036854775808 ≤ start ∧ start ≤ 9223372036854775807 ∧ -9223372036854775808 ≤ stop ∧ stop ≤ 9223372036854775807) ∧ Below w.heap.size w w'

set_option maxHeartbeats 1000000 in
set_option maxRecDepth 100000 in
theorem lookup_any (b : Nat) (z : ZoneD) (sec : Int) (w : World) (hz : z.Good) (hl : LocAt w b z) (h0 : -9223372036854775808 ≤ sec) (h1 : sec ≤ 9223372036854775806) :
    Calls Try.prog 104 #[.pointer (some ⟨b, 0, none⟩), .int .i64 sec] w (Found z sec w) := by
  obtain ⟨g, cg, hh, ch, r1, r2, r3, r4, r5, r6⟩ := hl.rows
  have hc7 := hl.cache
  have hn1 := hz.n1
  have hm1 := hz.m1
  have hm2 := hz.m4096
  have hn2 := hz.n64
  have hw0 := (r6 0 (by omega)).1
  rw [hz.w0] at hw0
  have hn0 : (((z.n : Nat) : Int) == 0) = false := beq_eq_false_iff_ne.2 (by omega)
  have hm0 : (((z.m : Nat) : Int) == 0) = false := beq_eq_false_iff_ne.2 (by omega)
  have HR := Lib.hid r6
  have HO := Lib.hid r5
  have HZ := Lib.hid hz
  clear r5 r6 hz hl
  go_enter Try.func104, Try.ntmps104
  go_wp2_with (go_at_call 103; refine (get_some b _).mono ?_; rintro e w' ⟨rfl, rfl⟩)
  go_loop [7, 12, 13] (fun en lo hi => ∃ (i j : Nat) (x : Int), i < j ∧ j ≤ z.m ∧ lo = .int .i64 (i : Int) ∧ hi = .int .i64 (j : Int) ∧ en = .int .i64 x ∧ Hid (z.wh i ≤ sec) ∧ Hid ((j = z.m ∧ x = 9223372036854775807) ∨ (j < z.m ∧ x = z.wh j ∧ sec < x))) (fun en lo hi => (intOf hi - intOf lo).toNat)
  case atStart => exact ⟨0, z.m, _, hm1, Nat.le_refl _, rfl, rfl, rfl, Lib.hid (by rw [HZ.out.w0]; exact h0), Lib.hid (.inl ⟨rfl, rfl⟩)⟩
  case round =>
    obtain ⟨i, j, x, hij, hj, rfl, rfl, rfl, HI, HJ⟩ := hrel
    by_cases hlt : i + 1 < j
    · obtain ⟨k, hk⟩ : ∃ k : Nat, (i + j) / 2 = k := ⟨_, rfl⟩
      have hk1 : i < k := by omega
      have hk2 : k < j := by omega
      have e1 : ((i : Int) + (j : Int)) / 2 = (k : Int) := by omega
      have hd : decide (1 < (j : Int) - (i : Int)) = true := by simp; omega
      have hc := (HR.out k (by omega)).1
      have H64 := Lib.hid (HZ.out.w64 k (by omega))
      clear hk
      by_cases hs : sec < z.wh k
      · go_wp2
        go_round
        case rel => exact ⟨i, k, z.wh k, by omega, by omega, rfl, rfl, rfl, HI, Lib.hid (.inr ⟨by omega, rfl, hs⟩)⟩
        case measure => simp [intOf]; omega
      · go_wp2
        go_round
        case rel => exact ⟨k, j, x, by omega, by omega, rfl, rfl, rfl, Lib.hid (by omega), HJ⟩
        case measure => simp [intOf]; omega
    · obtain rfl : j = i + 1 := by omega
      have hd : decide (1 < ((i + 1 : Nat) : Int) - (i : Int)) = false := by simp; omega
      obtain ⟨q1, q2⟩ := HR.out i (by omega)
      have hix := HZ.out.ixn i (by omega)
      obtain ⟨⟨s, p1⟩, p2, p3⟩ := HO.out (z.ix i) hix
      go_wp2
      go_quiet (fail)
      go_wp2
      have hoff : z.off sec = z.o (z.ix i) := off_at HZ.out sec i (by omega) HI.out (by
        rcases HJ.out with ⟨e1, e2⟩ | ⟨e1, e2, e3⟩
        · exact .inl e1
        · exact .inr (by omega))
      refine bodyPost_ret (v := .tuple #[.string s, .int .i64 (z.o (z.ix i)), .int .i64 (z.wh i), .int .i64 x, .bool (z.d (z.ix i))]) (by simp [results, Try.results104, go_sem]) rfl ⟨s, z.wh i, x, z.d (z.ix i), by rw [hoff], fun y y1 y2 => ?_, ?_, below_drewN w nq⟩
      · rw [hoff]
        exact off_at HZ.out y i (by omega) y1 (by
          rcases HJ.out with ⟨e1, e2⟩ | ⟨e1, e2, e3⟩
          · exact .inl e1
          · exact .inr (by omega))
      · have a1 := HZ.out.w64 i (by omega)
        refine ⟨a1.1, a1.2, ?_⟩
        rcases HJ.out with ⟨e1, e2⟩ | ⟨e1, e2, e3⟩
        · omega
        · have a2 := HZ.out.w64 (i + 1) (by omega); omega

end Go.Proofs.Ytoekefbclkmchaa.Lookup
