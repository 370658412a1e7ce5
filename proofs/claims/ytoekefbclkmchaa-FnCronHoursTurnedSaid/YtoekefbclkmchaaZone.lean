/- Zones that come in: what the statements ask of them, the reference's offset. Conditions: none but lengths below 2^31. -/
import Derived.Test.YtoekefbclkmchaaLookup
import Derived.Test.YtoekefbclkmchaaSpecCal
import Derived.Deep.DeepCutAuto
namespace Go.Proofs.Ytoekefbclkmchaa.Zone
open Go Go.RowKit Go.Proofs.Ytoekefbclkmchaa.Cal Go.Proofs.Ytoekefbclkmchaa.Off Go.Proofs.Ytoekefbclkmchaa.TimeNum Go.Proofs.Ytoekefbclkmchaa.Lookup Go.Proofs.Ytoekefbclkmchaa.SpecCal
set_option linter.unusedVariables false

/-- The cells behind a slice. -/
def Row (w : World) (a : Option Addr) (n : Nat) (f : Nat → Value) : Prop := ∀ k, k < n → ∃ x, a = some x ∧ w.cell? (x.add k) = some (f k)
theorem Row.below {w w' : World} {a : Option Addr} {n : Nat} {f : Nat → Value} (h : Row w a n f) (hb : Below w.heap.size w w') : Row w' a n f := fun k hk => by
  obtain ⟨x, h1, h2⟩ := h k hk
  exact ⟨x, h1, (hb.cell (World.block_lt_of_cell? w _ h2)).trans h2⟩
theorem Row.cell {w : World} {x : Addr} {n : Nat} {f : Nat → Value} (h : Row w (some x) n f) {k : Nat} (hk : k < n) : w.cell? (x.add k) = some (f k) := by
  obtain ⟨y, h1, h2⟩ := h k hk
  cases h1; exact h2

/-- A zone as it comes in. -/
structure Raw where
  ao : Option Addr
  ad : Option Addr
  aw : Option Addr
  ai : Option Addr
  no : Nat
  nd : Nat
  nw : Nat
  ni : Nat
  o : Nat → Int
  d : Nat → Bool
  wh : Nat → Int
  ix : Nat → Int
structure Raw.At (r : Raw) (w : World) : Prop where
  ro : Row w r.ao r.no (fun k => .int .i64 (r.o k))
  rd : Row w r.ad r.nd (fun k => .bool (r.d k))
  rw' : Row w r.aw r.nw (fun k => .int .i64 (r.wh k))
  ri : Row w r.ai r.ni (fun k => .int .i64 (r.ix k))
  lo : r.no ≤ 2147483647
  ld : r.nd ≤ 2147483647
  lw : r.nw ≤ 2147483647
  li : r.ni ≤ 2147483647
  bo : ∀ k, k < r.no → -9223372036854775808 ≤ r.o k ∧ r.o k ≤ 9223372036854775807
  bw : ∀ k, k < r.nw → -9223372036854775808 ≤ r.wh k ∧ r.wh k ≤ 9223372036854775807
  bi : ∀ k, k < r.ni → -9223372036854775808 ≤ r.ix k ∧ r.ix k ≤ 9223372036854775807
theorem Raw.At.below {r : Raw} {w w' : World} (h : r.At w) (hb : Below w.heap.size w w') : r.At w' :=
  ⟨h.ro.below hb, h.rd.below hb, h.rw'.below hb, h.ri.below hb, h.lo, h.ld, h.lw, h.li, h.bo, h.bw, h.bi⟩

def Raw.toD (r : Raw) : ZoneD := ⟨r.no, r.nw, r.o, r.d, r.wh, fun i => (r.ix i).toNat⟩
/-- UTC, or a zone in order. -/
def Raw.Ok (r : Raw) : Prop := (r.no = 0 ∧ r.nd = 0 ∧ r.nw = 0 ∧ r.ni = 0) ∨ (r.toD.Good ∧ r.nd = r.no ∧ r.ni = r.nw ∧ ∀ i, i < r.nw → 0 ≤ r.ix i)

/-- A boxed zone behind calls. -/
theorem box4_after {w w1 : World} {E : TypeId} {a b c d : Value} (hb : Below (w.alloc (.cells #[a, b, c, d] E)).heap.size (w.alloc (.cells #[a, b, c, d] E)) w1) :
    w1.cell? ⟨w.heap.size, 0, none⟩ = some a ∧ w1.cell? ⟨w.heap.size, 1, none⟩ = some b ∧ w1.cell? ⟨w.heap.size, 2, none⟩ = some c ∧ w1.cell? ⟨w.heap.size, 3, none⟩ = some d := by
  have hh : (w.alloc (.cells #[a, b, c, d] E)).heap[w.heap.size]? = some (.cells #[a, b, c, d] E) := heap_alloc_new w _
  have f : ∀ j, w1.cell? ⟨w.heap.size, j, none⟩ = (w.alloc (.cells #[a, b, c, d] E)).cell? ⟨w.heap.size, j, none⟩ := fun j => hb.cell (p := ⟨w.heap.size, j, none⟩) (by simp)
  refine ⟨(f 0).trans ?_, (f 1).trans ?_, (f 2).trans ?_, (f 3).trans ?_⟩ <;> (unfold World.cell?; simp only [hh]; rfl)

def GoodRes (r : Raw) (w : World) (e : Ending) (w' : World) : Prop := ∃ g : Bool, e = .returned (.bool g) ∧ (g = true → r.Ok) ∧ Below w.heap.size w w'

theorem asc_of {f : Nat → Int} {n : Nat} (h : ∀ i, 0 < i → i < n → f (i - 1) < f i) : ∀ i j, i < j → j < n → f i < f j := by
  intro i j hij hj
  induction j with
  | zero => omega
  | succ j ih =>
    have h1 := h (j + 1) (by omega) hj
    rw [Nat.add_sub_cancel] at h1
    by_cases c : i = j
    · subst c; exact h1
    · exact Int.lt_trans (ih (by omega) (by omega)) h1

set_option maxHeartbeats 4000000 in
set_option maxRecDepth 100000 in
theorem goodZone_any (r : Raw) (co cd cw ci : Nat) (w : World) (h : r.At w) :
    Calls Try.prog 12 #[.agg #[.slice r.ao r.no co, .slice r.ad r.nd cd, .slice r.aw r.nw cw, .slice r.ai r.ni ci]] w (GoodRes r w) := by
  obtain ⟨ao, ad, aw, ai, no, nd, nw, ni, o, d, wh, ix⟩ := r
  obtain ⟨ro, rd, rw', ri, lo, ld, lw, li, bo, bw, bi⟩ := h
  simp only at *
  have hbw : Below w.heap.size w (w.alloc (.cells #[.slice ao no co, .slice ad nd cd, .slice aw nw cw, .slice ai ni ci] 29)) := (Below.refl _ _).alloc (Nat.le_refl _) _
  have HO := Lib.hid (ro.below hbw)
  have HD := Lib.hid (rd.below hbw)
  have HW := Lib.hid (rw'.below hbw)
  have HI := Lib.hid (ri.below hbw)
  have HBW := Lib.hid bw
  have HBO := Lib.hid bo
  have HBI := Lib.hid bi
  clear ro rd rw' ri bo bw bi
  by_cases z0 : no = 0
  · subst z0
    by_cases z1 : nd = 0
    · subst z1
      by_cases z2 : nw = 0
      · subst z2
        by_cases z3 : ni = 0
        · subst z3
          go_enter Try.func12, Try.ntmps12
          go_wp2
          go_ret
          exact ⟨_, rfl, fun _ => .inl ⟨rfl, rfl, rfl, rfl⟩, (Below.refl _ _).alloc (Nat.le_refl _) _⟩
        · have hb : (((ni : Nat) : Int) == 0) = false := beq_eq_false_iff_ne.2 (by omega)
          go_enter Try.func12, Try.ntmps12
          go_wp2
          go_ret
          exact ⟨_, rfl, (fun h => by cases h), (Below.refl _ _).alloc (Nat.le_refl _) _⟩
      · have hb : (((nw : Nat) : Int) == 0) = false := beq_eq_false_iff_ne.2 (by omega)
        go_enter Try.func12, Try.ntmps12
        go_wp2
        go_ret
        exact ⟨_, rfl, (fun h => by cases h), (Below.refl _ _).alloc (Nat.le_refl _) _⟩
    · have hb : (((nd : Nat) : Int) == 0) = false := beq_eq_false_iff_ne.2 (by omega)
      go_enter Try.func12, Try.ntmps12
      go_wp2
      go_ret
      exact ⟨_, rfl, (fun h => by cases h), (Below.refl _ _).alloc (Nat.le_refl _) _⟩
  have b0 : (((no : Nat) : Int) == 0) = false := beq_eq_false_iff_ne.2 (by omega)
  by_cases z1 : 64 < no
  · go_enter Try.func12, Try.ntmps12
    go_wp2
    go_ret
    exact ⟨_, rfl, (fun h => by cases h), (Below.refl _ _).alloc (Nat.le_refl _) _⟩
  by_cases z2 : nd = no
  case neg =>
    have hb : (((nd : Nat) : Int) != ((no : Nat) : Int)) = true := by rw [bne_iff_ne]; omega
    go_enter Try.func12, Try.ntmps12
    go_wp2
    go_ret
    exact ⟨_, rfl, (fun h => by cases h), (Below.refl _ _).alloc (Nat.le_refl _) _⟩
  subst z2
  by_cases z3 : nw = 0
  · subst z3
    go_enter Try.func12, Try.ntmps12
    go_wp2
    go_ret
    exact ⟨_, rfl, (fun h => by cases h), (Below.refl _ _).alloc (Nat.le_refl _) _⟩
  have b3 : (((nw : Nat) : Int) == 0) = false := beq_eq_false_iff_ne.2 (by omega)
  by_cases z4 : 4096 < nw
  · go_enter Try.func12, Try.ntmps12
    go_wp2
    go_ret
    exact ⟨_, rfl, (fun h => by cases h), (Below.refl _ _).alloc (Nat.le_refl _) _⟩
  by_cases z5 : ni = nw
  case neg =>
    have hb : (((ni : Nat) : Int) != ((nw : Nat) : Int)) = true := by rw [bne_iff_ne]; omega
    go_enter Try.func12, Try.ntmps12
    go_wp2
    go_ret
    exact ⟨_, rfl, (fun h => by cases h), (Below.refl _ _).alloc (Nat.le_refl _) _⟩
  subst z5
  obtain ⟨xo, rfl, -⟩ := HO.out 0 (by omega)
  obtain ⟨xd, rfl, -⟩ := HD.out 0 (by omega)
  obtain ⟨xw, rfl, hw0'⟩ := HW.out 0 (by omega)
  have hw0 : (w.alloc (.cells #[.slice (some xo) nd co, .slice (some xd) nd cd, .slice (some xw) ni cw, .slice ai ni ci] 29)).cell? xw = some (.int .i64 (wh 0)) := by simpa [go_sem] using hw0'
  clear hw0'
  obtain ⟨xi, rfl, -⟩ := HI.out 0 (by omega)
  by_cases z6 : wh 0 = -9223372036854775808
  case neg =>
    have hb : (wh 0 != -9223372036854775808) = true := by rw [bne_iff_ne]; exact z6
    go_enter Try.func12, Try.ntmps12
    go_wp2
    go_ret
    exact ⟨_, rfl, (fun h => by cases h), (Below.refl _ _).alloc (Nat.le_refl _) _⟩
  have b6 : (wh 0 != -9223372036854775808) = false := by rw [bne_eq_false_iff_eq]; exact z6
  rw [z6] at hw0
  go_enter Try.func12, Try.ntmps12
  go_wp2
  go_loop [71] (fun i => ∃ k : Nat, k ≤ nd ∧ i = .int .i64 (k : Int) ∧ Hid (∀ j, j < k → -86400 ≤ o j ∧ o j ≤ 86400)) (fun i => nd - (intOf i).toNat)
  case atStart => exact ⟨0, Nat.zero_le _, rfl, Lib.hid (fun j hj => by omega)⟩
  case round =>
    obtain ⟨k, hk, rfl, HK⟩ := hrel
    by_cases hlt : k < nd
    · have hc := HO.out.cell hlt
      have hob := HBO.out k hlt
      by_cases h1 : o k < -86400
      · go_wp2
        go_ret
        exact ⟨_, rfl, (fun h => by cases h), hbw⟩
      by_cases h2 : 86400 < o k
      · go_wp2
        go_ret
        exact ⟨_, rfl, (fun h => by cases h), hbw⟩
      go_wp2
      go_round
      case rel => exact ⟨k + 1, by omega, by go_num, Lib.hid (fun j hj => by
        by_cases e : j = k
        · subst e; omega
        · exact HK.out j (by omega))⟩
      case measure => simp [intOf]; omega
    · obtain rfl : k = nd := by omega
      go_wp2
      go_loopw [85] (fun i wr => ∃ j : Nat, j ≤ ni ∧ i = .int .i64 (j : Int) ∧ Hid (∀ q, q < j → (0 ≤ ix q ∧ ix q < k) ∧ (0 < q → wh (q - 1) < wh q)) ∧ Hid (Below (w.alloc (.cells #[.slice (some xo) k co, .slice (some xd) k cd, .slice (some xw) ni cw, .slice (some xi) ni ci] 29)).heap.size (w.alloc (.cells #[.slice (some xo) k co, .slice (some xd) k cd, .slice (some xw) ni cw, .slice (some xi) ni ci] 29)) wr)) (fun i _ => ni - (intOf i).toNat)
      case atStart => exact ⟨0, Nat.zero_le _, rfl, Lib.hid (fun j hj => by omega), Lib.hid (Below.refl _ _)⟩
      case round =>
        obtain ⟨j, hj, rfl, HJ, HX⟩ := hrel
        obtain ⟨q0, q1, q2, q3⟩ := box4_after HX.out
        by_cases hlt2 : j < ni
        · have hci := (HI.out.below HX.out).cell hlt2
          have hcw := (HW.out.below HX.out).cell hlt2
          have hib := HBI.out j hlt2
          by_cases h1 : ix j < 0
          · have hd1 : decide (ix j < 0) = true := by simpa using h1
            go_wp2
            go_quiet (fail)
            go_wp2
            go_ret
            exact ⟨_, rfl, (fun h => by cases h), hbw.trans ((HX.out.trans (below_drewN _ nq)).mono hbw.size)⟩
          have hd1 : decide (ix j < 0) = false := by simpa using h1
          by_cases h2 : (k : Int) ≤ ix j
          · have hd2 : decide ((k : Int) ≤ ix j) = true := by simpa using h2
            go_wp2
            go_quiet (fail)
            go_wp2
            go_ret
            exact ⟨_, rfl, (fun h => by cases h), hbw.trans ((HX.out.trans (below_drewN _ nq)).mono hbw.size)⟩
          have hd2 : decide ((k : Int) ≤ ix j) = false := by simpa using h2
          by_cases h3 : j = 0
          · subst h3
            have hci0 : wr.cell? xi = some (.int .i64 (ix 0)) := by simpa [go_sem] using hci
            go_wp2
            go_quiet (fail)
            go_wp2
            go_roundw
            case rel => exact ⟨1, by omega, rfl, Lib.hid (fun q hq => by
              obtain rfl : q = 0 := by omega
              exact ⟨⟨by omega, by omega⟩, fun h => by omega⟩), Lib.hid (HX.out.trans (below_drewN _ nq))⟩
            case measure => simp [intOf] <;> omega
          obtain ⟨i, hi⟩ : ∃ i, j = i + 1 := ⟨j - 1, by omega⟩
          have HII := Lib.hid hi
          have hcp := (HW.out.below HX.out).cell (show i < ni by omega)
          have hbp := HBW.out i (by omega)
          have hbq := HBW.out j (by omega)
          have hd3 : decide (0 < j) = true := by simp; omega
          have hd3' : 0 < j := by omega
          have hil : i < ni := by omega
          have hil2 : (i : Int) < (ni : Int) := by omega
          have e1 : IntKind.i64.wrap ((j : Int) - 1) = (i : Int) := by rw [IntWalk.i64_in _ (by omega)]; omega
          clear hi
          by_cases h4 : wh j ≤ wh i
          · have hd4 : decide (wh j ≤ wh i) = true := by simpa using h4
            go_wp2
            go_quiet (fail)
            go_wp2
            go_ret
            exact ⟨_, rfl, (fun h => by cases h), hbw.trans ((HX.out.trans (below_drewN _ nq)).mono hbw.size)⟩
          · have hd4 : decide (wh j ≤ wh i) = false := by simpa using h4
            go_wp2
            go_quiet (fail)
            go_wp2
            go_roundw
            case rel => exact ⟨j + 1, by omega, by go_num, Lib.hid (fun q hq => by
              by_cases e : q = j
              · subst e; exact ⟨⟨by omega, by omega⟩, fun _ => by rw [HII.out, Nat.add_sub_cancel, ← HII.out]; omega⟩
              · exact HJ.out q (by omega)), Lib.hid (HX.out.trans (below_drewN _ nq))⟩
            case measure => simp [intOf]; omega
        · obtain rfl : j = ni := by omega
          have hd : decide ((j : Int) < (j : Int)) = false := by simp
          go_wp2
          go_ret
          refine ⟨true, rfl, fun _ => .inr ⟨⟨?_, ?_, ?_, ?_, ?_, ?_, ?_, ?_, ?_⟩, rfl, rfl, ?_⟩, hbw.trans (HX.out.mono hbw.size)⟩
          · show 1 ≤ k; omega
          · show k ≤ 64; omega
          · show 1 ≤ j; omega
          · show j ≤ 4096; omega
          · exact z6
          · exact asc_of fun i h1 h2 => (HJ.out i h2).2 h1
          · exact fun i hi => HBW.out i hi
          · exact fun q hq => HK.out q hq
          · intro i hi
            have := (HJ.out i hi).1
            show (ix i).toNat < k
            omega
          · intro i hi
            exact (HJ.out i hi).1.1

end Go.Proofs.Ytoekefbclkmchaa.Zone
