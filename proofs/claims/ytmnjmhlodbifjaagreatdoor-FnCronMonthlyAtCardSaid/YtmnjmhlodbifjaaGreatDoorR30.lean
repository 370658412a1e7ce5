/- A law for a region that draws its order of evaluation: an operation, a call too, that gives the same value in every world of a kind and leaves a world of the kind may be taken first; the last operation may leave the kind. Conditions: none. · What (*SpecSchedule).Next keeps: its time in a box, its schedule; the contracts of package time's methods at this time. Conditions: seconds between -63 and 270 milliards. -/
import Derived.OrdersHeld
import Derived.Deep.RegionHeld3
import Derived.StillTail
import Derived.Below
import Derived.Test.YtmnjmhlodbifjaaGreatDoorR29

namespace Go.Proofs.YtmnjmhlodbifjaaGreatDoor.RegS
open Go
set_option linter.unusedVariables false
section
variable {P : Program} {ops : Array Oper} {Q : Exit → Act → World → Prop} {md : Region.Mode} {S : World → Prop}
def GivesR (P : Program) (S : World → Prop) (v : Value) : Result Next → Prop
  | .ok (.value u) w' => u = v ∧ S w'
  | .ok (.enter f args) w' => Calls P f args w' fun e w'' => e = .returned v ∧ S w''
  | _ => False
def Gives (P : Program) (ops : Array Oper) (S : World → Prop) (o : Oper) (v : Value) (a : Act) : Prop :=
  Region.wanted o (yielded ops a.tmps) = true ∧ ∀ w, S w → GivesR P S v ((execOp a.eval o).run P w)
theorem Gives.of_same {o : Oper} {v : Value} {a b : Act} (h : Gives P ops S o v a) (he : execOp b.eval o = execOp a.eval o)
    (hw : Region.wanted o (yielded ops b.tmps) = Region.wanted o (yielded ops a.tmps)) : Gives P ops S o v b := by
  refine ⟨hw.trans h.1, fun w hS => ?_⟩
  rw [he]
  exact h.2 w hS
theorem Gives.go {i : Nat} {o : Oper} {v : Value} {a : Act} {w : World} {K : Act → World → Prop} (hi : ops[i]? = some o) (h : Gives P ops S o v a) (hS : S w)
    (hk : ∀ w', S w' → K (a.put o.dst v) w') : wpOp P ops Q i K a w := by
  have h2 := h.2 w hS
  unfold wpOp
  rw [hi]
  dsimp only
  rw [if_pos h.1]
  refine .inl ?_
  unfold Oper.wp
  revert h2
  generalize (execOp a.eval o).run P w = r
  intro h2
  rcases r with ⟨n, w'⟩ | ⟨x, w'⟩
  · rcases n with u | _ | _ | _ | _ | _ <;> first | (exact absurd h2 id) | skip
    · obtain ⟨rfl, h4⟩ := h2
      exact hk _ h4
    · exact Calls.mono h2 fun e w'' he => by
        obtain ⟨rfl, h4⟩ := he
        exact hk _ h4
  · exact absurd h2 id
theorem Gives.swap {j : Nat} {oi oj : Oper} {v : Value} (hj : ops[j]? = some oj) (hap : oi.apart ops oj = true)
    (hsi : ∀ cs b, oi.op ≠ .select cs b) (hsj : ∀ cs b, oj.op ≠ .select cs b)
    (hQ : ∀ c a w, Q (.panic c) (a.put oi.dst v) w → Q (.panic c) a w) {K : Act → World → Prop} {a : Act} {w : World}
    (hy : Gives P ops S oi v a) (h : wpOp P ops Q j K (a.put oi.dst v) w) :
    wpOp P ops Q j (fun b w' => Gives P ops S oi v b ∧ K (b.put oi.dst v) w') a w := by
  obtain ⟨p1, p2, p3⟩ := Oper.apart_spec hap
  have stay : ∀ b : Act, Gives P ops S oi v b → ∀ u, Gives P ops S oi v (b.put oj.dst u) := fun b hb u => hb.of_same (execOp_put oi hsi b oj.dst u p3) (wanted_put oi b oj.dst u p3)
  have keepD : ∀ d : Deferred, Gives P ops S oi v { a with defers := d :: a.defers } := fun d => hy.of_same rfl rfl
  have ee := execOp_put (ops := ops) oj hsj a oi.dst v p1
  have ew := wanted_put (ops := ops) oj a oi.dst v p1
  have pc := fun (b : Act) (u : Value) => Act.put_comm b v u p2
  unfold wpOp at h ⊢
  rw [hj] at h ⊢
  dsimp only at h ⊢
  rw [ew] at h
  by_cases hw : Region.wanted oj (yielded ops a.tmps) = true
  · rw [if_pos hw] at h ⊢
    rcases h with h | ⟨hasks, hlets⟩
    · refine .inl ?_
      unfold Oper.wp at h ⊢
      rw [ee] at h
      generalize (execOp a.eval oj).run P w = r at h ⊢
      rcases r with ⟨n, w'⟩ | ⟨x, w'⟩
      · cases n <;> simp only [Oper.upon] at h ⊢
        all_goals first
          | exact h
          | exact ⟨stay a hy _, by rw [← pc]; exact h⟩
          | exact ⟨stay _ (keepD _) _, by rw [← pc, ← Act.put_defers]; exact h⟩
          | (refine Calls.mono h fun e w'' he => ?_
             cases e
             · exact ⟨stay a hy _, by rw [← pc]; exact he⟩
             · exact hQ _ _ _ he
             · exact he)
          | exact Rows.mono h fun u w'' he => ⟨stay a hy _, by rw [← pc]; exact he⟩
      · cases x <;> simp only [Oper.upon] at h ⊢
        all_goals first
          | exact h
          | exact hQ _ _ _ h
    · exact .inr ⟨by unfold Oper.asks at *; rw [ee] at hasks; exact hasks, hlets⟩
  · rw [if_neg hw] at h ⊢
    exact ⟨stay a hy _, by rw [← pc]; exact h⟩
def AnyS (P : Program) (md : Region.Mode) (ops : Array Oper) (Q : Exit → Act → World → Prop) (S : World → Prop) (n : Nat) : Nat → Array Bool → Act → Prop
  | 0, listed, a => Region.ready md ops listed = [] ∧ ∀ w, S w → Q .normal a w
  | fuel + 1, listed, a =>
    (Region.ready md ops listed = [] → ∀ w, S w → Q .normal a w) ∧
    ∀ i ∈ Region.ready md ops listed, ∀ w, S w → wpOp P ops Q i (fun b w' => (i = n ∧ Region.ready md ops (listed.setIfInBounds i true) = [] ∧ Q .normal b w') ∨ (S w' ∧ AnyS P md ops Q S n fuel (listed.setIfInBounds i true) b)) a w
theorem any_of {n : Nat} : ∀ (fuel : Nat) (listed : Array Bool) (a : Act) (w : World), AnyS P md ops Q S n fuel listed a → S w → wpAny P md ops Q fuel listed a w
  | 0, _, _, _, h, hS => ⟨h.1, h.2 _ hS⟩
  | fuel + 1, _, _, _, h, hS => ⟨fun h0 => h.1 h0 _ hS, fun i hi => wpOp_mono (fun b w' h' => by
      rcases h' with ⟨-, h1, h2⟩ | ⟨h1, h2⟩
      · exact wpAny_done h1 h2 fuel
      · exact any_of fuel _ b w' h2 h1) (h.2 i hi _ hS)⟩
theorem AnyS.first {n : Nat} (hsink : Region.sinkB md ops n = true) (hn : ops.size = n + 1) {i : Nat} {oi : Oper} {v : Value} (hi : ops[i]? = some oi) (hin : i < n) (hsel : ∀ (j : Nat) (o : Oper) cs b, ops[j]? = some o → o.op ≠ .select cs b)
    (hQ : ∀ c a w, Q (.panic c) (a.put oi.dst v) w → Q (.panic c) a w) :
    ∀ (fuel : Nat) (listed : Array Bool) (a : Act), HeadInv md ops n listed →
      (∀ j oj, ops[j]? = some oj → j ≠ i → listed.getD j true = false → (∀ e ∈ oj.after, Region.binds md e = true → e.on ≠ i) → oi.apart ops oj = true) →
      i ∈ Region.ready md ops listed → Gives P ops S oi v a →
      AnyS P md ops Q S n fuel (listed.setIfInBounds i true) (a.put oi.dst v) → AnyS P md ops Q S n (fuel + 1) listed a := by
  have hchain : Region.chainB md ops n = true := by
    unfold Region.chainB
    rw [List.all_eq_true]
    intro t ht
    have := List.mem_range.1 ht
    simp only [Bool.or_eq_true, decide_eq_true_eq]
    exact .inl (by omega)
  intro fuel
  induction fuel with
  | zero =>
    intro listed a _ _ hr hy H
    refine ⟨fun h => (by rw [h] at hr; cases hr), fun j hj w hS => ?_⟩
    by_cases hji : j = i
    · subst hji; exact hy.go hi hS fun w' hS' => .inr ⟨hS', H⟩
    · have := ready_mono hj hji
      rw [H.1] at this
      cases this
  | succ fuel ih =>
    intro listed a inv hfree hr hy H
    refine ⟨fun h => (by rw [h] at hr; cases hr), fun j hj w hS => ?_⟩
    by_cases hji : j = i
    · subst hji; exact hy.go hi hS fun w' hS' => .inr ⟨hS', H⟩
    · have h1 := H.2 j (ready_mono hj hji) w hS
      obtain ⟨hjun, oj, hoj, hall⟩ := mem_ready.1 hj
      have hjn : j < n := by
        have h5 := tail_waits hsink hchain (by omega) inv (n - i) i rfl hin (mem_ready.1 hr).1 j
        have h6 : j < ops.size := (Array.getElem?_eq_some_iff.1 hoj).1
        by_cases c : n ≤ j
        · exact absurd hj (h5 c)
        · omega
      have hnot : ∀ e ∈ oj.after, Region.binds md e = true → e.on ≠ i := fun e he hb heq => by
        have h1 := hall e he hb
        have h0 := (mem_ready.1 hr).1
        rw [heq, getD_both h0] at h1
        cases h1
      have h2 := Gives.swap hoj (hfree j oj hoj hji hjun hnot) (fun cs b => hsel i oi cs b hi) (fun cs b => hsel j oj cs b hoj) hQ hy h1
      have hfree2 : ∀ k ok, ops[k]? = some ok → k ≠ i → (listed.setIfInBounds j true).getD k true = false →
          (∀ e ∈ ok.after, Region.binds md e = true → e.on ≠ i) → oi.apart ops ok = true := fun k ok hk hki hun hno => by
        refine hfree k ok hk hki ?_ hno
        by_cases hjk : j = k
        · subst hjk; exact hjun
        · rw [getD_set_ne true hjk] at hun; exact hun
      have hstill := ready_mono hr (Ne.symm hji)
      refine wpOp_mono (fun b w' h3 => .inr ?_) h2
      obtain ⟨g1, g2⟩ := h3
      rcases g2 with ⟨g2, -⟩ | ⟨g2, g3⟩
      · omega
      · refine ⟨g2, ih (listed.setIfInBounds j true) b (inv.set hj hjn) hfree2 hstill g1 ?_⟩
        rw [Array.setIfInBounds_comm _ _ hji]
        exact g3
theorem AnyS.take {n : Nat} {i : Nat} {oi : Oper} {v : Value} {fuel : Nat} {listed : Array Bool} {a : Act} (inv : HeadInv md ops n listed)
    (hsink : Region.sinkB md ops n = true) (hn : ops.size = n + 1) (hi : ops[i]? = some oi) (hin : i < n)
    (hs : Region.noSelect ops = true) (hf : Region.free md ops listed i = true) (hr : (Region.ready md ops listed).contains i = true)
    (hQ : ∀ c a w, Q (.panic c) (a.put oi.dst v) w → Q (.panic c) a w) (hy : Gives P ops S oi v a) (d : Option Tmp) (hd : oi.dst = d)
    (h : HeadInv md ops n (listed.setIfInBounds i true) → AnyS P md ops Q S n fuel (listed.setIfInBounds i true) (a.put d v)) : AnyS P md ops Q S n (fuel + 1) listed a := by
  subst hd
  exact AnyS.first hsink hn hi hin (Region.noSelect_spec hs) hQ fuel listed a inv (Region.free_spec hi hf) (by simpa using hr) hy (h (inv.set (by simpa using hr) hin))
theorem gives_call {P : Program} {v : Value} {f : FuncId} {args : Array Value} {X Y : World} (h : Calls P f args X (fun x X' => x = .returned v ∧ RowKit.Below X.heap.size X X')) (hX : RowKit.Below Y.heap.size Y X) :
    GivesR P (fun X' => RowKit.Below Y.heap.size Y X') v (.ok (.enter f args) X) :=
  Calls.mono h fun e w' he => ⟨he.1, hX.trans (he.2.mono hX.size)⟩
theorem AnyS.last {n : Nat} {o : Oper} {fuel : Nat} {listed : Array Bool} {a : Act} (hr : Region.ready md ops listed = [n]) (ho : ops[n]? = some o)
    (hr2 : Region.ready md ops (listed.setIfInBounds n true) = [])
    (h : ∀ w, S w → ∀ K : Act → World → Prop, Shut (∀ b w', Q .normal b w' → K b w') → if Region.wanted o (yielded ops a.tmps) = true then Oper.wp P o a w K Q else K (a.put o.dst undef) w) :
    AnyS P md ops Q S n (fuel + 1) listed a := by
  refine ⟨fun h0 => (by rw [hr] at h0; cases h0), fun i hi w hS => ?_⟩
  rw [hr] at hi
  obtain rfl : i = n := by simpa using hi
  exact wpOp_step ho (fun K hK => h w hS K fun b w' hQ => hK b w' (.inl ⟨rfl, hr2, hQ⟩))
theorem region_S {n : Nat} {id : Nat} {a : Act} {w : World} (hm : P.follows .mixedOrders = true) (hn : ops.size = n + 1) (hS : S w.drew)
    (h : HeadInv .any ops n (Array.replicate (n + 1) false) → AnyS P .any ops Q S n (n + 1) (Array.replicate (n + 1) false) a) : (Code.region id ops true).wp P Q a w := by
  rw [← hn] at h
  refine wp_region_any hm (any_of _ _ _ _ (h ⟨by simp, fun j oj hj hl => ?_, fun t ht1 ht2 => ?_⟩) hS)
  · rw [getD_replicate_false] at hl
    cases hl
  · exact getD_in (by simpa using ht2) (getD_replicate_false _ _)
end
end Go.Proofs.YtmnjmhlodbifjaaGreatDoor.RegS
namespace Go.Proofs.YtmnjmhlodbifjaaGreatDoor.NextB
open Go Go.RowKit Go.Proofs.YtmnjmhlodbifjaaGreatDoor.TimeNum Go.Proofs.YtmnjmhlodbifjaaGreatDoor.Lookup Go.Proofs.YtmnjmhlodbifjaaGreatDoor.Time Go.Proofs.YtmnjmhlodbifjaaGreatDoor.Time2 Go.Proofs.YtmnjmhlodbifjaaGreatDoor.DayM Go.Proofs.YtmnjmhlodbifjaaGreatDoor.Moment Go.Proofs.YtmnjmhlodbifjaaGreatDoor.Cal Go.Proofs.YtmnjmhlodbifjaaGreatDoor.Off Go.Proofs.YtmnjmhlodbifjaaGreatDoor.Search Go.Proofs.YtmnjmhlodbifjaaGreatDoor.NextP Go.Proofs.YtmnjmhlodbifjaaGreatDoor.RegS Go.Proofs.YtmnjmhlodbifjaaGreatDoor.NextA
set_option linter.unusedVariables false
def SpecAt (w : World) (sb : Nat) (se mi hr dom mon dow : Int) : Prop :=
  w.cell? ⟨sb, 0, none⟩ = some (.int .u64 se) ∧ w.cell? ⟨sb, 1, none⟩ = some (.int .u64 mi) ∧ w.cell? ⟨sb, 2, none⟩ = some (.int .u64 hr) ∧ w.cell? ⟨sb, 3, none⟩ = some (.int .u64 dom) ∧ w.cell? ⟨sb, 4, none⟩ = some (.int .u64 mon) ∧ w.cell? ⟨sb, 5, none⟩ = some (.int .u64 dow) ∧ w.cell? ⟨sb, 6, none⟩ = some (.pointer none)
theorem SpecAt.below {w w' : World} {sb : Nat} {se mi hr dom mon dow : Int} (h : SpecAt w sb se mi hr dom mon dow) (hb : Below w.heap.size w w') : SpecAt w' sb se mi hr dom mon dow := by
  have old : ∀ {p : Addr} {v : Value}, w.cell? p = some v → w'.cell? p = some v := fun hv => (hb.cell (World.block_lt_of_cell? w _ hv)).trans hv
  obtain ⟨h0, h1, h2, h3, h4, h5, h6⟩ := h
  exact ⟨old h0, old h1, old h2, old h3, old h4, old h5, old h6⟩
def Free3 (X : World) (b : Nat) : Prop := X.frozen? ⟨b, 0, none⟩ = false ∧ X.frozen? ⟨b, 1, none⟩ = false ∧ X.frozen? ⟨b, 2, none⟩ = false
theorem Free3.below {X X' : World} {b : Nat} (h : Free3 X b) (hb : Below X.heap.size X X') (hlt : b < X.heap.size) : Free3 X' b :=
  ⟨(hb.frozen (p := ⟨b, 0, none⟩) hlt).trans h.1, (hb.frozen (p := ⟨b, 1, none⟩) hlt).trans h.2.1, (hb.frozen (p := ⟨b, 2, none⟩) hlt).trans h.2.2⟩
def At (w : World) (loc : Option Addr) (X : World) (t : Int) : Prop :=
  Below w.heap.size w X ∧ Box X w.heap.size (.int .u64 0) (.int .i64 (t + 62135596800)) (.pointer loc) ∧ Free3 X w.heap.size ∧ Box X (w.heap.size + 1) (.int .u64 0) (.int .i64 0) (.pointer none) ∧ Free3 X (w.heap.size + 1)
variable {w X X' : World} {loc : Option Addr} {t t1 : Int}
theorem At.below (h : At w loc X t) (hb : Below X.heap.size X X') : At w loc X' t :=
  ⟨h.1.trans (hb.mono h.1.size), h.2.1.below hb h.2.1.1, h.2.2.1.below hb h.2.1.1, h.2.2.2.1.below hb h.2.2.2.1.1, h.2.2.2.2.below hb h.2.2.2.1.1⟩
theorem cell_set3 (X : World) (b : Nat) (x y z : Value) (h0 : ∃ v, X.cell? ⟨b, 0, none⟩ = some v) (h1 : ∃ v, X.cell? ⟨b, 1, none⟩ = some v) (h2 : ∃ v, X.cell? ⟨b, 2, none⟩ = some v) :
    (((X.setCell ⟨b, 0, none⟩ x).setCell ⟨b, 1, none⟩ y).setCell ⟨b, 2, none⟩ z).cell? ⟨b, 0, none⟩ = some x ∧ (((X.setCell ⟨b, 0, none⟩ x).setCell ⟨b, 1, none⟩ y).setCell ⟨b, 2, none⟩ z).cell? ⟨b, 1, none⟩ = some y ∧ (((X.setCell ⟨b, 0, none⟩ x).setCell ⟨b, 1, none⟩ y).setCell ⟨b, 2, none⟩ z).cell? ⟨b, 2, none⟩ = some z := by
  obtain ⟨v0, h0⟩ := h0
  obtain ⟨v1, h1⟩ := h1
  obtain ⟨v2, h2⟩ := h2
  refine ⟨?_, ?_, ?_⟩ <;> simp [go_sem, h0, h1, h2]
def AtN (w : World) (n e : Int) (loc : Option Addr) (X : World) : Prop :=
  Below w.heap.size w X ∧ Box X w.heap.size (.int .u64 n) (.int .i64 e) (.pointer loc) ∧ Free3 X w.heap.size ∧ Box X (w.heap.size + 1) (.int .u64 0) (.int .i64 0) (.pointer none) ∧ Free3 X (w.heap.size + 1)
theorem AtN.below {n e : Int} (h : AtN w n e loc X) (hb : Below X.heap.size X X') : AtN w n e loc X' :=
  ⟨h.1.trans (hb.mono h.1.size), h.2.1.below hb h.2.1.1, h.2.2.1.below hb h.2.1.1, h.2.2.2.1.below hb h.2.2.2.1.1, h.2.2.2.2.below hb h.2.2.2.1.1⟩
theorem AtN.cells {n e : Int} (h : AtN w n e loc X) : X.cell? ⟨w.heap.size, 0, none⟩ = some (.int .u64 n) ∧ X.cell? ⟨w.heap.size, 1, none⟩ = some (.int .i64 e) ∧ X.cell? ⟨w.heap.size, 2, none⟩ = some (.pointer loc) := h.2.1.2
theorem AtN.free {n e : Int} (h : AtN w n e loc X) : X.frozen? ⟨w.heap.size, 0, none⟩ = false ∧ X.frozen? ⟨w.heap.size, 1, none⟩ = false ∧ X.frozen? ⟨w.heap.size, 2, none⟩ = false := h.2.2.1
theorem AtN.put {n e : Int} (h : AtN w n e loc X) : At w loc (((X.setCell ⟨w.heap.size, 0, none⟩ (.int .u64 0)).setCell ⟨w.heap.size, 1, none⟩ (.int .i64 (t1 + 62135596800))).setCell ⟨w.heap.size, 2, none⟩ (.pointer loc)) t1 := by
  obtain ⟨h1, ⟨h2, c0, c1, c2⟩, ⟨f0, f1, f2⟩, ⟨h3, d0, d1, d2⟩, ⟨g0, g1, g2⟩⟩ := h
  obtain ⟨e0, e1, e2⟩ := cell_set3 X w.heap.size (.int .u64 0) (.int .i64 (t1 + 62135596800)) (.pointer loc) ⟨_, c0⟩ ⟨_, c1⟩ ⟨_, c2⟩
  refine ⟨below_set3 h1 (Nat.le_refl _), ⟨by simpa using h2, e0, e1, e2⟩, ⟨?_, ?_, ?_⟩, ⟨by simpa using h3, ?_, ?_, ?_⟩, ⟨?_, ?_, ?_⟩⟩
  all_goals simp [go_sem, *]
theorem At.put (h : At w loc X t) : At w loc (((X.setCell ⟨w.heap.size, 0, none⟩ (.int .u64 0)).setCell ⟨w.heap.size, 1, none⟩ (.int .i64 (t1 + 62135596800))).setCell ⟨w.heap.size, 2, none⟩ (.pointer loc)) t1 :=
  AtN.put (n := 0) (e := t + 62135596800) h
theorem AtN.of (w : World) (E : TypeId) (n e : Int) (loc : Option Addr) : AtN w n e loc ((w.alloc (.cells #[.int .u64 n, .int .i64 e, .pointer loc] E)).alloc (.cells #[.int .u64 0, .int .i64 0, .pointer none] E)) := by
  obtain ⟨h1, h2, h3⟩ := box2 w E (.int .u64 n) (.int .i64 e) (.pointer loc) (.int .u64 0) (.int .i64 0) (.pointer none)
  obtain ⟨a0, a1, a2, b0, b1, b2⟩ := Time4.box2_after (A := .cells #[.int .u64 n, .int .i64 e, .pointer loc] E) (Below.refl ((w.alloc (.cells #[.int .u64 n, .int .i64 e, .pointer loc] E)).alloc (.cells #[.int .u64 0, .int .i64 0, .pointer none] E)).heap.size _)
  exact ⟨h3, h1, ⟨h2 0, h2 1, h2 2⟩, ⟨by simp, a0, a1, a2⟩, ⟨b0, b1, b2⟩⟩
theorem whole_t {n e : Int} (h0 : 0 ≤ n) (h1 : n < 1000000000) (he : Es e) : Calls Tryz.prog 191 #[.agg #[.int .u64 n, .int .i64 e, .pointer loc], .int .i64 (1000000000 - n)] X fun x X' => x = .returned (.agg #[.int .u64 0, .int .i64 (e + 1), .pointer loc]) ∧ Below X.heap.size X X' := by
  by_cases h : n = 0
  · subst h
    have := add_A 0 e (1000000000 - 0) 1 0 loc X (by omega) (by omega) he (by decide) (by decide) (by omega) (by omega) (by omega) (by omega) (by omega) (by omega)
    exact this
  · have e1 : (1000000000 - n).tdiv 1000000000 = 0 := Int.tdiv_eq_zero_of_lt (by omega) (by omega)
    have e2 : (1000000000 - n).tmod 1000000000 = 1000000000 - n := Int.tmod_eq_of_lt (by omega) (by omega)
    have := add_B n e (1000000000 - n) 0 (1000000000 - n) loc X h0 h1 he e1 e2 (by omega) (by omega) (by omega) (by omega) (by omega) (by omega)
    rw [show n + (1000000000 - n) - 1000000000 = 0 by omega, show e + (0 + 1) = e + 1 by omega] at this
    exact this
theorem sec_of (t : Int) : sec (t + 62135596800) = t := by unfold sec; omega
def Bd (t : Int) : Prop := -63000000000 ≤ t ∧ t ≤ 270000000000
theorem Bd.es (h : Bd t) : Es (t + 62135596800) := by unfold Bd at h; unfold Es; omega
theorem nn0 : Nn 0 := ⟨by omega, by omega⟩
section
variable {off : Int → Int} (hc : Clock w loc off) (ht : Bd t) (hb : Below w.heap.size w X)
include hc ht hb
theorem year_t : Calls Tryz.prog 192 #[.agg #[.int .u64 0, .int .i64 (t + 62135596800), .pointer loc]] X fun x w' => x = .returned (.int .i64 (yOf (day off t))) ∧ Below X.heap.size X w' := by
  have := year_any' (n := 0) (w := X) nn0 ht.es (hc.below hb)
  rw [sec_of] at this; exact this
theorem month_t : Calls Tryz.prog 193 #[.agg #[.int .u64 0, .int .i64 (t + 62135596800), .pointer loc]] X fun x w' => x = .returned (.int .i64 (mOf (day off t))) ∧ Below X.heap.size X w' := by
  have := month_any' (n := 0) (w := X) nn0 ht.es (hc.below hb)
  rw [sec_of] at this; exact this
theorem day_t : Calls Tryz.prog 188 #[.agg #[.int .u64 0, .int .i64 (t + 62135596800), .pointer loc]] X fun x w' => x = .returned (.int .i64 (dOf (day off t))) ∧ Below X.heap.size X w' := by
  have := day_any (n := 0) (w := X) nn0 ht.es (hc.below hb)
  rw [sec_of] at this; exact this
theorem hour_t : Calls Tryz.prog 197 #[.agg #[.int .u64 0, .int .i64 (t + 62135596800), .pointer loc]] X fun x w' => x = .returned (.int .i64 (tod off t / 3600)) ∧ Below X.heap.size X w' := by
  have := hour_any (n := 0) (w := X) nn0 ht.es (hc.below hb)
  rw [sec_of] at this; exact this
theorem minute_t : Calls Tryz.prog 198 #[.agg #[.int .u64 0, .int .i64 (t + 62135596800), .pointer loc]] X fun x w' => x = .returned (.int .i64 (tod off t % 3600 / 60)) ∧ Below X.heap.size X w' := by
  have := minute_any (n := 0) (w := X) nn0 ht.es (hc.below hb)
  rw [sec_of] at this; exact this
theorem second_t : Calls Tryz.prog 200 #[.agg #[.int .u64 0, .int .i64 (t + 62135596800), .pointer loc]] X fun x w' => x = .returned (.int .i64 (tod off t % 60)) ∧ Below X.heap.size X w' := by
  have := second_any (n := 0) (w := X) nn0 ht.es (hc.below hb)
  rw [sec_of] at this; exact this
theorem addDate_t (dm dd : Int) (m0 : 0 ≤ dm) (m1 : dm ≤ 1) (d0 : 0 ≤ dd) (d1 : dd ≤ 1) (r : Int) (hr : Time3.dateE off (yOf (day off t)) (mOf (day off t) + dm) (dOf (day off t) + dd) (tod off t / 3600) (tod off t % 3600 / 60) (tod off t % 60) = r + 62135596800) :
    Calls Tryz.prog 195 #[.agg #[.int .u64 0, .int .i64 (t + 62135596800), .pointer loc], .int .i64 0, .int .i64 dm, .int .i64 dd] X fun x w' => x = .returned (.agg #[.int .u64 0, .int .i64 (r + 62135596800), .pointer loc]) ∧ Below X.heap.size X w' := by
  have := Time4.addDate_any (t + 62135596800) dm dd loc off X (hc.below hb) (by rw [sec_of]; unfold Bd at ht; omega) (by rw [sec_of]; unfold Bd at ht; omega) m0 m1 d0 d1
  rw [sec_of, hr] at this; exact this
theorem dayMatches_t (sb : Nat) (se mi hr dom mon dow : Int) (hs : SpecAt w sb se mi hr dom mon dow) (hd : U64 dom) (hw : U64 dow) :
    Calls Tryz.prog 196 #[.pointer (some ⟨sb, 0, none⟩), .agg #[.int .u64 0, .int .i64 (t + 62135596800), .pointer loc]] X fun x w' => x = .returned (.bool (dayOK dom dow (day off t))) ∧ Below X.heap.size X w' := by
  have hs' := hs.below hb
  have := dayMatches_any sb dom dow 0 (t + 62135596800) loc off X hd hw hs'.2.2.2.1 hs'.2.2.2.2.2.1 nn0 ht.es (hc.below hb)
  rw [sec_of] at this; exact this
end
theorem year_b {off : Int → Int} (hc : Clock w loc off) (ht : Bd t) : -1000 ≤ yOf (day off t) ∧ yOf (day off t) ≤ 12000 := by
  have := Time4.year_bd (e := t + 62135596800) (by rw [sec_of]; unfold Bd at ht; omega) (by rw [sec_of]; unfold Bd at ht; omega) hc
  rw [sec_of] at this; exact this
theorem date_t {off : Int → Int} {lb : Nat} (hp : Time2.Pair X loc lb off) (y m d h : Int)
    (y0 : -5000 ≤ y) (y1 : y ≤ 15000) (m0 : 1 ≤ m) (m1 : m ≤ 13) (d0 : 0 ≤ d) (d1 : d ≤ 100) (h0 : 0 ≤ h) (h1 : h < 24) (r : Int) (hr : Time3.dateE off y m d h 0 0 = r + 62135596800) :
    Calls Tryz.prog 194 #[.int .i64 y, .int .i64 m, .int .i64 d, .int .i64 h, .int .i64 0, .int .i64 0, .int .i64 0, .pointer (some ⟨lb, 0, none⟩)] X fun x w' => x = .returned (.agg #[.int .u64 0, .int .i64 (r + 62135596800), .pointer loc]) ∧ Below X.heap.size X w' := by
  have := Time3.date_any y m d h 0 0 loc lb off X hp y0 y1 m0 m1 d0 d1 h0 h1 (by omega) (by omega) (by omega) (by omega)
  rw [hr] at this; exact this
theorem add_t (k q : Int) (ht : Bd t) (hk : k = q * 1000000000) (q0 : -10000000 ≤ q) (q1 : q ≤ 10000000) :
    Calls Tryz.prog 191 #[.agg #[.int .u64 0, .int .i64 (t + 62135596800), .pointer loc], .int .i64 k] X fun x w' => x = .returned (.agg #[.int .u64 0, .int .i64 (t + q + 62135596800), .pointer loc]) ∧ Below X.heap.size X w' := by
  have := add_A 0 (t + 62135596800) k q 0 loc X (by omega) (by omega) ht.es (by rw [hk, Int.mul_tdiv_cancel _ (by decide)]) (by rw [hk, Int.mul_tmod_left]) (by omega) (by omega) (by omega) (by omega) (by omega) (by omega)
  rw [show t + 62135596800 + q = t + q + 62135596800 by omega, show (0 : Int) + 0 = 0 from rfl] at this; exact this
theorem trunc_t (k d : Int) (ht : Bd t) (h0 : 0 ≤ t + 62135596800) (hk : (d = 1000000000 ∧ k = 1) ∨ (d = 60000000000 ∧ k = 60)) (r : Int) (hr : t + 62135596800 - (t + 62135596800) % k = r + 62135596800) :
    Calls Tryz.prog 199 #[.agg #[.int .u64 0, .int .i64 (t + 62135596800), .pointer loc], .int .i64 d] X fun x w' => x = .returned (.agg #[.int .u64 0, .int .i64 (r + 62135596800), .pointer loc]) ∧ Below X.heap.size X w' := by
  have := Time4.truncate_any (t + 62135596800) k d loc X h0 (by unfold Bd at ht; omega) hk
  rw [hr] at this; exact this
def PlaceIn (w : World) (loc : Option Addr) (off : Int → Int) (lb : Nat) (X : World) : Prop :=
  (loc = none ∧ off = zero ∧ UtcAt X lb ∧ lb ≠ w.heap.size ∧ lb ≠ w.heap.size + 1) ∨ ∃ z : ZoneD, loc = some ⟨lb, 0, none⟩ ∧ ZoneD.Good z ∧ LocAt w lb z ∧ off = z.off
section
variable {off : Int → Int} {lb : Nat}
theorem PlaceIn.below (h : PlaceIn w loc off lb X) (hb : Below X.heap.size X X') : PlaceIn w loc off lb X' := by
  rcases h with ⟨h1, h2, h3, h4⟩ | h
  · exact .inl ⟨h1, h2, h3.below hb, h4⟩
  · exact .inr h
theorem PlaceIn.put (h : PlaceIn w loc off lb X) (x y z : Value) : PlaceIn w loc off lb (((X.setCell ⟨w.heap.size, 0, none⟩ x).setCell ⟨w.heap.size, 1, none⟩ y).setCell ⟨w.heap.size, 2, none⟩ z) := by
  rcases h with ⟨h1, h2, h3, h4, h5⟩ | h
  · refine .inl ⟨h1, h2, ⟨by simpa using h3.lt, ?_, ?_⟩, h4, h5⟩
    · rw [World.cell?_setCell_far _ _ _ _ (by exact Ne.symm h4), World.cell?_setCell_far _ _ _ _ (by exact Ne.symm h4), World.cell?_setCell_far _ _ _ _ (by exact Ne.symm h4)]
      exact h3.utc
    · rw [World.cell?_setCell_far _ _ _ _ (by exact Ne.symm h4), World.cell?_setCell_far _ _ _ _ (by exact Ne.symm h4), World.cell?_setCell_far _ _ _ _ (by exact Ne.symm h4)]
      exact h3.row
  · exact .inr h
theorem PlaceIn.pair (h : PlaceIn w loc off lb X) (hb : Below w.heap.size w X) : Time2.Pair X loc lb off := by
  rcases h with ⟨h1, h2, h3, h4⟩ | ⟨z, h1, h2, h3, h4⟩
  · exact .inl ⟨h1, h3, h2⟩
  · exact .inr ⟨z, h1, h2, h3.below hb, h4⟩
theorem place_t {n e x y : Int} {k l : IntKind} (hc : Clock w loc off) (c0 : X.cell? ⟨w.heap.size, 0, none⟩ = some (.int k x)) (c1 : X.cell? ⟨w.heap.size + 1, 0, none⟩ = some (.int l y)) :
    Calls Tryz.prog 190 #[.agg #[.int .u64 n, .int .i64 e, .pointer loc]] X fun x X' => ∃ lb, (x = .returned (.pointer (some ⟨lb, 0, none⟩)) ∧ PlaceIn w loc off lb X') ∧ Below X.heap.size X X' := by
  rcases hc with ⟨rfl, rfl⟩ | ⟨b, z, rfl, hz, hl, rfl⟩
  · refine location_utc.mono ?_
    rintro x X' ⟨b, ⟨rfl, hu⟩, hb⟩
    refine ⟨b, ⟨rfl, .inl ⟨rfl, rfl, hu, fun h => ?_, fun h => ?_⟩⟩, hb⟩
    · have h1 := (hb.cell (World.block_lt_of_cell? X _ c0)).trans c0
      have h2 := hu.utc
      rw [h, h1] at h2
      cases h2
    · have h1 := (hb.cell (World.block_lt_of_cell? X _ c1)).trans c1
      have h2 := hu.utc
      rw [h, h1] at h2
      cases h2
  · refine location_zone.mono ?_
    rintro x X' ⟨rfl, hb⟩
    exact ⟨b, ⟨rfl, .inr ⟨z, rfl, hz, hl, rfl⟩⟩, hb⟩
end
def Hold (w : World) (loc : Option Addr) (off : Int → Int) (ol lb : Nat) (X : World) (t : Int) : Prop := At w loc X t ∧ PlaceIn w loc off ol X ∧ PlaceIn w loc off lb X
section
variable {off : Int → Int} {ol lb : Nat}
theorem Hold.below (h : Hold w loc off ol lb X t) (hb : Below X.heap.size X X') : Hold w loc off ol lb X' t := ⟨h.1.below hb, h.2.1.below hb, h.2.2.below hb⟩
theorem Hold.put (h : Hold w loc off ol lb X t) : Hold w loc off ol lb (((X.setCell ⟨w.heap.size, 0, none⟩ (.int .u64 0)).setCell ⟨w.heap.size, 1, none⟩ (.int .i64 (t1 + 62135596800))).setCell ⟨w.heap.size, 2, none⟩ (.pointer loc)) t1 := ⟨h.1.put, h.2.1.put _ _ _, h.2.2.put _ _ _⟩
theorem Hold.cells (h : Hold w loc off ol lb X t) : X.cell? ⟨w.heap.size, 0, none⟩ = some (.int .u64 0) ∧ X.cell? ⟨w.heap.size, 1, none⟩ = some (.int .i64 (t + 62135596800)) ∧ X.cell? ⟨w.heap.size, 2, none⟩ = some (.pointer loc) := h.1.2.1.2
theorem Hold.free (h : Hold w loc off ol lb X t) : X.frozen? ⟨w.heap.size, 0, none⟩ = false ∧ X.frozen? ⟨w.heap.size, 1, none⟩ = false ∧ X.frozen? ⟨w.heap.size, 2, none⟩ = false := h.1.2.2.1
theorem Hold.res (h : Hold w loc off ol lb X t) : X.cell? ⟨w.heap.size + 1, 0, none⟩ = some (.int .u64 0) ∧ X.cell? ⟨w.heap.size + 1, 1, none⟩ = some (.int .i64 0) ∧ X.cell? ⟨w.heap.size + 1, 2, none⟩ = some (.pointer none) := h.1.2.2.2.1.2
theorem Hold.rfree (h : Hold w loc off ol lb X t) : X.frozen? ⟨w.heap.size + 1, 0, none⟩ = false ∧ X.frozen? ⟨w.heap.size + 1, 1, none⟩ = false ∧ X.frozen? ⟨w.heap.size + 1, 2, none⟩ = false := h.1.2.2.2.2
theorem Hold.pair (h : Hold w loc off ol lb X t) : Time2.Pair X loc lb off := h.2.2.pair h.1.1
theorem Hold.opair (h : Hold w loc off ol lb X t) : Time2.Pair X loc ol off := h.2.1.pair h.1.1
theorem Hold.base (h : Hold w loc off ol lb X t) : Below w.heap.size w X := h.1.1
end
end Go.Proofs.YtmnjmhlodbifjaaGreatDoor.NextB
