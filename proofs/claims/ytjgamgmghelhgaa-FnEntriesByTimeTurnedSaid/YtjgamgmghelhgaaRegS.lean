/- A law for a region that draws its order of evaluation: an operation, a call too, that gives the same value in every world of a kind and leaves a world of the kind may be taken first; the last operation may leave the kind. Conditions: none. -/
import Derived.OrdersHeld
import Derived.Deep.RegionHeld3
import Derived.StillTail
import Derived.Below
namespace Go.Proofs.Ytjgamgmghelhgaa.RegS
open Go
set_option linter.unusedVariables false
section
variable {P : Program} {ops : Array Oper} {Q : Exit → Act → World → Prop} {md : Region.Mode} {S : World → Prop}

/-- A run that gives v and a world of the kind. -/
def GivesR (P : Program) (S : World → Prop) (v : Value) : Result Next → Prop
  | .ok (.value u) w' => u = v ∧ S w'
  | .ok (.enter f args) w' => Calls P f args w' fun e w'' => e = .returned v ∧ S w''
  | _ => False

/-- In state a the operation o is wanted and gives v in every world of the kind. -/
def Gives (P : Program) (ops : Array Oper) (S : World → Prop) (o : Oper) (v : Value) (a : Act) : Prop :=
  Region.wanted o (yielded ops a.tmps) = true ∧ ∀ w, S w → GivesR P S v ((execOp a.eval o).run P w)

theorem gives_value {P : Program} {S : World → Prop} {v u : Value} {w : World} : GivesR P S v (.ok (.value u) w) = (u = v ∧ S w) := rfl
theorem gives_enter {P : Program} {S : World → Prop} {v : Value} {f : FuncId} {args : Array Value} {w : World} : GivesR P S v (.ok (.enter f args) w) = Calls P f args w (fun e w'' => e = .returned v ∧ S w'') := rfl

theorem Gives.of_same {o : Oper} {v : Value} {a b : Act} (h : Gives P ops S o v a) (he : execOp b.eval o = execOp a.eval o)
    (hw : Region.wanted o (yielded ops b.tmps) = Region.wanted o (yielded ops a.tmps)) : Gives P ops S o v b := by
  refine ⟨hw.trans h.1, fun w hS => ?_⟩
  rw [he]
  exact h.2 w hS

/-- It may be carried out now. -/
theorem Gives.go {i : Nat} {o : Oper} {v : Value} {a : Act} {w : World} {K : Act → World → Prop} (hi : ops[i]? = some o) (h : Gives P ops S o v a) (hS : S w)
    (hk : ∀ w', S w' → K (a.put o.dst v) w') : wpOp P ops Q i K a w := by
  have h2 := h.2 w hS
  unfold wpOp
  rw [hi]
  dsimp only
  rw [if_pos h.1]
  refine .inl ?_
  unfold Oper.wp
  revert h2
  generalize (execOp a.eval o).run P w = r
  intro h2
  rcases r with ⟨n, w'⟩ | ⟨x, w'⟩
  · rcases n with u | _ | _ | _ | _ | _ <;> first | (exact absurd h2 id) | skip
    · obtain ⟨rfl, h4⟩ := h2
      exact hk _ h4
    · exact Calls.mono h2 fun e w'' he => by
        obtain ⟨rfl, h4⟩ := he
        exact hk _ h4
  · exact absurd h2 id

/-- Another operation does not mind whether it has been carried out. -/
theorem Gives.swap {j : Nat} {oi oj : Oper} {v : Value} (hj : ops[j]? = some oj) (hap : oi.apart ops oj = true)
    (hsi : ∀ cs b, oi.op ≠ .select cs b) (hsj : ∀ cs b, oj.op ≠ .select cs b)
    (hQ : ∀ c a w, Q (.panic c) (a.put oi.dst v) w → Q (.panic c) a w) {K : Act → World → Prop} {a : Act} {w : World}
    (hy : Gives P ops S oi v a) (h : wpOp P ops Q j K (a.put oi.dst v) w) :
    wpOp P ops Q j (fun b w' => Gives P ops S oi v b ∧ K (b.put oi.dst v) w') a w := by
  obtain ⟨p1, p2, p3⟩ := Oper.apart_spec hap
  have stay : ∀ b : Act, Gives P ops S oi v b → ∀ u, Gives P ops S oi v (b.put oj.dst u) := fun b hb u => hb.of_same (execOp_put oi hsi b oj.dst u p3) (wanted_put oi b oj.dst u p3)
  have keepD : ∀ d : Deferred, Gives P ops S oi v { a with defers := d :: a.defers } := fun d => hy.of_same rfl rfl
  have ee := execOp_put (ops := ops) oj hsj a oi.dst v p1
  have ew := wanted_put (ops := ops) oj a oi.dst v p1
  have pc := fun (b : Act) (u : Value) => Act.put_comm b v u p2
  unfold wpOp at h ⊢
  rw [hj] at h ⊢
  dsimp only at h ⊢
  rw [ew] at h
  by_cases hw : Region.wanted oj (yielded ops a.tmps) = true
  · rw [if_pos hw] at h ⊢
    rcases h with h | ⟨hasks, hlets⟩
    · refine .inl ?_
      unfold Oper.wp at h ⊢
      rw [ee] at h
      generalize (execOp a.eval oj).run P w = r at h ⊢
      rcases r with ⟨n, w'⟩ | ⟨x, w'⟩
      · cases n <;> simp only [Oper.upon] at h ⊢
        all_goals first
          | exact h
          | exact ⟨stay a hy _, by rw [← pc]; exact h⟩
          | exact ⟨stay _ (keepD _) _, by rw [← pc, ← Act.put_defers]; exact h⟩
          | (refine Calls.mono h fun e w'' he => ?_
             cases e
             · exact ⟨stay a hy _, by rw [← pc]; exact he⟩
             · exact hQ _ _ _ he
             · exact he)
          | exact Rows.mono h fun u w'' he => ⟨stay a hy _, by rw [← pc]; exact he⟩
      · cases x <;> simp only [Oper.upon] at h ⊢
        all_goals first
          | exact h
          | exact hQ _ _ _ h
    · exact .inr ⟨by unfold Oper.asks at *; rw [ee] at hasks; exact hasks, hlets⟩
  · rw [if_neg hw] at h ⊢
    exact ⟨stay a hy _, by rw [← pc]; exact h⟩

/-- Whatever order is picked from here on, from every world of the kind; n is the last operation, which may leave the kind. -/
def AnyS (P : Program) (md : Region.Mode) (ops : Array Oper) (Q : Exit → Act → World → Prop) (S : World → Prop) (n : Nat) : Nat → Array Bool → Act → Prop
  | 0, listed, a => Region.ready md ops listed = [] ∧ ∀ w, S w → Q .normal a w
  | fuel + 1, listed, a =>
    (Region.ready md ops listed = [] → ∀ w, S w → Q .normal a w) ∧
    ∀ i ∈ Region.ready md ops listed, ∀ w, S w → wpOp P ops Q i (fun b w' => (i = n ∧ Region.ready md ops (listed.setIfInBounds i true) = [] ∧ Q .normal b w') ∨ (S w' ∧ AnyS P md ops Q S n fuel (listed.setIfInBounds i true) b)) a w

theorem any_of {n : Nat} : ∀ (fuel : Nat) (listed : Array Bool) (a : Act) (w : World), AnyS P md ops Q S n fuel listed a → S w → wpAny P md ops Q fuel listed a w
  | 0, _, _, _, h, hS => ⟨h.1, h.2 _ hS⟩
  | fuel + 1, _, _, _, h, hS => ⟨fun h0 => h.1 h0 _ hS, fun i hi => wpOp_mono (fun b w' h' => by
      rcases h' with ⟨-, h1, h2⟩ | ⟨h1, h2⟩
      · exact wpAny_done h1 h2 fuel
      · exact any_of fuel _ b w' h2 h1) (h.2 i hi _ hS)⟩

theorem AnyS.first {n : Nat} (hsink : Region.sinkB md ops n = true) (hn : ops.size = n + 1) {i : Nat} {oi : Oper} {v : Value} (hi : ops[i]? = some oi) (hin : i < n) (hsel : ∀ (j : Nat) (o : Oper) cs b, ops[j]? = some o → o.op ≠ .select cs b)
    (hQ : ∀ c a w, Q (.panic c) (a.put oi.dst v) w → Q (.panic c) a w) :
    ∀ (fuel : Nat) (listed : Array Bool) (a : Act), HeadInv md ops n listed →
      (∀ j oj, ops[j]? = some oj → j ≠ i → listed.getD j true = false → (∀ e ∈ oj.after, Region.binds md e = true → e.on ≠ i) → oi.apart ops oj = true) →
      i ∈ Region.ready md ops listed → Gives P ops S oi v a →
      AnyS P md ops Q S n fuel (listed.setIfInBounds i true) (a.put oi.dst v) → AnyS P md ops Q S n (fuel + 1) listed a := by
  have hchain : Region.chainB md ops n = true := by
    unfold Region.chainB
    rw [List.all_eq_true]
    intro t ht
    have := List.mem_range.1 ht
    simp only [Bool.or_eq_true, decide_eq_true_eq]
    exact .inl (by omega)
  intro fuel
  induction fuel with
  | zero =>
    intro listed a _ _ hr hy H
    refine ⟨fun h => (by rw [h] at hr; cases hr), fun j hj w hS => ?_⟩
    by_cases hji : j = i
    · subst hji; exact hy.go hi hS fun w' hS' => .inr ⟨hS', H⟩
    · have := ready_mono hj hji
      rw [H.1] at this
      cases this
  | succ fuel ih =>
    intro listed a inv hfree hr hy H
    refine ⟨fun h => (by rw [h] at hr; cases hr), fun j hj w hS => ?_⟩
    by_cases hji : j = i
    · subst hji; exact hy.go hi hS fun w' hS' => .inr ⟨hS', H⟩
    · have h1 := H.2 j (ready_mono hj hji) w hS
      obtain ⟨hjun, oj, hoj, hall⟩ := mem_ready.1 hj
      have hjn : j < n := by
        have h5 := tail_waits hsink hchain (by omega) inv (n - i) i rfl hin (mem_ready.1 hr).1 j
        have h6 : j < ops.size := (Array.getElem?_eq_some_iff.1 hoj).1
        by_cases c : n ≤ j
        · exact absurd hj (h5 c)
        · omega
      have hnot : ∀ e ∈ oj.after, Region.binds md e = true → e.on ≠ i := fun e he hb heq => by
        have h1 := hall e he hb
        have h0 := (mem_ready.1 hr).1
        rw [heq, getD_both h0] at h1
        cases h1
      have h2 := Gives.swap hoj (hfree j oj hoj hji hjun hnot) (fun cs b => hsel i oi cs b hi) (fun cs b => hsel j oj cs b hoj) hQ hy h1
      have hfree2 : ∀ k ok, ops[k]? = some ok → k ≠ i → (listed.setIfInBounds j true).getD k true = false →
          (∀ e ∈ ok.after, Region.binds md e = true → e.on ≠ i) → oi.apart ops ok = true := fun k ok hk hki hun hno => by
        refine hfree k ok hk hki ?_ hno
        by_cases hjk : j = k
        · subst hjk; exact hjun
        · rw [getD_set_ne true hjk] at hun; exact hun
      have hstill := ready_mono hr (Ne.symm hji)
      refine wpOp_mono (fun b w' h3 => .inr ?_) h2
      obtain ⟨g1, g2⟩ := h3
      rcases g2 with ⟨g2, -⟩ | ⟨g2, g3⟩
      · omega
      · refine ⟨g2, ih (listed.setIfInBounds j true) b (inv.set hj hjn) hfree2 hstill g1 ?_⟩
        rw [Array.setIfInBounds_comm _ _ hji]
        exact g3

/-- Take number i first. -/
theorem AnyS.take {n : Nat} {i : Nat} {oi : Oper} {v : Value} {fuel : Nat} {listed : Array Bool} {a : Act} (inv : HeadInv md ops n listed)
    (hsink : Region.sinkB md ops n = true) (hn : ops.size = n + 1) (hi : ops[i]? = some oi) (hin : i < n)
    (hs : Region.noSelect ops = true) (hf : Region.free md ops listed i = true) (hr : (Region.ready md ops listed).contains i = true)
    (hQ : ∀ c a w, Q (.panic c) (a.put oi.dst v) w → Q (.panic c) a w) (hy : Gives P ops S oi v a) (d : Option Tmp) (hd : oi.dst = d)
    (h : HeadInv md ops n (listed.setIfInBounds i true) → AnyS P md ops Q S n fuel (listed.setIfInBounds i true) (a.put d v)) : AnyS P md ops Q S n (fuel + 1) listed a := by
  subst hd
  exact AnyS.first hsink hn hi hin (Region.noSelect_spec hs) hQ fuel listed a inv (Region.free_spec hi hf) (by simpa using hr) hy (h (inv.set (by simpa using hr) hin))

/-- A call whose contract keeps what lies below. -/
theorem gives_call {P : Program} {v : Value} {f : FuncId} {args : Array Value} {X Y : World} (h : Calls P f args X (fun x X' => x = .returned v ∧ RowKit.Below X.heap.size X X')) (hX : RowKit.Below Y.heap.size Y X) :
    GivesR P (fun X' => RowKit.Below Y.heap.size Y X') v (.ok (.enter f args) X) :=
  Calls.mono h fun e w' he => ⟨he.1, hX.trans (he.2.mono hX.size)⟩

/-- The last one. -/
theorem AnyS.last {n : Nat} {o : Oper} {fuel : Nat} {listed : Array Bool} {a : Act} (hr : Region.ready md ops listed = [n]) (ho : ops[n]? = some o)
    (hr2 : Region.ready md ops (listed.setIfInBounds n true) = [])
    (h : ∀ w, S w → ∀ K : Act → World → Prop, Shut (∀ b w', Q .normal b w' → K b w') → if Region.wanted o (yielded ops a.tmps) = true then Oper.wp P o a w K Q else K (a.put o.dst undef) w) :
    AnyS P md ops Q S n (fuel + 1) listed a := by
  refine ⟨fun h0 => (by rw [hr] at h0; cases h0), fun i hi w hS => ?_⟩
  rw [hr] at hi
  obtain rfl : i = n := by simpa using hi
  exact wpOp_step ho (fun K hK => h w hS K fun b w' hQ => hK b w' (.inl ⟨rfl, hr2, hQ⟩))

/-- The beginning. -/
theorem region_S {n : Nat} {id : Nat} {a : Act} {w : World} (hm : P.follows .mixedOrders = true) (hn : ops.size = n + 1) (hS : S w.drew)
    (h : HeadInv .any ops n (Array.replicate (n + 1) false) → AnyS P .any ops Q S n (n + 1) (Array.replicate (n + 1) false) a) : (Code.region id ops true).wp P Q a w := by
  rw [← hn] at h
  refine wp_region_any hm (any_of _ _ _ _ (h ⟨by simp, fun j oj hj hl => ?_, fun t ht1 ht2 => ?_⟩) hS)
  · rw [getD_replicate_false] at hl
    cases hl
  · exact getD_in (by simpa using ht2) (getD_replicate_false _ _)

end
end Go.Proofs.Ytjgamgmghelhgaa.RegS
