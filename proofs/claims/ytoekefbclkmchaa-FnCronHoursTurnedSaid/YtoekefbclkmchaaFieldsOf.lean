/- The reference's sets of a schedule. Conditions: sets of 64 bits. -/
import Derived.Test.YtoekefbclkmchaaSetOf
import Derived.Test.YtoekefbclkmchaaDayFits
namespace Go.Proofs.Ytoekefbclkmchaa.FieldsOf
open Go Go.RowKit Go.Proofs.Ytoekefbclkmchaa.Set Go.Proofs.Ytoekefbclkmchaa.Fields Go.Proofs.Ytoekefbclkmchaa.SetOf Go.Proofs.Ytoekefbclkmchaa.Moment Go.Proofs.Ytoekefbclkmchaa.DayM Go.Proofs.Ytoekefbclkmchaa.DayFits
set_option linter.unusedVariables false

def six (se mi hr dom mon dow : Int) (k : Nat) : Int := match k with
  | 0 => se
  | 1 => mi
  | 2 => hr
  | 3 => dom
  | 4 => mon
  | _ => dow
def stS (g : Nat → Int) (k : Nat) : Bool := has (g k) 63
def fS (g : Nat → Int) (k v : Nat) : Bool := inK k (g k) v
/-- The first n sets. -/
def stN (g : Nat → Int) (n k : Nat) : Bool := decide (k < n) && stS g k
def fN (g : Nat → Int) (n k v : Nat) : Bool := decide (k < n) && fS g k v
theorem stN_next (g : Nat → Int) (n : Nat) : updK (stN g n) n (has (g n) 63) = stN g (n + 1) := by
  funext k
  unfold updK stN stS
  by_cases h : k = n
  · subst h; simp
  · rw [if_neg h]
    have : decide (k < n + 1) = decide (k < n) := by simp; omega
    rw [this]
theorem fN_next (g : Nat → Int) (n : Nat) : updK (fN g n) n (inK n (g n)) = fN g (n + 1) := by
  funext k
  unfold updK
  by_cases h : k = n
  · subst h; rw [if_pos rfl]; funext v; simp [fN, fS]
  · rw [if_neg h]
    funext v
    unfold fN
    have : decide (k < n + 1) = decide (k < n) := by simp; omega
    rw [this]
theorem all_six (g : Nat → Int) : fldArr (stN g 6) (fN g 6) = fldArr (stS g) (fS g) :=
  fldArr_congr (fun k h => by simp [stN, h]) (fun k v h h2 => by simp [fN, h])

section
variable {w : World} {b : Nat} {st : Nat → Bool} {f : Nat → Nat → Bool} {ops : Array Oper} {rest : List Oper} {o : Oper} {a : Act} {Q : Exit → Act → World → Prop}
theorem putAll (h : FldAt w b st f) (st' : Nat → Bool) (f' : Nat → Nat → Bool) : FldAt (w.setCells b 0 (fldArr st' f').toList) b st' f' := by
  have hl : (fldArr st' f').toList.length = 384 := by simp [fldArr_size]
  have hth := h.there 0 384 (by omega)
  refine ⟨?_, fun i hi => ?_, fun i hi => by rw [World.frozen?_setCells]; exact h.free i hi⟩
  · exact Nat.lt_of_lt_of_le h.lt (below_setCells (b := b) (o := 0) (fldArr st' f').toList (Below.refl 0 w) (Nat.zero_le _)).size
  · have hr := World.rangeAt_setCells_same w b 0 (fldArr st' f').toList (by rw [hl]; exact hth)
    have := hr i (fld st' f' i) (by rw [Array.getElem?_toList]; exact fldArr_get _ _ _ hi)
    rw [Nat.zero_add] at this
    exact this
theorem wpList_store_all (hg : o.guard = none) (x y : Operand) (ho : o.op = .store 39 x y) (b : Nat) (st : Nat → Bool) (f : Nat → Nat → Bool) (st' : Nat → Bool) (f' : Nat → Nat → Bool)
    (hx : a.eval x = .pointer (some ⟨b, 0, none⟩)) (hy : a.eval y = .agg (fldArr st' f')) (hb : FldAt w b st f)
    (h : wpList Try.prog ops Q rest (a.put o.dst undef) (w.setCells b 0 (fldArr st' f').toList)) : wpList Try.prog ops Q (o :: rest) a w :=
  wpList_store_mid hg 39 x y ho b 0 (fldArr st' f') hx hy (by rw [fldArr_size]; exact hb.there _ _ (by omega)) (by rw [fldArr_size]; exact sizeInfoF) (fldArr_one _ _) h
end
/-- Stands at a store. -/
theorem at_store {P : Program} {ops : Array Oper} {rest : List Oper} {o : Oper} {a : Act} {w : World} {Q : Exit → Act → World → Prop} {t : TypeId} {x y : Operand} (ho : o.op = .store t x y) (h : wpList P ops Q (o :: rest) a w) : wpList P ops Q (o :: rest) a w := h
/-- A result that is six sets. -/
theorem results_fields {fn : Func} {p : Tmp} (h : fn.results = #[.cell p 39]) (tmps : Array Value) (w : World) (b : Nat) (st : Nat → Bool) (f : Nat → Nat → Bool)
    (hp : tmps.getD p undef = .pointer (some ⟨b, 0, none⟩)) (hb : FldAt w b st f) :
    (results fn tmps).run Try.prog w = .ok (.agg (fldArr st f)) w := by
  have hp' : tmps[p]?.getD undef = .pointer (some ⟨b, 0, none⟩) := by simpa using hp
  have h2 := run_loadVar_mid (P := Try.prog) w b 0 39 (fldArr st f).toList _ hb.range Try.underlying39 rfl (by simp [fldArr_size, sizeInfoF])
  simp [results, h, hp', asAddr, h2]

theorem idx0 (se mi hr dom mon dow : Int) (w : World) : (Instr.index 91 (.agg #[.int .u64 se, .int .u64 mi, .int .u64 hr, .int .u64 dom, .int .u64 mon, .int .u64 dow]) (.int .i64 0)).run Try.prog w = .ok (.int .u64 se) w := by kernel_rfl
theorem idx1 (se mi hr dom mon dow : Int) (w : World) : (Instr.index 91 (.agg #[.int .u64 se, .int .u64 mi, .int .u64 hr, .int .u64 dom, .int .u64 mon, .int .u64 dow]) (.int .i64 1)).run Try.prog w = .ok (.int .u64 mi) w := by kernel_rfl
theorem idx2 (se mi hr dom mon dow : Int) (w : World) : (Instr.index 91 (.agg #[.int .u64 se, .int .u64 mi, .int .u64 hr, .int .u64 dom, .int .u64 mon, .int .u64 dow]) (.int .i64 2)).run Try.prog w = .ok (.int .u64 hr) w := by kernel_rfl
theorem idx3 (se mi hr dom mon dow : Int) (w : World) : (Instr.index 91 (.agg #[.int .u64 se, .int .u64 mi, .int .u64 hr, .int .u64 dom, .int .u64 mon, .int .u64 dow]) (.int .i64 3)).run Try.prog w = .ok (.int .u64 dom) w := by kernel_rfl
theorem idx4 (se mi hr dom mon dow : Int) (w : World) : (Instr.index 91 (.agg #[.int .u64 se, .int .u64 mi, .int .u64 hr, .int .u64 dom, .int .u64 mon, .int .u64 dow]) (.int .i64 4)).run Try.prog w = .ok (.int .u64 mon) w := by kernel_rfl
theorem idx5 (se mi hr dom mon dow : Int) (w : World) : (Instr.index 91 (.agg #[.int .u64 se, .int .u64 mi, .int .u64 hr, .int .u64 dom, .int .u64 mon, .int .u64 dow]) (.int .i64 5)).run Try.prog w = .ok (.int .u64 dow) w := by kernel_rfl

set_option maxHeartbeats 400000 in
set_option maxRecDepth 100000 in
theorem fieldsOf_any (ev : Bool) (d se mi hr dom mon dow : Int) (w : World) (hu : U64 se ∧ U64 mi ∧ U64 hr ∧ U64 dom ∧ U64 mon ∧ U64 dow) :
    Calls Try.prog 31 #[.agg #[.bool ev, .int .i64 d, .int .u64 se, .int .u64 mi, .int .u64 hr, .int .u64 dom, .int .u64 mon, .int .u64 dow]] w fun e w' => e = .returned (.agg (fldArr (stS (six se mi hr dom mon dow)) (fS (six se mi hr dom mon dow)))) ∧ Below w.heap.size w w' := by
  obtain ⟨g, hg⟩ : ∃ g, six se mi hr dom mon dow = g := ⟨_, rfl⟩
  have g0 : g 0 = se := by rw [← hg]; rfl
  have g1 : g 1 = mi := by rw [← hg]; rfl
  have g2 : g 2 = hr := by rw [← hg]; rfl
  have g3 : g 3 = dom := by rw [← hg]; rfl
  have g4 : g 4 = mon := by rw [← hg]; rfl
  have g5 : g 5 = dow := by rw [← hg]; rfl
  rw [hg]
  obtain ⟨z0, hz0⟩ : ∃ z0, (fun _ => false : Nat → Bool) = z0 := ⟨_, rfl⟩
  have HS : Hid (∀ k : Nat, k ≤ 5 → ∀ w1, Calls Try.prog 14 #[.int .i64 (k : Int), .int .u64 (g k)] w1 fun e w' => e = .returned (.agg (setArr (has (g k) 63) (inK k (g k)))) ∧ Below w1.heap.size w1 w') := Lib.hid (fun k hk w1 => setOf_any k (g k) w1 hk (by
    rcases (show k = 0 ∨ k = 1 ∨ k = 2 ∨ k = 3 ∨ k = 4 ∨ k = 5 by omega) with rfl | rfl | rfl | rfl | rfl | rfl
    · rw [g0]; exact hu.1
    · rw [g1]; exact hu.2.1
    · rw [g2]; exact hu.2.2.1
    · rw [g3]; exact hu.2.2.2.1
    · rw [g4]; exact hu.2.2.2.2.1
    · rw [g5]; exact hu.2.2.2.2.2))
  clear hg hu hz0
  obtain ⟨W, hW⟩ : ∃ W, ((w.alloc (.cells #[.bool ev, .int .i64 d, .int .u64 se, .int .u64 mi, .int .u64 hr, .int .u64 dom, .int .u64 mon, .int .u64 dow] 51)).alloc (.cells (fldArr (fun _ => false) fun _ _ => false) 39)).alloc (.cells (fldArr (fun _ => false) fun _ _ => false) 39) = W := ⟨_, rfl⟩
  have hbW : Below w.heap.size w W := by rw [← hW]; exact (((Below.refl _ _).alloc (Nat.le_refl _) _).alloc (by simp) _).alloc (by simp; omega) _
  have hF1 : FldAt W (w.heap.size + 1) (stN g 0) (fN g 0) := by
    have := (FldAt.new (w.alloc (.cells #[.bool ev, .int .i64 d, .int .u64 se, .int .u64 mi, .int .u64 hr, .int .u64 dom, .int .u64 mon, .int .u64 dow] 51)) (stN g 0) (fN g 0)).below (Below.alloc (Below.refl (w.heap.size + 2) _) (by simp) (.cells (fldArr (fun _ => false) fun _ _ => false) 39)) (by simp)
    rw [show fldArr (stN g 0) (fN g 0) = fldArr (fun _ => false) fun _ _ => false from fldArr_congr (fun k _ => by simp [stN]) (fun k v _ _ => by simp [fN]), hW] at this
    simpa using this
  have hF2 : FldAt W (w.heap.size + 2) (stN g 0) (fN g 0) := by
    have := FldAt.new ((w.alloc (.cells #[.bool ev, .int .i64 d, .int .u64 se, .int .u64 mi, .int .u64 hr, .int .u64 dom, .int .u64 mon, .int .u64 dow] 51)).alloc (.cells (fldArr (fun _ => false) fun _ _ => false) 39)) (stN g 0) (fN g 0)
    rw [show fldArr (stN g 0) (fN g 0) = fldArr (fun _ => false) fun _ _ => false from fldArr_congr (fun k _ => by simp [stN]) (fun k v _ _ => by simp [fN]), hW] at this
    simpa using this
  have HBW := Lib.hid hbW
  have HF1 := Lib.hid hF1
  have HF2 := Lib.hid hF2
  have c2 := cells_after (w := w) (w1 := W) (E := 51) (cs := #[.bool ev, .int .i64 d, .int .u64 se, .int .u64 mi, .int .u64 hr, .int .u64 dom, .int .u64 mon, .int .u64 dow]) (by rw [← hW]; exact ((Below.refl _ _).alloc (by simp) _).alloc (by simp) _)
  have k2 := c2 2 _ rfl
  have k3 := c2 3 _ rfl
  have k4 := c2 4 _ rfl
  have k5 := c2 5 _ rfl
  have k6 := c2 6 _ rfl
  have k7 := c2 7 _ rfl
  clear c2 hbW hF1 hF2
  go_enter Try.func31, Try.ntmps31
  go_wp2_with (with_reducible refine wpList_alloc_fields rfl rfl ?_)
  go_loopw [19] (fun v wr => ∃ k : Nat, v = .int .i64 (k : Int) ∧ k ≤ 6 ∧ Hid (FldAt wr (w.heap.size + 1 + 1) (stN g k) (fN g k) ∧ Below (w.heap.size + 1 + 1) W wr)) (fun v _ => (6 - intOf v).toNat)
  case atStart => exact ⟨0, rfl, by omega, Lib.hid ⟨HF2.out, Below.refl _ _⟩⟩
  case round =>
    obtain ⟨k, rfl, hk, hrel⟩ := hrel
    have hrel := hrel.out
    clear k2 k3 k4 k5 k6 k7
    by_cases h6 : k < 6
    · rcases (show k = 0 ∨ k = 1 ∨ k = 2 ∨ k = 3 ∨ k = 4 ∨ k = 5 by omega) with rfl | rfl | rfl | rfl | rfl | rfl
      · have hix := idx0 se mi hr dom mon dow
        have HSk : Hid (∀ w1, Calls Try.prog 14 #[.int .i64 0, .int .u64 se] w1 fun e w' => e = .returned (.agg (setArr (has se 63) (inK 0 se))) ∧ Below w1.heap.size w1 w') := Lib.hid (fun w1 => by have := HS.out 0 (by omega) w1; rw [g0] at this; exact this)
        go_wp2_with (first
          | ((go_at_call 14); (with_reducible refine (HSk.out _).mono ?_); rintro e w1 ⟨rfl, hb1⟩)
          | ((with_reducible refine at_store rfl ?_); (refine wpList_store_one rfl (.tmp 27) (.tmp 26) rfl (w.heap.size + 1 + 1) 0 (by omega) (stN g 0) (fN g 0) (has se 63) (inK 0 se) rfl rfl (hrel.1.below hb1 hrel.1.lt) ?_)))
        refine ⟨⟨1, rfl, by omega, Lib.hid ⟨?_, below_setCells _ (hrel.2.trans (hb1.mono (Nat.le_of_lt hrel.1.lt))) (Nat.le_refl _)⟩⟩, by simp [intOf]⟩
        have := (hrel.1.below hb1 hrel.1.lt).put 0 (by omega) (has se 63) (inK 0 se)
        rw [← g0, stN_next, fN_next] at this
        rw [← g0]
        exact this
      · have hix := idx1 se mi hr dom mon dow
        have HSk : Hid (∀ w1, Calls Try.prog 14 #[.int .i64 1, .int .u64 mi] w1 fun e w' => e = .returned (.agg (setArr (has mi 63) (inK 1 mi))) ∧ Below w1.heap.size w1 w') := Lib.hid (fun w1 => by have := HS.out 1 (by omega) w1; rw [g1] at this; exact this)
        go_wp2_with (first
          | ((go_at_call 14); (with_reducible refine (HSk.out _).mono ?_); rintro e w1 ⟨rfl, hb1⟩)
          | ((with_reducible refine at_store rfl ?_); (refine wpList_store_one rfl (.tmp 27) (.tmp 26) rfl (w.heap.size + 1 + 1) 1 (by omega) (stN g 1) (fN g 1) (has mi 63) (inK 1 mi) rfl rfl (hrel.1.below hb1 hrel.1.lt) ?_)))
        refine ⟨⟨2, rfl, by omega, Lib.hid ⟨?_, below_setCells _ (hrel.2.trans (hb1.mono (Nat.le_of_lt hrel.1.lt))) (Nat.le_refl _)⟩⟩, by simp [intOf]⟩
        have := (hrel.1.below hb1 hrel.1.lt).put 1 (by omega) (has mi 63) (inK 1 mi)
        rw [← g1, stN_next, fN_next] at this
        rw [← g1]
        exact this
      · have hix := idx2 se mi hr dom mon dow
        have HSk : Hid (∀ w1, Calls Try.prog 14 #[.int .i64 2, .int .u64 hr] w1 fun e w' => e = .returned (.agg (setArr (has hr 63) (inK 2 hr))) ∧ Below w1.heap.size w1 w') := Lib.hid (fun w1 => by have := HS.out 2 (by omega) w1; rw [g2] at this; exact this)
        go_wp2_with (first
          | ((go_at_call 14); (with_reducible refine (HSk.out _).mono ?_); rintro e w1 ⟨rfl, hb1⟩)
          | ((with_reducible refine at_store rfl ?_); (refine wpList_store_one rfl (.tmp 27) (.tmp 26) rfl (w.heap.size + 1 + 1) 2 (by omega) (stN g 2) (fN g 2) (has hr 63) (inK 2 hr) rfl rfl (hrel.1.below hb1 hrel.1.lt) ?_)))
        refine ⟨⟨3, rfl, by omega, Lib.hid ⟨?_, below_setCells _ (hrel.2.trans (hb1.mono (Nat.le_of_lt hrel.1.lt))) (Nat.le_refl _)⟩⟩, by simp [intOf]⟩
        have := (hrel.1.below hb1 hrel.1.lt).put 2 (by omega) (has hr 63) (inK 2 hr)
        rw [← g2, stN_next, fN_next] at this
        rw [← g2]
        exact this
      · have hix := idx3 se mi hr dom mon dow
        have HSk : Hid (∀ w1, Calls Try.prog 14 #[.int .i64 3, .int .u64 dom] w1 fun e w' => e = .returned (.agg (setArr (has dom 63) (inK 3 dom))) ∧ Below w1.heap.size w1 w') := Lib.hid (fun w1 => by have := HS.out 3 (by omega) w1; rw [g3] at this; exact this)
        go_wp2_with (first
          | ((go_at_call 14); (with_reducible refine (HSk.out _).mono ?_); rintro e w1 ⟨rfl, hb1⟩)
          | ((with_reducible refine at_store rfl ?_); (refine wpList_store_one rfl (.tmp 27) (.tmp 26) rfl (w.heap.size + 1 + 1) 3 (by omega) (stN g 3) (fN g 3) (has dom 63) (inK 3 dom) rfl rfl (hrel.1.below hb1 hrel.1.lt) ?_)))
        refine ⟨⟨4, rfl, by omega, Lib.hid ⟨?_, below_setCells _ (hrel.2.trans (hb1.mono (Nat.le_of_lt hrel.1.lt))) (Nat.le_refl _)⟩⟩, by simp [intOf]⟩
        have := (hrel.1.below hb1 hrel.1.lt).put 3 (by omega) (has dom 63) (inK 3 dom)
        rw [← g3, stN_next, fN_next] at this
        rw [← g3]
        exact this
      · have hix := idx4 se mi hr dom mon dow
        have HSk : Hid (∀ w1, Calls Try.prog 14 #[.int .i64 4, .int .u64 mon] w1 fun e w' => e = .returned (.agg (setArr (has mon 63) (inK 4 mon))) ∧ Below w1.heap.size w1 w') := Lib.hid (fun w1 => by have := HS.out 4 (by omega) w1; rw [g4] at this; exact this)
        go_wp2_with (first
          | ((go_at_call 14); (with_reducible refine (HSk.out _).mono ?_); rintro e w1 ⟨rfl, hb1⟩)
          | ((with_reducible refine at_store rfl ?_); (refine wpList_store_one rfl (.tmp 27) (.tmp 26) rfl (w.heap.size + 1 + 1) 4 (by omega) (stN g 4) (fN g 4) (has mon 63) (inK 4 mon) rfl rfl (hrel.1.below hb1 hrel.1.lt) ?_)))
        refine ⟨⟨5, rfl, by omega, Lib.hid ⟨?_, below_setCells _ (hrel.2.trans (hb1.mono (Nat.le_of_lt hrel.1.lt))) (Nat.le_refl _)⟩⟩, by simp [intOf]⟩
        have := (hrel.1.below hb1 hrel.1.lt).put 4 (by omega) (has mon 63) (inK 4 mon)
        rw [← g4, stN_next, fN_next] at this
        rw [← g4]
        exact this
      · have hix := idx5 se mi hr dom mon dow
        have HSk : Hid (∀ w1, Calls Try.prog 14 #[.int .i64 5, .int .u64 dow] w1 fun e w' => e = .returned (.agg (setArr (has dow 63) (inK 5 dow))) ∧ Below w1.heap.size w1 w') := Lib.hid (fun w1 => by have := HS.out 5 (by omega) w1; rw [g5] at this; exact this)
        go_wp2_with (first
          | ((go_at_call 14); (with_reducible refine (HSk.out _).mono ?_); rintro e w1 ⟨rfl, hb1⟩)
          | ((with_reducible refine at_store rfl ?_); (refine wpList_store_one rfl (.tmp 27) (.tmp 26) rfl (w.heap.size + 1 + 1) 5 (by omega) (stN g 5) (fN g 5) (has dow 63) (inK 5 dow) rfl rfl (hrel.1.below hb1 hrel.1.lt) ?_)))
        refine ⟨⟨6, rfl, by omega, Lib.hid ⟨?_, below_setCells _ (hrel.2.trans (hb1.mono (Nat.le_of_lt hrel.1.lt))) (Nat.le_refl _)⟩⟩, by simp [intOf]⟩
        have := (hrel.1.below hb1 hrel.1.lt).put 5 (by omega) (has dow 63) (inK 5 dow)
        rw [← g5, stN_next, fN_next] at this
        rw [← g5]
        exact this
    · obtain rfl : k = 6 := by omega
      go_wp2_with (first
        | (with_reducible refine wpList_load_fields rfl (.tmp 3) rfl (w.heap.size + 1 + 1) (stN g 6) (fN g 6) rfl hrel.1 ?_)
        | (with_reducible refine wpList_store_all rfl (.tmp 2) (.tmp 29) rfl (w.heap.size + 1) (stN g 0) (fN g 0) (stN g 6) (fN g 6) rfl rfl (HF1.out.below hrel.2 (Nat.lt_succ_self _)) ?_))
      refine bodyPost_ret (results_fields rfl _ _ (w.heap.size + 1) (stN g 6) (fN g 6) rfl (putAll (HF1.out.below hrel.2 (Nat.lt_succ_self _)) _ _)) rfl ⟨?_, ?_⟩
      · rw [all_six]
      · exact below_setCells _ (HBW.out.trans (hrel.2.mono (by omega))) (by omega)

end Go.Proofs.Ytoekefbclkmchaa.FieldsOf
