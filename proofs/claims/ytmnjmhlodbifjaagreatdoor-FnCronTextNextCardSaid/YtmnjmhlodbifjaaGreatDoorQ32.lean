/- The reference's CronEmpty and CronNever. Conditions: none. · The reference's cronTime: the least second of a day in the sets. Conditions: a second of a day. · A law for a region that draws its order of evaluation: an operation, a call too, that gives the same value in every world of a kind and leaves a world of the kind may be taken first; the last operation may leave the kind. Conditions: none. · The reference's CronTomorrow. Conditions: days of some ten thousand years. -/
import Derived.Test.YtmnjmhlodbifjaaGreatDoorQ31
import Derived.ChangeKeysEq
import Derived.BigFrame
import Derived.OrdersHeld
import Derived.Deep.RegionHeld3
import Derived.StillTail
import Derived.Below
import Derived.Test.YtmnjmhlodbifjaaGreatDoorQ2

namespace Go.Proofs.YtmnjmhlodbifjaaGreatDoor.Never
open Go Go.RowKit Go.Proofs.YtmnjmhlodbifjaaGreatDoor.Set Go.Proofs.YtmnjmhlodbifjaaGreatDoor.Fields Go.Proofs.YtmnjmhlodbifjaaGreatDoor.SetOf Go.Proofs.YtmnjmhlodbifjaaGreatDoor.Moment Go.Proofs.YtmnjmhlodbifjaaGreatDoor.DayM Go.Proofs.YtmnjmhlodbifjaaGreatDoor.DayFits Go.Proofs.YtmnjmhlodbifjaaGreatDoor.FieldsOf
set_option linter.unusedVariables false
def valArr (f : Nat → Bool) : Array Value := Array.ofFn (n := 63) fun i => Value.bool (f i.val)
theorem valArr_size (f : Nat → Bool) : (valArr f).size = 63 := by simp [valArr]
theorem valArr_get (f : Nat → Bool) (i : Nat) (h : i < 63) : (valArr f)[i]? = some (.bool (f i)) := by simp [valArr, h]
def emptyB (f : Nat → Bool) : Bool := (List.range 63).all fun i => f i == false
theorem emptyB_iff (f : Nat → Bool) : emptyB f = true ↔ ∀ i, i ≤ 62 → f i = false := by
  unfold emptyB
  rw [List.all_eq_true]
  constructor
  · intro h i hi
    have := h i (List.mem_range.2 (by omega))
    simpa using this
  · intro h i hi
    have := h i (by have := List.mem_range.1 hi; omega)
    simpa using this
theorem items_run (f g : Nat → Bool) (w : World) : ∀ is : List Nat, (∀ i ∈ is, i < 63) → (Op.eqItems 9999 4 1 (valArr f) (valArr g) is).run Tryz.prog w = .ok (is.all fun i => f i == g i) w := by
  intro is
  induction is with
  | nil => intro _; simp [Op.eqItems]
  | cons i is ih =>
    intro h
    have hi := h i (by simp)
    have p1 := run_part_plain (P := Tryz.prog) w (e := 4) (by kernel_rfl) (off := i * 1) (valArr_get f i hi ▸ (by rw [Nat.mul_one]) : (valArr f)[i * 1]? = some (.bool (f i)))
    have p2 := run_part_plain (P := Tryz.prog) w (e := 4) (by kernel_rfl) (off := i * 1) (valArr_get g i hi ▸ (by rw [Nat.mul_one]) : (valArr g)[i * 1]? = some (.bool (g i)))
    have p3 := run_equalIn_bool w 9998 4 (f i) (g i) (P := Tryz.prog) (by kernel_rfl)
    simp only [Op.eqItems, Sem.run_bind, p1, p2, Result.andThen_ok]
    rw [show (9999 : Nat) = 9998 + 1 from rfl, p3]
    simp only [Result.andThen_ok]
    cases hfg : (f i == g i)
    · simp [hfg]
    · have := ih (fun j hj => h j (by simp [hj]))
      simp [hfg] at this ⊢
      exact this
theorem cellsB : Tryz.prog.cellsOf 4 = 1 := by kernel_rfl
theorem equal_vals (f g : Nat → Bool) (w : World) : (Op.equalIn 10000 53 (.agg (valArr f)) (.agg (valArr g))).run Tryz.prog w = .ok ((List.range 63).all fun i => f i == g i) w := by
  have hi : ∃ i, Tryz.prog.info? 4 = some i := by
    have : (Tryz.prog.info? 4).isSome = true := by kernel_rfl
    exact Option.isSome_iff_exists.1 this
  obtain ⟨i, hi⟩ := hi
  rw [show (10000 : Nat) = 9999 + 1 from rfl, run_equalIn_array (P := Tryz.prog) w 9999 (valArr f) (valArr g) (n := 63) (e := 4) Tryz.underlying53 hi, cellsB]
  exact items_run f g w _ (fun i h => List.mem_range.1 h)
theorem field_zero (w : World) : (Instr.field 55 (.agg (setArr false fun _ => false)) 1).run Tryz.prog w = .ok (.agg (valArr fun _ => false)) w := by kernel_rfl
theorem sizeInfoV : (Tryz.prog.info? 53).map (·.size) = some 63 := by kernel_rfl
theorem rangeV {w : World} {b : Nat} {star : Bool} {f : Nat → Bool} (h : SetAt w b star f) : w.rangeAt b 1 (valArr f).toList := fun j v hv => by
  rw [Array.getElem?_toList] at hv
  have hj : j < 63 := by rw [← valArr_size f]; exact (Array.getElem?_eq_some_iff.1 hv).1
  rw [valArr_get _ _ hj] at hv
  rw [h.cell j (by omega)]; exact hv
theorem at_load {P : Program} {ops : Array Oper} {rest : List Oper} {o : Oper} {a : Act} {w : World} {Q : Exit → Act → World → Prop} {t : TypeId} {x : Operand} (ho : o.op = .load t x) (h : wpList P ops Q (o :: rest) a w) : wpList P ops Q (o :: rest) a w := h
theorem wpList_load_vals {ops : Array Oper} {rest : List Oper} {o : Oper} {a : Act} {w : World} {Q : Exit → Act → World → Prop} (hg : o.guard = none) (x : Operand) (ho : o.op = .load 53 x) (b : Nat) (star : Bool) (f : Nat → Bool)
    (hx : a.eval x = .pointer (some ⟨b, 1, none⟩)) (hb : SetAt w b star f)
    (h : wpList Tryz.prog ops Q rest (a.put o.dst (.agg (valArr f))) w) : wpList Tryz.prog ops Q (o :: rest) a w := by
  refine wpList_load_mid hg 53 x ho b 1 hx (valArr f).toList _ (rangeV hb) Tryz.underlying53 rfl (by simp [valArr_size, sizeInfoV]) ?_
  simpa using h
set_option maxRecDepth 100000 in
theorem empty_any (star : Bool) (f : Nat → Bool) (w : World) : Calls Tryz.prog 145 #[.agg (setArr star f)] w fun e w' => e = .returned (.bool (emptyB f)) ∧ Below w.heap.size w w' := by
  have hf := field_zero
  obtain ⟨p, hp⟩ : ∃ p, emptyB f = p := ⟨_, rfl⟩
  have he : ∀ w : World, (Op.equalIn 10000 53 (.agg (valArr f)) (.agg (valArr fun _ => false))).run Tryz.prog w = .ok p w := fun w => by rw [← hp]; exact equal_vals f (fun _ => false) w
  rw [hp]
  clear hp
  have hs := SetAt.new w star f
  have hb : Below w.heap.size w (w.alloc (.cells (setArr star f) 55)) := (Below.refl _ _).alloc (Nat.le_refl _) _
  go_enter Tryz.func145, Tryz.ntmps145
  go_wp2_with (first
    | (with_reducible refine wpList_box_set rfl (.tmp 0) rfl star f rfl ?_)
    | ((with_reducible refine at_load rfl ?_); (refine wpList_load_vals rfl (.tmp 3) rfl w.heap.size star f rfl hs ?_))
    | (with_reducible refine wpList_build_set rfl rfl ?_))
  go_ret
  exact ⟨rfl, hb⟩
theorem wpList_load_one_want {ops : Array Oper} {rest : List Oper} {o : Oper} {a : Act} {w : World} {Q : Exit → Act → World → Prop} (hw : Region.wanted o (yielded ops a.tmps) = true) (x : Operand) (ho : o.op = .load 55 x) (b k : Nat) (hk : k < 6) (st : Nat → Bool) (f : Nat → Nat → Bool)
    (hx : a.eval x = .pointer (some ⟨b, k * 64, none⟩)) (hb : FldAt w b st f)
    (h : wpList Tryz.prog ops Q rest (a.put o.dst (.agg (setArr (st k) (f k)))) w) : wpList Tryz.prog ops Q (o :: rest) a w :=
  BigFrame.wpList_want hw fun _ hK => wp_load_mid 55 x ho b (k * 64) hx (setArr (st k) (f k)).toList _ (hb.set k hk) Tryz.underlying55 rfl (by simp [setArr_size, sizeInfo]) (hK _ _ (by simpa using h))
def neverB (f : Nat → Nat → Bool) : Bool := emptyB (f 2) || emptyB (f 1) || emptyB (f 0)
set_option maxRecDepth 100000 in
theorem never_any (st : Nat → Bool) (f : Nat → Nat → Bool) (w : World) : Calls Tryz.prog 118 #[.agg (fldArr st f)] w fun e w' => e = .returned (.bool (neverB f)) ∧ Below w.heap.size w w' := by
  have hF := FldAt.new w st f
  have hb : Below w.heap.size w (w.alloc (.cells (fldArr st f) 57)) := (Below.refl _ _).alloc (Nat.le_refl _) _
  have H0 := Lib.hid (fun w1 => empty_any (st 0) (f 0) w1)
  have H1 := Lib.hid (fun w1 => empty_any (st 1) (f 1) w1)
  have H2 := Lib.hid (fun w1 => empty_any (st 2) (f 2) w1)
  have HN : Hid (neverB f = (emptyB (f 2) || emptyB (f 1) || emptyB (f 0))) := Lib.hid rfl
  generalize emptyB (f 0) = p0 at *
  generalize emptyB (f 1) = p1 at *
  generalize emptyB (f 2) = p2 at *
  have HB := Lib.hid hb
  have HF := Lib.hid hF
  clear hb hF
  cases p2 <;> cases p1 <;> cases p0
  all_goals
    go_enter Tryz.func118, Tryz.ntmps118
    go_wp2_with (first
      | (with_reducible refine wpList_box_fields rfl (.tmp 0) rfl st f rfl ?_)
      | ((go_at_call 145); (with_reducible refine (H2.out _).mono ?_); rintro e w1 ⟨rfl, hb1⟩; have hf1 := HF.out.below hb1 HF.out.lt)
      | ((go_at_call 145); (with_reducible refine (H1.out _).mono ?_); rintro e w2 ⟨rfl, hb2⟩; have hf2 := hf1.below hb2 hf1.lt)
      | ((go_at_call 145); (with_reducible refine (H0.out _).mono ?_); rintro e w3 ⟨rfl, hb3⟩)
      | ((with_reducible refine at_load rfl ?_); (refine wpList_load_one_want (by rfl) (.tmp 3) rfl w.heap.size 2 (by omega) st f rfl HF.out ?_))
      | ((with_reducible refine at_load rfl ?_); (refine wpList_load_one_want (by rfl) (.tmp 7) rfl w.heap.size 1 (by omega) st f rfl hf1 ?_))
      | ((with_reducible refine at_load rfl ?_); (refine wpList_load_one_want (by rfl) (.tmp 12) rfl w.heap.size 0 (by omega) st f rfl hf2 ?_)))
    go_ret
    first
      | exact ⟨by rw [HN.out]; rfl, HB.out.trans ((hb1.trans ((hb2.trans (hb3.mono hb2.size)).mono hb1.size)).mono HB.out.size)⟩
      | exact ⟨by rw [HN.out]; rfl, HB.out.trans ((hb1.trans (hb2.mono hb1.size)).mono HB.out.size)⟩
      | exact ⟨by rw [HN.out]; rfl, HB.out.trans (hb1.mono HB.out.size)⟩
end Go.Proofs.YtmnjmhlodbifjaaGreatDoor.Never
namespace Go.Proofs.YtmnjmhlodbifjaaGreatDoor.CronTime
open Go Go.RowKit Go.Proofs.YtmnjmhlodbifjaaGreatDoor.Set Go.Proofs.YtmnjmhlodbifjaaGreatDoor.Fields Go.Proofs.YtmnjmhlodbifjaaGreatDoor.SetOf Go.Proofs.YtmnjmhlodbifjaaGreatDoor.Moment Go.Proofs.YtmnjmhlodbifjaaGreatDoor.DayM Go.Proofs.YtmnjmhlodbifjaaGreatDoor.DayFits Go.Proofs.YtmnjmhlodbifjaaGreatDoor.FieldsOf Go.Proofs.YtmnjmhlodbifjaaGreatDoor.Never
set_option linter.unusedVariables false
def tfit (f : Nat → Nat → Bool) (e : Nat) : Bool := f 2 (e / 3600) && f 1 (e % 3600 / 60) && f 0 (e % 60)
def NoT (f : Nat → Nat → Bool) (from' n : Nat) : Prop := ∀ e, from' ≤ e → e < n → tfit f e = false
def TimeRes (f : Nat → Nat → Bool) (from' : Nat) (w : World) (x : Ending) (w' : World) : Prop :=
  (∃ T : Int, x = .returned (.int .i64 T) ∧ ((∃ e : Nat, T = (e : Int) ∧ from' ≤ e ∧ e < 86400 ∧ tfit f e = true ∧ NoT f from' e) ∨ (T = -1 ∧ NoT f from' 86400))) ∧ Below w.heap.size w w'
section
variable {f : Nat → Nat → Bool} {a n : Nat}
theorem NoT.hour {h : Nat} (h0 : NoT f a (3600 * h)) (hp : f 2 h = false) : NoT f a (3600 * (h + 1)) := fun e e1 e2 => by
  by_cases c : e < 3600 * h
  · exact h0 e e1 c
  · unfold tfit
    rw [show e / 3600 = h by omega, hp]
    rfl
theorem NoT.minute {h m : Nat} (h0 : NoT f a (3600 * h + 60 * m)) (hm : m < 60) (hp : f 1 m = false ∨ 3600 * h + 60 * m + 59 < a) : NoT f a (3600 * h + 60 * (m + 1)) := fun e e1 e2 => by
  by_cases c : e < 3600 * h + 60 * m
  · exact h0 e e1 c
  · rcases hp with hp | hp
    · unfold tfit
      rw [show e % 3600 / 60 = m by omega, hp]
      simp
    · omega
theorem NoT.second {h m s : Nat} (h0 : NoT f a (3600 * h + 60 * m + s)) (hm : m < 60) (hs : s < 60) (hp : f 0 s = false) : NoT f a (3600 * h + 60 * m + (s + 1)) := fun e e1 e2 => by
  by_cases c : e < 3600 * h + 60 * m + s
  · exact h0 e e1 c
  · unfold tfit
    rw [show e % 60 = s by omega, hp]
    simp
end
set_option maxHeartbeats 2000000 in
set_option maxRecDepth 100000 in
theorem time_any (st : Nat → Bool) (f : Nat → Nat → Bool) (a : Nat) (w : World) (ha : a < 86400) :
    Calls Tryz.prog 121 #[.agg (fldArr st f), .int .i64 (a : Int)] w (TimeRes f a w) := by
  have hF := FldAt.new w st f
  have hb : Below w.heap.size w (w.alloc (.cells (fldArr st f) 57)) := (Below.refl _ _).alloc (Nat.le_refl _) _
  have HF := Lib.hid hF
  have HB := Lib.hid hb
  have v0 : IntKind.i64.wrap ((a : Int).tdiv 3600) = ((a / 3600 : Nat) : Int) := by
    rw [Int.tdiv_eq_ediv_of_nonneg (by omega)]
    exact IntWalk.i64_in _ (by omega)
  obtain ⟨a0, ha0⟩ : ∃ a0, a / 3600 = a0 := ⟨_, rfl⟩
  have HA0 := Lib.hid ha0
  rw [ha0] at v0
  have ha1 : a0 < 24 := by omega
  clear hF hb ha0
  go_enter Tryz.func121, Tryz.ntmps121
  go_wp2_with (with_reducible refine wpList_box_fields rfl (.tmp 0) rfl st f rfl ?_)
  go_loop [5] (fun v => ∃ k : Nat, v = .int .i64 (k : Int) ∧ a0 ≤ k ∧ k ≤ 24 ∧ Hid (NoT f a (3600 * k))) (fun v => (24 - intOf v).toNat)
  case atStart => exact ⟨a0, by have := HA0.out; congr 1; omega, by omega, by omega, Lib.hid (fun e e1 e2 => by have := HA0.out; omega)⟩
  case round =>
    obtain ⟨k, rfl, k0, k1, HN⟩ := hrel
    by_cases k24 : k < 24
    · have c2 : (w.alloc (.cells (fldArr st f) 57)).cell? ⟨w.heap.size, 129 + k, none⟩ = some (.bool (f 2 k)) := HF.out.val 2 k (by omega) (by omega)
      have i1 : (k : Int) < 63 := by omega
      obtain ⟨p, hp⟩ : ∃ p, f 2 k = p := ⟨_, rfl⟩
      rw [hp] at c2
      have HP := Lib.hid hp
      clear hp
      cases p
      · go_wp2_with fail
        refine ⟨⟨k + 1, by go_num, by omega, by omega, Lib.hid (HN.out.hour HP.out)⟩, by simp [intOf]; omega⟩
      · go_wp2_with fail
        go_loop [21] (fun v => ∃ m : Nat, v = .int .i64 (m : Int) ∧ m ≤ 60 ∧ Hid (NoT f a (3600 * k + 60 * m))) (fun v => (60 - intOf v).toNat)
        case atStart => exact ⟨0, rfl, by omega, Lib.hid HN.out⟩
        case round =>
          obtain ⟨m, rfl, m1, HM⟩ := hrel
          by_cases m60 : m < 60
          · have c1 : (w.alloc (.cells (fldArr st f) 57)).cell? ⟨w.heap.size, 65 + m, none⟩ = some (.bool (f 1 m)) := HF.out.val 1 m (by omega) (by omega)
            have i2 : (m : Int) < 63 := by omega
            obtain ⟨q, hq⟩ : ∃ q, f 1 m = q := ⟨_, rfl⟩
            rw [hq] at c1
            have HQ := Lib.hid hq
            clear hq
            cases q
            · go_wp2_with fail
              refine ⟨⟨m + 1, by go_num, by omega, Lib.hid (HM.out.minute m60 (.inl HQ.out))⟩, by simp [intOf]; omega⟩
            · by_cases hlt : (3600 * (k : Int) + 60 * (m : Int) + 59 < (a : Int))
              · go_wp2_with fail
                refine ⟨⟨m + 1, by go_num, by omega, Lib.hid (HM.out.minute m60 (.inr (by omega)))⟩, by simp [intOf]; omega⟩
              · obtain ⟨s0, hs0⟩ : ∃ s0 : Nat, max 0 ((a : Int) - (3600 * (k : Int) + 60 * (m : Int))) = (s0 : Int) := ⟨(max 0 ((a : Int) - (3600 * (k : Int) + 60 * (m : Int)))).toNat, by omega⟩
                have hs1 : s0 ≤ 59 := by omega
                have HS0 : Hid (NoT f a (3600 * k + 60 * m + s0)) := Lib.hid (fun e e1 e2 => by
                  by_cases c : e < 3600 * k + 60 * m
                  · exact HM.out e e1 c
                  · omega)
                have HS1 : Hid (a ≤ 3600 * k + 60 * m + s0) := Lib.hid (by omega)
                have HS2 := Lib.hid hs0
                clear hs0
                go_wp2_with fail
                all_goals
                  go_loop [8] (fun v => ∃ s : Nat, v = .int .i64 (s : Int) ∧ s ≤ 60 ∧ Hid (a ≤ 3600 * k + 60 * m + s) ∧ Hid (NoT f a (3600 * k + 60 * m + s))) (fun v => (60 - intOf v).toNat)
                  case atStart => exact ⟨s0, by have := HS2.out; congr 1; try omega, by omega, HS1, HS0⟩
                  case round =>
                    obtain ⟨s, rfl, s1, HS, HO⟩ := hrel
                    by_cases s60 : s < 60
                    · have c0 : (w.alloc (.cells (fldArr st f) 57)).cell? ⟨w.heap.size, 1 + s, none⟩ = some (.bool (f 0 s)) := by
                        have := HF.out.val 0 s (by omega) (by omega)
                        simpa using this
                      have i3 : (s : Int) < 63 := by omega
                      obtain ⟨r, hr⟩ : ∃ r, f 0 s = r := ⟨_, rfl⟩
                      rw [hr] at c0
                      have HR := Lib.hid hr
                      clear hr
                      cases r
                      · go_wp2_with fail
                        refine ⟨⟨s + 1, by go_num, by omega, Lib.hid (by have := HS.out; omega), Lib.hid (HO.out.second m60 s60 HR.out)⟩, by simp [intOf]; omega⟩
                      · go_wp2_with fail
                        go_ret
                        refine ⟨⟨_, rfl, .inl ⟨3600 * k + 60 * m + s, by go_num, HS.out, by omega, ?_, HO.out⟩⟩, HB.out⟩
                        unfold tfit
                        rw [show (3600 * k + 60 * m + s) / 3600 = k by omega, show (3600 * k + 60 * m + s) % 3600 / 60 = m by omega, show (3600 * k + 60 * m + s) % 60 = s by omega, HP.out, HQ.out, HR.out]
                        rfl
                    · obtain rfl : s = 60 := by omega
                      go_wp2_with fail
                      refine ⟨⟨m + 1, by go_num, by omega, Lib.hid (by have := HO.out; rw [show 3600 * k + 60 * (m + 1) = 3600 * k + 60 * m + 60 by omega]; exact this)⟩, by simp [intOf]; omega⟩
          · obtain rfl : m = 60 := by omega
            go_wp2_with fail
            refine ⟨⟨k + 1, by go_num, by omega, by omega, Lib.hid (by have := HM.out; rw [show 3600 * (k + 1) = 3600 * k + 60 * 60 by omega]; exact this)⟩, by simp [intOf]; omega⟩
    · obtain rfl : k = 24 := by omega
      go_wp2_with fail
      go_ret
      exact ⟨⟨_, rfl, .inr ⟨rfl, HN.out⟩⟩, HB.out⟩
end Go.Proofs.YtmnjmhlodbifjaaGreatDoor.CronTime
namespace Go.Proofs.YtmnjmhlodbifjaaGreatDoor.RegS
open Go
set_option linter.unusedVariables false
section
variable {P : Program} {ops : Array Oper} {Q : Exit → Act → World → Prop} {md : Region.Mode} {S : World → Prop}
def GivesR (P : Program) (S : World → Prop) (v : Value) : Result Next → Prop
  | .ok (.value u) w' => u = v ∧ S w'
  | .ok (.enter f args) w' => Calls P f args w' fun e w'' => e = .returned v ∧ S w''
  | _ => False
def Gives (P : Program) (ops : Array Oper) (S : World → Prop) (o : Oper) (v : Value) (a : Act) : Prop :=
  Region.wanted o (yielded ops a.tmps) = true ∧ ∀ w, S w → GivesR P S v ((execOp a.eval o).run P w)
theorem Gives.of_same {o : Oper} {v : Value} {a b : Act} (h : Gives P ops S o v a) (he : execOp b.eval o = execOp a.eval o)
    (hw : Region.wanted o (yielded ops b.tmps) = Region.wanted o (yielded ops a.tmps)) : Gives P ops S o v b := by
  refine ⟨hw.trans h.1, fun w hS => ?_⟩
  rw [he]
  exact h.2 w hS
theorem Gives.go {i : Nat} {o : Oper} {v : Value} {a : Act} {w : World} {K : Act → World → Prop} (hi : ops[i]? = some o) (h : Gives P ops S o v a) (hS : S w)
    (hk : ∀ w', S w' → K (a.put o.dst v) w') : wpOp P ops Q i K a w := by
  have h2 := h.2 w hS
  unfold wpOp
  rw [hi]
  dsimp only
  rw [if_pos h.1]
  refine .inl ?_
  unfold Oper.wp
  revert h2
  generalize (execOp a.eval o).run P w = r
  intro h2
  rcases r with ⟨n, w'⟩ | ⟨x, w'⟩
  · rcases n with u | _ | _ | _ | _ | _ <;> first | (exact absurd h2 id) | skip
    · obtain ⟨rfl, h4⟩ := h2
      exact hk _ h4
    · exact Calls.mono h2 fun e w'' he => by
        obtain ⟨rfl, h4⟩ := he
        exact hk _ h4
  · exact absurd h2 id
theorem Gives.swap {j : Nat} {oi oj : Oper} {v : Value} (hj : ops[j]? = some oj) (hap : oi.apart ops oj = true)
    (hsi : ∀ cs b, oi.op ≠ .select cs b) (hsj : ∀ cs b, oj.op ≠ .select cs b)
    (hQ : ∀ c a w, Q (.panic c) (a.put oi.dst v) w → Q (.panic c) a w) {K : Act → World → Prop} {a : Act} {w : World}
    (hy : Gives P ops S oi v a) (h : wpOp P ops Q j K (a.put oi.dst v) w) :
    wpOp P ops Q j (fun b w' => Gives P ops S oi v b ∧ K (b.put oi.dst v) w') a w := by
  obtain ⟨p1, p2, p3⟩ := Oper.apart_spec hap
  have stay : ∀ b : Act, Gives P ops S oi v b → ∀ u, Gives P ops S oi v (b.put oj.dst u) := fun b hb u => hb.of_same (execOp_put oi hsi b oj.dst u p3) (wanted_put oi b oj.dst u p3)
  have keepD : ∀ d : Deferred, Gives P ops S oi v { a with defers := d :: a.defers } := fun d => hy.of_same rfl rfl
  have ee := execOp_put (ops := ops) oj hsj a oi.dst v p1
  have ew := wanted_put (ops := ops) oj a oi.dst v p1
  have pc := fun (b : Act) (u : Value) => Act.put_comm b v u p2
  unfold wpOp at h ⊢
  rw [hj] at h ⊢
  dsimp only at h ⊢
  rw [ew] at h
  by_cases hw : Region.wanted oj (yielded ops a.tmps) = true
  · rw [if_pos hw] at h ⊢
    rcases h with h | ⟨hasks, hlets⟩
    · refine .inl ?_
      unfold Oper.wp at h ⊢
      rw [ee] at h
      generalize (execOp a.eval oj).run P w = r at h ⊢
      rcases r with ⟨n, w'⟩ | ⟨x, w'⟩
      · cases n <;> simp only [Oper.upon] at h ⊢
        all_goals first
          | exact h
          | exact ⟨stay a hy _, by rw [← pc]; exact h⟩
          | exact ⟨stay _ (keepD _) _, by rw [← pc, ← Act.put_defers]; exact h⟩
          | (refine Calls.mono h fun e w'' he => ?_
             cases e
             · exact ⟨stay a hy _, by rw [← pc]; exact he⟩
             · exact hQ _ _ _ he
             · exact he)
          | exact Rows.mono h fun u w'' he => ⟨stay a hy _, by rw [← pc]; exact he⟩
      · cases x <;> simp only [Oper.upon] at h ⊢
        all_goals first
          | exact h
          | exact hQ _ _ _ h
    · exact .inr ⟨by unfold Oper.asks at *; rw [ee] at hasks; exact hasks, hlets⟩
  · rw [if_neg hw] at h ⊢
    exact ⟨stay a hy _, by rw [← pc]; exact h⟩
def AnyS (P : Program) (md : Region.Mode) (ops : Array Oper) (Q : Exit → Act → World → Prop) (S : World → Prop) (n : Nat) : Nat → Array Bool → Act → Prop
  | 0, listed, a => Region.ready md ops listed = [] ∧ ∀ w, S w → Q .normal a w
  | fuel + 1, listed, a =>
    (Region.ready md ops listed = [] → ∀ w, S w → Q .normal a w) ∧
    ∀ i ∈ Region.ready md ops listed, ∀ w, S w → wpOp P ops Q i (fun b w' => (i = n ∧ Region.ready md ops (listed.setIfInBounds i true) = [] ∧ Q .normal b w') ∨ (S w' ∧ AnyS P md ops Q S n fuel (listed.setIfInBounds i true) b)) a w
theorem any_of {n : Nat} : ∀ (fuel : Nat) (listed : Array Bool) (a : Act) (w : World), AnyS P md ops Q S n fuel listed a → S w → wpAny P md ops Q fuel listed a w
  | 0, _, _, _, h, hS => ⟨h.1, h.2 _ hS⟩
  | fuel + 1, _, _, _, h, hS => ⟨fun h0 => h.1 h0 _ hS, fun i hi => wpOp_mono (fun b w' h' => by
      rcases h' with ⟨-, h1, h2⟩ | ⟨h1, h2⟩
      · exact wpAny_done h1 h2 fuel
      · exact any_of fuel _ b w' h2 h1) (h.2 i hi _ hS)⟩
theorem AnyS.first {n : Nat} (hsink : Region.sinkB md ops n = true) (hn : ops.size = n + 1) {i : Nat} {oi : Oper} {v : Value} (hi : ops[i]? = some oi) (hin : i < n) (hsel : ∀ (j : Nat) (o : Oper) cs b, ops[j]? = some o → o.op ≠ .select cs b)
    (hQ : ∀ c a w, Q (.panic c) (a.put oi.dst v) w → Q (.panic c) a w) :
    ∀ (fuel : Nat) (listed : Array Bool) (a : Act), HeadInv md ops n listed →
      (∀ j oj, ops[j]? = some oj → j ≠ i → listed.getD j true = false → (∀ e ∈ oj.after, Region.binds md e = true → e.on ≠ i) → oi.apart ops oj = true) →
      i ∈ Region.ready md ops listed → Gives P ops S oi v a →
      AnyS P md ops Q S n fuel (listed.setIfInBounds i true) (a.put oi.dst v) → AnyS P md ops Q S n (fuel + 1) listed a := by
  have hchain : Region.chainB md ops n = true := by
    unfold Region.chainB
    rw [List.all_eq_true]
    intro t ht
    have := List.mem_range.1 ht
    simp only [Bool.or_eq_true, decide_eq_true_eq]
    exact .inl (by omega)
  intro fuel
  induction fuel with
  | zero =>
    intro listed a _ _ hr hy H
    refine ⟨fun h => (by rw [h] at hr; cases hr), fun j hj w hS => ?_⟩
    by_cases hji : j = i
    · subst hji; exact hy.go hi hS fun w' hS' => .inr ⟨hS', H⟩
    · have := ready_mono hj hji
      rw [H.1] at this
      cases this
  | succ fuel ih =>
    intro listed a inv hfree hr hy H
    refine ⟨fun h => (by rw [h] at hr; cases hr), fun j hj w hS => ?_⟩
    by_cases hji : j = i
    · subst hji; exact hy.go hi hS fun w' hS' => .inr ⟨hS', H⟩
    · have h1 := H.2 j (ready_mono hj hji) w hS
      obtain ⟨hjun, oj, hoj, hall⟩ := mem_ready.1 hj
      have hjn : j < n := by
        have h5 := tail_waits hsink hchain (by omega) inv (n - i) i rfl hin (mem_ready.1 hr).1 j
        have h6 : j < ops.size := (Array.getElem?_eq_some_iff.1 hoj).1
        by_cases c : n ≤ j
        · exact absurd hj (h5 c)
        · omega
      have hnot : ∀ e ∈ oj.after, Region.binds md e = true → e.on ≠ i := fun e he hb heq => by
        have h1 := hall e he hb
        have h0 := (mem_ready.1 hr).1
        rw [heq, getD_both h0] at h1
        cases h1
      have h2 := Gives.swap hoj (hfree j oj hoj hji hjun hnot) (fun cs b => hsel i oi cs b hi) (fun cs b => hsel j oj cs b hoj) hQ hy h1
      have hfree2 : ∀ k ok, ops[k]? = some ok → k ≠ i → (listed.setIfInBounds j true).getD k true = false →
          (∀ e ∈ ok.after, Region.binds md e = true → e.on ≠ i) → oi.apart ops ok = true := fun k ok hk hki hun hno => by
        refine hfree k ok hk hki ?_ hno
        by_cases hjk : j = k
        · subst hjk; exact hjun
        · rw [getD_set_ne true hjk] at hun; exact hun
      have hstill := ready_mono hr (Ne.symm hji)
      refine wpOp_mono (fun b w' h3 => .inr ?_) h2
      obtain ⟨g1, g2⟩ := h3
      rcases g2 with ⟨g2, -⟩ | ⟨g2, g3⟩
      · omega
      · refine ⟨g2, ih (listed.setIfInBounds j true) b (inv.set hj hjn) hfree2 hstill g1 ?_⟩
        rw [Array.setIfInBounds_comm _ _ hji]
        exact g3
theorem AnyS.take {n : Nat} {i : Nat} {oi : Oper} {v : Value} {fuel : Nat} {listed : Array Bool} {a : Act} (inv : HeadInv md ops n listed)
    (hsink : Region.sinkB md ops n = true) (hn : ops.size = n + 1) (hi : ops[i]? = some oi) (hin : i < n)
    (hs : Region.noSelect ops = true) (hf : Region.free md ops listed i = true) (hr : (Region.ready md ops listed).contains i = true)
    (hQ : ∀ c a w, Q (.panic c) (a.put oi.dst v) w → Q (.panic c) a w) (hy : Gives P ops S oi v a) (d : Option Tmp) (hd : oi.dst = d)
    (h : HeadInv md ops n (listed.setIfInBounds i true) → AnyS P md ops Q S n fuel (listed.setIfInBounds i true) (a.put d v)) : AnyS P md ops Q S n (fuel + 1) listed a := by
  subst hd
  exact AnyS.first hsink hn hi hin (Region.noSelect_spec hs) hQ fuel listed a inv (Region.free_spec hi hf) (by simpa using hr) hy (h (inv.set (by simpa using hr) hin))
theorem gives_call {P : Program} {v : Value} {f : FuncId} {args : Array Value} {X Y : World} (h : Calls P f args X (fun x X' => x = .returned v ∧ RowKit.Below X.heap.size X X')) (hX : RowKit.Below Y.heap.size Y X) :
    GivesR P (fun X' => RowKit.Below Y.heap.size Y X') v (.ok (.enter f args) X) :=
  Calls.mono h fun e w' he => ⟨he.1, hX.trans (he.2.mono hX.size)⟩
theorem AnyS.last {n : Nat} {o : Oper} {fuel : Nat} {listed : Array Bool} {a : Act} (hr : Region.ready md ops listed = [n]) (ho : ops[n]? = some o)
    (hr2 : Region.ready md ops (listed.setIfInBounds n true) = [])
    (h : ∀ w, S w → ∀ K : Act → World → Prop, Shut (∀ b w', Q .normal b w' → K b w') → if Region.wanted o (yielded ops a.tmps) = true then Oper.wp P o a w K Q else K (a.put o.dst undef) w) :
    AnyS P md ops Q S n (fuel + 1) listed a := by
  refine ⟨fun h0 => (by rw [hr] at h0; cases h0), fun i hi w hS => ?_⟩
  rw [hr] at hi
  obtain rfl : i = n := by simpa using hi
  exact wpOp_step ho (fun K hK => h w hS K fun b w' hQ => hK b w' (.inl ⟨rfl, hr2, hQ⟩))
theorem region_S {n : Nat} {id : Nat} {a : Act} {w : World} (hm : P.follows .mixedOrders = true) (hn : ops.size = n + 1) (hS : S w.drew)
    (h : HeadInv .any ops n (Array.replicate (n + 1) false) → AnyS P .any ops Q S n (n + 1) (Array.replicate (n + 1) false) a) : (Code.region id ops true).wp P Q a w := by
  rw [← hn] at h
  refine wp_region_any hm (any_of _ _ _ _ (h ⟨by simp, fun j oj hj hl => ?_, fun t ht1 ht2 => ?_⟩) hS)
  · rw [getD_replicate_false] at hl
    cases hl
  · exact getD_in (by simpa using ht2) (getD_replicate_false _ _)
end
end Go.Proofs.YtmnjmhlodbifjaaGreatDoor.RegS
namespace Go.Proofs.YtmnjmhlodbifjaaGreatDoor.Tomorrow
open Go Go.RowKit Go.Proofs.YtmnjmhlodbifjaaGreatDoor.TimeNum Go.Proofs.YtmnjmhlodbifjaaGreatDoor.Cal Go.Proofs.YtmnjmhlodbifjaaGreatDoor.SpecCal Go.Proofs.YtmnjmhlodbifjaaGreatDoor.DayFits Go.Proofs.YtmnjmhlodbifjaaGreatDoor.RegS
set_option linter.unusedVariables false
def dateA (n : Int) : Array Value := #[.int .i64 (yOf n), .int .i64 (mOf n), .int .i64 (dOf n)]
theorem next_day (n : Int) :
    (dOf n < mlen (yOf n) (mOf n) ∧ yOf (n + 1) = yOf n ∧ mOf (n + 1) = mOf n ∧ dOf (n + 1) = dOf n + 1) ∨
    (¬ dOf n < mlen (yOf n) (mOf n) ∧ mOf n < 12 ∧ yOf (n + 1) = yOf n ∧ mOf (n + 1) = mOf n + 1 ∧ dOf (n + 1) = 1) ∨
    (¬ dOf n < mlen (yOf n) (mOf n) ∧ ¬ mOf n < 12 ∧ yOf (n + 1) = yOf n + 1 ∧ mOf (n + 1) = 1 ∧ dOf (n + 1) = 1) := by
  obtain ⟨⟨m1, m2, m3, m4⟩, hn⟩ := date_of n
  by_cases c : dOf n < mlen (yOf n) (mOf n)
  · have := same_month n 1 (by omega) (by omega)
    exact .inl ⟨c, this⟩
  · have e1 : n - dOf n + 1 + mlen (yOf n) (mOf n) = n + 1 := by omega
    by_cases c2 : mOf n < 12
    · have := next_month n c2
      rw [e1] at this
      exact .inr (.inl ⟨c, c2, this⟩)
    · have := next_year n (by omega)
      rw [e1] at this
      exact .inr (.inr ⟨c, c2, this⟩)
theorem box33 {w X : World} {E F : TypeId} {a b c x y z : Value} (h : Below ((w.alloc (.cells #[a, b, c] E)).alloc (.cells #[x, y, z] F)).heap.size ((w.alloc (.cells #[a, b, c] E)).alloc (.cells #[x, y, z] F)) X) :
    (X.cell? ⟨w.heap.size, 0, none⟩ = some a ∧ X.cell? ⟨w.heap.size, 1, none⟩ = some b ∧ X.cell? ⟨w.heap.size, 2, none⟩ = some c) ∧
    (X.cell? ⟨w.heap.size + 1, 0, none⟩ = some x ∧ X.cell? ⟨w.heap.size + 1, 1, none⟩ = some y ∧ X.cell? ⟨w.heap.size + 1, 2, none⟩ = some z) ∧
    X.frozen? ⟨w.heap.size + 1, 0, none⟩ = false ∧ X.frozen? ⟨w.heap.size + 1, 1, none⟩ = false ∧ X.frozen? ⟨w.heap.size + 1, 2, none⟩ = false := by
  have e : (w.alloc (.cells #[a, b, c] E)).heap.size = w.heap.size + 1 := by simp
  have h1 : Below (w.alloc (.cells #[a, b, c] E)).heap.size (w.alloc (.cells #[a, b, c] E)) X := ((Below.refl _ _).alloc (Nat.le_refl _) _).trans (h.mono (by simp))
  have a0 := cells_after h 0 _ rfl
  have a1 := cells_after h 1 _ rfl
  have a2 := cells_after h 2 _ rfl
  have b0 := free_after h 0
  have b1 := free_after h 1
  have b2 := free_after h 2
  rw [e] at a0 a1 a2 b0 b1 b2
  exact ⟨⟨cells_after h1 0 _ rfl, cells_after h1 1 _ rfl, cells_after h1 2 _ rfl⟩, ⟨a0, a1, a2⟩, b0, b1, b2⟩
set_option maxRecDepth 100000 in
theorem tomorrow_any (n : Int) (w : World) (hn : -900000 ≤ n ∧ n ≤ 8000000) : Calls Tryz.prog 119 #[.agg (dateA n)] w fun e w' => e = .returned (.agg (dateA (n + 1))) ∧ Below w.heap.size w w' := by
  have hd := next_day n
  have hv := (date_of n).1
  have hy := year_in n
  have hyb : -100000 ≤ yOf n ∧ yOf n ≤ 100000 := by unfold ys at hy; omega
  obtain ⟨m1, m2, m3, m4⟩ := hv
  have HML := Lib.hid (fun w1 => monthDays_any (yOf n) (mOf n) w1 (by omega) (by omega) (by omega) (by omega))
  have hml := mlen_bd (yOf n) (mOf n)
  unfold dateA
  generalize yOf n = y at *
  generalize mOf n = m at *
  generalize dOf n = d at *
  generalize mlen y m = l at *
  generalize yOf (n + 1) = y2 at *
  generalize mOf (n + 1) = mm2 at *
  generalize dOf (n + 1) = d2 at *
  obtain ⟨W, hW⟩ : ∃ W, (w.alloc (.cells #[.int .i64 y, .int .i64 m, .int .i64 d] 50)).alloc (.cells #[.int .i64 0, .int .i64 0, .int .i64 0] 50) = W := ⟨_, rfl⟩
  have hbW : Below w.heap.size w W := by rw [← hW]; exact ((Below.refl _ _).alloc (Nat.le_refl _) _).alloc (by simp) _
  have HK := Lib.hid (fun X (h : Below W.heap.size W X) => box33 (w := w) (X := X) (E := 50) (F := 50) (a := .int .i64 y) (b := .int .i64 m) (c := .int .i64 d) (x := .int .i64 0) (y := .int .i64 0) (z := .int .i64 0) (by rw [hW]; exact h))
  have HB := Lib.hid hbW
  obtain ⟨⟨k0, k1, k2⟩, ⟨d0, d1, dd2⟩, g0, g1, g2⟩ := HK.out _ (Below.refl _ _)
  clear hbW hy hn
  go_enter Tryz.func119, Tryz.ntmps119
  go_wp2_with fail
  clear hW
  go_region_held3 (fun X => X.cell? ⟨w.heap.size, 0, none⟩ = some (.int .i64 y) ∧ X.cell? ⟨w.heap.size, 1, none⟩ = some (.int .i64 m) ∧ X.cell? ⟨w.heap.size, 2, none⟩ = some (.int .i64 d)) (go_keep)
    ((go_at_call 19; (with_reducible refine (HML.out _).mono ?_); rintro e w1 ⟨rfl, rfl⟩))
  all_goals
    rcases hd with ⟨h1, rfl, rfl, rfl⟩ | ⟨h1, h2, rfl, rfl, rfl⟩ | ⟨h1, h2, rfl, rfl, rfl⟩
  all_goals
    go_wp2_with fail
    first
      | exact bodyPost_ret (v := .agg #[.int .i64 y2, .int .i64 mm2, .int .i64 (d + 1)]) (by simp [results, Tryz.results119, go_sem, *]) rfl ⟨rfl, Below.drew (Time2.below_set3 HB.out (Nat.le_succ _))⟩
      | exact bodyPost_ret (v := .agg #[.int .i64 y2, .int .i64 (m + 1), .int .i64 1]) (by simp [results, Tryz.results119, go_sem, *]) rfl ⟨rfl, Below.drew (Time2.below_set3 HB.out (Nat.le_succ _))⟩
      | exact bodyPost_ret (v := .agg #[.int .i64 (y + 1), .int .i64 1, .int .i64 1]) (by simp [results, Tryz.results119, go_sem, *]) rfl ⟨rfl, Below.drew (Time2.below_set3 HB.out (Nat.le_succ _))⟩
end Go.Proofs.YtmnjmhlodbifjaaGreatDoor.Tomorrow
