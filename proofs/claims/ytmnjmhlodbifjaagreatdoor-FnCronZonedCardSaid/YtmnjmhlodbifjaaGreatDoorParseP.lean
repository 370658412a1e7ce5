/- What cron's Parse keeps from field to field. Conditions: strconv's sentinels hold something, texts of at most 65536 bytes. · (cron.Parser).Parse at a text that is not empty and begins neither with a time zone nor with an at sign. Conditions: options below 512, texts of at most 65536 bytes, strconv's sentinels hold something; the text's words are those that zzFields hands back. -/
import Derived.Test.YtmnjmhlodbifjaaGreatDoorFieldCall
import Derived.Test.YtmnjmhlodbifjaaGreatDoorKind
import Derived.Test.YtmnjmhlodbifjaaGreatDoorPlainPure
import Derived.Test.YtmnjmhlodbifjaaGreatDoorPlainSched
import Derived.Test.YtmnjmhlodbifjaaGreatDoorHead
import Derived.Test.YtmnjmhlodbifjaaGreatDoorNorm
import Derived.Deep.RegionHeld3
import Derived.Deep.DrawnRows
import Derived.Deep.QuietTactic
import Derived.BigQuiet
import Derived.Outline

namespace Go.Proofs.YtmnjmhlodbifjaaGreatDoor.ParseA
open Go Go.RowKit Go.Proofs.YtmnjmhlodbifjaaGreatDoor.Mem Go.Proofs.YtmnjmhlodbifjaaGreatDoor.Aid Go.Proofs.YtmnjmhlodbifjaaGreatDoor.Err Go.Proofs.YtmnjmhlodbifjaaGreatDoor.NumPure Go.Proofs.YtmnjmhlodbifjaaGreatDoor.Split Go.Proofs.YtmnjmhlodbifjaaGreatDoor.SplitPure Go.Proofs.YtmnjmhlodbifjaaGreatDoor.Range Go.Proofs.YtmnjmhlodbifjaaGreatDoor.FieldPure Go.Proofs.YtmnjmhlodbifjaaGreatDoor.Field Go.Proofs.YtmnjmhlodbifjaaGreatDoor.Kind Go.Proofs.YtmnjmhlodbifjaaGreatDoor.FillPure Go.Proofs.YtmnjmhlodbifjaaGreatDoor.FillA Go.Proofs.YtmnjmhlodbifjaaGreatDoor.FieldCall Go.Proofs.YtmnjmhlodbifjaaGreatDoor.PlainPure Go.Proofs.YtmnjmhlodbifjaaGreatDoor.PlainSched
set_option linter.unusedVariables false

/-- Behind k fields: the numbers xs, the variable of the error at ge, the six texts at g6. -/
def Sofar (W0 : World) (ge g6 : Nat) (fL : Nat → ByteArray) (L : List (List UInt8)) (k : Nat) (xs : List Int) (ev : Value) (w : World) : Prop :=
  Below W0.heap.size W0 w ∧ W0.heap.size ≤ ge ∧ Blk w ge #[ev] ∧ g6 ≠ ge ∧ RowAt w g6 fL ∧
    match six L k with
    | some r => r = xs ∧ ev = .nilIface
    | none => ∃ T p, ev = .iface T p
theorem Sofar.drew {W0 : World} {ge g6 : Nat} {fL : Nat → ByteArray} {L : List (List UInt8)} {k : Nat} {xs : List Int} {ev : Value} {w : World} (h : Sofar W0 ge g6 fL L k xs ev w) : Sofar W0 ge g6 fL L k xs ev w.drew :=
  ⟨h.1.drew, h.2.1, h.2.2.1.drew, h.2.2.2.1, h.2.2.2.2.1, h.2.2.2.2.2⟩
theorem Sofar.after {W0 : World} {ge g6 : Nat} {fL : Nat → ByteArray} {L : List (List UInt8)} {k : Nat} {xs : List Int} {ev : Value} {w w' : World} (h : Sofar W0 ge g6 fL L k xs ev w) (hb : Below w.heap.size w w') : Sofar W0 ge g6 fL L k xs ev w' :=
  ⟨h.1.trans (hb.mono h.1.size), h.2.1, h.2.2.1.after hb, h.2.2.2.1, h.2.2.2.2.1.below hb h.2.2.2.2.1.lt, h.2.2.2.2.2⟩
theorem Sofar.vars {W0 : World} {ge g6 : Nat} {fL : Nat → ByteArray} {L : List (List UInt8)} {k : Nat} {xs : List Int} {ev : Value} {w w' : World} (h : Sofar W0 ge g6 fL L k xs ev w) (hv : ErrVars W0) (hb : Below w.heap.size w w') : ErrVars w' := hv.below (h.after hb).1
theorem Sofar.text {W0 : World} {ge g6 : Nat} {fL : Nat → ByteArray} {L : List (List UInt8)} {k : Nat} {xs : List Int} {ev : Value} {w w' : World} (h : Sofar W0 ge g6 fL L k xs ev w) (j : Nat) (hj : j < 6) (hb : Below w.heap.size w w') : w'.cell? ⟨g6, j, none⟩ = some (.string (fL j)) := (h.after hb).2.2.2.2.1.cell j hj
theorem Sofar.err {W0 : World} {ge g6 : Nat} {fL : Nat → ByteArray} {L : List (List UInt8)} {k : Nat} {xs : List Int} {ev : Value} {w w' : World} (h : Sofar W0 ge g6 fL L k xs ev w) (hb : Below w.heap.size w w') : w'.cell? ⟨ge, 0, none⟩ = some ev := (h.after hb).2.2.1.cell rfl

theorem next_field {W0 : World} {ge g6 : Nat} {fL : Nat → ByteArray} {L : List (List UInt8)} {k : Nat} {xs : List Int} {ev : Value} {w w1 : World} (h : Sofar W0 ge g6 fL L k xs ev w) (hb : Below w.heap.size w w1) (hv : ErrVars W0) (hk : k < 6) (hL : ∀ k, L.getD k [] = (fL k).data.toList) (hs : (fL k).size ≤ 65536)
    (m : Value) (hn : NamesAt w1 m (Kind.valOf k)) :
    Calls Tryz.prog 61 #[.string (fL k), .agg #[.int .u64 (lowOf k : Int), .int .u64 (highOf k : Int), m], .pointer (some ⟨ge, 0, none⟩)] w1 fun e w' => ∃ x ev', e = .returned (.int .u64 x) ∧ Sofar W0 ge g6 fL L (k + 1) (xs ++ [x]) ev' w' := by
  have h1 := h.after hb
  obtain ⟨hB, hge, hE, hne, hrow, hst⟩ := h1
  have hlh := low_high5 k (by omega)
  cases hsx : six L k with
  | none =>
    rw [hsx] at hst
    obtain ⟨T, p, rfl⟩ := hst
    refine (call_bad ge _ _ _ _ _ rfl T p w1 hE).mono ?_
    rintro e w' ⟨x, ev', rfl, hE', hbel, hoth, hr⟩
    refine ⟨x, ev', rfl, hB.trans (hbel _ hB.size hge), hge, hE', hne, (hoth g6 hrow.lt hne).trans hrow, ?_⟩
    simp only [six, hsx]; exact hr
  | some r =>
    rw [hsx] at hst
    obtain ⟨rfl, rfl⟩ := hst
    refine (call_good ge _ _ _ m _ w1 hE hlh.1 hlh.2 hs (hv.below hB) hn).mono ?_
    rintro e w' ⟨x, ev', rfl, hE', hbel, hoth, hr⟩
    refine ⟨x, ev', rfl, hB.trans (hbel _ hB.size hge), hge, hE', hne, (hoth g6 hrow.lt hne).trans hrow, ?_⟩
    simp only [six, hsx, fieldOf, hL]
    cases ho : orOf (lowOf k) (highOf k) (Kind.valOf k) (full (fL k).data.toList) 0 with
    | none => rw [ho] at hr; exact hr
    | some v => rw [ho] at hr; obtain ⟨rfl, rfl⟩ := hr; exact ⟨rfl, rfl⟩

/-- What Parse hands back. -/
def ParseRes (r : Option (List Int)) (loc : Value) (e : Ending) (w' : World) : Prop :=
  match r with
  | some l => ∃ g, e = .returned (.tuple #[.iface 97 (.pointer (some ⟨g, 0, none⟩)), .nilIface]) ∧ SpecAt w' g (l.getD 0 0) (l.getD 1 0) (l.getD 2 0) (l.getD 3 0) (l.getD 4 0) (l.getD 5 0) loc
  | none => ∃ T p, e = .returned (.tuple #[.nilIface, .iface T p])

end Go.Proofs.YtmnjmhlodbifjaaGreatDoor.ParseA

namespace Go.Proofs.YtmnjmhlodbifjaaGreatDoor.ParseP
open Go Go.RowKit Go.Proofs.YtmnjmhlodbifjaaGreatDoor.Mem Go.Proofs.YtmnjmhlodbifjaaGreatDoor.Aid Go.Proofs.YtmnjmhlodbifjaaGreatDoor.Err Go.Proofs.YtmnjmhlodbifjaaGreatDoor.NumPure Go.Proofs.YtmnjmhlodbifjaaGreatDoor.Split Go.Proofs.YtmnjmhlodbifjaaGreatDoor.SplitPure Go.Proofs.YtmnjmhlodbifjaaGreatDoor.Range Go.Proofs.YtmnjmhlodbifjaaGreatDoor.FieldPure Go.Proofs.YtmnjmhlodbifjaaGreatDoor.Field Go.Proofs.YtmnjmhlodbifjaaGreatDoor.Kind Go.Proofs.YtmnjmhlodbifjaaGreatDoor.FillPure Go.Proofs.YtmnjmhlodbifjaaGreatDoor.FillA Go.Proofs.YtmnjmhlodbifjaaGreatDoor.FieldCall Go.Proofs.YtmnjmhlodbifjaaGreatDoor.PlainPure Go.Proofs.YtmnjmhlodbifjaaGreatDoor.PlainSched Go.Proofs.YtmnjmhlodbifjaaGreatDoor.Head Go.Proofs.YtmnjmhlodbifjaaGreatDoor.Norm Go.Proofs.YtmnjmhlodbifjaaGreatDoor.ParseA
set_option linter.unusedVariables false
attribute [local go_sem ↓] Go.wp_at_zero Go.wp_at_succ

/-- What zzFields hands back: the words. -/
def WordsAre (ws : List (List UInt8)) (B : Nat) (e : Ending) (w' : World) : Prop :=
  ∃ v, e = .returned v ∧ w'.ownsRow B 9 1 v ws.length (Split.strs ws) ∧ (ws = [] → v = .slice none 0 0)
/-- The six numbers of the words. -/
def ofWords (o : Int) (ws : List (List UInt8)) : Option (List Int) :=
  match fillOf o (ws.map ofL) with
  | none => none
  | some L => six (L.map fun s => s.data.toList) 6
theorem lists_at (L : List ByteArray) (k : Nat) : (L.map fun s => s.data.toList).getD k [] = (L.getD k ⟨#[]⟩).data.toList := by
  rw [List.getD_eq_getElem?_getD, List.getD_eq_getElem?_getD, List.getElem?_map]
  cases L[k]? <;> rfl
theorem filled_size {t : Nat → Bool} {fs : List ByteArray} (h : ∀ p ∈ fs, p.size ≤ 65536) (k : Nat) : ((filled t fs).getD k ⟨#[]⟩).size ≤ 65536 := by
  rw [List.getD_eq_getElem?_getD]
  cases hc : (filled t fs)[k]? with
  | none => exact Nat.zero_le _
  | some p =>
    have hm := List.mem_of_getElem? hc
    unfold filled at hm
    obtain ⟨j, _, rfl⟩ := List.mem_map.1 hm
    simp only [Option.getD_some]
    unfold at'
    split
    · rw [List.getD_eq_getElem?_getD]
      cases hd : fs[cnt t j]? with
      | none => exact Nat.zero_le _
      | some q => exact h q (List.mem_of_getElem? hd)
    · unfold dflt; split <;> decide
theorem fill_size {o : Int} {fs L : List ByteArray} (h : ∀ p ∈ fs, p.size ≤ 65536) (hf : fillOf o fs = some L) (k : Nat) : (L.getD k ⟨#[]⟩).size ≤ 65536 := by
  unfold fillOf at hf
  cases hm : missOf o fs.length with
  | none => rw [hm] at hf; cases hf
  | some miss =>
    rw [hm] at hf
    cases hf
    exact filled_size h k
theorem row_apart {w : World} {g ge : Nat} {f : Nat → ByteArray} {ev : Value} (h : RowAt w g f) (hE : Blk w ge #[ev]) : g ≠ ge := by
  rintro rfl
  obtain ⟨E, hE⟩ := hE
  have h2 := hE.symm.trans h
  have h3 : (#[ev] : Array Value) = strArr f := by injection h2 with h2; injection h2
  have := congrArg Array.size h3
  rw [strArr_size] at this
  simp at this
theorem six_start {W0 w : World} {ge g6 : Nat} {fL : Nat → ByteArray} {L : List (List UInt8)} (hB : Below W0.heap.size W0 w) (hge : W0.heap.size ≤ ge) (hE : Blk w ge #[.nilIface]) (hr : RowAt w g6 fL) : Sofar W0 ge g6 fL L 0 [] .nilIface w :=
  ⟨hB, hge, hE, row_apart hr hE, hr, rfl, rfl⟩
/-- normalizeFields at the words. -/
theorem norm_words (o : Nat) (ho : o < 512) (ws : List (List UInt8)) (B : Nat) (v : Value) (w : World) (hm : ws.length ≤ 65536) (hown : w.ownsRow B 9 1 v ws.length (Split.strs ws)) (hv : ws = [] → v = .slice none 0 0) (hB : B ≤ w.heap.size) (ge : Nat) (ev : Value) (hE : Blk w ge #[ev]) (hapart : ∀ g n c, v = .slice (some ⟨g, 0, none⟩) n c → g ≠ ge) :
    Calls Tryz.prog 60 #[v, .int .i64 (o : Int)] w fun e w' => NormRes (fillOf (o : Int) (ws.map ofL)) B e w' ∧ Below B w w' ∧ Blk w' ge #[ev] := by
  obtain ⟨f1, f2, f3, f4, f5, f6, f7, f8⟩ := opts_facts ⟨o, ho⟩
  simp only at f1 f2 f3 f4 f5 f6 f7 f8
  have hd2 : dow (opt1 (o : Int)) = dow (o : Int) := by unfold opt1; split; exact f8; rfl
  have hht : ∀ k, k < 6 → hit (more (o : Int)) k = takes (o : Int) k := fun k hk => f1 ⟨k, hk⟩
  by_cases h0 : ws = []
  · subst h0
    rw [hv rfl]
    refine (norm_nil (o : Int) w f4 f5 hd2 hht f6 f7).mono ?_
    rintro e w' ⟨h1, h2⟩
    refine ⟨?_, h2.mono hB, hE.after h2⟩
    revert h1
    unfold NormRes
    simp only [List.map_nil]
    cases fillOf (o : Int) [] with
    | none => exact id
    | some L => rintro ⟨g, a, b, c⟩; exact ⟨g, a, by omega, c⟩
  · obtain ⟨g, cap, rfl, hg⟩ := owned_shape hown (by cases ws; exact absurd rfl h0; simp)
    have e1 : (ws.map ofL).length = ws.length := by simp
    have := norm_near (o : Int) B g cap (ws.map ofL) w (by simpa using hm) (by rw [show FillA.strs (ws.map ofL) = Split.strs ws by simp [FillA.strs, Split.strs]]; simpa using hown) hB f4 f5 hd2 hht f6 f7
    rw [e1] at this
    refine this.mono ?_
    rintro e w' ⟨h1, h2, h3⟩
    refine ⟨h1, h2, ?_⟩
    obtain ⟨E, hE⟩ := hE
    exact ⟨E, (h3.block ge (Array.getElem?_eq_some_iff.1 hE).1 (hapart g _ _ rfl).symm).trans hE⟩

theorem apart {w1 : World} {B : Nat} {ws : List (List UInt8)} {v : Value} (hown : w1.ownsRow B 9 1 v ws.length (Split.strs ws)) (hv : ws = [] → v = .slice none 0 0) : ∀ g n c, v = .slice (some ⟨g, 0, none⟩) n c → g ≠ w1.heap.size := by
  intro g n c he
  by_cases h0 : ws = []
  · rw [hv h0] at he; cases he
  · obtain ⟨g', cap, h1, h2⟩ := owned_shape hown (by cases ws; exact absurd rfl h0; simp)
    rw [h1] at he
    cases he
    omega

set_option maxHeartbeats 4000000 in
set_option maxRecDepth 100000 in
theorem parse_words (o : Nat) (s : ByteArray) (ws : List (List UInt8)) (w : World) (ho : o < 512) (hs : s.size ≤ 65536) (h0 : 0 < s.size) (ht : starts [84, 90, 61] s.data.toList = false) (hc : starts [67, 82, 79, 78, 95, 84, 90, 61] s.data.toList = false) (ha : starts [64] s.data.toList = false)
    (hw : ∀ w, Calls Tryz.prog 59 #[.string s] w fun e w' => WordsAre ws (w.heap.size + 1) e w' ∧ Below w.heap.size w w') (hl : ws.length ≤ 65536) (hp : ∀ p ∈ ws, p.length ≤ 65536) (hv : ErrVars w) :
    Calls Tryz.prog 31 #[.agg #[.int .i64 (o : Int)], .string s] w fun e w' => ParseRes (ofWords (o : Int) ws) (.pointer none) e w' ∧ Below w.heap.size w w' := by
  have hsm : s.size ≤ maxLen := by unfold maxLen; omega
  have H1 : Hid (∀ w, Calls Tryz.prog 54 #[.string s, .string ⟨#[84, 90, 61]⟩] w fun e w' => e = .returned (.bool false) ∧ w = w') := Lib.hid (fun w => by
    have := hasPrefix_any s ⟨#[84, 90, 61]⟩ w hsm (by decide); rwa [show (⟨#[84, 90, 61]⟩ : ByteArray).data.toList = [84, 90, 61] from rfl, ht] at this)
  have H2 : Hid (∀ w, Calls Tryz.prog 54 #[.string s, .string ⟨#[67, 82, 79, 78, 95, 84, 90, 61]⟩] w fun e w' => e = .returned (.bool false) ∧ w = w') := Lib.hid (fun w => by
    have := hasPrefix_any s ⟨#[67, 82, 79, 78, 95, 84, 90, 61]⟩ w hsm (by decide); rwa [show (⟨#[67, 82, 79, 78, 95, 84, 90, 61]⟩ : ByteArray).data.toList = [67, 82, 79, 78, 95, 84, 90, 61] from rfl, hc] at this)
  have H3 : Hid (∀ w, Calls Tryz.prog 54 #[.string s, .string ⟨#[64]⟩] w fun e w' => e = .returned (.bool false) ∧ w = w') := Lib.hid (fun w => by
    have := hasPrefix_any s ⟨#[64]⟩ w hsm (by decide); rwa [show (⟨#[64]⟩ : ByteArray).data.toList = [64] from rfl, ha] at this)
  have HW := Lib.hid hw
  have HV := Lib.hid hv
  have HP := Lib.hid hp
  have hz : ((s.size : Int) == 0) = false := beq_eq_false_iff_ne.2 (by omega)
  have hmf : ∀ (fn : Fn) (first cap : Array Value) (w : World), (Instr.makeFunc fn first cap).run Tryz.prog w = .ok (.func fn first cap) w := fun _ _ _ _ => rfl
  clear ht hc ha hw hv hp hsm
  unfold ofWords
  cases hf : fillOf (o : Int) (ws.map ofL) with
  | none =>
    simp only
    have HF := Lib.hid hf
    clear hf
    go_enter Tryz.func31, Tryz.ntmps31
    go_wp2_with (first
      | (go_at_call 54; (first | (with_reducible refine (H1.out _).mono ?_) | (with_reducible refine (H2.out _).mono ?_) | (with_reducible refine (H3.out _).mono ?_)); rintro e w' ⟨rfl, rfl⟩)
      | (go_at_call 59; refine (HW.out _).mono ?_; rintro e w1 ⟨⟨v, rfl, hown, hvn⟩, hb1⟩; have g0 := one_after hb1; have c0 := g0.cell (j := 0) (v := .int .i64 (o : Int)) rfl; have hz1 : w.heap.size < w1.heap.size := g0.lt; have HOWN := Lib.hid hown; have HVN := Lib.hid hvn; have HB1 := Lib.hid hb1; clear hown hvn hb1 g0)
      | (go_at_call 60; refine (norm_words o ho ws _ v _ hl (HOWN.out.alloc _) HVN.out (by simp; omega) w1.heap.size .nilIface (Blk.new w1 _ _) (apart HOWN.out HVN.out)).mono ?_; rintro e w2 ⟨hn, hb2, hE2⟩; rw [HF.out] at hn; obtain ⟨T, p, rfl⟩ := hn; have c2 := hE2.cell (j := 0) (v := .nilIface) rfl; have c3 := hE2.free 0; have HBW : Hid (Below w.heap.size w w2) := Lib.hid ((((Below.refl _ w).alloc (Nat.le_refl _) _).trans (HB1.out.mono (by simp))).alloc (by omega) _ |>.trans (hb2.mono (by simp; omega))); have HE2 := Lib.hid hE2; clear hb2 hE2))
    go_quiet (fail)
    go_wp2
    go_ret2
    refine ⟨⟨_, _, rfl⟩, drewNd ((HBW.out).setCell (by simp; omega) _) _⟩
  | some L =>
    simp only
    have HSZ : Hid (∀ k, (L.getD k ⟨#[]⟩).size ≤ 65536) := Lib.hid (fill_size (fun p hp => by obtain ⟨q, hq, rfl⟩ := List.mem_map.1 hp; rw [size_ofL]; exact HP.out q hq) hf)
    have HLA := Lib.hid (lists_at L)
    have HF := Lib.hid hf
    obtain ⟨fL, hfL⟩ : ∃ fL : Nat → ByteArray, (fun k => L.getD k ⟨#[]⟩) = fL := ⟨_, rfl⟩
    have HSZ : Hid (∀ k, (fL k).size ≤ 65536) := Lib.hid (fun k => by rw [← hfL]; exact HSZ.out k)
    obtain ⟨LL, hLL⟩ : ∃ LL : List (List UInt8), L.map (fun s => s.data.toList) = LL := ⟨_, rfl⟩
    have HLA : Hid (∀ k, LL.getD k [] = (fL k).data.toList) := Lib.hid (fun k => by rw [← hfL, ← hLL]; exact HLA.out k)
    rw [hLL]
    obtain ⟨rr, hrr⟩ : ∃ rr, six LL 6 = rr := ⟨_, rfl⟩
    rw [hrr]
    have HRR := Lib.hid hrr
    have HFL := Lib.hid hfL
    clear hf hfL hLL hrr
    go_enter Tryz.func31, Tryz.ntmps31
    go_wp2_with (first
      | (go_at_call 54; (first | (with_reducible refine (H1.out _).mono ?_) | (with_reducible refine (H2.out _).mono ?_) | (with_reducible refine (H3.out _).mono ?_)); rintro e w' ⟨rfl, rfl⟩)
      | (go_at_call 59; refine (HW.out _).mono ?_; rintro e w1 ⟨⟨v, rfl, hown, hvn⟩, hb1⟩; have g0 := one_after hb1; have c0 := g0.cell (j := 0) (v := .int .i64 (o : Int)) rfl; have hz1 : w.heap.size < w1.heap.size := g0.lt; have HOWN := Lib.hid hown; have HVN := Lib.hid hvn; have HB1 := Lib.hid hb1; clear hown hvn hb1 g0)
      | (go_at_call 60; refine (norm_words o ho ws _ v _ hl (HOWN.out.alloc _) HVN.out (by simp; omega) w1.heap.size .nilIface (Blk.new w1 _ _) (apart HOWN.out HVN.out)).mono ?_; rintro e w2 ⟨hn, hb2, hE2⟩; rw [HF.out] at hn; obtain ⟨g6, rfl, hg6, hrow⟩ := hn; have c2 := hE2.cell (j := 0) (v := .nilIface) rfl; have c3 := hE2.free 0; have HROW : Hid (RowAt w2 g6 fL) := Lib.hid (by rw [← HFL.out]; exact hrow); have HBW : Hid (Below w.heap.size w w2) := Lib.hid ((((Below.refl _ w).alloc (Nat.le_refl _) _).trans (HB1.out.mono (by simp))).alloc (by omega) _ |>.trans (hb2.mono (by simp; omega))); have HE2 := Lib.hid hE2; clear hb2 hE2 hg6 hrow))
    refine name_world fun X0 hX0 => ?_
    have HS0 : Hid (Sofar w w1.heap.size g6 fL LL 0 [] .nilIface X0) := Lib.hid (by
      rw [hX0]
      have hr : RowAt (w2.setCell ⟨w1.heap.size, 0, none⟩ .nilIface) g6 fL := HROW.out.other _ _ (row_apart HROW.out HE2.out)
      exact six_start (HBW.out.setCell (by simp; omega) _) (by omega) (HE2.out.set 0 _) hr)
    clear hX0 c2 c3 HBW HE2 HROW
    go_region_held3 (fun Y => Y.cell? ⟨g6, 0, none⟩ = some (.string (fL 0))) (first | exact HS1.out.text 0 (by decide) (Below.refl _ _) | exact HS0.out.text 0 (by decide) (by repeat (first | exact Below.refl _ _ | assumption | refine Below.drew ?_ | refine allocd ?_ _)))
      ((first
        | (go_at_call 63; (with_reducible refine (seconds_b _ (HS0.out.vars HV.out (by repeat (first | exact Below.refl _ _ | assumption | refine Below.drew ?_ | refine allocd ?_ _)))).mono ?_); rintro e y ⟨he, hby⟩; obtain ⟨m, rfl, hn⟩ := he; have hby := chain (V := X0) (by repeat (first | exact Below.refl _ _ | assumption | refine Below.drew ?_ | refine allocd ?_ _)) hby; have HN0 := Lib.hid hn; clear hn)
        | (go_at_call 61; (with_reducible refine (next_field HS0.out (by repeat (first | exact Below.refl _ _ | assumption | refine Below.drew ?_ | refine allocd ?_ _)) HV.out (by decide) HLA.out (HSZ.out 0) _ HN0.out).mono ?_); rintro e X1 he; obtain ⟨x0, ev0, rfl, hsk⟩ := he; have HS1 := Lib.hid hsk; clear hsk)))
    go_wp2_with fail
    go_region_held3 (fun Y => Y.cell? ⟨g6, 1, none⟩ = some (.string (fL 1))) (first | exact HS2.out.text 1 (by decide) (Below.refl _ _) | exact HS1.out.text 1 (by decide) (by repeat (first | exact Below.refl _ _ | assumption | refine Below.drew ?_ | refine allocd ?_ _)))
      ((first
        | (go_at_call 64; (with_reducible refine (minutes_b _ (HS1.out.vars HV.out (by repeat (first | exact Below.refl _ _ | assumption | refine Below.drew ?_ | refine allocd ?_ _)))).mono ?_); rintro e y ⟨he, hby⟩; obtain ⟨m, rfl, hn⟩ := he; have hby := chain (V := X1) (by repeat (first | exact Below.refl _ _ | assumption | refine Below.drew ?_ | refine allocd ?_ _)) hby; have HN1 := Lib.hid hn; clear hn)
        | (go_at_call 61; (with_reducible refine (next_field HS1.out (by repeat (first | exact Below.refl _ _ | assumption | refine Below.drew ?_ | refine allocd ?_ _)) HV.out (by decide) HLA.out (HSZ.out 1) _ HN1.out).mono ?_); rintro e X2 he; obtain ⟨x1, ev1, rfl, hsk⟩ := he; have HS2 := Lib.hid hsk; clear hsk)))
    go_wp2_with fail
    go_region_held3 (fun Y => Y.cell? ⟨g6, 2, none⟩ = some (.string (fL 2))) (first | exact HS3.out.text 2 (by decide) (Below.refl _ _) | exact HS2.out.text 2 (by decide) (by repeat (first | exact Below.refl _ _ | assumption | refine Below.drew ?_ | refine allocd ?_ _)))
      ((first
        | (go_at_call 65; (with_reducible refine (hours_b _ (HS2.out.vars HV.out (by repeat (first | exact Below.refl _ _ | assumption | refine Below.drew ?_ | refine allocd ?_ _)))).mono ?_); rintro e y ⟨he, hby⟩; obtain ⟨m, rfl, hn⟩ := he; have hby := chain (V := X2) (by repeat (first | exact Below.refl _ _ | assumption | refine Below.drew ?_ | refine allocd ?_ _)) hby; have HN2 := Lib.hid hn; clear hn)
        | (go_at_call 61; (with_reducible refine (next_field HS2.out (by repeat (first | exact Below.refl _ _ | assumption | refine Below.drew ?_ | refine allocd ?_ _)) HV.out (by decide) HLA.out (HSZ.out 2) _ HN2.out).mono ?_); rintro e X3 he; obtain ⟨x2, ev2, rfl, hsk⟩ := he; have HS3 := Lib.hid hsk; clear hsk)))
    go_wp2_with fail
    go_region_held3 (fun Y => Y.cell? ⟨g6, 3, none⟩ = some (.string (fL 3))) (first | exact HS4.out.text 3 (by decide) (Below.refl _ _) | exact HS3.out.text 3 (by decide) (by repeat (first | exact Below.refl _ _ | assumption | refine Below.drew ?_ | refine allocd ?_ _)))
      ((first
        | (go_at_call 66; (with_reducible refine (dom_b _ (HS3.out.vars HV.out (by repeat (first | exact Below.refl _ _ | assumption | refine Below.drew ?_ | refine allocd ?_ _)))).mono ?_); rintro e y ⟨he, hby⟩; obtain ⟨m, rfl, hn⟩ := he; have hby := chain (V := X3) (by repeat (first | exact Below.refl _ _ | assumption | refine Below.drew ?_ | refine allocd ?_ _)) hby; have HN3 := Lib.hid hn; clear hn)
        | (go_at_call 61; (with_reducible refine (next_field HS3.out (by repeat (first | exact Below.refl _ _ | assumption | refine Below.drew ?_ | refine allocd ?_ _)) HV.out (by decide) HLA.out (HSZ.out 3) _ HN3.out).mono ?_); rintro e X4 he; obtain ⟨x3, ev3, rfl, hsk⟩ := he; have HS4 := Lib.hid hsk; clear hsk)))
    go_wp2_with fail
    go_region_held3 (fun Y => Y.cell? ⟨g6, 4, none⟩ = some (.string (fL 4))) (first | exact HS5.out.text 4 (by decide) (Below.refl _ _) | exact HS4.out.text 4 (by decide) (by repeat (first | exact Below.refl _ _ | assumption | refine Below.drew ?_ | refine allocd ?_ _)))
      ((first
        | (go_at_call 67; (with_reducible refine (months_b _ (HS4.out.vars HV.out (by repeat (first | exact Below.refl _ _ | assumption | refine Below.drew ?_ | refine allocd ?_ _)))).mono ?_); rintro e y ⟨he, hby⟩; obtain ⟨m, rfl, hn⟩ := he; have hby := chain (V := X4) (by repeat (first | exact Below.refl _ _ | assumption | refine Below.drew ?_ | refine allocd ?_ _)) hby; have HN4 := Lib.hid hn; clear hn)
        | (go_at_call 61; (with_reducible refine (next_field HS4.out (by repeat (first | exact Below.refl _ _ | assumption | refine Below.drew ?_ | refine allocd ?_ _)) HV.out (by decide) HLA.out (HSZ.out 4) _ HN4.out).mono ?_); rintro e X5 he; obtain ⟨x4, ev4, rfl, hsk⟩ := he; have HS5 := Lib.hid hsk; clear hsk)))
    go_wp2_with fail
    go_region_held3 (fun Y => Y.cell? ⟨g6, 5, none⟩ = some (.string (fL 5))) (first | exact HS6.out.text 5 (by decide) (Below.refl _ _) | exact HS5.out.text 5 (by decide) (by repeat (first | exact Below.refl _ _ | assumption | refine Below.drew ?_ | refine allocd ?_ _)))
      ((first
        | (go_at_call 68; (with_reducible refine (dow_b _ (HS5.out.vars HV.out (by repeat (first | exact Below.refl _ _ | assumption | refine Below.drew ?_ | refine allocd ?_ _)))).mono ?_); rintro e y ⟨he, hby⟩; obtain ⟨m, rfl, hn⟩ := he; have hby := chain (V := X5) (by repeat (first | exact Below.refl _ _ | assumption | refine Below.drew ?_ | refine allocd ?_ _)) hby; have HN5 := Lib.hid hn; clear hn)
        | (go_at_call 61; (with_reducible refine (next_field HS5.out (by repeat (first | exact Below.refl _ _ | assumption | refine Below.drew ?_ | refine allocd ?_ _)) HV.out (by decide) HLA.out (HSZ.out 5) _ HN5.out).mono ?_); rintro e X6 he; obtain ⟨x5, ev5, rfl, hsk⟩ := he; have HS6 := Lib.hid hsk; clear hsk)))
    have cE := HS6.out.err (Below.refl _ _)
    have HB6 := Lib.hid HS6.out.1
    have hst := HS6.out.2.2.2.2.2
    simp only [Nat.zero_add, Nat.reduceAdd, List.nil_append, List.cons_append] at hst
    rw [HRR.out] at hst
    cases rr with
    | none =>
      obtain ⟨T, p, rfl⟩ := hst
      go_wp2
      go_quiet (fail)
      go_wp2
      go_ret2
      exact ⟨⟨_, _, rfl⟩, drewNd HB6.out _⟩
    | some r =>
      obtain ⟨rfl, rfl⟩ := hst
      go_wp2
      go_ret2
      exact ⟨⟨_, rfl, Blk.new X6 _ _⟩, (HB6.out.alloc HB6.out.size _)⟩

end Go.Proofs.YtmnjmhlodbifjaaGreatDoor.ParseP
