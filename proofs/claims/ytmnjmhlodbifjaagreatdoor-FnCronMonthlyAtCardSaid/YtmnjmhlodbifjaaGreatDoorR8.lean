/- cron's getRange: what one item of a field's list means within bounds. Conditions: bounds within 0 to 62, texts of at most 65536 bytes, strconv's sentinels hold something. -/
import Derived.Test.YtmnjmhlodbifjaaGreatDoorR5
import Derived.Test.YtmnjmhlodbifjaaGreatDoorR7
import Derived.Deep.RegionHeld3
import Derived.StillTailTactics
import Derived.Deep.DeepCutAuto
import Derived.WalkSpells

namespace Go.Proofs.YtmnjmhlodbifjaaGreatDoor.Range
open Go.RowKit Go.Proofs.YtmnjmhlodbifjaaGreatDoor.Err Go.Proofs.YtmnjmhlodbifjaaGreatDoor.NumPure Go.Proofs.YtmnjmhlodbifjaaGreatDoor.Atoi Go.Proofs.YtmnjmhlodbifjaaGreatDoor.Split Go.Proofs.YtmnjmhlodbifjaaGreatDoor.SplitPure Go.Proofs.YtmnjmhlodbifjaaGreatDoor.Bits Go.Proofs.YtmnjmhlodbifjaaGreatDoor.GetBits
def ends (lo hi : Nat) (val : List UInt8 → Option Nat) (lh : List (List UInt8)) : Option (Nat × Nat × Bool) :=
  match lh with
  | [] => none
  | a :: r => if a = [42] ∨ a = [63] then some (lo, hi, true) else
    match val a with
    | none => none
    | some x => match r with
      | [] => some (x, x, false)
      | [b] => match val b with
        | none => none
        | some y => some (x, y, false)
      | _ => none
def stepped (hi : Nat) (single : Bool) (t : Nat × Nat × Bool) (rs : List (List UInt8)) : Option (Nat × Nat × Bool × Nat) :=
  match rs with
  | [_] => some (t.1, t.2.1, t.2.2, 1)
  | [_, st] => match numberOf st with
    | none => none
    | some n => some (t.1, if single then hi else t.2.1, t.2.2 && !decide (1 < n), n)
  | _ => none
def marked (p : Nat → Bool) (star : Bool) : Int := bset fun i => p i || (star && decide (i = 63))
def finish (lo hi : Nat) (t : Nat × Nat × Bool × Nat) : Option Int :=
  if t.1 < lo ∨ hi < t.2.1 ∨ t.2.1 < t.1 ∨ t.2.2.2 = 0 then none else some (marked (inRange t.1 t.2.1 t.2.2.2) t.2.2.1)
def rangeOf (lo hi : Nat) (val : List UInt8 → Option Nat) (l : List UInt8) : Option Int :=
  let rs := pieces 47 l
  let lh := pieces 45 (rs.headD [])
  (ends lo hi val lh).bind fun t => (stepped hi (decide (lh.length = 1)) t rs).bind (finish lo hi)
theorem rangeOf_of {lo hi : Nat} {val : List UInt8 → Option Nat} {l r0 l0 : List UInt8} {rr lr : List (List UInt8)} (h1 : pieces 47 l = r0 :: rr) (h2 : pieces 45 r0 = l0 :: lr) :
    rangeOf lo hi val l = (ends lo hi val (l0 :: lr)).bind fun t => (stepped hi (decide ((l0 :: lr).length = 1)) t (r0 :: rr)).bind (finish lo hi) := by
  simp only [rangeOf, h1, List.headD_cons, h2]
section
variable {lo hi : Nat} {val : List UInt8 → Option Nat} {l0 : List UInt8}
theorem ends_star {lr : List (List UInt8)} (h : l0 = [42] ∨ l0 = [63]) : ends lo hi val (l0 :: lr) = some (lo, hi, true) := by unfold ends; simp [h]
theorem ends_bad {lr : List (List UInt8)} (h : ¬ (l0 = [42] ∨ l0 = [63])) (h1 : val l0 = none) : ends lo hi val (l0 :: lr) = none := by unfold ends; simp [h, h1]
theorem ends_one {x : Nat} (h : ¬ (l0 = [42] ∨ l0 = [63])) (h1 : val l0 = some x) : ends lo hi val [l0] = some (x, x, false) := by unfold ends; simp [h, h1]
theorem ends_two_bad {x : Nat} {l1 : List UInt8} (h : ¬ (l0 = [42] ∨ l0 = [63])) (h1 : val l0 = some x) (h2 : val l1 = none) : ends lo hi val [l0, l1] = none := by unfold ends; simp [h, h1, h2]
theorem ends_two {x y : Nat} {l1 : List UInt8} (h : ¬ (l0 = [42] ∨ l0 = [63])) (h1 : val l0 = some x) (h2 : val l1 = some y) : ends lo hi val [l0, l1] = some (x, y, false) := by unfold ends; simp [h, h1, h2]
theorem ends_le {lh : List (List UInt8)} {a b : Nat} {st : Bool} (hval : ∀ l n, val l = some n → n ≤ 9223372036854775807) (h0 : lo ≤ 9223372036854775807 ∧ hi ≤ 9223372036854775807) (h : ends lo hi val lh = some (a, b, st)) : a ≤ 9223372036854775807 ∧ b ≤ 9223372036854775807 := by
  match lh, h with
  | l0 :: lr, h =>
    by_cases hs : l0 = [42] ∨ l0 = [63]
    · rw [ends_star hs] at h; cases h; exact h0
    · cases h1 : val l0 with
      | none => simp [ends, hs, h1] at h
      | some x =>
        have hx := hval _ _ h1
        match lr, h with
        | [], h => simp [ends, hs, h1] at h; omega
        | [l1], h =>
          cases h2 : val l1 with
          | none => simp [ends, hs, h1, h2] at h
          | some y => have hy := hval _ _ h2; simp [ends, hs, h1, h2] at h; omega
        | l1 :: l2 :: lr, h => simp [ends, hs, h1] at h
theorem ends_many {x : Nat} {l1 l2 : List UInt8} {lr : List (List UInt8)} (h : ¬ (l0 = [42] ∨ l0 = [63])) (h1 : val l0 = some x) : ends lo hi val (l0 :: l1 :: l2 :: lr) = none := by unfold ends; simp [h, h1]
theorem stepped_le {hi : Nat} {sg : Bool} {t : Nat × Nat × Bool} {rs : List (List UInt8)} {a b n : Nat} {st : Bool} (h : stepped hi sg t rs = some (a, b, st, n)) : n ≤ 9223372036854775807 := by
  unfold stepped at h
  split at h
  · cases h; omega
  · split at h
    · cases h
    · rename_i n' h'; cases h; exact numberOf_le h'
  · cases h
end
def BitsErr (r : Option Int) (e : Ending) : Prop :=
  match r with
  | some b => e = .returned (.tuple #[.int .u64 b, .nilIface])
  | none => ∃ T p, e = .returned (.tuple #[.int .u64 0, .iface T p])
def NamesAt (w : World) (m : Value) (val : List UInt8 → Option Nat) : Prop :=
  (∀ l n, val l = some n → n ≤ 9223372036854775807) ∧
  ∀ w', Below w.heap.size w w' → ∀ s : ByteArray, s.size ≤ 65536 →
    Calls Tryz.prog 129 #[.string s, m] w' fun e w'' => NumErr (val s.data.toList) e ∧ Below w'.heap.size w' w''
theorem NamesAt.below {w w' : World} {m : Value} {val : List UInt8 → Option Nat} (h : NamesAt w m val) (hb : Below w.heap.size w w') : NamesAt w' m val :=
  ⟨h.1, fun w'' hb' => h.2 w'' (hb.trans (hb'.mono hb.size))⟩
theorem names_none (w : World) (hv : ErrVars w) : NamesAt w (.map none) numberOf := by
  refine ⟨fun l n h => numberOf_le h, fun w' hb s hs => ?_⟩
  have hv' := Lib.hid (hv.below hb)
  clear hb hv
  have qT : ∀ (w : World), (binOp .neq 119 (.map none) (.map none)).run Tryz.prog w = .ok (.bool false) w := fun w => run_neq_map_nil w _ _ _ none Tryz.underlying119
  cases h : numberOf s.data.toList with
  | some n =>
    go_enter Tryz.func129, Tryz.ntmps129
    go_wp2_with (go_at_call 130; refine (must_ok s n _ (by omega) h).mono ?_; rintro e w' ⟨rfl, hb2⟩)
    go_ret2
    exact ⟨rfl, hb2⟩
  | none =>
    go_enter Tryz.func129, Tryz.ntmps129
    go_wp2_with (go_at_call 130; refine (must_bad s _ hv'.out (by omega) h).mono ?_; rintro e w' ⟨⟨T, p, rfl⟩, hb2⟩)
    go_ret2
    exact ⟨⟨_, _, rfl⟩, hb2⟩
def Box (w : World) (b : Nat) (x y z : Value) : Prop := b < w.heap.size ∧ w.cell? ⟨b, 0, none⟩ = some x ∧ w.cell? ⟨b, 1, none⟩ = some y ∧ w.cell? ⟨b, 2, none⟩ = some z
theorem Box.below {w w' : World} {b : Nat} {x y z : Value} (h : Box w b x y z) (hb : Below w.heap.size w w') : Box w' b x y z :=
  ⟨Nat.lt_of_lt_of_le h.1 hb.size, (hb.cell (p := ⟨b, 0, none⟩) h.1).trans h.2.1, (hb.cell (p := ⟨b, 1, none⟩) h.1).trans h.2.2.1, (hb.cell (p := ⟨b, 2, none⟩) h.1).trans h.2.2.2⟩
theorem box_new (w : World) (E : TypeId) (x y z : Value) : Box (w.alloc (.cells #[x, y, z] E)) w.heap.size x y z := by
  have hh : (w.alloc (.cells #[x, y, z] E)).heap[w.heap.size]? = some (.cells #[x, y, z] E) := heap_alloc_new w _
  refine ⟨by simp, ?_, ?_, ?_⟩ <;> (unfold World.cell?; simp only [hh]; rfl)
def starBit : Bool → Int
  | true => 9223372036854775808
  | false => 0
theorem starBit_eq (b : Bool) : starBit b = bset fun i => b && decide (i = 63) := by
  cases b with
  | true =>
    rw [show starBit true = IntKind.u64.wrap (2 ^ 63) by decide, wrap_pow]
    exact bset_congr fun i _ => by simp
  | false => exact zero_eq
theorem or_starBit (p : Nat → Bool) (b : Bool) : Go.bits .or .u64 (bset p) (starBit b) = marked p b := by
  rw [starBit_eq, bits_or]; rfl
section
variable {hi : Nat} {sg : Bool} {t : Nat × Nat × Bool} {r0 : List UInt8}
theorem stepped_one : stepped hi sg t [r0] = some (t.1, t.2.1, t.2.2, 1) := rfl
theorem stepped_bad {st : List UInt8} (h : numberOf st = none) : stepped hi sg t [r0, st] = none := by unfold stepped; simp [h]
theorem stepped_two {st : List UInt8} {n : Nat} (h : numberOf st = some n) : stepped hi sg t [r0, st] = some (t.1, if sg then hi else t.2.1, t.2.2 && !decide (1 < n), n) := by unfold stepped; simp [h]
theorem stepped_many {st s2 : List UInt8} {rr : List (List UInt8)} : stepped hi sg t (r0 :: st :: s2 :: rr) = none := rfl
end
set_option maxHeartbeats 2000000 in
set_option maxRecDepth 100000 in
theorem range_any (s : ByteArray) (lo hi : Nat) (m : Value) (val : List UInt8 → Option Nat) (w : World) (hlo : lo ≤ hi) (hhi : hi ≤ 62) (hs : s.size ≤ 65536) (hv : ErrVars w) (hn : NamesAt w m val) :
    Calls Tryz.prog 100 #[.string s, .agg #[.int .u64 (lo : Int), .int .u64 (hi : Int), m]] w fun e w' => BitsErr (rangeOf lo hi val s.data.toList) e ∧ Below w.heap.size w w' := by
  obtain ⟨r0, rr, Hrs⟩ : ∃ r0 rr, Hid (pieces 47 s.data.toList = r0 :: rr) := by
    cases h : pieces 47 s.data.toList with
    | nil => exact absurd h (pieces_ne _ _)
    | cons a r => exact ⟨a, r, Lib.hid rfl⟩
  have hrsc : rr.length ≤ 65536 := by have := pieces_count 47 s.data.toList; rw [length_toList, Hrs.out] at this; simp at this; omega
  have hr0 : r0.length ≤ 65536 := by have := pieces_sum 47 s.data.toList r0 (by rw [Hrs.out]; simp); rw [length_toList] at this; omega
  obtain ⟨l0, lr, Hlh⟩ : ∃ l0 lr, Hid (pieces 45 r0 = l0 :: lr) := by
    cases h : pieces 45 r0 with
    | nil => exact absurd h (pieces_ne _ _)
    | cons a r => exact ⟨a, r, Lib.hid rfl⟩
  have hlhc : lr.length ≤ 65536 := by have := pieces_count 45 r0; rw [Hlh.out] at this; simp at this; omega
  have HD : Hid (rangeOf lo hi val s.data.toList = (ends lo hi val (l0 :: lr)).bind fun t => (stepped hi (decide ((l0 :: lr).length = 1)) t (r0 :: rr)).bind (finish lo hi)) :=
    Lib.hid (rangeOf_of Hrs.out Hlh.out)
  obtain ⟨sg, Hsg⟩ : ∃ sg, Hid (decide ((l0 :: lr).length = 1) = sg) := ⟨_, Lib.hid rfl⟩
  have hsg : ((lr.length : Int) + 1 == 1) = sg := by
    rw [← Hsg.out, Bool.eq_iff_iff, beq_iff_eq, decide_eq_true_eq, List.length_cons]; omega
  go_enter Tryz.func100, Tryz.ntmps100
  go_upto_region 7 with (first
    | (go_at_call_of 128 (Value.string s); refine (split_any s 47 _ hs).mono ?_; rw [Hrs.out]; rintro e w1 ⟨g1, cap1, rfl, hcap1, hg1, hS1, hb1⟩; (have hc1 := hS1.2 0 _ rfl))
    | (go_at_call 128; refine (split_any _ 45 _ (by rw [size_ofL]; omega)).mono ?_; rw [toList_ofL, Hlh.out]; rintro e w2 ⟨g2, cap2, rfl, hcap2, hg2, hS2, hb2⟩; (have hc2 := hS2.2 0 _ rfl)))
  obtain ⟨star, Hst⟩ : ∃ star, Hid (decide (l0 = [42] ∨ l0 = [63]) = star) := ⟨_, Lib.hid rfl⟩
  have hbox := (((box_new w _ (.int .u64 (lo : Int)) (.int .u64 (hi : Int)) m).below hb1).below hb2)
  have hbw : Below w.heap.size w w2 := ((Below.refl w.heap.size w).alloc (Nat.le_refl _) _).trans ((hb1.mono (by simp)).trans (hb2.mono (by have := hb1.size; simp at this; omega)))
  have hS1' := hS1.below hb2
  have HX := Lib.hid (And.intro hbox (And.intro hbw (And.intro hS1' hS2)))
  clear hbox hbw hS1' hS1 hS2 hb1 hb2 hc1 hg1 hg2 hcap1 hcap2
  go_cut [32] (fun t wx => t = .bool star ∧ wx = w2)
  case first =>
    by_cases h42 : l0 = [42]
    · have e1 : ((ofL l0).toList == [42]) = true := by rw [ByteArray.toList_eq, toList_ofL, h42]; rfl
      have Hs : Hid (star = true) := Lib.hid (by rw [← Hst.out]; simp [h42])
      clear h42
      go_wp2_with fail
      go_meet
      case rel => exact ⟨by rw [Hs.out], rfl⟩
    · have e1 : ((ofL l0).toList == [42]) = false := by rw [ByteArray.toList_eq, toList_ofL]; simpa using h42
      by_cases h63 : l0 = [63]
      · have e2 : ((ofL l0).toList == [63]) = true := by rw [ByteArray.toList_eq, toList_ofL, h63]; rfl
        have Hs : Hid (star = true) := Lib.hid (by rw [← Hst.out]; simp [h63])
        clear h42 h63
        go_wp2_with fail
        go_meet
        case rel => exact ⟨by rw [Hs.out], rfl⟩
      · have e2 : ((ofL l0).toList == [63]) = false := by rw [ByteArray.toList_eq, toList_ofL]; simpa using h63
        have Hs : Hid (star = false) := Lib.hid (by rw [← Hst.out]; simp [h42, h63])
        clear h42 h63
        go_wp2_with fail
        go_meet
        case rel => exact ⟨by rw [Hs.out], rfl⟩
  case rest =>
    obtain ⟨rfl, rfl⟩ := hcut
    go_upto_if 32 with fail
    go_cut [6, 7, 12, 13] (fun s6 s7 s12 s13 wx => Hid (∃ t : Nat × Nat × Bool, ends lo hi val (l0 :: lr) = some t ∧ s6 = .int .u64 (t.1 : Int) ∧ s7 = .int .u64 (t.2.1 : Int) ∧ s13 = .int .u64 (starBit t.2.2) ∧ Box wx w.heap.size (.int .u64 (lo : Int)) (.int .u64 (hi : Int)) m ∧ Below w.heap.size w wx ∧ Strs wx g1 (r0 :: rr)))
    case first =>
      obtain ⟨hbox, hbw, hS1, hS2⟩ := HX.out
      have hcb := hbox.2
      have hb0 := hbox.1
      have hlt2 := hS2.1
      have hc2 := hS2.2 0 _ rfl
      obtain ⟨hc0, hc1, hcm⟩ := hcb
      have HBX := Lib.hid hbox
      have HBW := Lib.hid hbw
      have HS1 := Lib.hid hS1
      clear hbox hbw hS1
      cases star with
      | true =>
        have HE : Hid (ends lo hi val (l0 :: lr) = some (lo, hi, true)) := Lib.hid (ends_star (of_decide_eq_true Hst.out))
        clear hS2
        go_wp2_with fail
        go_meet
        case rel => exact Lib.hid ⟨_, HE.out, rfl, rfl, rfl, HBX.out, HBW.out, HS1.out⟩
      | false =>
        have Hns := Lib.hid (of_decide_eq_false Hst.out)
        have hl0 : (ofL l0).size ≤ 65536 := by rw [size_ofL]; have := pieces_sum 45 r0 l0 (by rw [Hlh.out]; simp); omega
        have HN := Lib.hid hn.2
        cases hv0 : val l0 with
        | none =>
          have HE := Lib.hid (ends_bad (lo := lo) (hi := hi) (lr := lr) Hns.out hv0)
          have Hv0 := Lib.hid hv0
          clear hv0 hS2
          go_wp2_with fail
          go_region_held3 (fun w' => w'.cell? ⟨g2, 0, none⟩ = some (.string (ofL l0)) ∧ w'.cell? ⟨w.heap.size, 2, none⟩ = some m) (go_keep) ((go_at_call 129; refine (HN.out _ HBW.out.drew _ hl0).mono ?_; rw [toList_ofL, Hv0.out]; rintro e w3 ⟨⟨T, p, rfl⟩, hb3⟩; (have k1 := (hb3.cell (p := ⟨g2, 0, none⟩) hlt2).trans hc2); (have k2 := (hb3.cell (p := ⟨w.heap.size, 2, none⟩) hb0).trans hcm)))
          all_goals
            go_wp2_with fail
            go_ret2
            exact ⟨by rw [HD.out, HE.out]; exact ⟨_, _, rfl⟩, HBW.out.drew.trans (hb3.mono HBW.out.size)⟩
        | some x =>
          have hx := hn.1 l0 x hv0
          have Hv0 := Lib.hid hv0
          match lr, Hlh, hS2, hlhc, hsg, HD, Hsg, HX with
          | [], Hlh, hS2, hlhc, hsg, HD, Hsg, HX =>
            have HE := Lib.hid (ends_one (lo := lo) (hi := hi) Hns.out hv0)
            clear hv0 hS2
            go_wp2_with fail
            go_region_held3 (fun w' => w'.cell? ⟨g2, 0, none⟩ = some (.string (ofL l0)) ∧ w'.cell? ⟨w.heap.size, 2, none⟩ = some m) (go_keep) ((go_at_call 129; refine (HN.out _ HBW.out.drew _ hl0).mono ?_; rw [toList_ofL, Hv0.out]; rintro e w3 ⟨rfl, hb3⟩; (have k1 := (hb3.cell (p := ⟨g2, 0, none⟩) hlt2).trans hc2); (have k2 := (hb3.cell (p := ⟨w.heap.size, 2, none⟩) hb0).trans hcm)))
            all_goals
              have hb4 := HBW.out.drew.trans (hb3.mono HBW.out.size)
              have hb3 : Below wc.heap.size wc w3 := (Below.refl wc.heap.size wc).drew.trans hb3
              have HR : Hid (Box w3 w.heap.size (.int .u64 (lo : Int)) (.int .u64 (hi : Int)) m ∧ Below w.heap.size w w3 ∧ Strs w3 g1 (r0 :: rr)) := Lib.hid ⟨HBX.out.below hb3, hb4, HS1.out.below hb3⟩
              clear hb4 hb3 k1 k2
              go_wp2_with fail
              go_meet
              case rel => exact Lib.hid ⟨_, HE.out, rfl, rfl, rfl, HR.out⟩
          | [l1], Hlh, hS2, hlhc, hsg, HD, Hsg, HX =>
            have hl1 : (ofL l1).size ≤ 65536 := by rw [size_ofL]; have := pieces_sum 45 r0 l1 (by rw [Hlh.out]; simp); omega
            cases hv1 : val l1 with
            | none =>
              have HE := Lib.hid (ends_two_bad (lo := lo) (hi := hi) Hns.out hv0 hv1)
              have Hv1 := Lib.hid hv1
              clear hv1
              have hc3 := hS2.2 1 _ rfl
              clear hv0 hS2
              go_wp2_with fail
              go_region_held3 (fun w' => w'.cell? ⟨g2, 0, none⟩ = some (.string (ofL l0)) ∧ w'.cell? ⟨w.heap.size, 2, none⟩ = some m) (go_keep) ((go_at_call 129; refine (HN.out _ HBW.out.drew _ hl0).mono ?_; rw [toList_ofL, Hv0.out]; rintro e w3 ⟨rfl, hb3⟩; (have k1 := (hb3.cell (p := ⟨g2, 0, none⟩) hlt2).trans hc2); (have k2 := (hb3.cell (p := ⟨w.heap.size, 2, none⟩) hb0).trans hcm)))
              all_goals
                have k3 := (hb3.cell (p := ⟨g2, 1, none⟩) hlt2).trans hc3
                have HB3 := Lib.hid (HBW.out.drew.trans (hb3.mono HBW.out.size))
                have hsz3 := hb3.size
                have hlt3 : g2 < w3.heap.size := Nat.lt_of_lt_of_le hlt2 hsz3
                have hb03 : w.heap.size < w3.heap.size := Nat.lt_of_lt_of_le hb0 hsz3
                have hb3 : Below wc.heap.size wc w3 := (Below.refl wc.heap.size wc).drew.trans hb3
                have HBX3 := Lib.hid (HBX.out.below hb3)
                have HS3 := Lib.hid (HS1.out.below hb3)
                clear hb3 k1 hsz3
                go_wp2_with fail
                go_region_held3 (fun w' => w'.cell? ⟨g2, 1, none⟩ = some (.string (ofL l1)) ∧ w'.cell? ⟨w.heap.size, 2, none⟩ = some m) (go_keep) ((go_at_call 129; refine (HN.out _ HB3.out.drew _ hl1).mono ?_; rw [toList_ofL, Hv1.out]; rintro e w4 ⟨⟨T, p, rfl⟩, hb4⟩; (have k4 := (hb4.cell (p := ⟨g2, 1, none⟩) hlt3).trans k3); (have k5 := (hb4.cell (p := ⟨w.heap.size, 2, none⟩) hb03).trans k2)))
                all_goals
                  go_wp2_with fail
                  go_ret2
                  exact ⟨by rw [HD.out, HE.out]; exact ⟨_, _, rfl⟩, HB3.out.drew.trans (hb4.mono HB3.out.size)⟩
            | some y =>
              have hy := hn.1 l1 y hv1
              have HE := Lib.hid (ends_two (lo := lo) (hi := hi) Hns.out hv0 hv1)
              have Hv1 := Lib.hid hv1
              clear hv1
              have hc3 := hS2.2 1 _ rfl
              clear hv0 hS2
              go_wp2_with fail
              go_region_held3 (fun w' => w'.cell? ⟨g2, 0, none⟩ = some (.string (ofL l0)) ∧ w'.cell? ⟨w.heap.size, 2, none⟩ = some m) (go_keep) ((go_at_call 129; refine (HN.out _ HBW.out.drew _ hl0).mono ?_; rw [toList_ofL, Hv0.out]; rintro e w3 ⟨rfl, hb3⟩; (have k1 := (hb3.cell (p := ⟨g2, 0, none⟩) hlt2).trans hc2); (have k2 := (hb3.cell (p := ⟨w.heap.size, 2, none⟩) hb0).trans hcm)))
              all_goals
                have k3 := (hb3.cell (p := ⟨g2, 1, none⟩) hlt2).trans hc3
                have HB3 := Lib.hid (HBW.out.drew.trans (hb3.mono HBW.out.size))
                have hsz3 := hb3.size
                have hlt3 : g2 < w3.heap.size := Nat.lt_of_lt_of_le hlt2 hsz3
                have hb03 : w.heap.size < w3.heap.size := Nat.lt_of_lt_of_le hb0 hsz3
                have hb3 : Below wc.heap.size wc w3 := (Below.refl wc.heap.size wc).drew.trans hb3
                have HBX3 := Lib.hid (HBX.out.below hb3)
                have HS3 := Lib.hid (HS1.out.below hb3)
                clear hb3 k1 hsz3
                go_wp2_with fail
                go_region_held3 (fun w' => w'.cell? ⟨g2, 1, none⟩ = some (.string (ofL l1)) ∧ w'.cell? ⟨w.heap.size, 2, none⟩ = some m) (go_keep) ((go_at_call 129; refine (HN.out _ HB3.out.drew _ hl1).mono ?_; rw [toList_ofL, Hv1.out]; rintro e w4 ⟨rfl, hb4⟩; (have k4 := (hb4.cell (p := ⟨g2, 1, none⟩) hlt3).trans k3); (have k5 := (hb4.cell (p := ⟨w.heap.size, 2, none⟩) hb03).trans k2)))
                all_goals
                  have hb5 := HB3.out.drew.trans (hb4.mono HB3.out.size)
                  have hb4 : Below w3.heap.size w3 w4 := (Below.refl w3.heap.size w3).drew.trans hb4
                  have HR : Hid (Box w4 w.heap.size (.int .u64 (lo : Int)) (.int .u64 (hi : Int)) m ∧ Below w.heap.size w w4 ∧ Strs w4 g1 (r0 :: rr)) := Lib.hid ⟨HBX3.out.below hb4, hb5, HS3.out.below hb4⟩
                  clear hb4 hb5 k4 k5 k2 k3
                  go_wp2_with fail
                  go_meet
                  case rel => exact Lib.hid ⟨_, HE.out, rfl, rfl, rfl, HR.out⟩
          | l1 :: l2 :: lr, Hlh, hS2, hlhc, hsg, HD, Hsg, HX =>
            have HE := Lib.hid (ends_many (lo := lo) (hi := hi) (l1 := l1) (l2 := l2) (lr := lr) Hns.out hv0)
            have hne2 : (((l1 :: l2 :: lr).length : Int) + 1 == 2) = false := by rw [beq_eq_false_iff_ne]; simp only [List.length_cons]; omega
            have hne1 : (((l1 :: l2 :: lr).length : Int) + 1 == 1) = false := by rw [beq_eq_false_iff_ne]; simp only [List.length_cons]; omega
            have hpos : (0 : Int) < (lr.length : Int) + 1 + 1 + 1 := by omega
            clear hv0 hS2
            go_wp2_with fail
            go_region_held3 (fun w' => w'.cell? ⟨g2, 0, none⟩ = some (.string (ofL l0)) ∧ w'.cell? ⟨w.heap.size, 2, none⟩ = some m) (go_keep) ((go_at_call 129; refine (HN.out _ HBW.out.drew _ hl0).mono ?_; rw [toList_ofL, Hv0.out]; rintro e w3 ⟨rfl, hb3⟩; (have k1 := (hb3.cell (p := ⟨g2, 0, none⟩) hlt2).trans hc2); (have k2 := (hb3.cell (p := ⟨w.heap.size, 2, none⟩) hb0).trans hcm)))
            all_goals
              have HB3 := Lib.hid (HBW.out.drew.trans (hb3.mono HBW.out.size))
              clear hb3 k1 k2
              go_wp2_with (go_at_call 53; refine (errorsNew_any _ _).mono ?_; rintro e w4 ⟨⟨N, rfl⟩, hb4⟩)
              go_ret2
              exact ⟨by rw [HD.out, HE.out]; exact ⟨_, _, rfl⟩, HB3.out.trans (hb4.mono HB3.out.size)⟩
    case rest =>
      obtain ⟨⟨a, b, star2⟩, HE, rfl, rfl, rfl, hbox, hbw, hS1⟩ := hcut
      have hab : a ≤ 9223372036854775807 ∧ b ≤ 9223372036854775807 := ends_le hn.1 (by omega) HE
      have ha := hab.1
      have hb := hab.2
      have HD2 : Hid (rangeOf lo hi val s.data.toList = (stepped hi sg (a, b, star2) (r0 :: rr)).bind (finish lo hi)) := Lib.hid (by rw [HD.out, HE, Hsg.out]; rfl)
      obtain ⟨hc0, hc1, hcm⟩ := hbox.2
      have hb0 := hbox.1
      have HBX := Lib.hid hbox
      have HBW := Lib.hid hbw
      have HE := Lib.hid HE
      obtain ⟨wd, rfl⟩ : ∃ wd, wd = wc := ⟨_, rfl⟩
      have hlt1 := hS1.1
      have HS1 := Lib.hid hS1
      clear hab hbox hbw hS1 HX HD
      go_upto_block 1 with fail
      go_cut [6, 7, 8, 12, 13] (fun s6 s7 s8 s12 s13 wx => Hid (∃ t : Nat × Nat × Bool × Nat, stepped hi sg (a, b, star2) (r0 :: rr) = some t ∧ s6 = .int .u64 (t.1 : Int) ∧ s7 = .int .u64 (t.2.1 : Int) ∧ s8 = .int .u64 (t.2.2.2 : Int) ∧ s13 = .int .u64 (starBit t.2.2.1) ∧ Box wx w.heap.size (.int .u64 (lo : Int)) (.int .u64 (hi : Int)) m ∧ Below w.heap.size w wx))
      case first =>
        match rr, Hrs, hrsc, HD2, HS1 with
        | [], Hrs, hrsc, HD2, HS1 =>
          have HT := Lib.hid (stepped_one (hi := hi) (sg := sg) (t := (a, b, star2)) (r0 := r0))
          go_wp2_with fail
          go_meet
          case rel => exact Lib.hid ⟨_, HT.out, rfl, rfl, rfl, rfl, HBX.out, HBW.out⟩
        | [st], Hrs, hrsc, HD2, HS1 =>
          have hst : (ofL st).size ≤ 281474976710656 := by rw [size_ofL]; have := pieces_sum 47 s.data.toList st (by rw [Hrs.out]; simp); rw [length_toList] at this; omega
          have hcs := HS1.out.2 1 _ rfl
          have Hv := Lib.hid (hv.below HBW.out)
          cases hn1 : numberOf st with
          | none =>
            have HT := Lib.hid (stepped_bad (hi := hi) (sg := sg) (t := (a, b, star2)) (r0 := r0) hn1)
            have HN1 : Hid (numberOf (ofL st).data.toList = none) := Lib.hid (by rw [toList_ofL]; exact hn1)
            clear hn1
            go_wp2_with (go_at_call 130; refine (must_bad _ _ Hv.out hst HN1.out).mono ?_; rintro e w5 ⟨⟨T, p, rfl⟩, hb5⟩)
            go_ret2
            exact ⟨by rw [HD2.out, HT.out]; exact ⟨_, _, rfl⟩, HBW.out.trans (hb5.mono HBW.out.size)⟩
          | some n =>
            have HT := Lib.hid (stepped_two (hi := hi) (sg := sg) (t := (a, b, star2)) (r0 := r0) hn1)
            have HN1 : Hid (numberOf (ofL st).data.toList = some n) := Lib.hid (by rw [toList_ofL]; exact hn1)
            have hnle := numberOf_le hn1
            clear hn1
            cases sg with
            | true =>
              by_cases h1 : 1 < n
              · have h1' : decide ((1 : Int) < (n : Int)) = true := decide_eq_true (by omega)
                go_wp2_with (go_at_call 130; refine (must_ok _ n _ hst HN1.out).mono ?_; rintro e w5 ⟨rfl, hb5⟩; (have k0 := (hb5.cell (p := ⟨w.heap.size, 0, none⟩) hb0).trans hc0); (have k1 := (hb5.cell (p := ⟨w.heap.size, 1, none⟩) hb0).trans hc1))
                go_meet
                case rel => exact Lib.hid ⟨_, HT.out, rfl, rfl, rfl, by simp [h1, starBit], HBX.out.below hb5, HBW.out.trans (hb5.mono HBW.out.size)⟩
              · have h1' : decide ((1 : Int) < (n : Int)) = false := decide_eq_false (by omega)
                go_wp2_with (go_at_call 130; refine (must_ok _ n _ hst HN1.out).mono ?_; rintro e w5 ⟨rfl, hb5⟩; (have k0 := (hb5.cell (p := ⟨w.heap.size, 0, none⟩) hb0).trans hc0); (have k1 := (hb5.cell (p := ⟨w.heap.size, 1, none⟩) hb0).trans hc1))
                go_meet
                case rel => exact Lib.hid ⟨_, HT.out, rfl, rfl, rfl, by simp [h1], HBX.out.below hb5, HBW.out.trans (hb5.mono HBW.out.size)⟩
            | false =>
              by_cases h1 : 1 < n
              · have h1' : decide ((1 : Int) < (n : Int)) = true := decide_eq_true (by omega)
                go_wp2_with (go_at_call 130; refine (must_ok _ n _ hst HN1.out).mono ?_; rintro e w5 ⟨rfl, hb5⟩; (have k0 := (hb5.cell (p := ⟨w.heap.size, 0, none⟩) hb0).trans hc0); (have k1 := (hb5.cell (p := ⟨w.heap.size, 1, none⟩) hb0).trans hc1))
                go_meet
                case rel => exact Lib.hid ⟨_, HT.out, rfl, rfl, rfl, by simp [h1, starBit], HBX.out.below hb5, HBW.out.trans (hb5.mono HBW.out.size)⟩
              · have h1' : decide ((1 : Int) < (n : Int)) = false := decide_eq_false (by omega)
                go_wp2_with (go_at_call 130; refine (must_ok _ n _ hst HN1.out).mono ?_; rintro e w5 ⟨rfl, hb5⟩; (have k0 := (hb5.cell (p := ⟨w.heap.size, 0, none⟩) hb0).trans hc0); (have k1 := (hb5.cell (p := ⟨w.heap.size, 1, none⟩) hb0).trans hc1))
                go_meet
                case rel => exact Lib.hid ⟨_, HT.out, rfl, rfl, rfl, by simp [h1], HBX.out.below hb5, HBW.out.trans (hb5.mono HBW.out.size)⟩
        | st :: s2 :: rr, Hrs, hrsc, HD2, HS1 =>
          have HT := Lib.hid (stepped_many (hi := hi) (sg := sg) (t := (a, b, star2)) (r0 := r0) (st := st) (s2 := s2) (rr := rr))
          have hne2 : (((st :: s2 :: rr).length : Int) + 1 == 2) = false := by rw [beq_eq_false_iff_ne]; simp only [List.length_cons]; omega
          have hne1 : (((st :: s2 :: rr).length : Int) + 1 == 1) = false := by rw [beq_eq_false_iff_ne]; simp only [List.length_cons]; omega
          go_wp2_with (go_at_call 53; refine (errorsNew_any _ _).mono ?_; rintro e w5 ⟨⟨N, rfl⟩, hb5⟩)
          go_ret2
          exact ⟨by rw [HD2.out, HT.out]; exact ⟨_, _, rfl⟩, HBW.out.trans (hb5.mono HBW.out.size)⟩
      case rest =>
        obtain ⟨⟨a2, b2, star3, n2⟩, HT, rfl, rfl, rfl, rfl, hbox, hbw⟩ := hcut
        have hn2 : n2 ≤ 9223372036854775807 := stepped_le HT
        have HD3 : Hid (rangeOf lo hi val s.data.toList = finish lo hi (a2, b2, star3, n2)) := Lib.hid (by rw [HD2.out, HT]; rfl)
        obtain ⟨k0, k1, k2⟩ := hbox.2
        have HBW := Lib.hid hbw
        clear hbox hbw HT HD2 HE HBX hc0 hc1 hcm HS1
        by_cases c1 : a2 < lo
        · have HR : Hid (finish lo hi (a2, b2, star3, n2) = none) := Lib.hid (by unfold finish; rw [if_pos (.inl c1)])
          go_wp2_with (go_at_call 53; refine (errorsNew_any _ _).mono ?_; rintro e w5 ⟨⟨N, rfl⟩, hb5⟩)
          go_ret2
          exact ⟨by rw [HD3.out, HR.out]; exact ⟨_, _, rfl⟩, HBW.out.trans (hb5.mono HBW.out.size)⟩
        by_cases c2 : hi < b2
        · have HR : Hid (finish lo hi (a2, b2, star3, n2) = none) := Lib.hid (by unfold finish; rw [if_pos (.inr (.inl c2))])
          go_wp2_with (go_at_call 53; refine (errorsNew_any _ _).mono ?_; rintro e w5 ⟨⟨N, rfl⟩, hb5⟩)
          go_ret2
          exact ⟨by rw [HD3.out, HR.out]; exact ⟨_, _, rfl⟩, HBW.out.trans (hb5.mono HBW.out.size)⟩
        by_cases c3 : b2 < a2
        · have HR : Hid (finish lo hi (a2, b2, star3, n2) = none) := Lib.hid (by unfold finish; rw [if_pos (.inr (.inr (.inl c3)))])
          go_wp2_with (go_at_call 53; refine (errorsNew_any _ _).mono ?_; rintro e w5 ⟨⟨N, rfl⟩, hb5⟩)
          go_ret2
          exact ⟨by rw [HD3.out, HR.out]; exact ⟨_, _, rfl⟩, HBW.out.trans (hb5.mono HBW.out.size)⟩
        by_cases c4 : n2 = 0
        · have HR : Hid (finish lo hi (a2, b2, star3, n2) = none) := Lib.hid (by unfold finish; rw [if_pos (.inr (.inr (.inr c4)))])
          have c4' : ((n2 : Int) == 0) = true := by rw [c4]; rfl
          clear c4
          go_wp2_with (go_at_call 53; refine (errorsNew_any _ _).mono ?_; rintro e w5 ⟨⟨N, rfl⟩, hb5⟩)
          go_ret2
          exact ⟨by rw [HD3.out, HR.out]; exact ⟨_, _, rfl⟩, HBW.out.trans (hb5.mono HBW.out.size)⟩
        · have HR : Hid (finish lo hi (a2, b2, star3, n2) = some (marked (inRange a2 b2 n2) star3)) := Lib.hid (by unfold finish; rw [if_neg (by simp only; omega)])
          have c4' : ((n2 : Int) == 0) = false := beq_eq_false_iff_ne.2 (by omega)
          have hmk := or_starBit (inRange a2 b2 n2) star3
          go_wp2_with (go_at_call 123; refine (getBits_any _ _ _ _ (by omega) (by omega) (by omega) (by omega) (by omega)).mono ?_; rintro e w5 ⟨rfl, rfl⟩)
          go_ret2
          exact ⟨by rw [HD3.out, HR.out]; rfl, HBW.out⟩
end Go.Proofs.YtmnjmhlodbifjaaGreatDoor.Range
