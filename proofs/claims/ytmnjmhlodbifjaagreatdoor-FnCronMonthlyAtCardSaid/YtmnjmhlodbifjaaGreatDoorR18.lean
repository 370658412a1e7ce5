/- cron's zzTrimSpace and the reference's CronTrim. Conditions: texts of at most 65536 bytes, the tables of package unicode/utf8 as laid. · The reference's CronTrim and CronNoAnswer. Conditions: texts of at most 65536 bytes. · What a cron text means, as a plain law: the sets or the delay, and how the code's reading goes with the reference's. Conditions: none. · package time's leadingInt and leadingFraction. Conditions: texts of at most 65536 bytes, the package's own error holds something. -/
import Derived.Test.YtmnjmhlodbifjaaGreatDoorR14
import Derived.Test.YtmnjmhlodbifjaaGreatDoorR2
import Derived.Test.YtmnjmhlodbifjaaGreatDoorR6
import Derived.Test.YtmnjmhlodbifjaaGreatDoorR15
import Derived.Test.YtmnjmhlodbifjaaGreatDoorR17

namespace Go.Proofs.YtmnjmhlodbifjaaGreatDoor.Trim
open Go Go.RowKit Go.Proofs.YtmnjmhlodbifjaaGreatDoor.Mem Go.Proofs.YtmnjmhlodbifjaaGreatDoor.Aid Go.Proofs.YtmnjmhlodbifjaaGreatDoor.Split Go.Proofs.YtmnjmhlodbifjaaGreatDoor.SplitPure Go.Proofs.YtmnjmhlodbifjaaGreatDoor.FieldPure Go.Proofs.YtmnjmhlodbifjaaGreatDoor.Lower Go.Proofs.YtmnjmhlodbifjaaGreatDoor.PlainPure Go.Proofs.YtmnjmhlodbifjaaGreatDoor.Words Go.Proofs.YtmnjmhlodbifjaaGreatDoor.WordsU
set_option linter.unusedVariables false
def trimL (l : List UInt8) : List UInt8 := ((l.dropWhile isSp).reverse.dropWhile isSp).reverse
theorem drop_all {a c : List UInt8} (h : ∀ x ∈ a, isSp x = true) : (a ++ c).dropWhile isSp = c.dropWhile isSp := by
  induction a with
  | nil => rfl
  | cons x r ih =>
    have hx := h x (by simp)
    have := ih (fun y hy => h y (by simp [hy]))
    simpa [List.dropWhile, hx] using this
theorem drop_none {x : UInt8} {r : List UInt8} (h : isSp x = false) : (x :: r).dropWhile isSp = x :: r := by simp [List.dropWhile, h]
theorem trim_nil {a : List UInt8} (h : ∀ x ∈ a, isSp x = true) : trimL a = [] := by
  unfold trimL
  have : (a ++ []).dropWhile isSp = [] := drop_all h
  rw [List.append_nil] at this
  rw [this]
  rfl
theorem trim_parts {a b c : List UInt8} {x y : UInt8} {r q : List UInt8} (ha : ∀ z ∈ a, isSp z = true) (hc : ∀ z ∈ c, isSp z = true) (hx : b = x :: r) (hx2 : isSp x = false) (hy : b = q ++ [y]) (hy2 : isSp y = false) : trimL (a ++ b ++ c) = b := by
  unfold trimL
  rw [List.append_assoc, drop_all ha]
  rw [show (b ++ c).dropWhile isSp = b ++ c by rw [hx]; exact drop_none hx2]
  rw [List.reverse_append, drop_all (by simpa using hc)]
  rw [show b.reverse.dropWhile isSp = b.reverse by rw [hy, List.reverse_append]; exact drop_none hy2]
  exact List.reverse_reverse b
theorem getD_split {l : List UInt8} {f t : Nat} (hf : f < t) (ht : t ≤ l.length) : ∃ r q, (l.drop f).take (t - f) = l.getD f 0 :: r ∧ (l.drop f).take (t - f) = q ++ [l.getD (t - 1) 0] := by
  refine ⟨(l.drop (f + 1)).take (t - f - 1), (l.drop f).take (t - f - 1), ?_, ?_⟩
  · rw [List.drop_eq_getElem_cons (show f < l.length by omega), show t - f = (t - f - 1) + 1 by omega, List.take_succ_cons]
    rw [List.getD_eq_getElem?_getD, List.getElem?_eq_getElem (show f < l.length by omega)]
    simp
  · have : t - f = (t - f - 1) + 1 := by omega
    conv => lhs; rw [this]
    rw [List.take_add_one]
    congr 1
    rw [List.getElem?_drop, show f + (t - f - 1) = t - 1 by omega, List.getD_eq_getElem?_getD, List.getElem?_eq_getElem (show t - 1 < l.length by omega)]
    rfl
theorem trim_mid {l : List UInt8} {f t : Nat} (hf : f < t) (ht : t ≤ l.length) (h1 : ∀ j, j < f → isSp (l.getD j 0) = true) (h2 : isSp (l.getD f 0) = false) (h3 : isSp (l.getD (t - 1) 0) = false) (h4 : ∀ j, t ≤ j → j < l.length → isSp (l.getD j 0) = true) : trimL l = (l.drop f).take (t - f) := by
  obtain ⟨r, q, e1, e2⟩ := getD_split hf ht
  have hl : l = l.take f ++ (l.drop f).take (t - f) ++ l.drop t := by
    have a : (l.drop f).take (t - f) ++ l.drop t = l.drop f := by
      have := List.take_append_drop (t - f) (l.drop f)
      rw [List.drop_drop, show f + (t - f) = t by omega] at this
      exact this
    rw [List.append_assoc, a, List.take_append_drop]
  conv => lhs; rw [hl]
  refine trim_parts ?_ ?_ e1 h2 e2 h3
  · intro z hz
    obtain ⟨j, hj, rfl⟩ := List.getElem_of_mem hz
    rw [List.length_take] at hj
    have := h1 j (by omega)
    rw [List.getD_eq_getElem?_getD, List.getElem?_eq_getElem (show j < l.length by omega)] at this
    rw [List.getElem_take]
    exact this
  · intro z hz
    obtain ⟨j, hj, rfl⟩ := List.getElem_of_mem hz
    rw [List.length_drop] at hj
    have := h4 (t + j) (by omega) (by omega)
    rw [List.getD_eq_getElem?_getD, List.getElem?_eq_getElem (show t + j < l.length by omega)] at this
    rw [List.getElem_drop]
    exact this
theorem trim_blank {l : List UInt8} (h1 : ∀ j, j < l.length → isSp (l.getD j 0) = true) : trimL l = [] := by
  refine trim_nil ?_
  intro z hz
  obtain ⟨j, hj, rfl⟩ := List.getElem_of_mem hz
  have := h1 j hj
  rw [List.getD_eq_getElem?_getD, List.getElem?_eq_getElem hj] at this
  exact this
def Asc (s : ByteArray) : Prop := ∀ b ∈ s.data.toList, b.toNat < 128
theorem Asc.at {s : ByteArray} (h : Asc s) (k : Nat) (hk : k < s.size) : (s[k]).toNat < 128 := by
  refine h _ ?_
  rw [← Words.getD_at s k hk, List.getD_eq_getElem?_getD, List.getElem?_eq_getElem (by simpa using hk)]
  exact List.getElem_mem _
theorem step_asc {s : ByteArray} (h : Asc s) (k : Nat) (hk : k < s.size) : (Utf8.decode s k).2 = 1 ∧ spaceR (Utf8.decode s k).1 = isSp (s.data.toList.getD k 0) := by
  have hb := h.at k hk
  rw [decode_ascii s k hk hb]
  exact ⟨rfl, by rw [Words.getD_at s k hk]; exact space_ascii _ hb⟩
theorem decode_tail (s : ByteArray) (pos : Nat) (h : pos < s.size) : Lib.decodeGo (s.extract pos s.size) = Utf8.decode s pos := by
  have hx := Lib.extract_to_end s pos
  have hsz : (s.extract pos s.size).size ≠ 0 := by rw [Lib.size_eq, hx, List.length_drop, ← Lib.size_eq]; omega
  unfold Lib.decodeGo
  rw [if_neg hsz, ← Lib.decodeL_drop s pos, ← hx]
  rfl
theorem fits (s : ByteArray) (pos : Nat) (h : pos < s.size) : pos + (Utf8.decode s pos).2 ≤ s.size := by
  have := Lib.decodeGo_le_size (s.extract pos s.size)
  rw [decode_tail s pos h] at this
  simp at this
  omega
def Mid (l : List UInt8) (f t k : Nat) : Prop := (∀ j, j < f → isSp (l.getD j 0) = true) ∧ isSp (l.getD f 0) = false ∧ isSp (l.getD (t - 1) 0) = false ∧ ∀ j, t ≤ j → j < k → isSp (l.getD j 0) = true
def TrimRel (s : ByteArray) (k : Nat) (fr tv : Value) : Prop :=
  (fr = .int .i64 (-1) ∧ tv = .int .i64 0 ∧ Hid (Asc s → ∀ j, j < k → isSp (s.data.toList.getD j 0) = true)) ∨ ∃ f t : Nat, fr = .int .i64 (f : Int) ∧ tv = .int .i64 (t : Int) ∧ f < t ∧ t ≤ k ∧ Hid (Asc s → Mid s.data.toList f t k)
def TrimRes (s : ByteArray) (e : Ending) : Prop := ∃ t : ByteArray, e = .returned (.string t) ∧ t.size ≤ s.size ∧ (Asc s → t.data.toList = trimL s.data.toList)
set_option maxHeartbeats 1000000 in
theorem trim_any (s : ByteArray) (w : World) (hs : s.size ≤ 65536) (hT : Lib.Utf8Tabs 2 3 w) :
    Calls Tryz.prog 57 #[.string s] w fun e w' => TrimRes s e ∧ Below w.heap.size w w' := by
  have HT := Lib.hid hT
  clear hT
  go_enter Tryz.func57, Tryz.ntmps57
  go_wp2
  go_loopw [3, 4, 5] (fun fr tv i wr => ∃ k : Nat, i = .int .i64 (k : Int) ∧ k ≤ s.size ∧ TrimRel s k fr tv ∧ Hid (Below w.heap.size w wr)) (fun _ _ i _ => s.size - (intOf i).toNat)
  case atStart => exact ⟨0, rfl, Nat.zero_le _, .inl ⟨rfl, rfl, Lib.hid (fun _ j hj => by omega)⟩, Lib.hid (Below.refl _ w)⟩
  case round =>
    obtain ⟨k, rfl, hk, hrel, HB⟩ := hrel
    by_cases hlt : k < s.size
    · have hki : (k : Int) < (s.size : Int) := by omega
      have hwd := Lib.decode_width_pos s k hlt
      have hrl := decode_le s k
      have hft := fits s k hlt
      have HST := Lib.hid (fun h : Asc s => step_asc h k hlt)
      have HD : Hid (Calls Tryz.prog 91 #[.string (s.extract k s.size)] wr fun e w' => e = .returned (.tuple #[.int .i32 ((Utf8.decode s k).1 : Int), .int .i64 ((Utf8.decode s k).2 : Int)]) ∧ Below wr.heap.size wr w') := Lib.hid (by
        have := Tryz.utf8_DecodeRuneInString (s.extract k s.size) wr (Go.Proofs.Utf8Tabs_below HT.out HB.out)
        rwa [decode_tail s k hlt] at this)
      have HSP := Lib.hid (fun w1 => space_all (Utf8.decode s k).1 w1 hrl)
      obtain ⟨d, hd⟩ : ∃ d, Utf8.decode s k = d := ⟨_, rfl⟩
      obtain ⟨r, wd⟩ := d
      rw [hd] at hwd hrl hft HST HD HSP
      dsimp only at hwd hrl hft HST HD HSP
      clear hd
      cases hsp : spaceR r with
      | true =>
        rw [hsp] at HSP HST
        clear hsp
        have HR : TrimRel s (k + wd) u3 u4 := by
          rcases hrel with ⟨h1, h2, h3⟩ | ⟨f, t, h1, h2, h3, h4, h5⟩
          · refine .inl ⟨h1, h2, Lib.hid (fun ha j hj => ?_)⟩
            obtain ⟨e1, e2⟩ := HST.out ha
            by_cases hjk : j = k
            · subst hjk; exact e2.symm
            · exact h3.out ha j (by omega)
          · refine .inr ⟨f, t, h1, h2, h3, by omega, Lib.hid (fun ha => ?_)⟩
            obtain ⟨e1, e2⟩ := HST.out ha
            obtain ⟨a, b, c, d⟩ := h5.out ha
            refine ⟨a, b, c, fun j h1 h2 => ?_⟩
            by_cases hjk : j = k
            · subst hjk; exact e2.symm
            · exact d j h1 (by omega)
        have HR := Lib.hid HR
        clear hrel
        go_wp2_with (first
          | (go_at_call 91; (with_reducible refine (HD.out).mono ?_); rintro e w1 ⟨rfl, hb1⟩; have HB1 := Lib.hid (HB.out.trans (hb1.mono HB.out.size)); clear hb1)
          | (go_at_call 92; (with_reducible refine (HSP.out _).mono ?_); rintro e w2 ⟨rfl, rfl⟩))
        go_roundw
        case rel => exact ⟨k + wd, by go_num, hft, HR.out, HB1⟩
        case measure => simp [intOf]; omega
      | false =>
        rw [hsp] at HSP HST
        clear hsp
        rcases hrel with ⟨rfl, rfl, h3⟩ | ⟨f, t, rfl, rfl, h3, h4, h5⟩
        · have HR : Hid (TrimRel s (k + wd) (.int .i64 (k : Int)) (.int .i64 ((k + wd : Nat) : Int))) := Lib.hid (.inr ⟨k, k + wd, rfl, rfl, by omega, Nat.le_refl _, Lib.hid (fun ha => by
            obtain ⟨e1, e2⟩ := HST.out ha
            subst e1
            exact ⟨h3.out ha, e2.symm, e2.symm, fun j h1 h2 => by omega⟩)⟩)
          go_wp2_with (first
            | (go_at_call 91; (with_reducible refine (HD.out).mono ?_); rintro e w1 ⟨rfl, hb1⟩; have HB1 := Lib.hid (HB.out.trans (hb1.mono HB.out.size)); clear hb1)
            | (go_at_call 92; (with_reducible refine (HSP.out _).mono ?_); rintro e w2 ⟨rfl, rfl⟩))
          go_roundw
          case rel => exact ⟨k + wd, by go_num, hft, by simpa using HR.out, HB1⟩
          case measure => simp [intOf]; omega
        · have HR : Hid (TrimRel s (k + wd) (.int .i64 (f : Int)) (.int .i64 ((k + wd : Nat) : Int))) := Lib.hid (.inr ⟨f, k + wd, rfl, rfl, by omega, Nat.le_refl _, Lib.hid (fun ha => by
            obtain ⟨e1, e2⟩ := HST.out ha
            subst e1
            obtain ⟨a, b, c, d⟩ := h5.out ha
            exact ⟨a, b, e2.symm, fun j h1 h2 => by omega⟩)⟩)
          have hf0 : ¬ (f : Int) < 0 := by omega
          go_wp2_with (first
            | (go_at_call 91; (with_reducible refine (HD.out).mono ?_); rintro e w1 ⟨rfl, hb1⟩; have HB1 := Lib.hid (HB.out.trans (hb1.mono HB.out.size)); clear hb1)
            | (go_at_call 92; (with_reducible refine (HSP.out _).mono ?_); rintro e w2 ⟨rfl, rfl⟩))
          go_roundw
          case rel => exact ⟨k + wd, by go_num, hft, by simpa using HR.out, HB1⟩
          case measure => simp [intOf]; omega
    · have hke : k = s.size := by omega
      have hsl : s.data.toList.length = s.size := by simp
      rcases hrel with ⟨rfl, rfl, h3⟩ | ⟨f, t, rfl, rfl, h3, h4, h5⟩
      · have HR : Hid (Asc s → [] = trimL s.data.toList) := Lib.hid (fun ha => (trim_blank (fun j hj => h3.out ha j (by omega))).symm)
        go_wp2
        go_ret
        exact ⟨⟨_, rfl, Nat.zero_le _, HR.out⟩, HB.out⟩
      · have HR : Hid (Asc s → (s.extract f t).data.toList = trimL s.data.toList) := Lib.hid (fun ha => by
          obtain ⟨a, b, c, d⟩ := h5.out ha
          rw [Lib.extract_data]
          exact (trim_mid h3 (by omega) a b c (fun j h1 h2 => d j h1 (by omega))).symm)
        have hf0 : ¬ (f : Int) < 0 := by omega
        have hft : (f : Int) ≤ (t : Int) := by omega
        have hts : (t : Int) ≤ (s.size : Int) := by omega
        go_wp2
        go_ret
        exact ⟨⟨_, rfl, by simp; omega, HR.out⟩, HB.out⟩
end Go.Proofs.YtmnjmhlodbifjaaGreatDoor.Trim
namespace Go.Proofs.YtmnjmhlodbifjaaGreatDoor.TrimSpec
open Go Go.RowKit Go.Proofs.YtmnjmhlodbifjaaGreatDoor.Mem Go.Proofs.YtmnjmhlodbifjaaGreatDoor.Aid Go.Proofs.YtmnjmhlodbifjaaGreatDoor.Split Go.Proofs.YtmnjmhlodbifjaaGreatDoor.SplitPure Go.Proofs.YtmnjmhlodbifjaaGreatDoor.FieldPure Go.Proofs.YtmnjmhlodbifjaaGreatDoor.PlainPure Go.Proofs.YtmnjmhlodbifjaaGreatDoor.Words Go.Proofs.YtmnjmhlodbifjaaGreatDoor.Trim Go.Proofs.YtmnjmhlodbifjaaGreatDoor.ZoneHead
set_option linter.unusedVariables false
def strSize : Value → Nat
  | .string t => t.size
  | _ => 0
theorem list_cons {t : ByteArray} (h : 0 < t.size) : t.data.toList = t[0] :: (t.extract 1 t.size).data.toList := by
  rw [Lib.extract_to_end]
  have hl : 0 < t.data.toList.length := by simpa using h
  have := List.drop_eq_getElem_cons hl
  rw [List.drop_zero] at this
  rw [this]
  rfl
def Head (l : List UInt8) : Prop := l = [] ∨ ∃ x r, l = x :: r ∧ isSp x = false
theorem nil_of {t : ByteArray} (h : ¬ 0 < t.size) : t.data.toList = [] := List.eq_nil_of_length_eq_zero (by rw [← Lib.size_eq]; omega)
theorem empty_false {t : ByteArray} (h : 0 < t.size) : (t.toList == []) = false ∧ t.toList.isEmpty = false := by
  have : ¬ t.data.toList = [] := by
    intro e
    have : t.data.toList.length = 0 := by rw [e]; rfl
    rw [← Lib.size_eq] at this; omega
  exact ⟨by rw [ByteArray.toList_eq]; simpa using this, by rw [ByteArray.toList_eq]; simpa using this⟩
theorem empty_true {t : ByteArray} (h : ¬ 0 < t.size) : (t.toList == []) = true ∧ t.toList.isEmpty = true := by
  have := nil_of h
  exact ⟨by rw [ByteArray.toList_eq, this]; rfl, by rw [ByteArray.toList_eq, this]; rfl⟩
def noAnswer (l : List UInt8) : Bool := !l.contains 32 && decide (0 < zoneHead l)
end Go.Proofs.YtmnjmhlodbifjaaGreatDoor.TrimSpec
namespace Go.Proofs.YtmnjmhlodbifjaaGreatDoor.Mean
open Go Go.RowKit Go.Proofs.YtmnjmhlodbifjaaGreatDoor.Mem Go.Proofs.YtmnjmhlodbifjaaGreatDoor.Aid Go.Proofs.YtmnjmhlodbifjaaGreatDoor.NumPure Go.Proofs.YtmnjmhlodbifjaaGreatDoor.SplitPure Go.Proofs.YtmnjmhlodbifjaaGreatDoor.FillPure Go.Proofs.YtmnjmhlodbifjaaGreatDoor.PlainPure Go.Proofs.YtmnjmhlodbifjaaGreatDoor.NameRel Go.Proofs.YtmnjmhlodbifjaaGreatDoor.SpecSix Go.Proofs.YtmnjmhlodbifjaaGreatDoor.SpecPlain Go.Proofs.YtmnjmhlodbifjaaGreatDoor.Meaning Go.Proofs.YtmnjmhlodbifjaaGreatDoor.Fields Go.Proofs.YtmnjmhlodbifjaaGreatDoor.Head Go.Proofs.YtmnjmhlodbifjaaGreatDoor.ZoneHead Go.Proofs.YtmnjmhlodbifjaaGreatDoor.ZoneName Go.Proofs.YtmnjmhlodbifjaaGreatDoor.TrimSpec Go.Proofs.YtmnjmhlodbifjaaGreatDoor.ParseP Go.Proofs.YtmnjmhlodbifjaaGreatDoor.ParseCron Go.Proofs.YtmnjmhlodbifjaaGreatDoor.Trim Go.Proofs.YtmnjmhlodbifjaaGreatDoor.DurPure
set_option linter.unusedVariables false
def yearlyB : List UInt8 := [64, 121, 101, 97, 114, 108, 121]
def annuallyB : List UInt8 := [64, 97, 110, 110, 117, 97, 108, 108, 121]
def monthlyB : List UInt8 := [64, 109, 111, 110, 116, 104, 108, 121]
def weeklyB : List UInt8 := [64, 119, 101, 101, 107, 108, 121]
def dailyB : List UInt8 := [64, 100, 97, 105, 108, 121]
def midnightB : List UInt8 := [64, 109, 105, 100, 110, 105, 103, 104, 116]
def hourlyB : List UInt8 := [64, 104, 111, 117, 114, 108, 121]
def everyB : List UInt8 := [64, 101, 118, 101, 114, 121, 32]
def y5 : List UInt8 := [48, 32, 48, 32, 49, 32, 49, 32, 42]
def m5 : List UInt8 := [48, 32, 48, 32, 49, 32, 42, 32, 42]
def w5 : List UInt8 := [48, 32, 48, 32, 42, 32, 42, 32, 48]
def d5 : List UInt8 := [48, 32, 48, 32, 42, 32, 42, 32, 42]
def h5 : List UInt8 := [48, 32, 42, 32, 42, 32, 42, 32, 42]
def fiveOf (l : List UInt8) : List UInt8 :=
  if l = yearlyB ∨ l = annuallyB then y5 else if l = monthlyB then m5 else if l = weeklyB then w5 else if l = dailyB ∨ l = midnightB then d5 else if l = hourlyB then h5 else []
inductive MV where
  | sets (LL : List (List UInt8))
  | every (d : Int)
def delayOf (d : Int) : Int := if d < 1000000000 then 1000000000 else d / 1000000000 * 1000000000
def mvPlain (o : Int) (l : List UInt8) : Option (Option MV) :=
  if foreign l then some none else
  match fillOf o ((words l).map ofL) with
  | none => none
  | some L => if words l = [] then some none else if sixV (L.map fun s => s.data.toList) 6 = 1 then some (some (.sets (L.map fun s => s.data.toList))) else if sixV (L.map fun s => s.data.toList) 6 = 0 then none else some none
def lone (l : List UInt8) : Bool := foreign l || (decide ((words l).length = 1) && decide (((words l).getD 0 []).length < l.length))
def mvDur (r : Option (Option Int)) : Option (Option MV) :=
  match r with
  | none => none
  | some none => some none
  | some (some x) => some (some (.every (delayOf x)))
def mvDesc (l : List UInt8) : Option (Option MV) :=
  if fiveOf l ≠ [] then mvPlain 380 (fiveOf l)
  else if starts everyB l then mvDur (dur (l.drop 7))
  else if lone l then some none else none
def takesAt (o : Int) : Bool := !(Go.bits .and .i64 o 256 == 0)
def mvAll (o : Int) (l : List UInt8) : Option (Option MV) := if starts [64] l then (if takesAt o then mvDesc l else none) else mvPlain o l
def nameOf (l : List UInt8) : List UInt8 := (l.drop (zoneHead l)).takeWhile fun c => c != 32
def restOf (l : List UInt8) : List UInt8 := (l.drop (zoneHead l)).dropWhile fun c => c != 32
def restM (o : Int) (l : List UInt8) : Option (Option MV) := if foreign (trimL (restOf l)) then some none else mvAll o (trimL (restOf l))
def zoned : Option Bool → Option (Option MV) → Option (Option MV)
  | none, _ => none
  | some _, r => r
def mean (o : Int) (l : List UInt8) : Option (Option MV) :=
  if zoneHead l = 0 then (if l = [] then none else mvAll o l)
  else if noAnswer l then some none
  else zoned (zname (nameOf l)) (restM o l)
def utcOf (l : List UInt8) : Bool := if zoneHead l = 0 then false else zname (nameOf l) == some true
theorem six_bad {o : Int} {l : List UInt8} (h : mvPlain o l = none) : foreign l = false ∧ ofWords o (words l) = none := by
  unfold mvPlain at h
  cases hf : foreign l with
  | true => rw [hf] at h; simp at h
  | false =>
    rw [hf] at h
    simp only [Bool.false_eq_true, if_false] at h
    refine ⟨rfl, ?_⟩
    unfold ofWords
    cases hfo : fillOf o ((words l).map ofL) with
    | none => rfl
    | some L =>
      rw [hfo] at h
      dsimp only at h ⊢
      split at h
      · cases h
      · split at h
        · cases h
        · split at h
          · rename_i h6
            exact sixV_bad _ 6 (Nat.le_refl _) h6
          · cases h
theorem six_fine {o : Int} {l : List UInt8} {m : MV} (h : mvPlain o l = some (some m)) : foreign l = false ∧ ∃ LL, m = .sets LL ∧ sixV LL 6 = 1 ∧ ofWords o (words l) = some (numsOf LL 6) := by
  unfold mvPlain at h
  cases hf : foreign l with
  | true => rw [hf] at h; simp at h
  | false =>
    rw [hf] at h
    simp only [Bool.false_eq_true, if_false] at h
    refine ⟨rfl, ?_⟩
    unfold ofWords
    cases hfo : fillOf o ((words l).map ofL) with
    | none => rw [hfo] at h; cases h
    | some L =>
      rw [hfo] at h
      dsimp only at h ⊢
      split at h
      · cases h
      · split at h
        · rename_i h6
          cases h
          exact ⟨_, rfl, h6, (sixV_fine _ 6 (Nat.le_refl _) h6).1⟩
        · split at h
          · cases h
          · cases h
theorem trim_foreign {l : List UInt8} (h : foreign (trimL l) = false) : ∀ b ∈ l, b.toNat < 128 := by
  have hsp : ∀ b : UInt8, isSp b = true → b.toNat < 128 := by
    intro b hb
    unfold isSp at hb
    simp only [Bool.or_eq_true, Bool.and_eq_true, beq_iff_eq, decide_eq_true_eq] at hb
    rcases hb with rfl | ⟨h1, h2⟩
    · decide
    · omega
  have key : ∀ (l : List UInt8), (∀ b ∈ l.dropWhile isSp, b.toNat < 128) → ∀ b ∈ l, b.toNat < 128 := by
    intro l
    induction l with
    | nil => intro _ b hb; cases hb
    | cons c r ih =>
      intro h b hb
      by_cases hc : isSp c = true
      · simp only [List.dropWhile, hc] at h
        rcases List.mem_cons.1 hb with rfl | hb
        · exact hsp _ hc
        · exact ih h b hb
      · have hc : isSp c = false := by simpa using hc
        simp only [List.dropWhile, hc] at h
        exact h b hb
  have h2 := foreign_not h
  refine key l fun b hb => ?_
  refine key (l.dropWhile isSp).reverse (fun c hc => h2 c ?_) b (List.mem_reverse.2 hb)
  unfold trimL
  exact List.mem_reverse.2 hc
end Go.Proofs.YtmnjmhlodbifjaaGreatDoor.Mean
namespace Go.Proofs.YtmnjmhlodbifjaaGreatDoor.Lead
open Go Go.RowKit Go.Proofs.YtmnjmhlodbifjaaGreatDoor.Mem Go.Proofs.YtmnjmhlodbifjaaGreatDoor.Aid Go.Proofs.YtmnjmhlodbifjaaGreatDoor.NumPure Go.Proofs.YtmnjmhlodbifjaaGreatDoor.Float Go.Proofs.YtmnjmhlodbifjaaGreatDoor.DurPure
set_option linter.unusedVariables false
def LeadErr (w : World) : Prop := ∃ T p, w.cell? ⟨4, 0, none⟩ = some (.iface T p)
theorem LeadErr.below {w w' : World} (h : LeadErr w) (hb : Below w.heap.size w w') : LeadErr w' := by
  obtain ⟨T, p, h⟩ := h
  exact ⟨T, p, (hb.cell (p := ⟨4, 0, none⟩) (World.block_lt_of_cell? w _ h)).trans h⟩
theorem take_snoc {s : ByteArray} {k : Nat} (h : k < s.size) : s.data.toList.take (k + 1) = s.data.toList.take k ++ [s[k]] := by
  rw [List.take_add_one, List.getElem?_eq_getElem (by simpa using h)]
  rfl
theorem val_next {s : ByteArray} {k : Nat} (h : k < s.size) : numOf (s.data.toList.take (k + 1)) = 10 * numOf (s.data.toList.take k) + ((s[k]).toNat - 48) := by
  rw [take_snoc h, val_snoc]
theorem digs_val {s : ByteArray} {k : Nat} (hk : k ≤ s.size) (h : ∀ j, j < k → isDig (s.data.toList.getD j 0) = true) : numOf (s.data.toList.take k) < 10 ^ k := by
  have := val_lt (s.data.toList.take k) (fun c hc => by
    obtain ⟨j, hj, rfl⟩ := List.getElem_of_mem hc
    rw [List.length_take] at hj
    have := h j (by omega)
    rw [List.getD_eq_getElem?_getD, List.getElem?_eq_getElem (show j < s.data.toList.length by omega)] at this
    rw [List.getElem_take]
    exact this)
  rwa [List.length_take, Nat.min_eq_left (by simpa using hk)] at this
theorem big {k : Nat} (h : k ≤ 17) : 10 ^ k ≤ 100000000000000000 := Nat.le_trans (Nat.pow_le_pow_right (by decide) h) (by decide)
theorem snoc_digs {s : ByteArray} {k : Nat} (hk : k < s.size) (hd : isDig s[k] = true) (h : ∀ j, j < k → isDig (s.data.toList.getD j 0) = true) : ∀ j, j < k + 1 → isDig (s.data.toList.getD j 0) = true := by
  intro j hj
  by_cases hjk : j = k
  · subst hjk; rw [Words.getD_at s j hk]; exact hd
  · exact h j (by omega)
theorem span_dig {s : ByteArray} {k : Nat} (hk : k ≤ s.size) (h : ∀ j, j < k → isDig (s.data.toList.getD j 0) = true) (he : ∀ h : k < s.size, isDig s[k] = false) : s.data.toList.takeWhile isDig = s.data.toList.take k ∧ s.data.toList.dropWhile isDig = s.data.toList.drop k :=
  span_at (by simpa using hk) h (fun hlt => by
    have hlt : k < s.size := by simpa using hlt
    rw [Words.getD_at s k hlt]
    exact he hlt)
theorem long_digs {s : ByteArray} {k : Nat} (hk : k ≤ s.size) (h : ∀ j, j < k → isDig (s.data.toList.getD j 0) = true) : k ≤ (s.data.toList.takeWhile isDig).length := by
  have key : ∀ (l : List UInt8) (k : Nat), k ≤ l.length → (∀ j, j < k → isDig (l.getD j 0) = true) → k ≤ (l.takeWhile isDig).length := by
    intro l
    induction l with
    | nil => intro k hk _; simpa using hk
    | cons c r ih =>
      intro k hk h
      cases k with
      | zero => omega
      | succ k =>
        have hc := h 0 (by omega)
        simp only [List.getD_cons_zero] at hc
        have := ih k (by simpa using hk) (fun j hj => by have := h (j + 1) (by omega); simpa using this)
        simp [List.takeWhile, hc]
        omega
  exact key _ k (by simpa using hk) h
def LeadRes (l : List UInt8) (e : Ending) : Prop :=
  (∃ t : ByteArray, e = .returned (.tuple #[.int .u64 (numOf (l.takeWhile isDig) : Int), .string t, .nilIface]) ∧ t.data.toList = l.dropWhile isDig ∧ t.size ≤ l.length ∧ numOf (l.takeWhile isDig) ≤ 9223372036854775808) ∨
    (∃ T p x t, e = .returned (.tuple #[x, t, .iface T p]) ∧ 15 < (l.takeWhile isDig).length)
set_option maxHeartbeats 1000000 in
theorem lead_any (s : ByteArray) (w : World) (hs : s.size ≤ 65536) (hv : LeadErr w) :
    Calls Tryz.prog 124 #[.string s] w fun e w' => LeadRes s.data.toList e ∧ Below w.heap.size w w' := by
  obtain ⟨T, p, hc⟩ := hv
  go_enter Tryz.func124, Tryz.ntmps124
  go_wp2
  go_loop [2, 5] (fun xv i => ∃ k x : Nat, i = .int .i64 (k : Int) ∧ xv = .int .u64 (x : Int) ∧ k ≤ s.size ∧ x ≤ 9223372036854775808 ∧ Hid (∀ j, j < k → isDig (s.data.toList.getD j 0) = true) ∧ Hid (x = numOf (s.data.toList.take k))) (fun _ i => s.size - (intOf i).toNat)
  case atStart => exact ⟨0, 0, rfl, rfl, Nat.zero_le _, by omega, Lib.hid (fun j hj => by omega), Lib.hid rfl⟩
  case round =>
    obtain ⟨k, x, rfl, rfl, hk, hx, HD, HX⟩ := hrel
    by_cases hlt : k < s.size
    · have hki : (k : Int) < (s.size : Int) := by omega
      cases hd : isDig s[k] with
      | false =>
        obtain ⟨e1, e2⟩ := span_dig hk HD.out (fun _ => hd)
        have HR : Hid (LeadRes s.data.toList (.returned (.tuple #[.int .u64 (x : Int), .string (s.extract k s.size), .nilIface]))) := Lib.hid (.inl ⟨_, by rw [e1, ← HX.out], by rw [e2]; exact Lib.extract_to_end s k, by simp, by rw [e1, ← HX.out]; exact hx⟩)
        have hks : (k : Int) ≤ (s.size : Int) := by omega
        by_cases h48 : (s[k]).toNat < 48
        · have h1 : ((s[k]).toNat : Int) < 48 := by omega
          clear e1 e2 hd
          go_wp2
          go_quiet (fail)
          go_wp2
          refine bodyPost_ret (results_tmp3 (t := 2) (u := 3) (v := 4) rfl _ _ _) rfl ?_
          exact ⟨HR.out, drewNd (Below.refl _ _) _⟩
        · have h1 : ¬ ((s[k]).toNat : Int) < 48 := by omega
          have h2 : (57 : Int) < ((s[k]).toNat : Int) := by
            have : ¬ (48 ≤ (s[k]).toNat ∧ (s[k]).toNat ≤ 57) := fun h => by rw [(isDig_iff _).2 h] at hd; cases hd
            omega
          clear e1 e2 hd
          go_wp2
          go_quiet (fail)
          go_wp2
          refine bodyPost_ret (results_tmp3 (t := 2) (u := 3) (v := 4) rfl _ _ _) rfl ?_
          exact ⟨HR.out, drewNd (Below.refl _ _) _⟩
      | true =>
        obtain ⟨d1, d2⟩ := (isDig_iff _).1 hd
        have h1 : ¬ ((s[k]).toNat : Int) < 48 := by omega
        have h2 : ¬ (57 : Int) < ((s[k]).toNat : Int) := by omega
        have HD2 := Lib.hid (snoc_digs hlt hd HD.out)
        have HL := Lib.hid (long_digs (k := k + 1) (by omega) HD2.out)
        have HV := Lib.hid (digs_val (k := k + 1) (by omega) HD2.out)
        have HV0 := Lib.hid (digs_val hk HD.out)
        have HN := Lib.hid (val_next hlt)
        have hc2 : (s[k]).toNat < 256 := (s[k]).toNat_lt
        clear hd
        by_cases hb : x ≤ 922337203685477580
        · have hb2 : ¬ (922337203685477580 : Int) < (x : Int) := by omega
          have hxx : (x : Int) * 10 + ((s[k]).toNat : Int) - 48 = ((10 * x + ((s[k]).toNat - 48) : Nat) : Int) := by omega
          by_cases hb3 : 10 * x + ((s[k]).toNat - 48) ≤ 9223372036854775808
          · have hb4 : ¬ (9223372036854775808 : Int) < (x : Int) * 10 + ((s[k]).toNat : Int) - 48 := by omega
            go_wp2
            go_round
            case rel => exact ⟨k + 1, 10 * x + ((s[k]).toNat - 48), by go_num, congrArg (Value.int IntKind.u64) (by omega), by omega, hb3, HD2, Lib.hid (by rw [HN.out, ← HX.out])⟩
            case measure => simp [intOf]; omega
          · have hb4 : (9223372036854775808 : Int) < (x : Int) * 10 + ((s[k]).toNat : Int) - 48 := by omega
            have HE : Hid (15 < (s.data.toList.takeWhile isDig).length) := Lib.hid (by
              rcases Nat.lt_or_ge 17 (k + 1) with h | h
              · have := HL.out; omega
              · have a := HV.out
                have b := big h
                rw [HN.out, ← HX.out] at a
                omega)
            go_wp2
            go_quiet (fail)
            go_wp2
            refine bodyPost_ret (results_tmp3 (t := 2) (u := 3) (v := 4) rfl _ _ _) rfl ?_
            exact ⟨.inr ⟨_, _, _, _, rfl, HE.out⟩, drewNd (Below.refl _ _) _⟩
        · have hb2 : (922337203685477580 : Int) < (x : Int) := by omega
          have HE : Hid (15 < (s.data.toList.takeWhile isDig).length) := Lib.hid (by
            rcases Nat.lt_or_ge 17 k with h | h
            · have := HL.out; omega
            · have a := HV0.out
              have b := big h
              rw [← HX.out] at a
              omega)
          go_wp2
          go_quiet (fail)
          go_wp2
          refine bodyPost_ret (results_tmp3 (t := 2) (u := 3) (v := 4) rfl _ _ _) rfl ?_
          exact ⟨.inr ⟨_, _, _, _, rfl, HE.out⟩, drewNd (Below.refl _ _) _⟩
    · obtain ⟨e1, e2⟩ := span_dig hk HD.out (fun h => absurd h hlt)
      have HR : Hid (LeadRes s.data.toList (.returned (.tuple #[.int .u64 (x : Int), .string (s.extract k s.size), .nilIface]))) := Lib.hid (.inl ⟨_, by rw [e1, ← HX.out], by rw [e2]; exact Lib.extract_to_end s k, by simp, by rw [e1, ← HX.out]; exact hx⟩)
      have hks : (k : Int) ≤ (s.size : Int) := by omega
      clear e1 e2
      go_wp2
      go_quiet (fail)
      go_wp2
      refine bodyPost_ret (results_tmp3 (t := 2) (u := 3) (v := 4) rfl _ _ _) rfl ?_
      exact ⟨HR.out, drewNd (Below.refl _ _) _⟩
def FracRes (l : List UInt8) (e : Ending) : Prop :=
  ∃ (x sc : Nat) (t : ByteArray), e = .returned (.tuple #[.int .u64 (x : Int), .float .f64 sc, .string t]) ∧ t.data.toList = l.dropWhile isDig ∧ t.size ≤ l.length ∧ x ≤ 9223372036854775808 ∧
    ((l.takeWhile isDig).length ≤ 11 → x = numOf (l.takeWhile isDig) ∧ sc = fl (10 ^ (l.takeWhile isDig).length))
theorem ten_next {k : Nat} (h : k < 11) : ∀ W : World, (binOp .mul 196 (.float .f64 (fl (10 ^ k))) (.float .f64 4621819117588971520)).run Tryz.prog W = .ok (.float .f64 (fl (10 ^ (k + 1)))) W := fun W => by
  refine run_float_arith W .mul 196 .f64 _ _ _ ?_
  show Ieee.double.mul (fl (10 ^ k)) 4621819117588971520 = some (fl (10 ^ (k + 1)))
  rw [← fl_ten, Nat.pow_succ]
  refine mul_exact (Nat.pow_pos (by decide)) (by decide) ?_
  have := big (k := k + 1) (by omega)
  have h2 : 10 ^ (k + 1) ≤ 10 ^ 11 := Nat.pow_le_pow_right (by decide) (by omega)
  rw [← Nat.pow_succ]
  exact Nat.lt_of_le_of_lt h2 (by decide)
set_option maxHeartbeats 2000000 in
theorem frac_any (s : ByteArray) (w : World) (hs : s.size ≤ 65536) :
    Calls Tryz.prog 125 #[.string s] w fun e w' => FracRes s.data.toList e ∧ Below w.heap.size w w' := by
  go_enter Tryz.func125, Tryz.ntmps125
  go_wp2
  go_loopw [2, 3, 5, 6] (fun xv sv i ov wr => ∃ (k x sc : Nat) (o : Bool), i = .int .i64 (k : Int) ∧ xv = .int .u64 (x : Int) ∧ sv = .float .f64 sc ∧ ov = .bool o ∧ k ≤ s.size ∧ x ≤ 9223372036854775808 ∧ Hid (∀ j, j < k → isDig (s.data.toList.getD j 0) = true) ∧ Hid (k ≤ 11 → o = false ∧ x = numOf (s.data.toList.take k) ∧ sc = fl (10 ^ k)) ∧ Hid (Below w.heap.size w wr)) (fun _ _ i _ _ => s.size - (intOf i).toNat)
  case atStart => exact ⟨0, 0, _, false, rfl, rfl, rfl, rfl, Nat.zero_le _, by omega, Lib.hid (fun j hj => by omega), Lib.hid (fun _ => ⟨rfl, rfl, fl_one.symm⟩), Lib.hid (Below.refl _ _)⟩
  case round =>
    obtain ⟨k, x, sc, o, rfl, rfl, rfl, rfl, hk, hx, HD, HX, HB⟩ := hrel
    have HR : (∀ h : k < s.size, isDig s[k] = false) → Hid (FracRes s.data.toList (.returned (.tuple #[.int .u64 (x : Int), .float .f64 sc, .string (s.extract k s.size)]))) := fun he => Lib.hid (by
      obtain ⟨e1, e2⟩ := span_dig hk HD.out he
      refine ⟨x, sc, _, rfl, by rw [e2]; exact Lib.extract_to_end s k, by simp, hx, fun h => ?_⟩
      rw [e1, List.length_take, Nat.min_eq_left (by simpa using hk)] at h
      rw [e1, List.length_take, Nat.min_eq_left (by simpa using hk)]
      exact (HX.out h).2)
    have hks : (k : Int) ≤ (s.size : Int) := by omega
    by_cases hlt : k < s.size
    · have hki : (k : Int) < (s.size : Int) := by omega
      cases hd : isDig s[k] with
      | false =>
        have HR := HR (fun _ => hd)
        by_cases h48 : (s[k]).toNat < 48
        · have h1 : ((s[k]).toNat : Int) < 48 := by omega
          clear hd
          go_wp2
          go_quiet (fail)
          go_wp2
          refine bodyPost_ret (results_tmp3 (t := 2) (u := 3) (v := 4) rfl _ _ _) rfl ?_
          exact ⟨HR.out, drewNd HB.out _⟩
        · have h1 : ¬ ((s[k]).toNat : Int) < 48 := by omega
          have h2 : (57 : Int) < ((s[k]).toNat : Int) := by
            have : ¬ (48 ≤ (s[k]).toNat ∧ (s[k]).toNat ≤ 57) := fun h => by rw [(isDig_iff _).2 h] at hd; cases hd
            omega
          clear hd
          go_wp2
          go_quiet (fail)
          go_wp2
          refine bodyPost_ret (results_tmp3 (t := 2) (u := 3) (v := 4) rfl _ _ _) rfl ?_
          exact ⟨HR.out, drewNd HB.out _⟩
      | true =>
        clear HR
        obtain ⟨d1, d2⟩ := (isDig_iff _).1 hd
        have h1 : ¬ ((s[k]).toNat : Int) < 48 := by omega
        have h2 : ¬ (57 : Int) < ((s[k]).toNat : Int) := by omega
        have HD2 := Lib.hid (snoc_digs hlt hd HD.out)
        have HV0 := Lib.hid (digs_val hk HD.out)
        have HN := Lib.hid (val_next hlt)
        have hc2 : (s[k]).toNat < 256 := (s[k]).toNat_lt
        clear hd
        have hxx : (x : Int) * 10 + ((s[k]).toNat : Int) - 48 = ((10 * x + ((s[k]).toNat - 48) : Nat) : Int) := by omega
        by_cases hk10 : k < 11
        · obtain ⟨rfl, hx2, rfl⟩ := HX.out (by omega)
          have hxs : x ≤ 100000000000000000 := by
            have a := HV0.out
            have b := big (k := k) (by omega)
            omega
          obtain ⟨sc1, hsc1⟩ : ∃ sc1, fl (10 ^ (k + 1)) = sc1 := ⟨_, rfl⟩
          have HX2 : Hid (k + 1 ≤ 11 → false = false ∧ 10 * x + ((s[k]).toNat - 48) = numOf (s.data.toList.take (k + 1)) ∧ sc1 = fl (10 ^ (k + 1))) := Lib.hid (fun _ => ⟨rfl, by rw [HN.out, ← hx2], hsc1.symm⟩)
          have hm := ten_next hk10
          rw [hsc1] at hm
          clear hx2 HX hsc1
          generalize fl (10 ^ k) = sc0 at hm ⊢
          have hb2 : ¬ (922337203685477580 : Int) < (x : Int) := by omega
          have hb4 : ¬ (9223372036854775808 : Int) < (x : Int) * 10 + ((s[k]).toNat : Int) - 48 := by omega
          go_wp2
          go_roundw
          case rel => exact ⟨k + 1, 10 * x + ((s[k]).toNat - 48), sc1, false, by go_num, congrArg (Value.int IntKind.u64) (by omega), rfl, rfl, by omega, by omega, HD2, HX2, HB⟩
          case measure => simp [intOf]; omega
        · have HX2 : ∀ (x sc : Nat) (o : Bool), Hid (k + 1 ≤ 11 → o = false ∧ x = numOf (s.data.toList.take (k + 1)) ∧ sc = fl (10 ^ (k + 1))) := fun _ _ _ => Lib.hid (fun h => by omega)
          clear HX
          cases o with
          | true =>
            go_wp2
            go_roundw
            case rel => exact ⟨k + 1, x, sc, true, by go_num, rfl, rfl, rfl, by omega, hx, HD2, HX2 _ _ _, HB⟩
            case measure => simp [intOf]; omega
          | false =>
            by_cases hb : x ≤ 922337203685477580
            · have hb2 : ¬ (922337203685477580 : Int) < (x : Int) := by omega
              by_cases hb3 : 10 * x + ((s[k]).toNat - 48) ≤ 9223372036854775808
              · have hb4 : ¬ (9223372036854775808 : Int) < (x : Int) * 10 + ((s[k]).toNat : Int) - 48 := by omega
                obtain ⟨b, n, hm⟩ := arith_gen Tryz.prog .mul (.inl rfl) 196 sc 4621819117588971520 wr
                go_wp2
                go_roundw
                case rel => exact ⟨k + 1, 10 * x + ((s[k]).toNat - 48), b, false, by go_num, congrArg (Value.int IntKind.u64) (by omega), rfl, rfl, by omega, hb3, HD2, HX2 _ _ _, Lib.hid (drewNd HB.out _)⟩
                case measure => simp [intOf]; omega
              · have hb4 : (9223372036854775808 : Int) < (x : Int) * 10 + ((s[k]).toNat : Int) - 48 := by omega
                go_wp2
                go_roundw
                case rel => exact ⟨k + 1, x, sc, true, by go_num, rfl, rfl, rfl, by omega, hx, HD2, HX2 _ _ _, HB⟩
                case measure => simp [intOf]; omega
            · have hb2 : (922337203685477580 : Int) < (x : Int) := by omega
              go_wp2
              go_roundw
              case rel => exact ⟨k + 1, x, sc, true, by go_num, rfl, rfl, rfl, by omega, hx, HD2, HX2 _ _ _, HB⟩
              case measure => simp [intOf]; omega
    · have HR := HR (fun h => absurd h hlt)
      go_wp2
      go_quiet (fail)
      go_wp2
      refine bodyPost_ret (results_tmp3 (t := 2) (u := 3) (v := 4) rfl _ _ _) rfl ?_
      exact ⟨HR.out, drewNd HB.out _⟩
end Go.Proofs.YtmnjmhlodbifjaaGreatDoor.Lead
