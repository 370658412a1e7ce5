/- cron's zzTrimSpace and the reference's CronTrim. Conditions: texts of at most 65536 bytes, the tables of package unicode/utf8 as laid. · The reference's CronTrim and CronNoAnswer. Conditions: texts of at most 65536 bytes. · What a cron text means, as a plain law: the sets or the delay, and how the code's reading goes with the reference's. Conditions: none. -/
import Derived.Test.YtmnjmhlodbifjaaGreatDoorQ17
import Derived.Test.YtmnjmhlodbifjaaGreatDoorQ2
import Derived.Test.YtmnjmhlodbifjaaGreatDoorQ6
import Derived.Test.YtmnjmhlodbifjaaGreatDoorQ18
import Derived.Test.YtmnjmhlodbifjaaGreatDoorQ20

namespace Go.Proofs.YtmnjmhlodbifjaaGreatDoor.Trim
open Go Go.RowKit Go.Proofs.YtmnjmhlodbifjaaGreatDoor.Mem Go.Proofs.YtmnjmhlodbifjaaGreatDoor.Aid Go.Proofs.YtmnjmhlodbifjaaGreatDoor.Split Go.Proofs.YtmnjmhlodbifjaaGreatDoor.SplitPure Go.Proofs.YtmnjmhlodbifjaaGreatDoor.FieldPure Go.Proofs.YtmnjmhlodbifjaaGreatDoor.Lower Go.Proofs.YtmnjmhlodbifjaaGreatDoor.PlainPure Go.Proofs.YtmnjmhlodbifjaaGreatDoor.Words Go.Proofs.YtmnjmhlodbifjaaGreatDoor.WordsU
set_option linter.unusedVariables false
def trimL (l : List UInt8) : List UInt8 := ((l.dropWhile isSp).reverse.dropWhile isSp).reverse
theorem drop_all {a c : List UInt8} (h : ∀ x ∈ a, isSp x = true) : (a ++ c).dropWhile isSp = c.dropWhile isSp := by
  induction a with
  | nil => rfl
  | cons x r ih =>
    have hx := h x (by simp)
    have := ih (fun y hy => h y (by simp [hy]))
    simpa [List.dropWhile, hx] using this
theorem drop_none {x : UInt8} {r : List UInt8} (h : isSp x = false) : (x :: r).dropWhile isSp = x :: r := by simp [List.dropWhile, h]
theorem trim_nil {a : List UInt8} (h : ∀ x ∈ a, isSp x = true) : trimL a = [] := by
  unfold trimL
  have : (a ++ []).dropWhile isSp = [] := drop_all h
  rw [List.append_nil] at this
  rw [this]
  rfl
theorem trim_parts {a b c : List UInt8} {x y : UInt8} {r q : List UInt8} (ha : ∀ z ∈ a, isSp z = true) (hc : ∀ z ∈ c, isSp z = true) (hx : b = x :: r) (hx2 : isSp x = false) (hy : b = q ++ [y]) (hy2 : isSp y = false) : trimL (a ++ b ++ c) = b := by
  unfold trimL
  rw [List.append_assoc, drop_all ha]
  rw [show (b ++ c).dropWhile isSp = b ++ c by rw [hx]; exact drop_none hx2]
  rw [List.reverse_append, drop_all (by simpa using hc)]
  rw [show b.reverse.dropWhile isSp = b.reverse by rw [hy, List.reverse_append]; exact drop_none hy2]
  exact List.reverse_reverse b
theorem trim_head {x : UInt8} {l : List UInt8} (h : isSp x = true) : trimL (x :: l) = trimL l := by
  unfold trimL
  rw [show (x :: l).dropWhile isSp = l.dropWhile isSp by simp [List.dropWhile, h]]
theorem trim_last {y : UInt8} {l : List UInt8} (h : isSp y = true) (hl : l = [] ∨ ∃ x r, l = x :: r ∧ isSp x = false) : trimL (l ++ [y]) = trimL l := by
  rcases hl with rfl | ⟨x, r, rfl, hx⟩
  · rw [trim_nil (a := []) (by simp)]
    exact trim_nil (by simpa using h)
  · unfold trimL
    rw [List.cons_append, drop_none hx, drop_none hx, ← List.cons_append, List.reverse_append]
    rw [drop_all (a := [y].reverse) (by simpa using h)]
theorem trim_same {l q r : List UInt8} {x y : UInt8} (hx : l = x :: r) (hx2 : isSp x = false) (hy : l = q ++ [y]) (hy2 : isSp y = false) : trimL l = l := by
  have := trim_parts (a := []) (c := []) (by simp) (by simp) hx hx2 hy hy2
  simpa using this
theorem getD_split {l : List UInt8} {f t : Nat} (hf : f < t) (ht : t ≤ l.length) : ∃ r q, (l.drop f).take (t - f) = l.getD f 0 :: r ∧ (l.drop f).take (t - f) = q ++ [l.getD (t - 1) 0] := by
  refine ⟨(l.drop (f + 1)).take (t - f - 1), (l.drop f).take (t - f - 1), ?_, ?_⟩
  · rw [List.drop_eq_getElem_cons (show f < l.length by omega), show t - f = (t - f - 1) + 1 by omega, List.take_succ_cons]
    rw [List.getD_eq_getElem?_getD, List.getElem?_eq_getElem (show f < l.length by omega)]
    simp
  · have : t - f = (t - f - 1) + 1 := by omega
    conv => lhs; rw [this]
    rw [List.take_add_one]
    congr 1
    rw [List.getElem?_drop, show f + (t - f - 1) = t - 1 by omega, List.getD_eq_getElem?_getD, List.getElem?_eq_getElem (show t - 1 < l.length by omega)]
    rfl
theorem trim_mid {l : List UInt8} {f t : Nat} (hf : f < t) (ht : t ≤ l.length) (h1 : ∀ j, j < f → isSp (l.getD j 0) = true) (h2 : isSp (l.getD f 0) = false) (h3 : isSp (l.getD (t - 1) 0) = false) (h4 : ∀ j, t ≤ j → j < l.length → isSp (l.getD j 0) = true) : trimL l = (l.drop f).take (t - f) := by
  obtain ⟨r, q, e1, e2⟩ := getD_split hf ht
  have hl : l = l.take f ++ (l.drop f).take (t - f) ++ l.drop t := by
    have a : (l.drop f).take (t - f) ++ l.drop t = l.drop f := by
      have := List.take_append_drop (t - f) (l.drop f)
      rw [List.drop_drop, show f + (t - f) = t by omega] at this
      exact this
    rw [List.append_assoc, a, List.take_append_drop]
  conv => lhs; rw [hl]
  refine trim_parts ?_ ?_ e1 h2 e2 h3
  · intro z hz
    obtain ⟨j, hj, rfl⟩ := List.getElem_of_mem hz
    rw [List.length_take] at hj
    have := h1 j (by omega)
    rw [List.getD_eq_getElem?_getD, List.getElem?_eq_getElem (show j < l.length by omega)] at this
    rw [List.getElem_take]
    exact this
  · intro z hz
    obtain ⟨j, hj, rfl⟩ := List.getElem_of_mem hz
    rw [List.length_drop] at hj
    have := h4 (t + j) (by omega) (by omega)
    rw [List.getD_eq_getElem?_getD, List.getElem?_eq_getElem (show t + j < l.length by omega)] at this
    rw [List.getElem_drop]
    exact this
theorem trim_blank {l : List UInt8} (h1 : ∀ j, j < l.length → isSp (l.getD j 0) = true) : trimL l = [] := by
  refine trim_nil ?_
  intro z hz
  obtain ⟨j, hj, rfl⟩ := List.getElem_of_mem hz
  have := h1 j hj
  rw [List.getD_eq_getElem?_getD, List.getElem?_eq_getElem hj] at this
  exact this
def Asc (s : ByteArray) : Prop := ∀ b ∈ s.data.toList, b.toNat < 128
theorem Asc.at {s : ByteArray} (h : Asc s) (k : Nat) (hk : k < s.size) : (s[k]).toNat < 128 := by
  refine h _ ?_
  rw [← Words.getD_at s k hk, List.getD_eq_getElem?_getD, List.getElem?_eq_getElem (by simpa using hk)]
  exact List.getElem_mem _
theorem step_asc {s : ByteArray} (h : Asc s) (k : Nat) (hk : k < s.size) : (Utf8.decode s k).2 = 1 ∧ spaceR (Utf8.decode s k).1 = isSp (s.data.toList.getD k 0) := by
  have hb := h.at k hk
  rw [decode_ascii s k hk hb]
  exact ⟨rfl, by rw [Words.getD_at s k hk]; exact space_ascii _ hb⟩
theorem decode_tail (s : ByteArray) (pos : Nat) (h : pos < s.size) : Lib.decodeGo (s.extract pos s.size) = Utf8.decode s pos := by
  have hx := Lib.extract_to_end s pos
  have hsz : (s.extract pos s.size).size ≠ 0 := by rw [Lib.size_eq, hx, List.length_drop, ← Lib.size_eq]; omega
  unfold Lib.decodeGo
  rw [if_neg hsz, ← Lib.decodeL_drop s pos, ← hx]
  rfl
theorem fits (s : ByteArray) (pos : Nat) (h : pos < s.size) : pos + (Utf8.decode s pos).2 ≤ s.size := by
  have := Lib.decodeGo_le_size (s.extract pos s.size)
  rw [decode_tail s pos h] at this
  simp at this
  omega
def Mid (l : List UInt8) (f t k : Nat) : Prop := (∀ j, j < f → isSp (l.getD j 0) = true) ∧ isSp (l.getD f 0) = false ∧ isSp (l.getD (t - 1) 0) = false ∧ ∀ j, t ≤ j → j < k → isSp (l.getD j 0) = true
def TrimRel (s : ByteArray) (k : Nat) (fr tv : Value) : Prop :=
  (fr = .int .i64 (-1) ∧ tv = .int .i64 0 ∧ Hid (Asc s → ∀ j, j < k → isSp (s.data.toList.getD j 0) = true)) ∨ ∃ f t : Nat, fr = .int .i64 (f : Int) ∧ tv = .int .i64 (t : Int) ∧ f < t ∧ t ≤ k ∧ Hid (Asc s → Mid s.data.toList f t k)
def TrimRes (s : ByteArray) (e : Ending) : Prop := ∃ t : ByteArray, e = .returned (.string t) ∧ t.size ≤ s.size ∧ (Asc s → t.data.toList = trimL s.data.toList)
set_option maxHeartbeats 1000000 in
theorem trim_any (s : ByteArray) (w : World) (hs : s.size ≤ 65536) (hT : Lib.Utf8Tabs 2 3 w) :
    Calls Tryz.prog 57 #[.string s] w fun e w' => TrimRes s e ∧ Below w.heap.size w w' := by
  have HT := Lib.hid hT
  clear hT
  go_enter Tryz.func57, Tryz.ntmps57
  go_wp2
  go_loopw [3, 4, 5] (fun fr tv i wr => ∃ k : Nat, i = .int .i64 (k : Int) ∧ k ≤ s.size ∧ TrimRel s k fr tv ∧ Hid (Below w.heap.size w wr)) (fun _ _ i _ => s.size - (intOf i).toNat)
  case atStart => exact ⟨0, rfl, Nat.zero_le _, .inl ⟨rfl, rfl, Lib.hid (fun _ j hj => by omega)⟩, Lib.hid (Below.refl _ w)⟩
  case round =>
    obtain ⟨k, rfl, hk, hrel, HB⟩ := hrel
    by_cases hlt : k < s.size
    · have hki : (k : Int) < (s.size : Int) := by omega
      have hwd := Lib.decode_width_pos s k hlt
      have hrl := decode_le s k
      have hft := fits s k hlt
      have HST := Lib.hid (fun h : Asc s => step_asc h k hlt)
      have HD : Hid (Calls Tryz.prog 91 #[.string (s.extract k s.size)] wr fun e w' => e = .returned (.tuple #[.int .i32 ((Utf8.decode s k).1 : Int), .int .i64 ((Utf8.decode s k).2 : Int)]) ∧ Below wr.heap.size wr w') := Lib.hid (by
        have := Tryz.utf8_DecodeRuneInString (s.extract k s.size) wr (Go.Proofs.Utf8Tabs_below HT.out HB.out)
        rwa [decode_tail s k hlt] at this)
      have HSP := Lib.hid (fun w1 => space_all (Utf8.decode s k).1 w1 hrl)
      obtain ⟨d, hd⟩ : ∃ d, Utf8.decode s k = d := ⟨_, rfl⟩
      obtain ⟨r, wd⟩ := d
      rw [hd] at hwd hrl hft HST HD HSP
      dsimp only at hwd hrl hft HST HD HSP
      clear hd
      cases hsp : spaceR r with
      | true =>
        rw [hsp] at HSP HST
        clear hsp
        have HR : TrimRel s (k + wd) u3 u4 := by
          rcases hrel with ⟨h1, h2, h3⟩ | ⟨f, t, h1, h2, h3, h4, h5⟩
          · refine .inl ⟨h1, h2, Lib.hid (fun ha j hj => ?_)⟩
            obtain ⟨e1, e2⟩ := HST.out ha
            by_cases hjk : j = k
            · subst hjk; exact e2.symm
            · exact h3.out ha j (by omega)
          · refine .inr ⟨f, t, h1, h2, h3, by omega, Lib.hid (fun ha => ?_)⟩
            obtain ⟨e1, e2⟩ := HST.out ha
            obtain ⟨a, b, c, d⟩ := h5.out ha
            refine ⟨a, b, c, fun j h1 h2 => ?_⟩
            by_cases hjk : j = k
            · subst hjk; exact e2.symm
            · exact d j h1 (by omega)
        have HR := Lib.hid HR
        clear hrel
        go_wp2_with (first
          | (go_at_call 91; (with_reducible refine (HD.out).mono ?_); rintro e w1 ⟨rfl, hb1⟩; have HB1 := Lib.hid (HB.out.trans (hb1.mono HB.out.size)); clear hb1)
          | (go_at_call 92; (with_reducible refine (HSP.out _).mono ?_); rintro e w2 ⟨rfl, rfl⟩))
        go_roundw
        case rel => exact ⟨k + wd, by go_num, hft, HR.out, HB1⟩
        case measure => simp [intOf]; omega
      | false =>
        rw [hsp] at HSP HST
        clear hsp
        rcases hrel with ⟨rfl, rfl, h3⟩ | ⟨f, t, rfl, rfl, h3, h4, h5⟩
        · have HR : Hid (TrimRel s (k + wd) (.int .i64 (k : Int)) (.int .i64 ((k + wd : Nat) : Int))) := Lib.hid (.inr ⟨k, k + wd, rfl, rfl, by omega, Nat.le_refl _, Lib.hid (fun ha => by
            obtain ⟨e1, e2⟩ := HST.out ha
            subst e1
            exact ⟨h3.out ha, e2.symm, e2.symm, fun j h1 h2 => by omega⟩)⟩)
          go_wp2_with (first
            | (go_at_call 91; (with_reducible refine (HD.out).mono ?_); rintro e w1 ⟨rfl, hb1⟩; have HB1 := Lib.hid (HB.out.trans (hb1.mono HB.out.size)); clear hb1)
            | (go_at_call 92; (with_reducible refine (HSP.out _).mono ?_); rintro e w2 ⟨rfl, rfl⟩))
          go_roundw
          case rel => exact ⟨k + wd, by go_num, hft, by simpa using HR.out, HB1⟩
          case measure => simp [intOf]; omega
        · have HR : Hid (TrimRel s (k + wd) (.int .i64 (f : Int)) (.int .i64 ((k + wd : Nat) : Int))) := Lib.hid (.inr ⟨f, k + wd, rfl, rfl, by omega, Nat.le_refl _, Lib.hid (fun ha => by
            obtain ⟨e1, e2⟩ := HST.out ha
            subst e1
            obtain ⟨a, b, c, d⟩ := h5.out ha
            exact ⟨a, b, e2.symm, fun j h1 h2 => by omega⟩)⟩)
          have hf0 : ¬ (f : Int) < 0 := by omega
          go_wp2_with (first
            | (go_at_call 91; (with_reducible refine (HD.out).mono ?_); rintro e w1 ⟨rfl, hb1⟩; have HB1 := Lib.hid (HB.out.trans (hb1.mono HB.out.size)); clear hb1)
            | (go_at_call 92; (with_reducible refine (HSP.out _).mono ?_); rintro e w2 ⟨rfl, rfl⟩))
          go_roundw
          case rel => exact ⟨k + wd, by go_num, hft, by simpa using HR.out, HB1⟩
          case measure => simp [intOf]; omega
    · have hke : k = s.size := by omega
      have hsl : s.data.toList.length = s.size := by simp
      rcases hrel with ⟨rfl, rfl, h3⟩ | ⟨f, t, rfl, rfl, h3, h4, h5⟩
      · have HR : Hid (Asc s → [] = trimL s.data.toList) := Lib.hid (fun ha => (trim_blank (fun j hj => h3.out ha j (by omega))).symm)
        go_wp2
        go_ret
        exact ⟨⟨_, rfl, Nat.zero_le _, HR.out⟩, HB.out⟩
      · have HR : Hid (Asc s → (s.extract f t).data.toList = trimL s.data.toList) := Lib.hid (fun ha => by
          obtain ⟨a, b, c, d⟩ := h5.out ha
          rw [Lib.extract_data]
          exact (trim_mid h3 (by omega) a b c (fun j h1 h2 => d j h1 (by omega))).symm)
        have hf0 : ¬ (f : Int) < 0 := by omega
        have hft : (f : Int) ≤ (t : Int) := by omega
        have hts : (t : Int) ≤ (s.size : Int) := by omega
        go_wp2
        go_ret
        exact ⟨⟨_, rfl, by simp; omega, HR.out⟩, HB.out⟩
end Go.Proofs.YtmnjmhlodbifjaaGreatDoor.Trim
namespace Go.Proofs.YtmnjmhlodbifjaaGreatDoor.TrimSpec
open Go Go.RowKit Go.Proofs.YtmnjmhlodbifjaaGreatDoor.Mem Go.Proofs.YtmnjmhlodbifjaaGreatDoor.Aid Go.Proofs.YtmnjmhlodbifjaaGreatDoor.Split Go.Proofs.YtmnjmhlodbifjaaGreatDoor.SplitPure Go.Proofs.YtmnjmhlodbifjaaGreatDoor.FieldPure Go.Proofs.YtmnjmhlodbifjaaGreatDoor.PlainPure Go.Proofs.YtmnjmhlodbifjaaGreatDoor.Words Go.Proofs.YtmnjmhlodbifjaaGreatDoor.Trim Go.Proofs.YtmnjmhlodbifjaaGreatDoor.ZoneHead
set_option linter.unusedVariables false
def strSize : Value → Nat
  | .string t => t.size
  | _ => 0
theorem list_cons {t : ByteArray} (h : 0 < t.size) : t.data.toList = t[0] :: (t.extract 1 t.size).data.toList := by
  rw [Lib.extract_to_end]
  have hl : 0 < t.data.toList.length := by simpa using h
  have := List.drop_eq_getElem_cons hl
  rw [List.drop_zero] at this
  rw [this]
  rfl
theorem list_snoc {t : ByteArray} (h : 0 < t.size) : t.data.toList = (t.extract 0 (t.size - 1)).data.toList ++ [t[t.size - 1]] := by
  rw [Lib.extract_data, List.drop_zero]
  have hl : t.size - 1 < t.data.toList.length := by simp; omega
  have h1 : t.data.toList.take (t.size - 1) ++ t.data.toList.drop (t.size - 1) = t.data.toList := List.take_append_drop _ _
  have h2 : t.data.toList.drop (t.size - 1 + 1) = [] := List.drop_of_length_le (by rw [← Lib.size_eq]; omega)
  rw [List.drop_eq_getElem_cons hl, h2] at h1
  conv => lhs; rw [← h1]
  rw [show t.size - 1 - 0 = t.size - 1 by omega]
  rfl
def Head (l : List UInt8) : Prop := l = [] ∨ ∃ x r, l = x :: r ∧ isSp x = false
theorem nil_of {t : ByteArray} (h : ¬ 0 < t.size) : t.data.toList = [] := List.eq_nil_of_length_eq_zero (by rw [← Lib.size_eq]; omega)
theorem empty_false {t : ByteArray} (h : 0 < t.size) : (t.toList == []) = false ∧ t.toList.isEmpty = false := by
  have : ¬ t.data.toList = [] := by
    intro e
    have : t.data.toList.length = 0 := by rw [e]; rfl
    rw [← Lib.size_eq] at this; omega
  exact ⟨by rw [ByteArray.toList_eq]; simpa using this, by rw [ByteArray.toList_eq]; simpa using this⟩
theorem empty_true {t : ByteArray} (h : ¬ 0 < t.size) : (t.toList == []) = true ∧ t.toList.isEmpty = true := by
  have := nil_of h
  exact ⟨by rw [ByteArray.toList_eq, this]; rfl, by rw [ByteArray.toList_eq, this]; rfl⟩
set_option maxHeartbeats 1000000 in
theorem trim_spec (s : ByteArray) (w : World) (hs : s.size ≤ 65536) :
    Calls Tryz.prog 44 #[.string s] w fun e w' => (∃ t : ByteArray, e = .returned (.string t) ∧ t.size ≤ s.size ∧ t.data.toList = trimL s.data.toList) ∧ w = w' := by
  go_enter Tryz.func44, Tryz.ntmps44
  go_wp2
  go_loop [0] (fun v => ∃ t : ByteArray, v = .string t ∧ t.size ≤ s.size ∧ Hid (trimL t.data.toList = trimL s.data.toList)) (fun v => strSize v)
  case atStart => exact ⟨s, rfl, Nat.le_refl _, Lib.hid rfl⟩
  case round =>
    obtain ⟨t, rfl, hts, HT⟩ := hrel
    by_cases h0 : 0 < t.size
    · obtain ⟨q1, q2⟩ := empty_false h0
      have HB := Lib.hid (fun w1 => blank_any t[0] w1)
      have HL := Lib.hid (list_cons h0)
      cases hsp : isSp t[0] with
      | true =>
        rw [hsp] at HB
        have HT2 : Hid (trimL (t.extract 1 t.size).data.toList = trimL s.data.toList) := Lib.hid (by
          rw [← HT.out]
          conv => rhs; rw [HL.out]
          exact (trim_head hsp).symm)
        clear hsp
        have h1 : (1 : Int) ≤ (t.size : Int) := by omega
        go_wp2_with (go_at_call 85; (with_reducible refine (HB.out _).mono ?_); rintro e w2 ⟨rfl, rfl⟩)
        go_round
        case rel => exact ⟨_, rfl, by simp; omega, HT2⟩
        case measure => simp [strSize]; omega
      | false =>
        rw [hsp] at HB
        have HH : Hid (Head t.data.toList) := Lib.hid (.inr ⟨_, _, HL.out, hsp⟩)
        clear hsp
        go_wp2_with (go_at_call 85; (with_reducible refine (HB.out _).mono ?_); rintro e w2 ⟨rfl, rfl⟩)
        go_loop [0] (fun v => ∃ t : ByteArray, v = .string t ∧ t.size ≤ s.size ∧ Hid (trimL t.data.toList = trimL s.data.toList) ∧ Hid (Head t.data.toList)) (fun v => strSize v)
        case atStart => exact ⟨t, rfl, hts, HT, HH⟩
        case round =>
          clear HL HB q1 q2 HH HT
          obtain ⟨t2, rfl, hts2, HT, HH⟩ := hrel
          by_cases h20 : 0 < t2.size
          · obtain ⟨q1, q2⟩ := empty_false h20
            have hlt : t2.size - 1 < t2.size := by omega
            have hsi : (t2.size : Int) - 1 = ((t2.size - 1 : Nat) : Int) := by omega
            have HB := Lib.hid (fun w1 => blank_any t2[t2.size - 1] w1)
            have HL := Lib.hid (list_snoc h20)
            cases hsp : isSp t2[t2.size - 1] with
            | true =>
              rw [hsp] at HB
              have HT2 : Hid (trimL (t2.extract 0 (t2.size - 1)).data.toList = trimL s.data.toList ∧ Head (t2.extract 0 (t2.size - 1)).data.toList) := Lib.hid (by
                have hh : Head (t2.extract 0 (t2.size - 1)).data.toList := by
                  rcases HH.out with h | ⟨x, r, h1, h2⟩
                  · have : t2.data.toList.length = 0 := by rw [h]; rfl
                    rw [← Lib.size_eq] at this; omega
                  · have h3 := HL.out
                    cases hq : (t2.extract 0 (t2.size - 1)).data.toList with
                    | nil => exact .inl rfl
                    | cons y q =>
                      rw [hq, h1] at h3
                      injection h3 with h4 h5
                      exact .inr ⟨y, q, rfl, by rw [← h4]; exact h2⟩
                refine ⟨?_, hh⟩
                rw [← HT.out]
                conv => rhs; rw [HL.out]
                exact (trim_last hsp hh).symm)
              clear hsp
              go_wp2_with (go_at_call 85; (with_reducible refine (HB.out _).mono ?_); rintro e w2 ⟨rfl, rfl⟩)
              go_round
              case rel => exact ⟨_, rfl, by simp; omega, Lib.hid HT2.out.1, Lib.hid HT2.out.2⟩
              case measure => simp [strSize]; omega
            | false =>
              rw [hsp] at HB
              have HR : Hid (t2.data.toList = trimL s.data.toList) := Lib.hid (by
                rw [← HT.out]
                rcases HH.out with h | ⟨x, r, h1, h2⟩
                · have : t2.data.toList.length = 0 := by rw [h]; rfl
                  rw [← Lib.size_eq] at this; omega
                · exact (trim_same h1 h2 HL.out hsp).symm)
              clear hsp
              go_wp2_with (go_at_call 85; (with_reducible refine (HB.out _).mono ?_); rintro e w2 ⟨rfl, rfl⟩)
              go_ret
              exact ⟨⟨_, rfl, hts2, HR.out⟩, rfl⟩
          · obtain ⟨q1, q2⟩ := empty_true h20
            have HR : Hid (t2.data.toList = trimL s.data.toList) := Lib.hid (by rw [← HT.out, nil_of h20]; rfl)
            go_wp2
            go_ret
            exact ⟨⟨_, rfl, hts2, HR.out⟩, rfl⟩
    · obtain ⟨q1, q2⟩ := empty_true h0
      have HR : Hid (t.data.toList = trimL s.data.toList) := Lib.hid (by rw [← HT.out, nil_of h0]; rfl)
      go_wp2
      go_loop [0] (fun v => v = .string t) (fun v => 0)
      case atStart => rfl
      case round =>
        obtain rfl := hrel
        go_wp2
        go_ret
        exact ⟨⟨_, rfl, hts, HR.out⟩, rfl⟩
def noAnswer (l : List UInt8) : Bool := !l.contains 32 && decide (0 < zoneHead l)
theorem contains_at {l : List UInt8} {k : Nat} (h : k < l.length) (hk : l.getD k 0 = 32) : l.contains 32 = true := by
  rw [List.contains_iff_mem]
  rw [List.getD_eq_getElem?_getD, List.getElem?_eq_getElem h] at hk
  exact hk ▸ List.getElem_mem h
theorem contains_no {l : List UInt8} (h : ∀ k, k < l.length → ¬ l.getD k 0 = 32) : l.contains 32 = false := by
  rw [Bool.eq_false_iff]
  intro hc
  rw [List.contains_iff_mem] at hc
  obtain ⟨k, hk, he⟩ := List.getElem_of_mem hc
  refine h k hk ?_
  rw [List.getD_eq_getElem?_getD, List.getElem?_eq_getElem hk]
  exact he
set_option maxHeartbeats 1000000 in
theorem noAnswer_any (s : ByteArray) (w : World) (hs : s.size ≤ 65536) :
    Calls Tryz.prog 20 #[.string s] w fun e w' => e = .returned (.bool (noAnswer s.data.toList)) ∧ Below w.heap.size w w' := by
  have HZ := Lib.hid (fun w => zoneHead_any s w (by omega))
  obtain ⟨r, hr⟩ : ∃ r, noAnswer s.data.toList = r := ⟨_, rfl⟩
  rw [hr]
  have HR := Lib.hid hr
  clear hr
  go_enter Tryz.func20, Tryz.ntmps20
  go_wp2
  go_loop [6] (fun i => ∃ k : Nat, i = .int .i64 (k : Int) ∧ k ≤ s.size ∧ Hid (∀ j, j < k → ¬ s.data.toList.getD j 0 = 32)) (fun i => s.size - (intOf i).toNat)
  case atStart => exact ⟨0, rfl, by omega, Lib.hid (fun j hj => by omega)⟩
  case round =>
    obtain ⟨k, rfl, hk, HK⟩ := hrel
    by_cases hlt : k < s.size
    · have hki : (k : Int) < (s.size : Int) := by omega
      obtain ⟨x, hx⟩ : ∃ x : Bool, (((s[k]).toNat : Int) == 32) = x := ⟨_, rfl⟩
      cases x with
      | false =>
        have HK2 : Hid (∀ j, j < k + 1 → ¬ s.data.toList.getD j 0 = 32) := Lib.hid (fun j hj => by
          by_cases hjk : j = k
          · subst hjk
            rw [Words.getD_at s j hlt]
            intro e
            rw [e] at hx
            revert hx; decide
          · exact HK.out j (by omega))
        go_wp2
        go_round
        case rel => exact ⟨k + 1, by go_num, by omega, HK2⟩
        case measure => simp [intOf]; omega
      | true =>
        have HF : Hid (r = false) := Lib.hid (by
          rw [← HR.out]
          unfold noAnswer
          rw [contains_at (k := k) (by simpa using hlt) (by rw [Words.getD_at s k hlt]; exact ZoneName.byte_eq (n := 32) (by omega) hx)]
          rfl)
        go_wp2
        go_ret
        exact ⟨by rw [HF.out]; rfl, Below.refl _ _⟩
    · have HC : Hid (r = decide (0 < zoneHead s.data.toList)) := Lib.hid (by
        rw [← HR.out]
        unfold noAnswer
        rw [contains_no (fun j hj => HK.out j (by simp at hj; omega))]
        rfl)
      have HZ2 := Lib.hid (show (decide ((0 : Int) < (zoneHead s.data.toList : Int))) = decide (0 < zoneHead s.data.toList) by rw [decide_eq_decide]; omega)
      obtain ⟨z, hz⟩ : ∃ z, zoneHead s.data.toList = z := ⟨_, rfl⟩
      rw [hz] at HZ HC HZ2
      clear hz
      go_wp2_with (go_at_call 28; (with_reducible refine (HZ.out _).mono ?_); rintro e w1 ⟨rfl, rfl⟩)
      go_ret
      exact ⟨by rw [HC.out, ← HZ2.out]; rfl, Below.refl _ _⟩
end Go.Proofs.YtmnjmhlodbifjaaGreatDoor.TrimSpec
namespace Go.Proofs.YtmnjmhlodbifjaaGreatDoor.Mean
open Go Go.RowKit Go.Proofs.YtmnjmhlodbifjaaGreatDoor.Mem Go.Proofs.YtmnjmhlodbifjaaGreatDoor.Aid Go.Proofs.YtmnjmhlodbifjaaGreatDoor.NumPure Go.Proofs.YtmnjmhlodbifjaaGreatDoor.SplitPure Go.Proofs.YtmnjmhlodbifjaaGreatDoor.FillPure Go.Proofs.YtmnjmhlodbifjaaGreatDoor.PlainPure Go.Proofs.YtmnjmhlodbifjaaGreatDoor.NameRel Go.Proofs.YtmnjmhlodbifjaaGreatDoor.SpecSix Go.Proofs.YtmnjmhlodbifjaaGreatDoor.SpecPlain Go.Proofs.YtmnjmhlodbifjaaGreatDoor.Meaning Go.Proofs.YtmnjmhlodbifjaaGreatDoor.Fields Go.Proofs.YtmnjmhlodbifjaaGreatDoor.Head Go.Proofs.YtmnjmhlodbifjaaGreatDoor.ZoneHead Go.Proofs.YtmnjmhlodbifjaaGreatDoor.ZoneName Go.Proofs.YtmnjmhlodbifjaaGreatDoor.TrimSpec Go.Proofs.YtmnjmhlodbifjaaGreatDoor.ParseP Go.Proofs.YtmnjmhlodbifjaaGreatDoor.ParseCron Go.Proofs.YtmnjmhlodbifjaaGreatDoor.Trim Go.Proofs.YtmnjmhlodbifjaaGreatDoor.DurPure
set_option linter.unusedVariables false
def yearlyB : List UInt8 := [64, 121, 101, 97, 114, 108, 121]
def annuallyB : List UInt8 := [64, 97, 110, 110, 117, 97, 108, 108, 121]
def monthlyB : List UInt8 := [64, 109, 111, 110, 116, 104, 108, 121]
def weeklyB : List UInt8 := [64, 119, 101, 101, 107, 108, 121]
def dailyB : List UInt8 := [64, 100, 97, 105, 108, 121]
def midnightB : List UInt8 := [64, 109, 105, 100, 110, 105, 103, 104, 116]
def hourlyB : List UInt8 := [64, 104, 111, 117, 114, 108, 121]
def everyB : List UInt8 := [64, 101, 118, 101, 114, 121, 32]
def y5 : List UInt8 := [48, 32, 48, 32, 49, 32, 49, 32, 42]
def m5 : List UInt8 := [48, 32, 48, 32, 49, 32, 42, 32, 42]
def w5 : List UInt8 := [48, 32, 48, 32, 42, 32, 42, 32, 48]
def d5 : List UInt8 := [48, 32, 48, 32, 42, 32, 42, 32, 42]
def h5 : List UInt8 := [48, 32, 42, 32, 42, 32, 42, 32, 42]
def fiveOf (l : List UInt8) : List UInt8 :=
  if l = yearlyB ∨ l = annuallyB then y5 else if l = monthlyB then m5 else if l = weeklyB then w5 else if l = dailyB ∨ l = midnightB then d5 else if l = hourlyB then h5 else []
inductive MV where
  | sets (LL : List (List UInt8))
  | every (d : Int)
def delayOf (d : Int) : Int := if d < 1000000000 then 1000000000 else d / 1000000000 * 1000000000
def mvPlain (o : Int) (l : List UInt8) : Option (Option MV) :=
  if foreign l then some none else
  match fillOf o ((words l).map ofL) with
  | none => none
  | some L => if words l = [] then some none else if sixV (L.map fun s => s.data.toList) 6 = 1 then some (some (.sets (L.map fun s => s.data.toList))) else if sixV (L.map fun s => s.data.toList) 6 = 0 then none else some none
def lone (l : List UInt8) : Bool := foreign l || (decide ((words l).length = 1) && decide (((words l).getD 0 []).length < l.length))
def mvDur (r : Option (Option Int)) : Option (Option MV) :=
  match r with
  | none => none
  | some none => some none
  | some (some x) => some (some (.every (delayOf x)))
def mvDesc (l : List UInt8) : Option (Option MV) :=
  if fiveOf l ≠ [] then mvPlain 380 (fiveOf l)
  else if starts everyB l then mvDur (dur (l.drop 7))
  else if lone l then some none else none
def takesAt (o : Int) : Bool := !(Go.bits .and .i64 o 256 == 0)
def mvAll (o : Int) (l : List UInt8) : Option (Option MV) := if starts [64] l then (if takesAt o then mvDesc l else none) else mvPlain o l
def nameOf (l : List UInt8) : List UInt8 := (l.drop (zoneHead l)).takeWhile fun c => c != 32
def restOf (l : List UInt8) : List UInt8 := (l.drop (zoneHead l)).dropWhile fun c => c != 32
def restM (o : Int) (l : List UInt8) : Option (Option MV) := if foreign (trimL (restOf l)) then some none else mvAll o (trimL (restOf l))
def zoned : Option Bool → Option (Option MV) → Option (Option MV)
  | none, _ => none
  | some _, r => r
def mean (o : Int) (l : List UInt8) : Option (Option MV) :=
  if zoneHead l = 0 then (if l = [] then none else mvAll o l)
  else if noAnswer l then some none
  else zoned (zname (nameOf l)) (restM o l)
def utcOf (l : List UInt8) : Bool := if zoneHead l = 0 then false else zname (nameOf l) == some true
def SRes (r : Option (Option MV)) (ut : Bool) (e : Ending) : Prop :=
  ∃ (ev : Bool) (d : Int) (cs : Array Value) (u : Bool) (v : Nat), e = .returned (.tuple #[.agg (meanArr ev d cs u), .int .i64 (v : Int)]) ∧ cs.size = 384 ∧ cs.all (·.oneCell') = true ∧ v ≤ 2 ∧ (v = 0 → r = none) ∧
    (v = 1 → (∃ LL, r = some (some (.sets LL)) ∧ ev = false ∧ d = 0 ∧ cs = fldArr (stL LL 6) (fLs LL 6) ∧ u = ut) ∨ (∃ x, r = some (some (.every x)) ∧ ev = true ∧ d = x ∧ cs = noFields ∧ u = false))
theorem six_bad {o : Int} {l : List UInt8} (h : mvPlain o l = none) : foreign l = false ∧ ofWords o (words l) = none := by
  unfold mvPlain at h
  cases hf : foreign l with
  | true => rw [hf] at h; simp at h
  | false =>
    rw [hf] at h
    simp only [Bool.false_eq_true, if_false] at h
    refine ⟨rfl, ?_⟩
    unfold ofWords
    cases hfo : fillOf o ((words l).map ofL) with
    | none => rfl
    | some L =>
      rw [hfo] at h
      dsimp only at h ⊢
      split at h
      · cases h
      · split at h
        · cases h
        · split at h
          · rename_i h6
            exact sixV_bad _ 6 (Nat.le_refl _) h6
          · cases h
theorem six_fine {o : Int} {l : List UInt8} {m : MV} (h : mvPlain o l = some (some m)) : foreign l = false ∧ ∃ LL, m = .sets LL ∧ sixV LL 6 = 1 ∧ ofWords o (words l) = some (numsOf LL 6) := by
  unfold mvPlain at h
  cases hf : foreign l with
  | true => rw [hf] at h; simp at h
  | false =>
    rw [hf] at h
    simp only [Bool.false_eq_true, if_false] at h
    refine ⟨rfl, ?_⟩
    unfold ofWords
    cases hfo : fillOf o ((words l).map ofL) with
    | none => rw [hfo] at h; cases h
    | some L =>
      rw [hfo] at h
      dsimp only at h ⊢
      split at h
      · cases h
      · split at h
        · rename_i h6
          cases h
          exact ⟨_, rfl, h6, (sixV_fine _ 6 (Nat.le_refl _) h6).1⟩
        · split at h
          · cases h
          · cases h
theorem plainM_one' (o : Int) (l : List UInt8) : (plainM o l).1.all (·.oneCell') = true := SpecParse0.plainM_one o l
theorem plain_res {o : Int} {l : List UInt8} {e : Ending} (h : MeanRes (plainM o l) e) : SRes (mvPlain o l) false e := by
  refine ⟨false, 0, (plainM o l).1, false, (plainM o l).2, h, plainM_size o l, plainM_one' o l, ?_, ?_, ?_⟩
  · unfold plainM
    split
    · exact Nat.le_refl _
    · split
      · exact Nat.zero_le _
      · split
        · exact Nat.le_refl _
        · unfold sixM
          split
          · dsimp only; decide
          · dsimp only; exact sixV_le _ 6 (Nat.le_refl _)
  · unfold plainM mvPlain
    split
    · intro h; cases h
    · cases hfo : fillOf o ((words l).map ofL) with
      | none => intro _; rfl
      | some L =>
        dsimp only
        split
        · intro h; cases h
        · unfold sixM
          split
          · intro h; cases h
          · rename_i h1
            intro h0
            dsimp only at h0
            rw [if_pos h0]
  · unfold plainM mvPlain
    split
    · intro h; cases h
    · cases hfo : fillOf o ((words l).map ofL) with
      | none => intro h; cases h
      | some L =>
        dsimp only
        split
        · intro h; cases h
        · unfold sixM
          split
          · intro _; exact .inl ⟨_, rfl, rfl, rfl, by dsimp only, rfl⟩
          · rename_i h1
            intro h0
            exact absurd h0 h1
theorem trim_foreign {l : List UInt8} (h : foreign (trimL l) = false) : ∀ b ∈ l, b.toNat < 128 := by
  have hsp : ∀ b : UInt8, isSp b = true → b.toNat < 128 := by
    intro b hb
    unfold isSp at hb
    simp only [Bool.or_eq_true, Bool.and_eq_true, beq_iff_eq, decide_eq_true_eq] at hb
    rcases hb with rfl | ⟨h1, h2⟩
    · decide
    · omega
  have key : ∀ (l : List UInt8), (∀ b ∈ l.dropWhile isSp, b.toNat < 128) → ∀ b ∈ l, b.toNat < 128 := by
    intro l
    induction l with
    | nil => intro _ b hb; cases hb
    | cons c r ih =>
      intro h b hb
      by_cases hc : isSp c = true
      · simp only [List.dropWhile, hc] at h
        rcases List.mem_cons.1 hb with rfl | hb
        · exact hsp _ hc
        · exact ih h b hb
      · have hc : isSp c = false := by simpa using hc
        simp only [List.dropWhile, hc] at h
        exact h b hb
  have h2 := foreign_not h
  refine key l fun b hb => ?_
  refine key (l.dropWhile isSp).reverse (fun c hc => h2 c ?_) b (List.mem_reverse.2 hb)
  unfold trimL
  exact List.mem_reverse.2 hc
end Go.Proofs.YtmnjmhlodbifjaaGreatDoor.Mean
