/- The reference's cronPieces. Conditions: texts of at most 65536 bytes. · The reference's numbers: the walks of isDigit, cronZeros and CronNumber. Conditions: texts of at most 65536 bytes. · The reference's worse, CronStep, CronValue (of fields without names) and cronEnds. Conditions: texts of at most 65536 bytes. -/
import Derived.Test.YtmnjmhlodbifjaaGreatDoorQ5
import Derived.Test.YtmnjmhlodbifjaaGreatDoorChecked
import Derived.Test.YtmnjmhlodbifjaaGreatDoorQ3
import Derived.ProofKit
import Derived.OpenShut
import Derived.Lib.Hide
import Derived.WalkSpells
import Derived.Lib.IndexBytes
import Derived.Deep.RegionHeld3

namespace Go.Proofs.YtmnjmhlodbifjaaGreatDoor.SpecPieces
open Go.RowKit Go.Proofs.YtmnjmhlodbifjaaGreatDoor.Mem Go.Proofs.YtmnjmhlodbifjaaGreatDoor.Split Go.Proofs.YtmnjmhlodbifjaaGreatDoor.SplitPure
def Rel (s : ByteArray) (c : UInt8) (B : Nat) (w0 : World) (v fr i : Value) (wr : World) : Prop :=
  ∃ (k f : Nat) (done : List (List UInt8)), i = .int .i64 (k : Int) ∧ fr = .int .i64 (f : Int) ∧ f ≤ k ∧ k ≤ s.size ∧ done.length ≤ f ∧
    pieces c s.data.toList = done ++ pieces c (s.data.toList.drop f) ∧ c ∉ (s.data.toList.drop f).take (k - f) ∧
    wr.ownsRow B 9 1 v done.length (strs done) ∧ Below B w0 wr
theorem rel_skip {s : ByteArray} {c : UInt8} {k f : Nat} (hk : k < s.size) (hf : f ≤ k) (h : c ∉ (s.data.toList.drop f).take (k - f)) (hc : ¬ s[k] = c) : c ∉ (s.data.toList.drop f).take (k + 1 - f) := by
  rw [show k + 1 - f = (k - f) + 1 by omega, List.take_succ_eq_append_getElem (by simp; omega)]
  simp only [List.mem_append, not_or]
  refine ⟨h, ?_⟩
  simp only [List.getElem_drop, List.mem_singleton]
  rw [show s.data.toList[f + (k - f)]'(by simp; omega) = s[k] by congr 1; omega]
  exact fun e => hc e.symm
theorem rel_cut {s : ByteArray} {c : UInt8} {k f : Nat} (hk : k < s.size) (hf : f ≤ k) (h : c ∉ (s.data.toList.drop f).take (k - f)) (hc : s[k] = c) :
    pieces c (s.data.toList.drop f) = (s.data.toList.drop f).take (k - f) :: pieces c (s.data.toList.drop (k + 1)) := by
  have h1 : s.data.toList.drop f = (s.data.toList.drop f).take (k - f) ++ c :: s.data.toList.drop (k + 1) := by
    have h2 := (List.take_append_drop (k - f) (s.data.toList.drop f)).symm
    rw [List.drop_drop, show f + (k - f) = k by omega, List.drop_eq_getElem_cons (i := k) (by simpa using hk)] at h2
    rw [show s.data.toList[k]'(by simpa using hk) = c from hc] at h2
    exact h2
  have h3 := congrArg (pieces c) h1
  rw [pieces_cons h] at h3
  exact h3
theorem rel_next {s : ByteArray} {c : UInt8} {k f : Nat} {done : List (List UInt8)} {B : Nat} {w0 w1 : World} {v' : Value} (hk : k < s.size) (hf : f ≤ k) (hd : done.length ≤ f)
    (hp : pieces c s.data.toList = done ++ pieces c (s.data.toList.drop f)) (h : c ∉ (s.data.toList.drop f).take (k - f)) (hc : s[k] = c)
    (hown : w1.ownsRow B 9 1 v' (done.length + 1) (strs done ++ [.string (s.extract f k)])) (hb : Below B w0 w1) :
    Rel s c B w0 v' (.int .i64 ((k : Int) + 1)) (.int .i64 ((k : Int) + 1)) w1 := by
  refine ⟨k + 1, k + 1, done ++ [(s.data.toList.drop f).take (k - f)], by go_num, by go_num, Nat.le_refl _, hk, by simp; omega, ?_, by simp, ?_, hb⟩
  · rw [hp, rel_cut hk hf h hc]; simp
  · rw [strs_append, List.length_append]
    rw [extract_sub] at hown
    simpa [strs] using hown
set_option maxHeartbeats 1000000 in
set_option maxRecDepth 100000 in
theorem pieces_any (s : ByteArray) (c : UInt8) (w : World) (hs : s.size ≤ 65536) :
    Calls Tryz.prog 140 #[.string s, .int .u8 (c.toNat : Int)] w fun e w' =>
      ∃ g cap, e = .returned (.slice (some ⟨g, 0, none⟩) (pieces c s.data.toList).length cap) ∧ (pieces c s.data.toList).length ≤ cap ∧ w.heap.size ≤ g ∧ Strs w' g (pieces c s.data.toList) ∧ Below w.heap.size w w' := by
  obtain ⟨i0, hi, hz0, hz1, hz2⟩ := info_parts Tryz.info9
  go_enter Tryz.func140, Tryz.ntmps140
  go_wp2
  go_loopw [5, 6, 7, 10] (fun v fr _ i wr => Hid (Rel s c w.heap.size w v fr i wr) ∧ (∃ k : Nat, i = .int .i64 (k : Int) ∧ k ≤ s.size) ∧ ∃ f : Nat, fr = .int .i64 (f : Int)) (fun _ _ _ i _ => s.size - (intOf i).toNat)
  case atStart => exact ⟨Lib.hid ⟨0, 0, [], rfl, rfl, Nat.le_refl _, Nat.zero_le _, Nat.le_refl _, by simp, by simp, World.ownsRow_nil w _ _ _, Below.refl _ _⟩, ⟨0, rfl, Nat.zero_le _⟩, 0, rfl⟩
  case round =>
    obtain ⟨⟨k, f, done, rfl, rfl, hf, hk, hd, HP, HN, hown, hbel⟩, -⟩ := hrel
    have HP := Lib.hid HP
    have HN := Lib.hid HN
    have HB := Lib.hid hbel
    have hsz := hbel.size
    clear hbel
    by_cases hlt : k < s.size
    · by_cases hc : s[k] = c
      · have hq : ((s[k].toNat : Int) == (c.toNat : Int)) = true := by rw [hc]; simp
        have Hc := Lib.hid hc
        clear hc
        go_wp2_with (at_builtin; refine wpList_append_own _ rfl (.tmp 18) (.tmp 23) 114 rfl w.heap.size 9 i0 (.string ⟨#[]⟩) 1 16 Tryz.underlying114 hi hz0 hz1 hz2 rfl (by decide) _ _ _ rfl (hown.alloc _) ⟨wr.heap.size, 0, none⟩ 1 1 [.string (s.extract f k)] rfl rfl (one_cell _ _ _) (by simp [Value.oneCell']) (by unfold maxLen; omega) (by omega) (by simp; omega) ?_; intro v' w1 hown1 hgrow1 _)
        have hb1 : Below w.heap.size w w1 := (HB.out.alloc HB.out.size _).grown hgrow1 (by have := HB.out.size; simp; omega) (fun j hj => (hown.lt j hj).1)
        have hr := rel_next hlt hf hd HP.out HN.out Hc.out hown1 hb1
        go_roundw
        case rel => exact ⟨Lib.hid hr, ⟨k + 1, by go_num, by omega⟩, k + 1, by go_num⟩
        case measure => simp [intOf]; omega
      · have hq : ((s[k].toNat : Int) == (c.toNat : Int)) = false := by
          rw [beq_eq_false_iff_ne]; intro e; exact hc (UInt8.toNat_inj.1 (by omega))
        have hr := Lib.hid (rel_skip hlt hf HN.out hc)
        clear hc
        go_wp2
        go_roundw
        case rel => exact ⟨Lib.hid ⟨k + 1, f, done, by go_num, rfl, by omega, by omega, hd, HP.out, hr.out, hown, HB.out⟩, ⟨k + 1, by go_num, by omega⟩, f, rfl⟩
        case measure => simp [intOf]; omega
    · have HP2 : Hid (pieces c s.data.toList = done ++ [s.data.toList.drop f]) := Lib.hid (by
        have h2 := HN.out
        rw [List.take_of_length_le (by simp; omega)] at h2
        rw [HP.out, pieces_none h2])
      have hfs : (f : Int) ≤ (s.size : Int) := by omega
      go_wp2_with (at_builtin; refine wpList_append_own _ rfl (.tmp 28) (.tmp 32) 114 rfl w.heap.size 9 i0 (.string ⟨#[]⟩) 1 16 Tryz.underlying114 hi hz0 hz1 hz2 rfl (by decide) _ _ _ rfl (hown.alloc _) ⟨wr.heap.size, 0, none⟩ 1 1 [.string (s.extract f s.size)] rfl rfl (one_cell _ _ _) (by simp [Value.oneCell']) (by unfold maxLen; omega) (by omega) (by simp; omega) ?_; intro v' w1 hown1 hgrow1 _)
      have hb1 : Below w.heap.size w w1 := (HB.out.alloc HB.out.size _).grown hgrow1 (by have := HB.out.size; simp; omega) (fun j hj => (hown.lt j hj).1)
      have hown2 : w1.ownsRow w.heap.size 9 1 v' (done.length + 1) (strs (pieces c s.data.toList)) := by
        rw [HP2.out, strs_append]
        have := Lib.extract_to_end s f
        rw [eq_ofL this] at hown1
        simpa [strs] using hown1
      obtain ⟨g, cap, rfl, h1, h2, h3⟩ := strs_of_owns hown2 (by rw [HP2.out]; simp)
      go_ret
      exact ⟨g, cap, rfl, h1, h2, h3, hb1⟩
end Go.Proofs.YtmnjmhlodbifjaaGreatDoor.SpecPieces
namespace Go.Proofs.YtmnjmhlodbifjaaGreatDoor.SpecNum
open Go.RowKit Go.Proofs.YtmnjmhlodbifjaaGreatDoor.NumPure
theorem isDigit_yes (c : UInt8) (w : World) (h : isDig c = true) :
    Calls Tryz.prog 151 #[.int .u8 (c.toNat : Int)] w fun e w' => e = .returned (.bool true) ∧ w = w' := by
  simp only [isDig, Bool.and_eq_true, decide_eq_true_eq] at h
  have h1 : decide ((48 : Int) ≤ (c.toNat : Int)) = true := decide_eq_true (by omega)
  have h2 : decide ((c.toNat : Int) ≤ 57) = true := decide_eq_true (by omega)
  go_enter Tryz.func151, Tryz.ntmps151
  go_wp2
  go_ret
  exact ⟨rfl, rfl⟩
theorem isDigit_no (c : UInt8) (w : World) (h : isDig c = false) :
    Calls Tryz.prog 151 #[.int .u8 (c.toNat : Int)] w fun e w' => e = .returned (.bool false) ∧ w = w' := by
  simp only [isDig, Bool.and_eq_false_iff, decide_eq_false_iff_not] at h
  by_cases h1 : c.toNat < 48
  · have h1 : decide ((48 : Int) ≤ (c.toNat : Int)) = false := decide_eq_false (by omega)
    go_enter Tryz.func151, Tryz.ntmps151
    go_wp2
    go_ret
    exact ⟨rfl, rfl⟩
  · have h1 : decide ((48 : Int) ≤ (c.toNat : Int)) = true := decide_eq_true (by omega)
    have h2 : decide ((c.toNat : Int) ≤ 57) = false := decide_eq_false (by omega)
    go_enter Tryz.func151, Tryz.ntmps151
    go_wp2
    go_ret
    exact ⟨rfl, rfl⟩
theorem take_snoc (s : ByteArray) (k : Nat) (h : k < s.size) : s.data.toList.take (k + 1) = s.data.toList.take k ++ [s[k]] := by
  rw [List.take_succ_eq_append_getElem (by simpa using h)]; rfl
theorem take_all (s : ByteArray) (k : Nat) (h : s.size ≤ k) : s.data.toList.take k = s.data.toList := List.take_of_length_le (by simpa using h)
theorem drop_cons (s : ByteArray) (k : Nat) (h : k < s.size) : s.data.toList.drop k = s[k] :: s.data.toList.drop (k + 1) := by
  rw [List.drop_eq_getElem_cons (by simpa using h)]; rfl
theorem zeros_snoc (l : List UInt8) (c : UInt8) : zeros (l ++ [c]) = (zeros l && c == 48) := by simp [zeros]
set_option maxHeartbeats 400000 in
theorem zeros_any (s : ByteArray) (w : World) (hs : s.size ≤ 65536) :
    Calls Tryz.prog 166 #[.string s] w fun e w' => e = .returned (.bool (zeros s.data.toList)) ∧ w = w' := by
  go_enter Tryz.func166, Tryz.ntmps166
  go_wp2
  go_loop [3, 6] (fun _ i => ∃ k : Nat, k ≤ s.size ∧ i = .int .i64 k ∧ Hid (zeros (s.data.toList.take k) = true)) (fun _ i => s.size - (intOf i).toNat)
  case atStart => exact ⟨0, Nat.zero_le _, rfl, Lib.hid rfl⟩
  case round =>
    obtain ⟨k, hk, rfl, HZ⟩ := hrel
    by_cases hlt : k < s.size
    · have hts := take_snoc s k hlt
      have hall := List.take_append_drop (k + 1) s.data.toList
      by_cases hc : s[k] = 48
      · have HN : Hid (zeros (s.data.toList.take (k + 1)) = true) := Lib.hid (by rw [hts, zeros_snoc, HZ.out, hc]; rfl)
        have hb : ((s[k].toNat : Int) != 48) = false := by rw [hc]; rfl
        clear hts hall hc
        go_wp2
        go_round
        case rel => exact ⟨k + 1, by omega, by go_num, HN⟩
        case measure => simp [intOf]; omega
      · have HN : Hid (zeros s.data.toList = false) := Lib.hid (by
          rw [← hall, hts]; simp only [zeros, List.all_append]; simp [hc])
        have hb : ((s[k].toNat : Int) != 48) = true := by
          rw [bne_iff_ne]; intro e; exact hc (UInt8.toNat_inj.1 (by show s[k].toNat = 48; omega))
        clear hts hall hc
        go_wp2
        go_ret
        exact ⟨by rw [HN.out]; rfl, rfl⟩
    · have HN : Hid (zeros s.data.toList = true) := Lib.hid (by rw [← take_all s k (by omega)]; exact HZ.out)
      go_wp2
      go_ret
      exact ⟨by rw [HN.out]; rfl, rfl⟩
theorem readN_snoc (l : List UInt8) : ∀ (a n : Nat) (c : UInt8), readN a l = some n → readN a (l ++ [c]) = if isDig c then some (min (10 * n + (c.toNat - 48)) huge) else none := by
  induction l with
  | nil => intro a n c h; simp only [readN] at h; cases h; rfl
  | cons d r ih =>
    intro a n c h
    simp only [readN, List.cons_append] at h ⊢
    split
    · rename_i hd; rw [if_pos hd] at h; exact ih _ _ _ h
    · rename_i hd; rw [if_neg hd] at h; cases h
theorem readN_bad (l r : List UInt8) (a : Nat) (h : readN a l = none) : readN a (l ++ r) = none := by
  rw [readN_none] at h ⊢
  simp only [List.all_append, Bool.and_eq_true]
  exact fun ⟨h1, _⟩ => h h1
def readPart (t : List UInt8) (v : Nat) : Nat × Nat :=
  if t = [] then (0, 0) else
  match readN 0 t with
  | none => (0, 0)
  | some n => (n, v)
theorem readPart_some {t : List UInt8} {v n : Nat} (hne : t ≠ []) (h : readN 0 t = some n) : readPart t v = (n, v) := by
  unfold readPart; rw [if_neg hne, h]
theorem readPart_none {t : List UInt8} {v : Nat} (h : readN 0 t = none) : readPart t v = (0, 0) := by
  unfold readPart; split
  · rfl
  · rw [h]
theorem specNumber_part (l : List UInt8) : specNumber l = readPart (if signed l then l.tail else l) (if signed l then 2 else 1) := rfl
theorem nil_of_isEmpty {t : ByteArray} (h : t.toList.isEmpty = true) : t.data.toList = [] := by
  have h1 : t.toList = [] := by simpa using h
  have h2 : t.toList = t.data.toList := ByteArray.toList_eq t
  rw [← h2, h1]
theorem ne_nil_of_isEmpty {t : ByteArray} (h : t.toList.isEmpty = false) : t.data.toList ≠ [] := by
  have h2 : t.toList = t.data.toList := ByteArray.toList_eq t
  rw [← h2]; intro e; rw [e] at h; cases h
theorem tail_extract (s : ByteArray) : (s.extract 1 s.size).data.toList = s.data.toList.tail := by
  rw [Lib.extract_to_end]; exact List.drop_one ..
theorem size_extract1 (s : ByteArray) : (s.extract 1 s.size).size = s.size - 1 := by simp
theorem min_cast (m c : Nat) (h : 48 ≤ c) : (if (1099511627776 : Int) < 10 * (m : Int) + ((c : Int) - 48) then 1099511627776 else 10 * (m : Int) + ((c : Int) - 48)) = ((min (10 * m + (c - 48)) huge : Nat) : Int) := by
  unfold huge; split <;> omega
def NumPair (r : Nat × Nat) (e : Ending) : Prop := e = .returned (.tuple #[.int .i64 (r.1 : Int), .int .i64 (r.2 : Int)])
set_option maxHeartbeats 400000 in
theorem number_empty (s : ByteArray) (w : World) (h0 : s.size = 0) :
    Calls Tryz.prog 158 #[.string s] w fun e w' => NumPair (0, 0) e ∧ w = w' := by
  have h1 : decide ((0 : Int) < (s.size : Int)) = false := decide_eq_false (by omega)
  have h2 : s.data.toList = [] := by apply List.eq_nil_of_length_eq_zero; simpa using h0
  have h3 : s = ⟨#[]⟩ := by cases s; congr 1; apply Array.toList_inj.1; exact h2
  subst h3
  go_enter Tryz.func158, Tryz.ntmps158
  go_wp2_with fail
  go_ret2
  exact ⟨rfl, rfl⟩
theorem not_isEmpty {s : ByteArray} (h0 : 0 < s.size) : s.toList.isEmpty = false := by
  rw [ByteArray.toList_eq]
  cases h : s.data.toList with
  | nil =>
    have h1 : s.data.toList.length = s.size := by simp
    rw [h] at h1
    simp at h1; omega
  | cons a b => rfl
theorem cons_of {s : ByteArray} (h0 : 0 < s.size) : s.data.toList = s[0] :: s.data.toList.tail := by
  have hc := drop_cons s 0 h0
  rw [List.drop_zero] at hc
  rw [hc]; rfl
theorem signed_minus {s : ByteArray} (h0 : 0 < s.size) (h : s[0] = 45) : signed s.data.toList = zeros s.data.toList.tail := by
  rw [cons_of h0, h]; simp [signed]
theorem signed_plus {s : ByteArray} (h0 : 0 < s.size) (h : s[0] = 43) : signed s.data.toList = true := by
  rw [cons_of h0, h]; simp [signed]
theorem signed_other {s : ByteArray} (h0 : 0 < s.size) (h : ¬ s[0] = 43) (h2 : ¬ s[0] = 45) : signed s.data.toList = false := by
  rw [cons_of h0]; simp [signed, h, h2]
theorem tail_take (s : ByteArray) : List.take (s.size - 1) s.data.toList.tail = s.data.toList.tail := List.take_of_length_le (by simp)
theorem byte_ne {a b : UInt8} (h : ¬ a = b) : ((a.toNat : Int) == (b.toNat : Int)) = false := by
  rw [beq_eq_false_iff_ne]; intro e; exact h (UInt8.toNat_inj.1 (by omega))
set_option maxHeartbeats 1000000 in
theorem number_plus (s : ByteArray) (w : World) (hs : s.size ≤ 65536) (h0 : 0 < s.size) (h43 : s[0] = 43) :
    Calls Tryz.prog 158 #[.string s] w fun e w' => NumPair (specNumber s.data.toList) e ∧ w = w' := by
  have HF : Hid (specNumber s.data.toList = readPart (s.extract 1 s.size).data.toList 2) := Lib.hid (by
    rw [specNumber_part]
    rw [signed_plus h0 h43, tail_extract]; rfl)
  have hb : ((s[0].toNat : Int) == 43) = true := by rw [h43]; rfl
  go_enter Tryz.func158, Tryz.ntmps158
  go_wp2_with (go_at_call 166; refine (zeros_any _ _ (by simp; omega)).mono ?_; rintro e w' ⟨rfl, rfl⟩)
  · have he : (s.extract 1 s.size).toList.isEmpty = true := by assumption
    have he' := nil_of_isEmpty he
    go_ret2
    refine ⟨?_, rfl⟩
    rw [HF.out, readPart, if_pos he']; rfl
  · have he : (s.extract 1 s.size).toList.isEmpty = false := by assumption
    have HNE := Lib.hid (ne_nil_of_isEmpty he)
    clear he
    rw [← size_extract1 s]
    have htz : (s.extract 1 s.size).size ≤ 65536 := by rw [size_extract1]; omega
    generalize s.extract 1 s.size = t at HF HNE htz ⊢
    go_loop [5, 6, 31] (fun n _ i => ∃ k m : Nat, k ≤ t.size ∧ i = .int .i64 k ∧ n = .int .i64 m ∧ m ≤ 1099511627776 ∧ Hid (readN 0 (t.data.toList.take k) = some m)) (fun _ _ i => t.size - (intOf i).toNat)
    case atStart => exact ⟨0, 0, Nat.zero_le _, rfl, rfl, by omega, Lib.hid rfl⟩
    case round =>
      obtain ⟨k, m, hk, rfl, rfl, hm, HR⟩ := hrel
      by_cases hlt : k < t.size
      · have HS := Lib.hid (take_snoc t k hlt)
        have HA := Lib.hid (List.take_append_drop (k + 1) t.data.toList)
        by_cases hd : isDig t[k] = true
        · have hd2 : 48 ≤ t[k].toNat ∧ t[k].toNat ≤ 57 := by simpa [isDig] using hd
          have HN : Hid (readN 0 (t.data.toList.take (k + 1)) = some (min (10 * m + (t[k].toNat - 48)) huge)) := Lib.hid (by rw [HS.out, readN_snoc _ _ _ _ HR.out, if_pos hd])
          have hlo : (48 : Int) ≤ (t[k].toNat : Int) := by omega
          have hhi : (t[k].toNat : Int) ≤ 57 := by omega
          clear hd2
          go_wp2_with (go_at_call 151; refine (isDigit_yes _ _ hd).mono ?_; rintro e w' ⟨rfl, rfl⟩)
          go_round
          case rel => exact ⟨k + 1, _, by omega, by go_num, by rw [min_cast _ _ (by omega)]; rfl, Nat.min_le_right _ _, HN⟩
          case measure => simp [intOf]; omega
        · have hd' : isDig t[k] = false := by simpa using hd
          have HN : Hid (readN 0 t.data.toList = none) := Lib.hid (by rw [← HA.out, HS.out]; apply readN_bad; rw [readN_snoc _ _ _ _ HR.out, if_neg hd])
          go_wp2_with (go_at_call 151; refine (isDigit_no _ _ hd').mono ?_; rintro e w' ⟨rfl, rfl⟩)
          go_ret2
          exact ⟨by rw [HF.out, readPart_none HN.out]; rfl, rfl⟩
      · have HN : Hid (readN 0 t.data.toList = some m) := Lib.hid (by rw [← take_all t k (by omega)]; exact HR.out)
        go_wp2
        go_ret2
        exact ⟨by rw [HF.out, readPart_some HNE.out HN.out]; rfl, rfl⟩
set_option maxHeartbeats 1000000 in
theorem number_minus (s : ByteArray) (w : World) (hs : s.size ≤ 65536) (h0 : 0 < s.size) (h45 : s[0] = 45) (hz : zeros s.data.toList.tail = true) :
    Calls Tryz.prog 158 #[.string s] w fun e w' => NumPair (specNumber s.data.toList) e ∧ w = w' := by
  have HF : Hid (specNumber s.data.toList = readPart (s.extract 1 s.size).data.toList 2) := Lib.hid (by
    rw [specNumber_part]
    rw [signed_minus h0 h45, hz, tail_extract]; rfl)
  have hb : ((s[0].toNat : Int) == 43) = false := by rw [h45]; rfl
  have hb2 : ((s[0].toNat : Int) == 45) = true := by rw [h45]; rfl
  have hz2 : zeros (List.take (s.size - 1) s.data.toList.tail) = true := by rw [tail_take]; exact hz
  go_enter Tryz.func158, Tryz.ntmps158
  go_wp2_with (go_at_call 166; refine (zeros_any _ _ (by simp; omega)).mono ?_; rintro e w' ⟨rfl, rfl⟩)
  · have he : (s.extract 1 s.size).toList.isEmpty = true := by assumption
    have he' := nil_of_isEmpty he
    go_ret2
    refine ⟨?_, rfl⟩
    rw [HF.out, readPart, if_pos he']; rfl
  · have he : (s.extract 1 s.size).toList.isEmpty = false := by assumption
    have HNE := Lib.hid (ne_nil_of_isEmpty he)
    clear he
    rw [← size_extract1 s]
    have htz : (s.extract 1 s.size).size ≤ 65536 := by rw [size_extract1]; omega
    generalize s.extract 1 s.size = t at HF HNE htz ⊢
    go_loop [5, 6, 31] (fun n _ i => ∃ k m : Nat, k ≤ t.size ∧ i = .int .i64 k ∧ n = .int .i64 m ∧ m ≤ 1099511627776 ∧ Hid (readN 0 (t.data.toList.take k) = some m)) (fun _ _ i => t.size - (intOf i).toNat)
    case atStart => exact ⟨0, 0, Nat.zero_le _, rfl, rfl, by omega, Lib.hid rfl⟩
    case round =>
      obtain ⟨k, m, hk, rfl, rfl, hm, HR⟩ := hrel
      by_cases hlt : k < t.size
      · have HS := Lib.hid (take_snoc t k hlt)
        have HA := Lib.hid (List.take_append_drop (k + 1) t.data.toList)
        by_cases hd : isDig t[k] = true
        · have hd2 : 48 ≤ t[k].toNat ∧ t[k].toNat ≤ 57 := by simpa [isDig] using hd
          have HN : Hid (readN 0 (t.data.toList.take (k + 1)) = some (min (10 * m + (t[k].toNat - 48)) huge)) := Lib.hid (by rw [HS.out, readN_snoc _ _ _ _ HR.out, if_pos hd])
          have hlo : (48 : Int) ≤ (t[k].toNat : Int) := by omega
          have hhi : (t[k].toNat : Int) ≤ 57 := by omega
          clear hd2
          go_wp2_with (go_at_call 151; refine (isDigit_yes _ _ hd).mono ?_; rintro e w' ⟨rfl, rfl⟩)
          go_round
          case rel => exact ⟨k + 1, _, by omega, by go_num, by rw [min_cast _ _ (by omega)]; rfl, Nat.min_le_right _ _, HN⟩
          case measure => simp [intOf]; omega
        · have hd' : isDig t[k] = false := by simpa using hd
          have HN : Hid (readN 0 t.data.toList = none) := Lib.hid (by rw [← HA.out, HS.out]; apply readN_bad; rw [readN_snoc _ _ _ _ HR.out, if_neg hd])
          go_wp2_with (go_at_call 151; refine (isDigit_no _ _ hd').mono ?_; rintro e w' ⟨rfl, rfl⟩)
          go_ret2
          exact ⟨by rw [HF.out, readPart_none HN.out]; rfl, rfl⟩
      · have HN : Hid (readN 0 t.data.toList = some m) := Lib.hid (by rw [← take_all t k (by omega)]; exact HR.out)
        go_wp2
        go_ret2
        exact ⟨by rw [HF.out, readPart_some HNE.out HN.out]; rfl, rfl⟩
set_option maxHeartbeats 1000000 in
theorem number_minus_not (s : ByteArray) (w : World) (hs : s.size ≤ 65536) (h0 : 0 < s.size) (h45 : s[0] = 45) (hz : zeros s.data.toList.tail = false) :
    Calls Tryz.prog 158 #[.string s] w fun e w' => NumPair (specNumber s.data.toList) e ∧ w = w' := by
  have HF : Hid (specNumber s.data.toList = readPart (s).data.toList 1) := Lib.hid (by
    rw [specNumber_part]
    rw [signed_minus h0 h45, hz]; rfl)
  have hb : ((s[0].toNat : Int) == 43) = false := by rw [h45]; rfl
  have hb2 : ((s[0].toNat : Int) == 45) = true := by rw [h45]; rfl
  have hz2 : zeros (List.take (s.size - 1) s.data.toList.tail) = false := by rw [tail_take]; exact hz
  have he0 : s.toList.isEmpty = false := not_isEmpty h0
  go_enter Tryz.func158, Tryz.ntmps158
  go_wp2_with (go_at_call 166; refine (zeros_any _ _ (by simp; omega)).mono ?_; rintro e w' ⟨rfl, rfl⟩)
  have he := he0
  have HNE := Lib.hid (ne_nil_of_isEmpty he)
  clear he
  obtain ⟨t, rfl⟩ : ∃ t, t = s := ⟨_, rfl⟩
  have htz := hs
  go_loop [5, 6, 31] (fun n _ i => ∃ k m : Nat, k ≤ t.size ∧ i = .int .i64 k ∧ n = .int .i64 m ∧ m ≤ 1099511627776 ∧ Hid (readN 0 (t.data.toList.take k) = some m)) (fun _ _ i => t.size - (intOf i).toNat)
  case atStart => exact ⟨0, 0, Nat.zero_le _, rfl, rfl, by omega, Lib.hid rfl⟩
  case round =>
    obtain ⟨k, m, hk, rfl, rfl, hm, HR⟩ := hrel
    by_cases hlt : k < t.size
    · have HS := Lib.hid (take_snoc t k hlt)
      have HA := Lib.hid (List.take_append_drop (k + 1) t.data.toList)
      by_cases hd : isDig t[k] = true
      · have hd2 : 48 ≤ t[k].toNat ∧ t[k].toNat ≤ 57 := by simpa [isDig] using hd
        have HN : Hid (readN 0 (t.data.toList.take (k + 1)) = some (min (10 * m + (t[k].toNat - 48)) huge)) := Lib.hid (by rw [HS.out, readN_snoc _ _ _ _ HR.out, if_pos hd])
        have hlo : (48 : Int) ≤ (t[k].toNat : Int) := by omega
        have hhi : (t[k].toNat : Int) ≤ 57 := by omega
        clear hd2
        go_wp2_with (go_at_call 151; refine (isDigit_yes _ _ hd).mono ?_; rintro e w' ⟨rfl, rfl⟩)
        go_round
        case rel => exact ⟨k + 1, _, by omega, by go_num, by rw [min_cast _ _ (by omega)]; rfl, Nat.min_le_right _ _, HN⟩
        case measure => simp [intOf]; omega
      · have hd' : isDig t[k] = false := by simpa using hd
        have HN : Hid (readN 0 t.data.toList = none) := Lib.hid (by rw [← HA.out, HS.out]; apply readN_bad; rw [readN_snoc _ _ _ _ HR.out, if_neg hd])
        go_wp2_with (go_at_call 151; refine (isDigit_no _ _ hd').mono ?_; rintro e w' ⟨rfl, rfl⟩)
        go_ret2
        exact ⟨by rw [HF.out, readPart_none HN.out]; rfl, rfl⟩
    · have HN : Hid (readN 0 t.data.toList = some m) := Lib.hid (by rw [← take_all t k (by omega)]; exact HR.out)
      go_wp2
      go_ret2
      exact ⟨by rw [HF.out, readPart_some HNE.out HN.out]; rfl, rfl⟩
set_option maxHeartbeats 1000000 in
theorem number_plain (s : ByteArray) (w : World) (hs : s.size ≤ 65536) (h0 : 0 < s.size) (h43 : ¬ s[0] = 43) (h45 : ¬ s[0] = 45) :
    Calls Tryz.prog 158 #[.string s] w fun e w' => NumPair (specNumber s.data.toList) e ∧ w = w' := by
  have HF : Hid (specNumber s.data.toList = readPart (s).data.toList 1) := Lib.hid (by
    rw [specNumber_part]
    rw [signed_other h0 h43 h45]; rfl)
  have hb : ((s[0].toNat : Int) == 43) = false := byte_ne h43
  have hb2 : ((s[0].toNat : Int) == 45) = false := byte_ne h45
  have he0 : s.toList.isEmpty = false := not_isEmpty h0
  go_enter Tryz.func158, Tryz.ntmps158
  go_wp2_with (go_at_call 166; refine (zeros_any _ _ (by simp; omega)).mono ?_; rintro e w' ⟨rfl, rfl⟩)
  have he := he0
  have HNE := Lib.hid (ne_nil_of_isEmpty he)
  clear he
  obtain ⟨t, rfl⟩ : ∃ t, t = s := ⟨_, rfl⟩
  have htz := hs
  go_loop [5, 6, 31] (fun n _ i => ∃ k m : Nat, k ≤ t.size ∧ i = .int .i64 k ∧ n = .int .i64 m ∧ m ≤ 1099511627776 ∧ Hid (readN 0 (t.data.toList.take k) = some m)) (fun _ _ i => t.size - (intOf i).toNat)
  case atStart => exact ⟨0, 0, Nat.zero_le _, rfl, rfl, by omega, Lib.hid rfl⟩
  case round =>
    obtain ⟨k, m, hk, rfl, rfl, hm, HR⟩ := hrel
    by_cases hlt : k < t.size
    · have HS := Lib.hid (take_snoc t k hlt)
      have HA := Lib.hid (List.take_append_drop (k + 1) t.data.toList)
      by_cases hd : isDig t[k] = true
      · have hd2 : 48 ≤ t[k].toNat ∧ t[k].toNat ≤ 57 := by simpa [isDig] using hd
        have HN : Hid (readN 0 (t.data.toList.take (k + 1)) = some (min (10 * m + (t[k].toNat - 48)) huge)) := Lib.hid (by rw [HS.out, readN_snoc _ _ _ _ HR.out, if_pos hd])
        have hlo : (48 : Int) ≤ (t[k].toNat : Int) := by omega
        have hhi : (t[k].toNat : Int) ≤ 57 := by omega
        clear hd2
        go_wp2_with (go_at_call 151; refine (isDigit_yes _ _ hd).mono ?_; rintro e w' ⟨rfl, rfl⟩)
        go_round
        case rel => exact ⟨k + 1, _, by omega, by go_num, by rw [min_cast _ _ (by omega)]; rfl, Nat.min_le_right _ _, HN⟩
        case measure => simp [intOf]; omega
      · have hd' : isDig t[k] = false := by simpa using hd
        have HN : Hid (readN 0 t.data.toList = none) := Lib.hid (by rw [← HA.out, HS.out]; apply readN_bad; rw [readN_snoc _ _ _ _ HR.out, if_neg hd])
        go_wp2_with (go_at_call 151; refine (isDigit_no _ _ hd').mono ?_; rintro e w' ⟨rfl, rfl⟩)
        go_ret2
        exact ⟨by rw [HF.out, readPart_none HN.out]; rfl, rfl⟩
    · have HN : Hid (readN 0 t.data.toList = some m) := Lib.hid (by rw [← take_all t k (by omega)]; exact HR.out)
      go_wp2
      go_ret2
      exact ⟨by rw [HF.out, readPart_some HNE.out HN.out]; rfl, rfl⟩
theorem cronNumber_any (s : ByteArray) (w : World) (hs : s.size ≤ 65536) :
    Calls Tryz.prog 158 #[.string s] w fun e w' => NumPair (specNumber s.data.toList) e ∧ w = w' := by
  by_cases h0 : s.size = 0
  · have hnil : s.data.toList = [] := by apply List.eq_nil_of_length_eq_zero; simpa using h0
    have hr : specNumber s.data.toList = (0, 0) := by rw [hnil]; rfl
    rw [hr]
    exact number_empty s w h0
  · by_cases h43 : s[0] = 43
    · exact number_plus s w hs (by omega) h43
    · by_cases h45 : s[0] = 45
      · cases hz : zeros s.data.toList.tail with
        | true => exact number_minus s w hs (by omega) h45 hz
        | false => exact number_minus_not s w hs (by omega) h45 hz
      · exact number_plain s w hs (by omega) h43 h45
end Go.Proofs.YtmnjmhlodbifjaaGreatDoor.SpecNum
namespace Go.Proofs.YtmnjmhlodbifjaaGreatDoor.SpecEnds
open Go.RowKit Go.Proofs.YtmnjmhlodbifjaaGreatDoor.Mem Go.Proofs.YtmnjmhlodbifjaaGreatDoor.NumPure Go.Proofs.YtmnjmhlodbifjaaGreatDoor.SpecNum Go.Proofs.YtmnjmhlodbifjaaGreatDoor.Split Go.Proofs.YtmnjmhlodbifjaaGreatDoor.SplitPure Go.Proofs.YtmnjmhlodbifjaaGreatDoor.SpecPieces
set_option linter.unusedVariables false
def worseN (a b : Nat) : Nat := if a = 0 ∨ b = 0 then 0 else max a b
def specStep (l : List UInt8) : Nat × Nat :=
  if (specNumber l).2 = 0 ∨ (specNumber l).1 = 0 then (0, 0) else if (specNumber l).1 = huge then (0, 2) else specNumber l
def specEnds (lo hi : Nat) (days : Bool) (sval : List UInt8 → Nat × Nat) (ps : List (List UInt8)) : Nat × Nat × Bool × Bool × Nat :=
  match ps with
  | [] => (0, 0, false, false, 0)
  | a :: r =>
    if a = [42] ∨ a = [63] then (lo, hi, true, r.isEmpty, if r ≠ [] ∨ (a = [63] ∧ days = false) then 2 else 1)
    else match r with
      | [] => ((sval a).1, (sval a).1, false, true, (sval a).2)
      | [b] => ((sval a).1, (sval b).1, false, false, worseN (sval a).2 (sval b).2)
      | _ => (0, 0, false, false, 0)
theorem verdict_le (l : List UInt8) : (specNumber l).2 ≤ 2 := by
  unfold specNumber
  simp only
  generalize (if signed l then l.tail else l) = t
  by_cases ht : t = []
  · rw [if_pos ht]; simp
  · rw [if_neg ht]
    cases readN 0 t with
    | none => simp
    | some n => simp only; split <;> omega
theorem number_le (l : List UInt8) : (specNumber l).1 ≤ huge := by
  unfold specNumber
  simp only
  generalize (if signed l then l.tail else l) = t
  by_cases ht : t = []
  · rw [if_pos ht]; simp
  · rw [if_neg ht]
    cases h : readN 0 t with
    | none => simp
    | some n => exact readN_le h (by unfold huge; omega)
theorem worse_any (a b : Nat) (w : World) (ha : a ≤ 2) (hb : b ≤ 2) :
    Calls Tryz.prog 46 #[.int .i64 (a : Int), .int .i64 (b : Int)] w fun e w' => e = .returned (.int .i64 (worseN a b : Int)) ∧ w = w' := by
  have h : (a = 0 ∨ a = 1 ∨ a = 2) ∧ (b = 0 ∨ b = 1 ∨ b = 2) := by omega
  obtain ⟨rfl | rfl | rfl, rfl | rfl | rfl⟩ := h
  all_goals
    go_enter Tryz.func46, Tryz.ntmps46
    go_wp2
    go_ret
    exact ⟨rfl, rfl⟩
set_option maxHeartbeats 400000 in
theorem step_any (s : ByteArray) (w : World) (hs : s.size ≤ 65536) :
    Calls Tryz.prog 154 #[.string s] w fun e w' => e = .returned (.tuple #[.int .i64 ((specStep s.data.toList).1 : Int), .int .i64 ((specStep s.data.toList).2 : Int)]) ∧ w = w' := by
  have hv := verdict_le s.data.toList
  have hn := number_le s.data.toList
  unfold huge at hn
  have hc := fun w => cronNumber_any s w hs
  obtain ⟨nv, hnv⟩ : ∃ nv, specNumber s.data.toList = nv := ⟨_, rfl⟩
  have HR : Hid (specStep s.data.toList = if nv.2 = 0 ∨ nv.1 = 0 then (0, 0) else if nv.1 = huge then (0, 2) else nv) := Lib.hid (by unfold specStep; rw [hnv])
  rw [hnv] at hv hn hc
  have HC := Lib.hid hc
  clear hnv hc
  obtain ⟨n, v⟩ := nv
  simp only at hv hn
  by_cases h1 : v = 0
  · have h1' : ((v : Int) == 0) = true := by rw [h1]; rfl
    have HS : Hid (specStep s.data.toList = (0, 0)) := Lib.hid (by rw [HR.out, if_pos (.inl h1)])
    clear h1
    go_enter Tryz.func154, Tryz.ntmps154
    go_wp2_with (go_at_call 158; refine (HC.out _).mono ?_; rintro e w' ⟨rfl, rfl⟩)
    go_ret2
    exact ⟨by rw [HS.out]; rfl, rfl⟩
  · have h1' : ((v : Int) == 0) = false := beq_eq_false_iff_ne.2 (by omega)
    by_cases h2 : n = 0
    · have h2' : ((n : Int) == 0) = true := by rw [h2]; rfl
      have HS : Hid (specStep s.data.toList = (0, 0)) := Lib.hid (by rw [HR.out, if_pos (.inr h2)])
      clear h1 h2
      go_enter Tryz.func154, Tryz.ntmps154
      go_wp2_with (go_at_call 158; refine (HC.out _).mono ?_; rintro e w' ⟨rfl, rfl⟩)
      go_ret2
      exact ⟨by rw [HS.out]; rfl, rfl⟩
    · have h2' : ((n : Int) == 0) = false := beq_eq_false_iff_ne.2 (by omega)
      have hor : ¬ (v = 0 ∨ n = 0) := by omega
      by_cases h3 : n = 1099511627776
      · have h3' : ((n : Int) == 1099511627776) = true := by rw [h3]; rfl
        have HS : Hid (specStep s.data.toList = (0, 2)) := Lib.hid (by rw [HR.out, if_neg hor, if_pos (show (n, v).1 = huge from h3)])
        clear h1 h2 h3
        go_enter Tryz.func154, Tryz.ntmps154
        go_wp2_with (go_at_call 158; refine (HC.out _).mono ?_; rintro e w' ⟨rfl, rfl⟩)
        go_ret2
        exact ⟨by rw [HS.out]; rfl, rfl⟩
      · have h3' : ((n : Int) == 1099511627776) = false := beq_eq_false_iff_ne.2 (by omega)
        have HS : Hid (specStep s.data.toList = (n, v)) := Lib.hid (by rw [HR.out, if_neg hor, if_neg (show ¬ (n, v).1 = huge from h3)])
        clear h1 h2 h3
        go_enter Tryz.func154, Tryz.ntmps154
        go_wp2_with (go_at_call 158; refine (HC.out _).mono ?_; rintro e w' ⟨rfl, rfl⟩)
        go_ret2
        exact ⟨by rw [HS.out]; rfl, rfl⟩
def ValueAt (kind : Int) (sval : List UInt8 → Nat × Nat) : Prop :=
  (∀ l, (sval l).2 ≤ 2 ∧ (sval l).1 ≤ huge) ∧
  ∀ (s : ByteArray) (w : World), s.size ≤ 65536 →
    Calls Tryz.prog 157 #[.int .i64 kind, .string s] w fun e w' => e = .returned (.tuple #[.int .i64 ((sval s.data.toList).1 : Int), .int .i64 ((sval s.data.toList).2 : Int)]) ∧ Below w.heap.size w w'
theorem value_plain (kind : Int) (h4 : (kind == 4) = false) (h5 : (kind == 5) = false) : ValueAt kind specNumber := by
  refine ⟨fun l => ⟨verdict_le l, number_le l⟩, fun s w hs => ?_⟩
  go_enter Tryz.func157, Tryz.ntmps157
  go_wp2_with (go_at_call 158; refine (cronNumber_any s _ hs).mono ?_; rintro e w' ⟨rfl, rfl⟩)
  go_ret2
  exact ⟨rfl, Below.refl _ _⟩
def EndsRes (r : Nat × Nat × Bool × Bool × Nat) (e : Ending) : Prop :=
  e = .returned (.tuple #[.int .i64 (r.1 : Int), .int .i64 (r.2.1 : Int), .bool r.2.2.1, .bool r.2.2.2.1, .int .i64 (r.2.2.2.2 : Int)])
def Box3 (w : World) (b : Nat) (x y z : Value) : Prop := b < w.heap.size ∧ w.cell? ⟨b, 0, none⟩ = some x ∧ w.cell? ⟨b, 1, none⟩ = some y ∧ w.cell? ⟨b, 2, none⟩ = some z
theorem Box3.below {w w' : World} {b : Nat} {x y z : Value} (h : Box3 w b x y z) (hb : Below w.heap.size w w') : Box3 w' b x y z :=
  ⟨Nat.lt_of_lt_of_le h.1 hb.size, (hb.cell (p := ⟨b, 0, none⟩) h.1).trans h.2.1, (hb.cell (p := ⟨b, 1, none⟩) h.1).trans h.2.2.1, (hb.cell (p := ⟨b, 2, none⟩) h.1).trans h.2.2.2⟩
theorem box3_new (w : World) (E : TypeId) (x y z : Value) : Box3 (w.alloc (.cells #[x, y, z] E)) w.heap.size x y z := by
  have hh : (w.alloc (.cells #[x, y, z] E)).heap[w.heap.size]? = some (.cells #[x, y, z] E) := heap_alloc_new w _
  refine ⟨by simp, ?_, ?_, ?_⟩ <;> (unfold World.cell?; simp only [hh]; rfl)
section
variable {lo hi : Nat} {days : Bool} {sval : List UInt8 → Nat × Nat} {a : List UInt8}
theorem sends_star {r : List (List UInt8)} (h : a = [42] ∨ a = [63]) : specEnds lo hi days sval (a :: r) = (lo, hi, true, r.isEmpty, if r ≠ [] ∨ (a = [63] ∧ days = false) then 2 else 1) := by unfold specEnds; simp [h]
theorem sends_one (h : ¬ (a = [42] ∨ a = [63])) : specEnds lo hi days sval [a] = ((sval a).1, (sval a).1, false, true, (sval a).2) := by unfold specEnds; simp [h]
theorem sends_two {b : List UInt8} (h : ¬ (a = [42] ∨ a = [63])) : specEnds lo hi days sval [a, b] = ((sval a).1, (sval b).1, false, false, worseN (sval a).2 (sval b).2) := by unfold specEnds; simp [h]
theorem sends_many {b c : List UInt8} {r : List (List UInt8)} (h : ¬ (a = [42] ∨ a = [63])) : specEnds lo hi days sval (a :: b :: c :: r) = (0, 0, false, false, 0) := by unfold specEnds; simp [h]
end
set_option maxHeartbeats 2000000 in
set_option maxRecDepth 100000 in
theorem ends_any (s : ByteArray) (lo hi : Nat) (kind : Int) (days : Bool) (sval : List UInt8 → Nat × Nat) (w : World) (hlo : lo ≤ 62) (hhi : hi ≤ 62) (hs : s.size ≤ 65536)
    (hd : days = (kind == 3 || kind == 5)) (hval : ValueAt kind sval) :
    Calls Tryz.prog 153 #[.agg #[.int .i64 (lo : Int), .int .i64 (hi : Int), .int .i64 kind], .string s] w fun e w' => EndsRes (specEnds lo hi days sval (pieces 45 s.data.toList)) e ∧ Below w.heap.size w w' := by
  obtain ⟨a, r, Hps⟩ : ∃ a r, Hid (pieces 45 s.data.toList = a :: r) := by
    cases h : pieces 45 s.data.toList with
    | nil => exact absurd h (pieces_ne _ _)
    | cons a r => exact ⟨a, r, Lib.hid rfl⟩
  have hrc : r.length ≤ 65536 := by have := pieces_count 45 s.data.toList; rw [length_toList, Hps.out] at this; simp at this; omega
  have hal : (ofL a).size ≤ 65536 := by rw [size_ofL]; have := pieces_sum 45 s.data.toList a (by rw [Hps.out]; simp); rw [length_toList] at this; omega
  have HV := Lib.hid hval
  clear hval
  rw [Hps.out]
  by_cases h42 : a = [42] ∨ a = [63]
  · have HR := Lib.hid (sends_star (lo := lo) (hi := hi) (days := days) (sval := sval) (r := r) h42)
    obtain ⟨k3, hk3⟩ : ∃ k3, (kind == 3) = k3 := ⟨_, rfl⟩
    obtain ⟨k5, hk5⟩ : ∃ k5, (kind == 5) = k5 := ⟨_, rfl⟩
    have hk3n : (kind != 3) = !k3 := by rw [bne, hk3]
    have hk5n : (kind != 5) = !k5 := by rw [bne, hk5]
    rw [hk3, hk5] at hd
    have HDays := Lib.hid hd
    have HRlen := Lib.hid hrc
    by_cases ha42 : a = [42]
    · have e1 : ((ofL a).toList == [42]) = true := by rw [ByteArray.toList_eq, toList_ofL, ha42]; rfl
      have e2 : ((ofL a).toList == [63]) = false := by rw [ByteArray.toList_eq, toList_ofL, ha42]; rfl
      match r, Hps, hrc, HR with
      | [], Hps, hrc, HR =>
        have HR2 : Hid (specEnds lo hi days sval [a] = (lo, hi, true, true, 1)) := Lib.hid (by rw [HR.out, ha42]; rfl)
        clear ha42 h42 hd
        go_enter Tryz.func153, Tryz.ntmps153
        go_wp2_with (go_at_call 140; refine (pieces_any s 45 _ hs).mono ?_; rw [Hps.out]; rintro e w1 ⟨g, cap, rfl, hcap, hg, hS, hb⟩; (have hc0 := hS.2 0 _ rfl); (have hbx := (box3_new w 186 (.int .i64 (lo : Int)) (.int .i64 (hi : Int)) (.int .i64 kind)).below hb); (have hk := hbx.2.2.2); (have hkl := hbx.2.1); (have hkh := hbx.2.2.1))
        go_region_held3 (fun w' => w'.cell? ⟨w.heap.size, 0, none⟩ = some (.int .i64 (lo : Int)) ∧ w'.cell? ⟨w.heap.size, 1, none⟩ = some (.int .i64 (hi : Int))) (go_keep) (fail)
        all_goals
          go_wp2_with fail
          refine bodyPost_ret (results_tmp5 rfl _ _ _) rfl ?_
          exact ⟨by rw [HR2.out]; rfl, (((Below.refl w.heap.size w).alloc (Nat.le_refl _) _).trans (hb.mono (by simp))).drew⟩
      | b :: r, Hps, hrc, HR =>
        have HR2 : Hid (specEnds lo hi days sval (a :: b :: r) = (lo, hi, true, false, 2)) := Lib.hid (by rw [HR.out]; simp)
        have hl1 : decide ((1 : Int) < (r.length : Int) + 1 + 1) = true := decide_eq_true (by omega)
        have hl2 : (((r.length : Int) + 1 + 1) == 1) = false := beq_eq_false_iff_ne.2 (by omega)
        have hl3 : (0 : Int) < (r.length : Int) + 1 + 1 := by omega
        clear ha42 h42 hd
        go_enter Tryz.func153, Tryz.ntmps153
        go_wp2_with (go_at_call 140; refine (pieces_any s 45 _ hs).mono ?_; rw [Hps.out]; rintro e w1 ⟨g, cap, rfl, hcap, hg, hS, hb⟩; (have hc0 := hS.2 0 _ rfl); (have hbx := (box3_new w 186 (.int .i64 (lo : Int)) (.int .i64 (hi : Int)) (.int .i64 kind)).below hb); (have hk := hbx.2.2.2); (have hkl := hbx.2.1); (have hkh := hbx.2.2.1))
        go_region_held3 (fun w' => w'.cell? ⟨w.heap.size, 0, none⟩ = some (.int .i64 (lo : Int)) ∧ w'.cell? ⟨w.heap.size, 1, none⟩ = some (.int .i64 (hi : Int))) (go_keep) (fail)
        all_goals
          go_wp2_with fail
          refine bodyPost_ret (results_tmp5 rfl _ _ _) rfl ?_
          exact ⟨by rw [HR2.out]; rfl, (((Below.refl w.heap.size w).alloc (Nat.le_refl _) _).trans (hb.mono (by simp))).drew⟩
    · have ha63 : a = [63] := h42.resolve_left ha42
      have e1 : ((ofL a).toList == [42]) = false := by rw [ByteArray.toList_eq, toList_ofL, ha63]; rfl
      have e2 : ((ofL a).toList == [63]) = true := by rw [ByteArray.toList_eq, toList_ofL, ha63]; rfl
      match r, Hps, hrc, HR with
      | [], Hps, hrc, HR =>
        have HR1 : Hid (specEnds lo hi days sval [a] = (lo, hi, true, true, if days = false then 2 else 1)) := Lib.hid (by rw [HR.out, ha63]; simp)
        clear ha42 ha63 h42 hd
        cases k3 with
        | true =>
          have HR2 : Hid (specEnds lo hi days sval [a] = (lo, hi, true, true, 1)) := Lib.hid (by rw [HR1.out, HDays.out]; rfl)
          go_enter Tryz.func153, Tryz.ntmps153
          go_wp2_with (go_at_call 140; refine (pieces_any s 45 _ hs).mono ?_; rw [Hps.out]; rintro e w1 ⟨g, cap, rfl, hcap, hg, hS, hb⟩; (have hc0 := hS.2 0 _ rfl); (have hbx := (box3_new w 186 (.int .i64 (lo : Int)) (.int .i64 (hi : Int)) (.int .i64 kind)).below hb); (have hk := hbx.2.2.2); (have hkl := hbx.2.1); (have hkh := hbx.2.2.1))
          go_region_held3 (fun w' => w'.cell? ⟨w.heap.size, 0, none⟩ = some (.int .i64 (lo : Int)) ∧ w'.cell? ⟨w.heap.size, 1, none⟩ = some (.int .i64 (hi : Int))) (go_keep) (fail)
          all_goals
            go_wp2_with fail
            refine bodyPost_ret (results_tmp5 rfl _ _ _) rfl ?_
            exact ⟨by rw [HR2.out]; rfl, (((Below.refl w.heap.size w).alloc (Nat.le_refl _) _).trans (hb.mono (by simp))).drew⟩
        | false =>
          cases k5 with
          | true =>
            have HR2 : Hid (specEnds lo hi days sval [a] = (lo, hi, true, true, 1)) := Lib.hid (by rw [HR1.out, HDays.out]; rfl)
            go_enter Tryz.func153, Tryz.ntmps153
            go_wp2_with (go_at_call 140; refine (pieces_any s 45 _ hs).mono ?_; rw [Hps.out]; rintro e w1 ⟨g, cap, rfl, hcap, hg, hS, hb⟩; (have hc0 := hS.2 0 _ rfl); (have hbx := (box3_new w 186 (.int .i64 (lo : Int)) (.int .i64 (hi : Int)) (.int .i64 kind)).below hb); (have hk := hbx.2.2.2); (have hkl := hbx.2.1); (have hkh := hbx.2.2.1))
            go_region_held3 (fun w' => w'.cell? ⟨w.heap.size, 0, none⟩ = some (.int .i64 (lo : Int)) ∧ w'.cell? ⟨w.heap.size, 1, none⟩ = some (.int .i64 (hi : Int))) (go_keep) (fail)
            all_goals
              go_wp2_with fail
              refine bodyPost_ret (results_tmp5 rfl _ _ _) rfl ?_
              exact ⟨by rw [HR2.out]; rfl, (((Below.refl w.heap.size w).alloc (Nat.le_refl _) _).trans (hb.mono (by simp))).drew⟩
          | false =>
            have HR2 : Hid (specEnds lo hi days sval [a] = (lo, hi, true, true, 2)) := Lib.hid (by rw [HR1.out, HDays.out]; rfl)
            go_enter Tryz.func153, Tryz.ntmps153
            go_wp2_with (go_at_call 140; refine (pieces_any s 45 _ hs).mono ?_; rw [Hps.out]; rintro e w1 ⟨g, cap, rfl, hcap, hg, hS, hb⟩; (have hc0 := hS.2 0 _ rfl); (have hbx := (box3_new w 186 (.int .i64 (lo : Int)) (.int .i64 (hi : Int)) (.int .i64 kind)).below hb); (have hk := hbx.2.2.2); (have hkl := hbx.2.1); (have hkh := hbx.2.2.1))
            go_region_held3 (fun w' => w'.cell? ⟨w.heap.size, 0, none⟩ = some (.int .i64 (lo : Int)) ∧ w'.cell? ⟨w.heap.size, 1, none⟩ = some (.int .i64 (hi : Int))) (go_keep) (fail)
            all_goals
              go_wp2_with fail
              refine bodyPost_ret (results_tmp5 rfl _ _ _) rfl ?_
              exact ⟨by rw [HR2.out]; rfl, (((Below.refl w.heap.size w).alloc (Nat.le_refl _) _).trans (hb.mono (by simp))).drew⟩
      | b :: r, Hps, hrc, HR =>
        have HR2 : Hid (specEnds lo hi days sval (a :: b :: r) = (lo, hi, true, false, 2)) := Lib.hid (by rw [HR.out]; simp)
        have hl1 : decide ((1 : Int) < (r.length : Int) + 1 + 1) = true := decide_eq_true (by omega)
        have hl2 : (((r.length : Int) + 1 + 1) == 1) = false := beq_eq_false_iff_ne.2 (by omega)
        have hl3 : (0 : Int) < (r.length : Int) + 1 + 1 := by omega
        clear ha42 ha63 h42 hd
        go_enter Tryz.func153, Tryz.ntmps153
        go_wp2_with (go_at_call 140; refine (pieces_any s 45 _ hs).mono ?_; rw [Hps.out]; rintro e w1 ⟨g, cap, rfl, hcap, hg, hS, hb⟩; (have hc0 := hS.2 0 _ rfl); (have hbx := (box3_new w 186 (.int .i64 (lo : Int)) (.int .i64 (hi : Int)) (.int .i64 kind)).below hb); (have hk := hbx.2.2.2); (have hkl := hbx.2.1); (have hkh := hbx.2.2.1))
        go_region_held3 (fun w' => w'.cell? ⟨w.heap.size, 0, none⟩ = some (.int .i64 (lo : Int)) ∧ w'.cell? ⟨w.heap.size, 1, none⟩ = some (.int .i64 (hi : Int))) (go_keep) (fail)
        all_goals
          go_wp2_with fail
          refine bodyPost_ret (results_tmp5 rfl _ _ _) rfl ?_
          exact ⟨by rw [HR2.out]; rfl, (((Below.refl w.heap.size w).alloc (Nat.le_refl _) _).trans (hb.mono (by simp))).drew⟩
  · have HN := Lib.hid h42
    have e1 : ((ofL a).toList == [42]) = false := by rw [ByteArray.toList_eq, toList_ofL]; simpa using fun h => h42 (.inl h)
    have e2 : ((ofL a).toList == [63]) = false := by rw [ByteArray.toList_eq, toList_ofL]; simpa using fun h => h42 (.inr h)
    have hva := HV.out.1 a
    unfold huge at hva
    have hva1 := hva.1
    have hva2 := hva.2
    clear h42 hva
    match r, Hps, hrc with
    | [], Hps, hrc =>
      have HR := Lib.hid (sends_one (lo := lo) (hi := hi) (days := days) (sval := sval) HN.out)
      go_enter Tryz.func153, Tryz.ntmps153
      go_wp2_with (go_at_call 140; refine (pieces_any s 45 _ hs).mono ?_; rw [Hps.out]; rintro e w1 ⟨g, cap, rfl, hcap, hg, hS, hb⟩; (have hc0 := hS.2 0 _ rfl); (have hbx := (box3_new w 186 (.int .i64 (lo : Int)) (.int .i64 (hi : Int)) (.int .i64 kind)).below hb); (have hk := hbx.2.2.2); (have hkl := hbx.2.1); (have hkh := hbx.2.2.1))
      go_region_held3 (fun w' => w'.cell? ⟨g, 0, none⟩ = some (.string (ofL a)) ∧ w'.cell? ⟨w.heap.size, 2, none⟩ = some (.int .i64 kind)) (go_keep) ((go_at_call 157; refine (HV.out.2 _ _ hal).mono ?_; rw [toList_ofL]; rintro e w3 ⟨rfl, hb3⟩; (have k1 := (hb3.cell (p := ⟨g, 0, none⟩) hS.1).trans hc0); (have k2 := (hb3.cell (p := ⟨w.heap.size, 2, none⟩) hbx.1).trans hk)))
      all_goals
        go_wp2_with fail
        refine bodyPost_ret (results_tmp5 rfl _ _ _) rfl ?_
        exact ⟨by rw [HR.out]; rfl, (((Below.refl w.heap.size w).alloc (Nat.le_refl _) _).trans (hb.mono (by simp))).drew.trans (hb3.mono (by have := hb.size; simp at this ⊢; omega))⟩
    | [b], Hps, hrc =>
      have hbl : (ofL b).size ≤ 65536 := by rw [size_ofL]; have := pieces_sum 45 s.data.toList b (by rw [Hps.out]; simp); rw [length_toList] at this; omega
      have HR := Lib.hid (sends_two (lo := lo) (hi := hi) (days := days) (sval := sval) (b := b) HN.out)
      have hvb := HV.out.1 b
      unfold huge at hvb
      have hvb1 := hvb.1
      have hvb2 := hvb.2
      clear hvb
      go_enter Tryz.func153, Tryz.ntmps153
      go_wp2_with (go_at_call 140; refine (pieces_any s 45 _ hs).mono ?_; rw [Hps.out]; rintro e w1 ⟨g, cap, rfl, hcap, hg, hS, hb⟩; (have hc0 := hS.2 0 _ rfl); (have hbx := (box3_new w 186 (.int .i64 (lo : Int)) (.int .i64 (hi : Int)) (.int .i64 kind)).below hb); (have hk := hbx.2.2.2); (have hkl := hbx.2.1); (have hkh := hbx.2.2.1))
      have hc1 := hS.2 1 _ rfl
      go_region_held3 (fun w' => w'.cell? ⟨g, 0, none⟩ = some (.string (ofL a)) ∧ w'.cell? ⟨w.heap.size, 2, none⟩ = some (.int .i64 kind)) (go_keep) ((go_at_call 157; refine (HV.out.2 _ _ hal).mono ?_; rw [toList_ofL]; rintro e w3 ⟨rfl, hb3⟩; (have k1 := (hb3.cell (p := ⟨g, 0, none⟩) hS.1).trans hc0); (have k2 := (hb3.cell (p := ⟨w.heap.size, 2, none⟩) hbx.1).trans hk)))
      all_goals
        have k3 := (hb3.cell (p := ⟨g, 1, none⟩) hS.1).trans hc1
        have hlt3 : g < w3.heap.size := Nat.lt_of_lt_of_le hS.1 hb3.size
        have hb03 : w.heap.size < w3.heap.size := Nat.lt_of_lt_of_le hbx.1 hb3.size
        have HB3 := Lib.hid ((((Below.refl w.heap.size w).alloc (Nat.le_refl _) _).trans (hb.mono (by simp))).drew.trans (hb3.mono (by have := hb.size; simp at this ⊢; omega)))
        clear hb3 k1 hc1 hc0 hk hkl hkh
        go_wp2_with fail
        go_region_held3 (fun w' => w'.cell? ⟨g, 1, none⟩ = some (.string (ofL b)) ∧ w'.cell? ⟨w.heap.size, 2, none⟩ = some (.int .i64 kind)) (go_keep) ((go_at_call 157; refine (HV.out.2 _ _ hbl).mono ?_; rw [toList_ofL]; rintro e w4 ⟨rfl, hb4⟩; (have k4 := (hb4.cell (p := ⟨g, 1, none⟩) hlt3).trans k3); (have k5 := (hb4.cell (p := ⟨w.heap.size, 2, none⟩) hb03).trans k2)))
        all_goals
          go_wp2_with (go_at_call 46; refine (worse_any _ _ _ (by omega) (by omega)).mono ?_; rintro e w5 ⟨rfl, rfl⟩)
          refine bodyPost_ret (results_tmp5 rfl _ _ _) rfl ?_
          exact ⟨by rw [HR.out]; rfl, HB3.out.drew.trans (hb4.mono HB3.out.size)⟩
    | b :: c :: r, Hps, hrc =>
      have HR := Lib.hid (sends_many (lo := lo) (hi := hi) (days := days) (sval := sval) (b := b) (c := c) (r := r) HN.out)
      have hl1 : (((r.length : Int) + 1 + 1 + 1) == 1) = false := beq_eq_false_iff_ne.2 (by omega)
      have hl2 : (((r.length : Int) + 1 + 1 + 1) == 2) = false := beq_eq_false_iff_ne.2 (by omega)
      have hl3 : (0 : Int) < (r.length : Int) + 1 + 1 + 1 := by omega
      go_enter Tryz.func153, Tryz.ntmps153
      go_wp2_with (go_at_call 140; refine (pieces_any s 45 _ hs).mono ?_; rw [Hps.out]; rintro e w1 ⟨g, cap, rfl, hcap, hg, hS, hb⟩; (have hc0 := hS.2 0 _ rfl); (have hbx := (box3_new w 186 (.int .i64 (lo : Int)) (.int .i64 (hi : Int)) (.int .i64 kind)).below hb); (have hk := hbx.2.2.2); (have hkl := hbx.2.1); (have hkh := hbx.2.2.1))
      go_region_held3 (fun w' => w'.cell? ⟨g, 0, none⟩ = some (.string (ofL a)) ∧ w'.cell? ⟨w.heap.size, 2, none⟩ = some (.int .i64 kind)) (go_keep) ((go_at_call 157; refine (HV.out.2 _ _ hal).mono ?_; rw [toList_ofL]; rintro e w3 ⟨rfl, hb3⟩; (have k1 := (hb3.cell (p := ⟨g, 0, none⟩) hS.1).trans hc0); (have k2 := (hb3.cell (p := ⟨w.heap.size, 2, none⟩) hbx.1).trans hk)))
      all_goals
        go_wp2_with fail
        refine bodyPost_ret (results_tmp5 rfl _ _ _) rfl ?_
        exact ⟨by rw [HR.out]; rfl, (((Below.refl w.heap.size w).alloc (Nat.le_refl _) _).trans (hb.mono (by simp))).drew.trans (hb3.mono (by have := hb.size; simp at this ⊢; omega))⟩
end Go.Proofs.YtmnjmhlodbifjaaGreatDoor.SpecEnds
