/- The reference's numbers: the walks of isDigit, cronZeros and CronNumber. Conditions: texts of at most 65536 bytes. -/
import Derived.Test.YtjdpmcacnllfpaaDoorChecked
import Derived.Test.YtjdpmcacnllfpaaDoorNumPure
import Derived.ProofKit
import Derived.OpenShut
import Derived.Lib.Hide
import Derived.WalkSpells
import Derived.Lib.IndexBytes
namespace Go.Proofs.YtjdpmcacnllfpaaDoor.SpecNum
open Go.RowKit Go.Proofs.YtjdpmcacnllfpaaDoor.NumPure

theorem isDigit_yes (c : UInt8) (w : World) (h : isDig c = true) :
    Calls Tryd.prog 22 #[.int .u8 (c.toNat : Int)] w fun e w' => e = .returned (.bool true) ∧ w = w' := by
  simp only [isDig, Bool.and_eq_true, decide_eq_true_eq] at h
  have h1 : decide ((48 : Int) ≤ (c.toNat : Int)) = true := decide_eq_true (by omega)
  have h2 : decide ((c.toNat : Int) ≤ 57) = true := decide_eq_true (by omega)
  go_enter Tryd.func22, Tryd.ntmps22
  go_wp2
  go_ret
  exact ⟨rfl, rfl⟩

theorem isDigit_no (c : UInt8) (w : World) (h : isDig c = false) :
    Calls Tryd.prog 22 #[.int .u8 (c.toNat : Int)] w fun e w' => e = .returned (.bool false) ∧ w = w' := by
  simp only [isDig, Bool.and_eq_false_iff, decide_eq_false_iff_not] at h
  by_cases h1 : c.toNat < 48
  · have h1 : decide ((48 : Int) ≤ (c.toNat : Int)) = false := decide_eq_false (by omega)
    go_enter Tryd.func22, Tryd.ntmps22
    go_wp2
    go_ret
    exact ⟨rfl, rfl⟩
  · have h1 : decide ((48 : Int) ≤ (c.toNat : Int)) = true := decide_eq_true (by omega)
    have h2 : decide ((c.toNat : Int) ≤ 57) = false := decide_eq_false (by omega)
    go_enter Tryd.func22, Tryd.ntmps22
    go_wp2
    go_ret
    exact ⟨rfl, rfl⟩

theorem take_snoc (s : ByteArray) (k : Nat) (h : k < s.size) : s.data.toList.take (k + 1) = s.data.toList.take k ++ [s[k]] := by
  rw [List.take_succ_eq_append_getElem (by simpa using h)]; rfl

theorem take_all (s : ByteArray) (k : Nat) (h : s.size ≤ k) : s.data.toList.take k = s.data.toList := List.take_of_length_le (by simpa using h)

theorem drop_cons (s : ByteArray) (k : Nat) (h : k < s.size) : s.data.toList.drop k = s[k] :: s.data.toList.drop (k + 1) := by
  rw [List.drop_eq_getElem_cons (by simpa using h)]; rfl

theorem zeros_snoc (l : List UInt8) (c : UInt8) : zeros (l ++ [c]) = (zeros l && c == 48) := by simp [zeros]

set_option maxHeartbeats 400000 in
theorem zeros_any (s : ByteArray) (w : World) (hs : s.size ≤ 65536) :
    Calls Tryd.prog 21 #[.string s] w fun e w' => e = .returned (.bool (zeros s.data.toList)) ∧ w = w' := by
  go_enter Tryd.func21, Tryd.ntmps21
  go_wp2
  go_loop [3, 6] (fun _ i => ∃ k : Nat, k ≤ s.size ∧ i = .int .i64 k ∧ Hid (zeros (s.data.toList.take k) = true)) (fun _ i => s.size - (intOf i).toNat)
  case atStart => exact ⟨0, Nat.zero_le _, rfl, Lib.hid rfl⟩
  case round =>
    obtain ⟨k, hk, rfl, HZ⟩ := hrel
    by_cases hlt : k < s.size
    · have hts := take_snoc s k hlt
      have hall := List.take_append_drop (k + 1) s.data.toList
      by_cases hc : s[k] = 48
      · have HN : Hid (zeros (s.data.toList.take (k + 1)) = true) := Lib.hid (by rw [hts, zeros_snoc, HZ.out, hc]; rfl)
        have hb : ((s[k].toNat : Int) != 48) = false := by rw [hc]; rfl
        clear hts hall hc
        go_wp2
        go_round
        case rel => exact ⟨k + 1, by omega, by go_num, HN⟩
        case measure => simp [intOf]; omega
      · have HN : Hid (zeros s.data.toList = false) := Lib.hid (by
          rw [← hall, hts]; simp only [zeros, List.all_append]; simp [hc])
        have hb : ((s[k].toNat : Int) != 48) = true := by
          rw [bne_iff_ne]; intro e; exact hc (UInt8.toNat_inj.1 (by show s[k].toNat = 48; omega))
        clear hts hall hc
        go_wp2
        go_ret
        exact ⟨by rw [HN.out]; rfl, rfl⟩
    · have HN : Hid (zeros s.data.toList = true) := Lib.hid (by rw [← take_all s k (by omega)]; exact HZ.out)
      go_wp2
      go_ret
      exact ⟨by rw [HN.out]; rfl, rfl⟩

theorem readN_snoc (l : List UInt8) : ∀ (a n : Nat) (c : UInt8), readN a l = some n → readN a (l ++ [c]) = if isDig c then some (min (10 * n + (c.toNat - 48)) huge) else none := by
  induction l with
  | nil => intro a n c h; simp only [readN] at h; cases h; rfl
  | cons d r ih =>
    intro a n c h
    simp only [readN, List.cons_append] at h ⊢
    split
    · rename_i hd; rw [if_pos hd] at h; exact ih _ _ _ h
    · rename_i hd; rw [if_neg hd] at h; cases h

theorem readN_bad (l r : List UInt8) (a : Nat) (h : readN a l = none) : readN a (l ++ r) = none := by
  rw [readN_none] at h ⊢
  simp only [List.all_append, Bool.and_eq_true]
  exact fun ⟨h1, _⟩ => h h1

/-- What stands behind the sign's test: the text t is read with the verdict v. -/
def readPart (t : List UInt8) (v : Nat) : Nat × Nat :=
  if t = [] then (0, 0) else
  match readN 0 t with
  | none => (0, 0)
  | some n => (n, v)

theorem readPart_some {t : List UInt8} {v n : Nat} (hne : t ≠ []) (h : readN 0 t = some n) : readPart t v = (n, v) := by
  unfold readPart; rw [if_neg hne, h]
theorem readPart_none {t : List UInt8} {v : Nat} (h : readN 0 t = none) : readPart t v = (0, 0) := by
  unfold readPart; split
  · rfl
  · rw [h]
theorem specNumber_part (l : List UInt8) : specNumber l = readPart (if signed l then l.tail else l) (if signed l then 2 else 1) := rfl

theorem nil_of_isEmpty {t : ByteArray} (h : t.toList.isEmpty = true) : t.data.toList = [] := by
  have h1 : t.toList = [] := by simpa using h
  have h2 : t.toList = t.data.toList := ByteArray.toList_eq t
  rw [← h2, h1]
theorem ne_nil_of_isEmpty {t : ByteArray} (h : t.toList.isEmpty = false) : t.data.toList ≠ [] := by
  have h2 : t.toList = t.data.toList := ByteArray.toList_eq t
  rw [← h2]; intro e; rw [e] at h; cases h

theorem tail_extract (s : ByteArray) : (s.extract 1 s.size).data.toList = s.data.toList.tail := by
  rw [Lib.extract_to_end]; exact List.drop_one ..

theorem size_extract1 (s : ByteArray) : (s.extract 1 s.size).size = s.size - 1 := by simp

theorem min_cast (m c : Nat) (h : 48 ≤ c) : (if (1099511627776 : Int) < 10 * (m : Int) + ((c : Int) - 48) then 1099511627776 else 10 * (m : Int) + ((c : Int) - 48)) = ((min (10 * m + (c - 48)) huge : Nat) : Int) := by
  unfold huge; split <;> omega

/-- 'number' as the pair that CronNumber hands back. -/
def NumPair (r : Nat × Nat) (e : Ending) : Prop := e = .returned (.tuple #[.int .i64 (r.1 : Int), .int .i64 (r.2 : Int)])

set_option maxHeartbeats 400000 in
theorem number_empty (s : ByteArray) (w : World) (h0 : s.size = 0) :
    Calls Tryd.prog 7 #[.string s] w fun e w' => NumPair (0, 0) e ∧ w = w' := by
  have h1 : decide ((0 : Int) < (s.size : Int)) = false := decide_eq_false (by omega)
  have h2 : s.data.toList = [] := by apply List.eq_nil_of_length_eq_zero; simpa using h0
  have h3 : s = ⟨#[]⟩ := by cases s; congr 1; apply Array.toList_inj.1; exact h2
  subst h3
  go_enter Tryd.func7, Tryd.ntmps7
  go_wp2_with fail
  go_ret2
  exact ⟨rfl, rfl⟩

theorem not_isEmpty {s : ByteArray} (h0 : 0 < s.size) : s.toList.isEmpty = false := by
  rw [ByteArray.toList_eq]
  cases h : s.data.toList with
  | nil =>
    have h1 : s.data.toList.length = s.size := by simp
    rw [h] at h1
    simp at h1; omega
  | cons a b => rfl
theorem cons_of {s : ByteArray} (h0 : 0 < s.size) : s.data.toList = s[0] :: s.data.toList.tail := by
  have hc := drop_cons s 0 h0
  rw [List.drop_zero] at hc
  rw [hc]; rfl
theorem signed_minus {s : ByteArray} (h0 : 0 < s.size) (h : s[0] = 45) : signed s.data.toList = zeros s.data.toList.tail := by
  rw [cons_of h0, h]; simp [signed]
theorem signed_plus {s : ByteArray} (h0 : 0 < s.size) (h : s[0] = 43) : signed s.data.toList = true := by
  rw [cons_of h0, h]; simp [signed]
theorem signed_other {s : ByteArray} (h0 : 0 < s.size) (h : ¬ s[0] = 43) (h2 : ¬ s[0] = 45) : signed s.data.toList = false := by
  rw [cons_of h0]; simp [signed, h, h2]
theorem tail_take (s : ByteArray) : List.take (s.size - 1) s.data.toList.tail = s.data.toList.tail := List.take_of_length_le (by simp)
theorem byte_ne {a b : UInt8} (h : ¬ a = b) : ((a.toNat : Int) == (b.toNat : Int)) = false := by
  rw [beq_eq_false_iff_ne]; intro e; exact h (UInt8.toNat_inj.1 (by omega))

set_option maxHeartbeats 1000000 in
theorem number_plus (s : ByteArray) (w : World) (hs : s.size ≤ 65536) (h0 : 0 < s.size) (h43 : s[0] = 43) :
    Calls Tryd.prog 7 #[.string s] w fun e w' => NumPair (specNumber s.data.toList) e ∧ w = w' := by
  have HF : Hid (specNumber s.data.toList = readPart (s.extract 1 s.size).data.toList 2) := Lib.hid (by
    rw [specNumber_part]
    rw [signed_plus h0 h43, tail_extract]; rfl)
  have hb : ((s[0].toNat : Int) == 43) = true := by rw [h43]; rfl
  go_enter Tryd.func7, Tryd.ntmps7
  go_wp2_with (go_at_call 21; refine (zeros_any _ _ (by simp; omega)).mono ?_; rintro e w' ⟨rfl, rfl⟩)
  · have he : (s.extract 1 s.size).toList.isEmpty = true := by assumption
    have he' := nil_of_isEmpty he
    go_ret2
    refine ⟨?_, rfl⟩
    rw [HF.out, readPart, if_pos he']; rfl
  · have he : (s.extract 1 s.size).toList.isEmpty = false := by assumption
    have HNE := Lib.hid (ne_nil_of_isEmpty he)
    clear he
    rw [← size_extract1 s]
    have htz : (s.extract 1 s.size).size ≤ 65536 := by rw [size_extract1]; omega
    generalize s.extract 1 s.size = t at HF HNE htz ⊢
    go_loop [5, 6, 31] (fun n _ i => ∃ k m : Nat, k ≤ t.size ∧ i = .int .i64 k ∧ n = .int .i64 m ∧ m ≤ 1099511627776 ∧ Hid (readN 0 (t.data.toList.take k) = some m)) (fun _ _ i => t.size - (intOf i).toNat)
    case atStart => exact ⟨0, 0, Nat.zero_le _, rfl, rfl, by omega, Lib.hid rfl⟩
    case round =>
      obtain ⟨k, m, hk, rfl, rfl, hm, HR⟩ := hrel
      by_cases hlt : k < t.size
      · have HS := Lib.hid (take_snoc t k hlt)
        have HA := Lib.hid (List.take_append_drop (k + 1) t.data.toList)
        by_cases hd : isDig t[k] = true
        · have hd2 : 48 ≤ t[k].toNat ∧ t[k].toNat ≤ 57 := by simpa [isDig] using hd
          have HN : Hid (readN 0 (t.data.toList.take (k + 1)) = some (min (10 * m + (t[k].toNat - 48)) huge)) := Lib.hid (by rw [HS.out, readN_snoc _ _ _ _ HR.out, if_pos hd])
          have hlo : (48 : Int) ≤ (t[k].toNat : Int) := by omega
          have hhi : (t[k].toNat : Int) ≤ 57 := by omega
          clear hd2
          go_wp2_with (go_at_call 22; refine (isDigit_yes _ _ hd).mono ?_; rintro e w' ⟨rfl, rfl⟩)
          go_round
          case rel => exact ⟨k + 1, _, by omega, by go_num, by rw [min_cast _ _ (by omega)]; rfl, Nat.min_le_right _ _, HN⟩
          case measure => simp [intOf]; omega
        · have hd' : isDig t[k] = false := by simpa using hd
          have HN : Hid (readN 0 t.data.toList = none) := Lib.hid (by rw [← HA.out, HS.out]; apply readN_bad; rw [readN_snoc _ _ _ _ HR.out, if_neg hd])
          go_wp2_with (go_at_call 22; refine (isDigit_no _ _ hd').mono ?_; rintro e w' ⟨rfl, rfl⟩)
          go_ret2
          exact ⟨by rw [HF.out, readPart_none HN.out]; rfl, rfl⟩
      · have HN : Hid (readN 0 t.data.toList = some m) := Lib.hid (by rw [← take_all t k (by omega)]; exact HR.out)
        go_wp2
        go_ret2
        exact ⟨by rw [HF.out, readPart_some HNE.out HN.out]; rfl, rfl⟩


set_option maxHeartbeats 1000000 in
theorem number_minus (s : ByteArray) (w : World) (hs : s.size ≤ 65536) (h0 : 0 < s.size) (h45 : s[0] = 45) (hz : zeros s.data.toList.tail = true) :
    Calls Tryd.prog 7 #[.string s] w fun e w' => NumPair (specNumber s.data.toList) e ∧ w = w' := by
  have HF : Hid (specNumber s.data.toList = readPart (s.extract 1 s.size).data.toList 2) := Lib.hid (by
    rw [specNumber_part]
    rw [signed_minus h0 h45, hz, tail_extract]; rfl)
  have hb : ((s[0].toNat : Int) == 43) = false := by rw [h45]; rfl
  have hb2 : ((s[0].toNat : Int) == 45) = true := by rw [h45]; rfl
  have hz2 : zeros (List.take (s.size - 1) s.data.toList.tail) = true := by rw [tail_take]; exact hz
  go_enter Tryd.func7, Tryd.ntmps7
  go_wp2_with (go_at_call 21; refine (zeros_any _ _ (by simp; omega)).mono ?_; rintro e w' ⟨rfl, rfl⟩)
  · have he : (s.extract 1 s.size).toList.isEmpty = true := by assumption
    have he' := nil_of_isEmpty he
    go_ret2
    refine ⟨?_, rfl⟩
    rw [HF.out, readPart, if_pos he']; rfl
  · have he : (s.extract 1 s.size).toList.isEmpty = false := by assumption
    have HNE := Lib.hid (ne_nil_of_isEmpty he)
    clear he
    rw [← size_extract1 s]
    have htz : (s.extract 1 s.size).size ≤ 65536 := by rw [size_extract1]; omega
    generalize s.extract 1 s.size = t at HF HNE htz ⊢
    go_loop [5, 6, 31] (fun n _ i => ∃ k m : Nat, k ≤ t.size ∧ i = .int .i64 k ∧ n = .int .i64 m ∧ m ≤ 1099511627776 ∧ Hid (readN 0 (t.data.toList.take k) = some m)) (fun _ _ i => t.size - (intOf i).toNat)
    case atStart => exact ⟨0, 0, Nat.zero_le _, rfl, rfl, by omega, Lib.hid rfl⟩
    case round =>
      obtain ⟨k, m, hk, rfl, rfl, hm, HR⟩ := hrel
      by_cases hlt : k < t.size
      · have HS := Lib.hid (take_snoc t k hlt)
        have HA := Lib.hid (List.take_append_drop (k + 1) t.data.toList)
        by_cases hd : isDig t[k] = true
        · have hd2 : 48 ≤ t[k].toNat ∧ t[k].toNat ≤ 57 := by simpa [isDig] using hd
          have HN : Hid (readN 0 (t.data.toList.take (k + 1)) = some (min (10 * m + (t[k].toNat - 48)) huge)) := Lib.hid (by rw [HS.out, readN_snoc _ _ _ _ HR.out, if_pos hd])
          have hlo : (48 : Int) ≤ (t[k].toNat : Int) := by omega
          have hhi : (t[k].toNat : Int) ≤ 57 := by omega
          clear hd2
          go_wp2_with (go_at_call 22; refine (isDigit_yes _ _ hd).mono ?_; rintro e w' ⟨rfl, rfl⟩)
          go_round
          case rel => exact ⟨k + 1, _, by omega, by go_num, by rw [min_cast _ _ (by omega)]; rfl, Nat.min_le_right _ _, HN⟩
          case measure => simp [intOf]; omega
        · have hd' : isDig t[k] = false := by simpa using hd
          have HN : Hid (readN 0 t.data.toList = none) := Lib.hid (by rw [← HA.out, HS.out]; apply readN_bad; rw [readN_snoc _ _ _ _ HR.out, if_neg hd])
          go_wp2_with (go_at_call 22; refine (isDigit_no _ _ hd').mono ?_; rintro e w' ⟨rfl, rfl⟩)
          go_ret2
          exact ⟨by rw [HF.out, readPart_none HN.out]; rfl, rfl⟩
      · have HN : Hid (readN 0 t.data.toList = some m) := Lib.hid (by rw [← take_all t k (by omega)]; exact HR.out)
        go_wp2
        go_ret2
        exact ⟨by rw [HF.out, readPart_some HNE.out HN.out]; rfl, rfl⟩


set_option maxHeartbeats 1000000 in
theorem number_minus_not (s : ByteArray) (w : World) (hs : s.size ≤ 65536) (h0 : 0 < s.size) (h45 : s[0] = 45) (hz : zeros s.data.toList.tail = false) :
    Calls Tryd.prog 7 #[.string s] w fun e w' => NumPair (specNumber s.data.toList) e ∧ w = w' := by
  have HF : Hid (specNumber s.data.toList = readPart (s).data.toList 1) := Lib.hid (by
    rw [specNumber_part]
    rw [signed_minus h0 h45, hz]; rfl)
  have hb : ((s[0].toNat : Int) == 43) = false := by rw [h45]; rfl
  have hb2 : ((s[0].toNat : Int) == 45) = true := by rw [h45]; rfl
  have hz2 : zeros (List.take (s.size - 1) s.data.toList.tail) = false := by rw [tail_take]; exact hz
  have he0 : s.toList.isEmpty = false := not_isEmpty h0
  go_enter Tryd.func7, Tryd.ntmps7
  go_wp2_with (go_at_call 21; refine (zeros_any _ _ (by simp; omega)).mono ?_; rintro e w' ⟨rfl, rfl⟩)
  have he := he0
  have HNE := Lib.hid (ne_nil_of_isEmpty he)
  clear he
  obtain ⟨t, rfl⟩ : ∃ t, t = s := ⟨_, rfl⟩
  have htz := hs
  go_loop [5, 6, 31] (fun n _ i => ∃ k m : Nat, k ≤ t.size ∧ i = .int .i64 k ∧ n = .int .i64 m ∧ m ≤ 1099511627776 ∧ Hid (readN 0 (t.data.toList.take k) = some m)) (fun _ _ i => t.size - (intOf i).toNat)
  case atStart => exact ⟨0, 0, Nat.zero_le _, rfl, rfl, by omega, Lib.hid rfl⟩
  case round =>
    obtain ⟨k, m, hk, rfl, rfl, hm, HR⟩ := hrel
    by_cases hlt : k < t.size
    · have HS := Lib.hid (take_snoc t k hlt)
      have HA := Lib.hid (List.take_append_drop (k + 1) t.data.toList)
      by_cases hd : isDig t[k] = true
      · have hd2 : 48 ≤ t[k].toNat ∧ t[k].toNat ≤ 57 := by simpa [isDig] using hd
        have HN : Hid (readN 0 (t.data.toList.take (k + 1)) = some (min (10 * m + (t[k].toNat - 48)) huge)) := Lib.hid (by rw [HS.out, readN_snoc _ _ _ _ HR.out, if_pos hd])
        have hlo : (48 : Int) ≤ (t[k].toNat : Int) := by omega
        have hhi : (t[k].toNat : Int) ≤ 57 := by omega
        clear hd2
        go_wp2_with (go_at_call 22; refine (isDigit_yes _ _ hd).mono ?_; rintro e w' ⟨rfl, rfl⟩)
        go_round
        case rel => exact ⟨k + 1, _, by omega, by go_num, by rw [min_cast _ _ (by omega)]; rfl, Nat.min_le_right _ _, HN⟩
        case measure => simp [intOf]; omega
      · have hd' : isDig t[k] = false := by simpa using hd
        have HN : Hid (readN 0 t.data.toList = none) := Lib.hid (by rw [← HA.out, HS.out]; apply readN_bad; rw [readN_snoc _ _ _ _ HR.out, if_neg hd])
        go_wp2_with (go_at_call 22; refine (isDigit_no _ _ hd').mono ?_; rintro e w' ⟨rfl, rfl⟩)
        go_ret2
        exact ⟨by rw [HF.out, readPart_none HN.out]; rfl, rfl⟩
    · have HN : Hid (readN 0 t.data.toList = some m) := Lib.hid (by rw [← take_all t k (by omega)]; exact HR.out)
      go_wp2
      go_ret2
      exact ⟨by rw [HF.out, readPart_some HNE.out HN.out]; rfl, rfl⟩


set_option maxHeartbeats 1000000 in
theorem number_plain (s : ByteArray) (w : World) (hs : s.size ≤ 65536) (h0 : 0 < s.size) (h43 : ¬ s[0] = 43) (h45 : ¬ s[0] = 45) :
    Calls Tryd.prog 7 #[.string s] w fun e w' => NumPair (specNumber s.data.toList) e ∧ w = w' := by
  have HF : Hid (specNumber s.data.toList = readPart (s).data.toList 1) := Lib.hid (by
    rw [specNumber_part]
    rw [signed_other h0 h43 h45]; rfl)
  have hb : ((s[0].toNat : Int) == 43) = false := byte_ne h43
  have hb2 : ((s[0].toNat : Int) == 45) = false := byte_ne h45
  have he0 : s.toList.isEmpty = false := not_isEmpty h0
  go_enter Tryd.func7, Tryd.ntmps7
  go_wp2_with (go_at_call 21; refine (zeros_any _ _ (by simp; omega)).mono ?_; rintro e w' ⟨rfl, rfl⟩)
  have he := he0
  have HNE := Lib.hid (ne_nil_of_isEmpty he)
  clear he
  obtain ⟨t, rfl⟩ : ∃ t, t = s := ⟨_, rfl⟩
  have htz := hs
  go_loop [5, 6, 31] (fun n _ i => ∃ k m : Nat, k ≤ t.size ∧ i = .int .i64 k ∧ n = .int .i64 m ∧ m ≤ 1099511627776 ∧ Hid (readN 0 (t.data.toList.take k) = some m)) (fun _ _ i => t.size - (intOf i).toNat)
  case atStart => exact ⟨0, 0, Nat.zero_le _, rfl, rfl, by omega, Lib.hid rfl⟩
  case round =>
    obtain ⟨k, m, hk, rfl, rfl, hm, HR⟩ := hrel
    by_cases hlt : k < t.size
    · have HS := Lib.hid (take_snoc t k hlt)
      have HA := Lib.hid (List.take_append_drop (k + 1) t.data.toList)
      by_cases hd : isDig t[k] = true
      · have hd2 : 48 ≤ t[k].toNat ∧ t[k].toNat ≤ 57 := by simpa [isDig] using hd
        have HN : Hid (readN 0 (t.data.toList.take (k + 1)) = some (min (10 * m + (t[k].toNat - 48)) huge)) := Lib.hid (by rw [HS.out, readN_snoc _ _ _ _ HR.out, if_pos hd])
        have hlo : (48 : Int) ≤ (t[k].toNat : Int) := by omega
        have hhi : (t[k].toNat : Int) ≤ 57 := by omega
        clear hd2
        go_wp2_with (go_at_call 22; refine (isDigit_yes _ _ hd).mono ?_; rintro e w' ⟨rfl, rfl⟩)
        go_round
        case rel => exact ⟨k + 1, _, by omega, by go_num, by rw [min_cast _ _ (by omega)]; rfl, Nat.min_le_right _ _, HN⟩
        case measure => simp [intOf]; omega
      · have hd' : isDig t[k] = false := by simpa using hd
        have HN : Hid (readN 0 t.data.toList = none) := Lib.hid (by rw [← HA.out, HS.out]; apply readN_bad; rw [readN_snoc _ _ _ _ HR.out, if_neg hd])
        go_wp2_with (go_at_call 22; refine (isDigit_no _ _ hd').mono ?_; rintro e w' ⟨rfl, rfl⟩)
        go_ret2
        exact ⟨by rw [HF.out, readPart_none HN.out]; rfl, rfl⟩
    · have HN : Hid (readN 0 t.data.toList = some m) := Lib.hid (by rw [← take_all t k (by omega)]; exact HR.out)
      go_wp2
      go_ret2
      exact ⟨by rw [HF.out, readPart_some HNE.out HN.out]; rfl, rfl⟩


theorem cronNumber_any (s : ByteArray) (w : World) (hs : s.size ≤ 65536) :
    Calls Tryd.prog 7 #[.string s] w fun e w' => NumPair (specNumber s.data.toList) e ∧ w = w' := by
  by_cases h0 : s.size = 0
  · have hnil : s.data.toList = [] := by apply List.eq_nil_of_length_eq_zero; simpa using h0
    have hr : specNumber s.data.toList = (0, 0) := by rw [hnil]; rfl
    rw [hr]
    exact number_empty s w h0
  · by_cases h43 : s[0] = 43
    · exact number_plus s w hs (by omega) h43
    · by_cases h45 : s[0] = 45
      · cases hz : zeros s.data.toList.tail with
        | true => exact number_minus s w hs (by omega) h45 hz
        | false => exact number_minus_not s w hs (by omega) h45 hz
      · exact number_plain s w hs (by omega) h43 h45

end Go.Proofs.YtjdpmcacnllfpaaDoor.SpecNum
