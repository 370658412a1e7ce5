/- package time's leadingInt and leadingFraction. Conditions: texts of at most 65536 bytes, the package's own error holds something. -/
import Derived.Test.YtmnjmhlodbifjaaGreatDoorDurPure
import Derived.Test.YtmnjmhlodbifjaaGreatDoorWordsU
import Derived.Test.YtmnjmhlodbifjaaGreatDoorZoneName
namespace Go.Proofs.YtmnjmhlodbifjaaGreatDoor.Lead
open Go Go.RowKit Go.Proofs.YtmnjmhlodbifjaaGreatDoor.Mem Go.Proofs.YtmnjmhlodbifjaaGreatDoor.Aid Go.Proofs.YtmnjmhlodbifjaaGreatDoor.NumPure Go.Proofs.YtmnjmhlodbifjaaGreatDoor.Float Go.Proofs.YtmnjmhlodbifjaaGreatDoor.DurPure
set_option linter.unusedVariables false

/-- The error of a number that is too great. -/
def LeadErr (w : World) : Prop := ∃ T p, w.cell? ⟨4, 0, none⟩ = some (.iface T p)
theorem LeadErr.below {w w' : World} (h : LeadErr w) (hb : Below w.heap.size w w') : LeadErr w' := by
  obtain ⟨T, p, h⟩ := h
  exact ⟨T, p, (hb.cell (p := ⟨4, 0, none⟩) (World.block_lt_of_cell? w _ h)).trans h⟩
theorem take_snoc {s : ByteArray} {k : Nat} (h : k < s.size) : s.data.toList.take (k + 1) = s.data.toList.take k ++ [s[k]] := by
  rw [List.take_add_one, List.getElem?_eq_getElem (by simpa using h)]
  rfl
theorem val_next {s : ByteArray} {k : Nat} (h : k < s.size) : numOf (s.data.toList.take (k + 1)) = 10 * numOf (s.data.toList.take k) + ((s[k]).toNat - 48) := by
  rw [take_snoc h, val_snoc]
theorem digs_val {s : ByteArray} {k : Nat} (hk : k ≤ s.size) (h : ∀ j, j < k → isDig (s.data.toList.getD j 0) = true) : numOf (s.data.toList.take k) < 10 ^ k := by
  have := val_lt (s.data.toList.take k) (fun c hc => by
    obtain ⟨j, hj, rfl⟩ := List.getElem_of_mem hc
    rw [List.length_take] at hj
    have := h j (by omega)
    rw [List.getD_eq_getElem?_getD, List.getElem?_eq_getElem (show j < s.data.toList.length by omega)] at this
    rw [List.getElem_take]
    exact this)
  rwa [List.length_take, Nat.min_eq_left (by simpa using hk)] at this
theorem big {k : Nat} (h : k ≤ 17) : 10 ^ k ≤ 100000000000000000 := Nat.le_trans (Nat.pow_le_pow_right (by decide) h) (by decide)
theorem snoc_digs {s : ByteArray} {k : Nat} (hk : k < s.size) (hd : isDig s[k] = true) (h : ∀ j, j < k → isDig (s.data.toList.getD j 0) = true) : ∀ j, j < k + 1 → isDig (s.data.toList.getD j 0) = true := by
  intro j hj
  by_cases hjk : j = k
  · subst hjk; rw [Words.getD_at s j hk]; exact hd
  · exact h j (by omega)
/-- The span of the digits once the loop has met its end. -/
theorem span_dig {s : ByteArray} {k : Nat} (hk : k ≤ s.size) (h : ∀ j, j < k → isDig (s.data.toList.getD j 0) = true) (he : ∀ h : k < s.size, isDig s[k] = false) : s.data.toList.takeWhile isDig = s.data.toList.take k ∧ s.data.toList.dropWhile isDig = s.data.toList.drop k :=
  span_at (by simpa using hk) h (fun hlt => by
    have hlt : k < s.size := by simpa using hlt
    rw [Words.getD_at s k hlt]
    exact he hlt)
theorem long_digs {s : ByteArray} {k : Nat} (hk : k ≤ s.size) (h : ∀ j, j < k → isDig (s.data.toList.getD j 0) = true) : k ≤ (s.data.toList.takeWhile isDig).length := by
  have key : ∀ (l : List UInt8) (k : Nat), k ≤ l.length → (∀ j, j < k → isDig (l.getD j 0) = true) → k ≤ (l.takeWhile isDig).length := by
    intro l
    induction l with
    | nil => intro k hk _; simpa using hk
    | cons c r ih =>
      intro k hk h
      cases k with
      | zero => omega
      | succ k =>
        have hc := h 0 (by omega)
        simp only [List.getD_cons_zero] at hc
        have := ih k (by simpa using hk) (fun j hj => by have := h (j + 1) (by omega); simpa using this)
        simp [List.takeWhile, hc]
        omega
  exact key _ k (by simpa using hk) h
/-- What leadingInt hands back. -/
def LeadRes (l : List UInt8) (e : Ending) : Prop :=
  (∃ t : ByteArray, e = .returned (.tuple #[.int .u64 (numOf (l.takeWhile isDig) : Int), .string t, .nilIface]) ∧ t.data.toList = l.dropWhile isDig ∧ t.size ≤ l.length ∧ numOf (l.takeWhile isDig) ≤ 9223372036854775808) ∨
    (∃ T p x t, e = .returned (.tuple #[x, t, .iface T p]) ∧ 15 < (l.takeWhile isDig).length)
set_option maxHeartbeats 1000000 in
theorem lead_any (s : ByteArray) (w : World) (hs : s.size ≤ 65536) (hv : LeadErr w) :
    Calls Tryz.prog 124 #[.string s] w fun e w' => LeadRes s.data.toList e ∧ Below w.heap.size w w' := by
  obtain ⟨T, p, hc⟩ := hv
  go_enter Tryz.func124, Tryz.ntmps124
  go_wp2
  go_loop [2, 5] (fun xv i => ∃ k x : Nat, i = .int .i64 (k : Int) ∧ xv = .int .u64 (x : Int) ∧ k ≤ s.size ∧ x ≤ 9223372036854775808 ∧ Hid (∀ j, j < k → isDig (s.data.toList.getD j 0) = true) ∧ Hid (x = numOf (s.data.toList.take k))) (fun _ i => s.size - (intOf i).toNat)
  case atStart => exact ⟨0, 0, rfl, rfl, Nat.zero_le _, by omega, Lib.hid (fun j hj => by omega), Lib.hid rfl⟩
  case round =>
    obtain ⟨k, x, rfl, rfl, hk, hx, HD, HX⟩ := hrel
    by_cases hlt : k < s.size
    · have hki : (k : Int) < (s.size : Int) := by omega
      cases hd : isDig s[k] with
      | false =>
        obtain ⟨e1, e2⟩ := span_dig hk HD.out (fun _ => hd)
        have HR : Hid (LeadRes s.data.toList (.returned (.tuple #[.int .u64 (x : Int), .string (s.extract k s.size), .nilIface]))) := Lib.hid (.inl ⟨_, by rw [e1, ← HX.out], by rw [e2]; exact Lib.extract_to_end s k, by simp, by rw [e1, ← HX.out]; exact hx⟩)
        have hks : (k : Int) ≤ (s.size : Int) := by omega
        by_cases h48 : (s[k]).toNat < 48
        · have h1 : ((s[k]).toNat : Int) < 48 := by omega
          clear e1 e2 hd
          go_wp2
          go_quiet (fail)
          go_wp2
          refine bodyPost_ret (results_tmp3 (t := 2) (u := 3) (v := 4) rfl _ _ _) rfl ?_
          exact ⟨HR.out, drewNd (Below.refl _ _) _⟩
        · have h1 : ¬ ((s[k]).toNat : Int) < 48 := by omega
          have h2 : (57 : Int) < ((s[k]).toNat : Int) := by
            have : ¬ (48 ≤ (s[k]).toNat ∧ (s[k]).toNat ≤ 57) := fun h => by rw [(isDig_iff _).2 h] at hd; cases hd
            omega
          clear e1 e2 hd
          go_wp2
          go_quiet (fail)
          go_wp2
          refine bodyPost_ret (results_tmp3 (t := 2) (u := 3) (v := 4) rfl _ _ _) rfl ?_
          exact ⟨HR.out, drewNd (Below.refl _ _) _⟩
      | true =>
        obtain ⟨d1, d2⟩ := (isDig_iff _).1 hd
        have h1 : ¬ ((s[k]).toNat : Int) < 48 := by omega
        have h2 : ¬ (57 : Int) < ((s[k]).toNat : Int) := by omega
        have HD2 := Lib.hid (snoc_digs hlt hd HD.out)
        have HL := Lib.hid (long_digs (k := k + 1) (by omega) HD2.out)
        have HV := Lib.hid (digs_val (k := k + 1) (by omega) HD2.out)
        have HV0 := Lib.hid (digs_val hk HD.out)
        have HN := Lib.hid (val_next hlt)
        have hc2 : (s[k]).toNat < 256 := (s[k]).toNat_lt
        clear hd
        by_cases hb : x ≤ 922337203685477580
        · have hb2 : ¬ (922337203685477580 : Int) < (x : Int) := by omega
          have hxx : (x : Int) * 10 + ((s[k]).toNat : Int) - 48 = ((10 * x + ((s[k]).toNat - 48) : Nat) : Int) := by omega
          by_cases hb3 : 10 * x + ((s[k]).toNat - 48) ≤ 9223372036854775808
          · have hb4 : ¬ (9223372036854775808 : Int) < (x : Int) * 10 + ((s[k]).toNat : Int) - 48 := by omega
            go_wp2
            go_round
            case rel => exact ⟨k + 1, 10 * x + ((s[k]).toNat - 48), by go_num, congrArg (Value.int IntKind.u64) (by omega), by omega, hb3, HD2, Lib.hid (by rw [HN.out, ← HX.out])⟩
            case measure => simp [intOf]; omega
          · have hb4 : (9223372036854775808 : Int) < (x : Int) * 10 + ((s[k]).toNat : Int) - 48 := by omega
            have HE : Hid (15 < (s.data.toList.takeWhile isDig).length) := Lib.hid (by
              rcases Nat.lt_or_ge 17 (k + 1) with h | h
              · have := HL.out; omega
              · have a := HV.out
                have b := big h
                rw [HN.out, ← HX.out] at a
                omega)
            go_wp2
            go_quiet (fail)
            go_wp2
            refine bodyPost_ret (results_tmp3 (t := 2) (u := 3) (v := 4) rfl _ _ _) rfl ?_
            exact ⟨.inr ⟨_, _, _, _, rfl, HE.out⟩, drewNd (Below.refl _ _) _⟩
        · have hb2 : (922337203685477580 : Int) < (x : Int) := by omega
          have HE : Hid (15 < (s.data.toList.takeWhile isDig).length) := Lib.hid (by
            rcases Nat.lt_or_ge 17 k with h | h
            · have := HL.out; omega
            · have a := HV0.out
              have b := big h
              rw [← HX.out] at a
              omega)
          go_wp2
          go_quiet (fail)
          go_wp2
          refine bodyPost_ret (results_tmp3 (t := 2) (u := 3) (v := 4) rfl _ _ _) rfl ?_
          exact ⟨.inr ⟨_, _, _, _, rfl, HE.out⟩, drewNd (Below.refl _ _) _⟩
    · obtain ⟨e1, e2⟩ := span_dig hk HD.out (fun h => absurd h hlt)
      have HR : Hid (LeadRes s.data.toList (.returned (.tuple #[.int .u64 (x : Int), .string (s.extract k s.size), .nilIface]))) := Lib.hid (.inl ⟨_, by rw [e1, ← HX.out], by rw [e2]; exact Lib.extract_to_end s k, by simp, by rw [e1, ← HX.out]; exact hx⟩)
      have hks : (k : Int) ≤ (s.size : Int) := by omega
      clear e1 e2
      go_wp2
      go_quiet (fail)
      go_wp2
      refine bodyPost_ret (results_tmp3 (t := 2) (u := 3) (v := 4) rfl _ _ _) rfl ?_
      exact ⟨HR.out, drewNd (Below.refl _ _) _⟩

/-- What leadingFraction hands back. -/
def FracRes (l : List UInt8) (e : Ending) : Prop :=
  ∃ (x sc : Nat) (t : ByteArray), e = .returned (.tuple #[.int .u64 (x : Int), .float .f64 sc, .string t]) ∧ t.data.toList = l.dropWhile isDig ∧ t.size ≤ l.length ∧ x ≤ 9223372036854775808 ∧
    ((l.takeWhile isDig).length ≤ 11 → x = numOf (l.takeWhile isDig) ∧ sc = fl (10 ^ (l.takeWhile isDig).length))
theorem ten_next {k : Nat} (h : k < 11) : ∀ W : World, (binOp .mul 196 (.float .f64 (fl (10 ^ k))) (.float .f64 4621819117588971520)).run Tryz.prog W = .ok (.float .f64 (fl (10 ^ (k + 1)))) W := fun W => by
  refine run_float_arith W .mul 196 .f64 _ _ _ ?_
  show Ieee.double.mul (fl (10 ^ k)) 4621819117588971520 = some (fl (10 ^ (k + 1)))
  rw [← fl_ten, Nat.pow_succ]
  refine mul_exact (Nat.pow_pos (by decide)) (by decide) ?_
  have := big (k := k + 1) (by omega)
  have h2 : 10 ^ (k + 1) ≤ 10 ^ 11 := Nat.pow_le_pow_right (by decide) (by omega)
  rw [← Nat.pow_succ]
  exact Nat.lt_of_le_of_lt h2 (by decide)
set_option maxHeartbeats 2000000 in
theorem frac_any (s : ByteArray) (w : World) (hs : s.size ≤ 65536) :
    Calls Tryz.prog 125 #[.string s] w fun e w' => FracRes s.data.toList e ∧ Below w.heap.size w w' := by
  go_enter Tryz.func125, Tryz.ntmps125
  go_wp2
  go_loopw [2, 3, 5, 6] (fun xv sv i ov wr => ∃ (k x sc : Nat) (o : Bool), i = .int .i64 (k : Int) ∧ xv = .int .u64 (x : Int) ∧ sv = .float .f64 sc ∧ ov = .bool o ∧ k ≤ s.size ∧ x ≤ 9223372036854775808 ∧ Hid (∀ j, j < k → isDig (s.data.toList.getD j 0) = true) ∧ Hid (k ≤ 11 → o = false ∧ x = numOf (s.data.toList.take k) ∧ sc = fl (10 ^ k)) ∧ Hid (Below w.heap.size w wr)) (fun _ _ i _ _ => s.size - (intOf i).toNat)
  case atStart => exact ⟨0, 0, _, false, rfl, rfl, rfl, rfl, Nat.zero_le _, by omega, Lib.hid (fun j hj => by omega), Lib.hid (fun _ => ⟨rfl, rfl, fl_one.symm⟩), Lib.hid (Below.refl _ _)⟩
  case round =>
    obtain ⟨k, x, sc, o, rfl, rfl, rfl, rfl, hk, hx, HD, HX, HB⟩ := hrel
    have HR : (∀ h : k < s.size, isDig s[k] = false) → Hid (FracRes s.data.toList (.returned (.tuple #[.int .u64 (x : Int), .float .f64 sc, .string (s.extract k s.size)]))) := fun he => Lib.hid (by
      obtain ⟨e1, e2⟩ := span_dig hk HD.out he
      refine ⟨x, sc, _, rfl, by rw [e2]; exact Lib.extract_to_end s k, by simp, hx, fun h => ?_⟩
      rw [e1, List.length_take, Nat.min_eq_left (by simpa using hk)] at h
      rw [e1, List.length_take, Nat.min_eq_left (by simpa using hk)]
      exact (HX.out h).2)
    have hks : (k : Int) ≤ (s.size : Int) := by omega
    by_cases hlt : k < s.size
    · have hki : (k : Int) < (s.size : Int) := by omega
      cases hd : isDig s[k] with
      | false =>
        have HR := HR (fun _ => hd)
        by_cases h48 : (s[k]).toNat < 48
        · have h1 : ((s[k]).toNat : Int) < 48 := by omega
          clear hd
          go_wp2
          go_quiet (fail)
          go_wp2
          refine bodyPost_ret (results_tmp3 (t := 2) (u := 3) (v := 4) rfl _ _ _) rfl ?_
          exact ⟨HR.out, drewNd HB.out _⟩
        · have h1 : ¬ ((s[k]).toNat : Int) < 48 := by omega
          have h2 : (57 : Int) < ((s[k]).toNat : Int) := by
            have : ¬ (48 ≤ (s[k]).toNat ∧ (s[k]).toNat ≤ 57) := fun h => by rw [(isDig_iff _).2 h] at hd; cases hd
            omega
          clear hd
          go_wp2
          go_quiet (fail)
          go_wp2
          refine bodyPost_ret (results_tmp3 (t := 2) (u := 3) (v := 4) rfl _ _ _) rfl ?_
          exact ⟨HR.out, drewNd HB.out _⟩
      | true =>
        clear HR
        obtain ⟨d1, d2⟩ := (isDig_iff _).1 hd
        have h1 : ¬ ((s[k]).toNat : Int) < 48 := by omega
        have h2 : ¬ (57 : Int) < ((s[k]).toNat : Int) := by omega
        have HD2 := Lib.hid (snoc_digs hlt hd HD.out)
        have HV0 := Lib.hid (digs_val hk HD.out)
        have HN := Lib.hid (val_next hlt)
        have hc2 : (s[k]).toNat < 256 := (s[k]).toNat_lt
        clear hd
        have hxx : (x : Int) * 10 + ((s[k]).toNat : Int) - 48 = ((10 * x + ((s[k]).toNat - 48) : Nat) : Int) := by omega
        by_cases hk10 : k < 11
        · obtain ⟨rfl, hx2, rfl⟩ := HX.out (by omega)
          have hxs : x ≤ 100000000000000000 := by
            have a := HV0.out
            have b := big (k := k) (by omega)
            omega
          obtain ⟨sc1, hsc1⟩ : ∃ sc1, fl (10 ^ (k + 1)) = sc1 := ⟨_, rfl⟩
          have HX2 : Hid (k + 1 ≤ 11 → false = false ∧ 10 * x + ((s[k]).toNat - 48) = numOf (s.data.toList.take (k + 1)) ∧ sc1 = fl (10 ^ (k + 1))) := Lib.hid (fun _ => ⟨rfl, by rw [HN.out, ← hx2], hsc1.symm⟩)
          have hm := ten_next hk10
          rw [hsc1] at hm
          clear hx2 HX hsc1
          generalize fl (10 ^ k) = sc0 at hm ⊢
          have hb2 : ¬ (922337203685477580 : Int) < (x : Int) := by omega
          have hb4 : ¬ (9223372036854775808 : Int) < (x : Int) * 10 + ((s[k]).toNat : Int) - 48 := by omega
          go_wp2
          go_roundw
          case rel => exact ⟨k + 1, 10 * x + ((s[k]).toNat - 48), sc1, false, by go_num, congrArg (Value.int IntKind.u64) (by omega), rfl, rfl, by omega, by omega, HD2, HX2, HB⟩
          case measure => simp [intOf]; omega
        · have HX2 : ∀ (x sc : Nat) (o : Bool), Hid (k + 1 ≤ 11 → o = false ∧ x = numOf (s.data.toList.take (k + 1)) ∧ sc = fl (10 ^ (k + 1))) := fun _ _ _ => Lib.hid (fun h => by omega)
          clear HX
          cases o with
          | true =>
            go_wp2
            go_roundw
            case rel => exact ⟨k + 1, x, sc, true, by go_num, rfl, rfl, rfl, by omega, hx, HD2, HX2 _ _ _, HB⟩
            case measure => simp [intOf]; omega
          | false =>
            by_cases hb : x ≤ 922337203685477580
            · have hb2 : ¬ (922337203685477580 : Int) < (x : Int) := by omega
              by_cases hb3 : 10 * x + ((s[k]).toNat - 48) ≤ 9223372036854775808
              · have hb4 : ¬ (9223372036854775808 : Int) < (x : Int) * 10 + ((s[k]).toNat : Int) - 48 := by omega
                obtain ⟨b, n, hm⟩ := arith_gen Tryz.prog .mul (.inl rfl) 196 sc 4621819117588971520 wr
                go_wp2
                go_roundw
                case rel => exact ⟨k + 1, 10 * x + ((s[k]).toNat - 48), b, false, by go_num, congrArg (Value.int IntKind.u64) (by omega), rfl, rfl, by omega, hb3, HD2, HX2 _ _ _, Lib.hid (drewNd HB.out _)⟩
                case measure => simp [intOf]; omega
              · have hb4 : (9223372036854775808 : Int) < (x : Int) * 10 + ((s[k]).toNat : Int) - 48 := by omega
                go_wp2
                go_roundw
                case rel => exact ⟨k + 1, x, sc, true, by go_num, rfl, rfl, rfl, by omega, hx, HD2, HX2 _ _ _, HB⟩
                case measure => simp [intOf]; omega
            · have hb2 : (922337203685477580 : Int) < (x : Int) := by omega
              go_wp2
              go_roundw
              case rel => exact ⟨k + 1, x, sc, true, by go_num, rfl, rfl, rfl, by omega, hx, HD2, HX2 _ _ _, HB⟩
              case measure => simp [intOf]; omega
    · have HR := HR (fun h => absurd h hlt)
      go_wp2
      go_quiet (fail)
      go_wp2
      refine bodyPost_ret (results_tmp3 (t := 2) (u := 3) (v := 4) rfl _ _ _) rfl ?_
      exact ⟨HR.out, drewNd HB.out _⟩

end Go.Proofs.YtmnjmhlodbifjaaGreatDoor.Lead
