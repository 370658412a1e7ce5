/- cron.parseDescriptor, cron.Every and cron.all. Conditions: texts of at most 65536 bytes, package time's own error holds something. -/
import Derived.Test.YtmnjmhlodbifjaaGreatDoorR18
import Derived.Test.YtmnjmhlodbifjaaGreatDoorR20

namespace Go.Proofs.YtmnjmhlodbifjaaGreatDoor.ParseDesc
open Go Go.RowKit Go.Proofs.YtmnjmhlodbifjaaGreatDoor.Mem Go.Proofs.YtmnjmhlodbifjaaGreatDoor.Aid Go.Proofs.YtmnjmhlodbifjaaGreatDoor.Bits Go.Proofs.YtmnjmhlodbifjaaGreatDoor.GetBits Go.Proofs.YtmnjmhlodbifjaaGreatDoor.NumPure Go.Proofs.YtmnjmhlodbifjaaGreatDoor.SplitPure Go.Proofs.YtmnjmhlodbifjaaGreatDoor.Range Go.Proofs.YtmnjmhlodbifjaaGreatDoor.FillPure Go.Proofs.YtmnjmhlodbifjaaGreatDoor.Kind Go.Proofs.YtmnjmhlodbifjaaGreatDoor.NameRel Go.Proofs.YtmnjmhlodbifjaaGreatDoor.Head Go.Proofs.YtmnjmhlodbifjaaGreatDoor.ZoneName Go.Proofs.YtmnjmhlodbifjaaGreatDoor.TrimSpec Go.Proofs.YtmnjmhlodbifjaaGreatDoor.Mean Go.Proofs.YtmnjmhlodbifjaaGreatDoor.PlainSched Go.Proofs.YtmnjmhlodbifjaaGreatDoor.DurPure Go.Proofs.YtmnjmhlodbifjaaGreatDoor.Lead Go.Proofs.YtmnjmhlodbifjaaGreatDoor.ParseDur
set_option linter.unusedVariables false
def Out (r : Option (Option MV)) (loc : Value) (e : Ending) (w' : World) : Prop :=
  (∃ T p, e = .returned (.tuple #[.nilIface, .iface T p]) ∧ ∀ m, r ≠ some (some m)) ∨
  (∃ (g : Nat) (l : List Int), e = .returned (.tuple #[.iface 97 (.pointer (some ⟨g, 0, none⟩)), .nilIface]) ∧ SpecAt w' g (l.getD 0 0) (l.getD 1 0) (l.getD 2 0) (l.getD 3 0) (l.getD 4 0) (l.getD 5 0) loc ∧ r ≠ none ∧ ∀ m, r = some (some m) → ∃ LL, m = .sets LL ∧ l = numsOf LL 6) ∨
  (∃ d : Int, e = .returned (.tuple #[.iface 108 (.agg #[.int .i64 d]), .nilIface]) ∧ r ≠ none ∧ ∀ m, r = some (some m) → m = .every d)
theorem y_mean : mvPlain 380 y5 = some (some (.sets [[48], [48], [48], [49], [49], [42]])) := by kernel_rfl
theorem m_mean : mvPlain 380 m5 = some (some (.sets [[48], [48], [48], [49], [42], [42]])) := by kernel_rfl
theorem w_mean : mvPlain 380 w5 = some (some (.sets [[48], [48], [48], [42], [42], [48]])) := by kernel_rfl
theorem d_mean : mvPlain 380 d5 = some (some (.sets [[48], [48], [48], [42], [42], [42]])) := by kernel_rfl
theorem h_mean : mvPlain 380 h5 = some (some (.sets [[48], [48], [42], [42], [42], [42]])) := by kernel_rfl
theorem y_nums : numsOf [[48], [48], [48], [49], [49], [42]] 6 = [1, 1, 1, 2, 2, 9223372036854775935] := by decide +kernel
theorem m_nums : numsOf [[48], [48], [48], [49], [42], [42]] 6 = [1, 1, 1, 2, 9223372036854783998, 9223372036854775935] := by decide +kernel
theorem w_nums : numsOf [[48], [48], [48], [42], [42], [48]] 6 = [1, 1, 1, 9223372041149743102, 9223372036854783998, 1] := by decide +kernel
theorem d_nums : numsOf [[48], [48], [48], [42], [42], [42]] 6 = [1, 1, 1, 9223372041149743102, 9223372036854783998, 9223372036854775935] := by decide +kernel
theorem h_nums : numsOf [[48], [48], [42], [42], [42], [42]] 6 = [1, 1, 9223372036871553023, 9223372041149743102, 9223372036854783998, 9223372036854775935] := by decide +kernel
theorem out_sets {r : Option (Option MV)} {LL : List (List UInt8)} {l : List Int} {loc : Value} {w' : World} {g : Nat} (hr : r = some (some (.sets LL))) (hl : numsOf LL 6 = l) (h : SpecAt w' g (l.getD 0 0) (l.getD 1 0) (l.getD 2 0) (l.getD 3 0) (l.getD 4 0) (l.getD 5 0) loc) :
    Out r loc (.returned (.tuple #[.iface 97 (.pointer (some ⟨g, 0, none⟩)), .nilIface])) w' := by
  refine .inr (.inl ⟨g, l, rfl, h, by rw [hr]; simp, fun m hm => ⟨LL, ?_, hl.symm⟩⟩)
  rw [hr] at hm
  cases hm
  rfl
theorem or_mark (p : Nat → Bool) : Go.bits .or .u64 (bset p) 9223372036854775808 = bset fun i => p i || decide (i = 63) := by
  rw [show (9223372036854775808 : Int) = IntKind.u64.wrap (2 ^ 63) by decide, wrap_pow, bits_or]
theorem all_any (lo hi : Nat) (m : Value) (w : World) (h : lo ≤ hi) (h2 : hi ≤ 62) :
    Calls Tryz.prog 93 #[.agg #[.int .u64 (lo : Int), .int .u64 (hi : Int), m]] w fun e w' => e = .returned (.int .u64 (bset fun i => inRange lo hi 1 i || decide (i = 63))) ∧ Below w.heap.size w w' := by
  have HB := Lib.hid (box_new w 121 (.int .u64 (lo : Int)) (.int .u64 (hi : Int)) m)
  have hc0 := HB.out.2.1
  have hc1 := HB.out.2.2.1
  go_enter Tryz.func93, Tryz.ntmps93
  go_wp2_with (go_at_call 123; refine (getBits_any lo hi 1 _ (by omega) (by omega) (by omega) (by omega) (by omega)).mono ?_; rintro e w1 ⟨rfl, rfl⟩)
  go_ret
  refine ⟨?_, (Below.refl _ _).alloc (Nat.le_refl _) _⟩
  simp only [or_mark]
  rfl
theorem all_lit (lo hi : Nat) (v : Int) (h : lo ≤ hi) (h2 : hi ≤ 62) (hv : (bset fun i => inRange lo hi 1 i || decide (i = 63)) = v) (m : Value) (w : World) :
    Calls Tryz.prog 93 #[.agg #[.int .u64 (lo : Int), .int .u64 (hi : Int), m]] w fun e w' => e = .returned (.int .u64 v) ∧ Below w.heap.size w w' := by
  rw [← hv]; exact all_any lo hi m w h h2
theorem all_dow (m : Value) (w : World) : Calls Tryz.prog 93 #[.agg #[.int .u64 0, .int .u64 6, m]] w fun e w' => e = .returned (.int .u64 9223372036854775935) ∧ Below w.heap.size w w' :=
  all_lit 0 6 9223372036854775935 (by decide) (by decide) (by decide +kernel) m w
theorem all_month (m : Value) (w : World) : Calls Tryz.prog 93 #[.agg #[.int .u64 1, .int .u64 12, m]] w fun e w' => e = .returned (.int .u64 9223372036854783998) ∧ Below w.heap.size w w' :=
  all_lit 1 12 9223372036854783998 (by decide) (by decide) (by decide +kernel) m w
theorem all_dom (m : Value) (w : World) : Calls Tryz.prog 93 #[.agg #[.int .u64 1, .int .u64 31, m]] w fun e w' => e = .returned (.int .u64 9223372041149743102) ∧ Below w.heap.size w w' :=
  all_lit 1 31 9223372041149743102 (by decide) (by decide) (by decide +kernel) m w
theorem all_hour (m : Value) (w : World) : Calls Tryz.prog 93 #[.agg #[.int .u64 0, .int .u64 23, m]] w fun e w' => e = .returned (.int .u64 9223372036871553023) ∧ Below w.heap.size w w' :=
  all_lit 0 23 9223372036871553023 (by decide) (by decide) (by decide +kernel) m w
theorem field0 (a b : Int) (m : Value) (w : World) : (Instr.field 121 (.agg #[.int .u64 a, .int .u64 b, m]) 0).run Tryz.prog w = .ok (.int .u64 a) w := by kernel_rfl
theorem nanos_any (d : Int) (w : World) : Calls Tryz.prog 127 #[.int .i64 d] w fun e w' => e = .returned (.int .i64 d) ∧ w = w' := by
  go_enter Tryz.func127, Tryz.ntmps127
  go_wp2
  go_ret
  exact ⟨rfl, rfl⟩
theorem every_any (d : Int) (w : World) (h1 : -9223372036854775808 ≤ d) (h2 : d ≤ 9223372036854775807) :
    Calls Tryz.prog 95 #[.int .i64 d] w fun e w' => e = .returned (.agg #[.int .i64 (delayOf d)]) ∧ Below w.heap.size w w' := by
  have HN := Lib.hid (fun d w => nanos_any d w)
  unfold delayOf
  by_cases h : d < 1000000000
  · rw [if_pos h]
    go_enter Tryz.func95, Tryz.ntmps95
    go_wp2_with (go_at_call 127; refine (HN.out _ _).mono ?_; rintro e w' ⟨rfl, rfl⟩)
    exact bodyPost_ret (v := .agg #[.int .i64 1000000000]) (by simp [results, Tryz.results95, go_sem]) rfl ⟨rfl, (Below.refl _ _).alloc (Nat.le_refl _) _⟩
  · rw [if_neg h]
    obtain ⟨x, hx⟩ : ∃ x, d / 1000000000 * 1000000000 = x := ⟨_, rfl⟩
    rw [hx]
    have ht : d.tmod 1000000000 = d % 1000000000 := Int.tmod_eq_emod_of_nonneg (by omega)
    have hd : d - d % 1000000000 = x := by omega
    clear hx
    go_enter Tryz.func95, Tryz.ntmps95
    go_wp2_with (go_at_call 127; refine (HN.out _ _).mono ?_; rintro e w' ⟨rfl, rfl⟩)
    exact bodyPost_ret (v := .agg #[.int .i64 x]) (by simp [results, Tryz.results95, go_sem, *]) rfl ⟨rfl, (Below.refl _ _).alloc (Nat.le_refl _) _⟩
set_option maxHeartbeats 1000000 in
set_option maxRecDepth 100000 in
theorem yearlyB_walk (s : ByteArray) (pa : Option Addr) (w : World) (r : Option (Option MV)) (hr : r = mvPlain 380 y5) (q0 : (s.toList == [64, 121, 101, 97, 114, 108, 121]) = true) :
    Calls Tryz.prog 58 #[.string s, .pointer pa] w fun e w' => Out r (.pointer pa) e w' ∧ Below w.heap.size w w' := by
  have HR := Lib.hid hr
  have hfl := field0
  have HS := Lib.hid (fun w => seconds_any w)
  have HMI := Lib.hid (fun w => minutes_any w)
  have HH := Lib.hid (fun w => hours_any w)
  have HDM := Lib.hid (fun w => dom_any w)
  have HMO := Lib.hid (fun w => Names.months_any w)
  have HDW := Lib.hid (fun w => Names.dow_any w)
  have HAH := Lib.hid all_hour
  have HAD := Lib.hid all_dom
  have HAM := Lib.hid all_month
  have HAW := Lib.hid all_dow
  clear hr
  go_enter Tryz.func58, Tryz.ntmps58
  go_wp2_with (first
    | (go_at_call 63; refine (HS.out _).mono ?_; rintro e w1 ⟨rfl, hb1⟩; have HB1 := Lib.hid hb1; clear hb1)
    | (go_at_call 64; refine (HMI.out _).mono ?_; rintro e w2 ⟨rfl, hb2⟩; have HB2 := Lib.hid (chain HB1.out hb2); clear hb2)
    | (go_at_call 65; refine (HH.out _).mono ?_; rintro e w3 ⟨rfl, hb3⟩; have HB3 := Lib.hid (chain HB2.out hb3); clear hb3)
    | (go_at_call 66; refine (HDM.out _).mono ?_; rintro e w4 ⟨rfl, hb4⟩; have HB4 := Lib.hid (chain HB3.out hb4); clear hb4)
    | (go_at_call 67; refine (HMO.out _).mono ?_; rintro e w5 ⟨m5', rfl, -, -, hb5⟩; have HB5 := Lib.hid (chain HB4.out hb5); clear hb5)
    | (go_at_call 68; refine (HDW.out _).mono ?_; rintro e w6 ⟨m6', rfl, -, -, hb6⟩; have HB6 := Lib.hid (chain HB5.out hb6); clear hb6)
    | (go_at_call 93; (with_reducible refine (HAW.out _ _).mono ?_); rintro e w6a ⟨rfl, hb⟩; have HB6a := Lib.hid (chain HB6.out hb); clear hb))
  go_ret2
  exact ⟨out_sets (by rw [HR.out]; exact y_mean) y_nums (Blk.new _ _ _), HB6a.out.alloc HB6a.out.size _⟩
set_option maxHeartbeats 1000000 in
set_option maxRecDepth 100000 in
theorem annuallyB_walk (s : ByteArray) (pa : Option Addr) (w : World) (r : Option (Option MV)) (hr : r = mvPlain 380 y5) (q0 : (s.toList == [64, 121, 101, 97, 114, 108, 121]) = false) (q1 : (s.toList == [64, 97, 110, 110, 117, 97, 108, 108, 121]) = true) :
    Calls Tryz.prog 58 #[.string s, .pointer pa] w fun e w' => Out r (.pointer pa) e w' ∧ Below w.heap.size w w' := by
  have HR := Lib.hid hr
  have hfl := field0
  have HS := Lib.hid (fun w => seconds_any w)
  have HMI := Lib.hid (fun w => minutes_any w)
  have HH := Lib.hid (fun w => hours_any w)
  have HDM := Lib.hid (fun w => dom_any w)
  have HMO := Lib.hid (fun w => Names.months_any w)
  have HDW := Lib.hid (fun w => Names.dow_any w)
  have HAH := Lib.hid all_hour
  have HAD := Lib.hid all_dom
  have HAM := Lib.hid all_month
  have HAW := Lib.hid all_dow
  clear hr
  go_enter Tryz.func58, Tryz.ntmps58
  go_wp2_with (first
    | (go_at_call 63; refine (HS.out _).mono ?_; rintro e w1 ⟨rfl, hb1⟩; have HB1 := Lib.hid hb1; clear hb1)
    | (go_at_call 64; refine (HMI.out _).mono ?_; rintro e w2 ⟨rfl, hb2⟩; have HB2 := Lib.hid (chain HB1.out hb2); clear hb2)
    | (go_at_call 65; refine (HH.out _).mono ?_; rintro e w3 ⟨rfl, hb3⟩; have HB3 := Lib.hid (chain HB2.out hb3); clear hb3)
    | (go_at_call 66; refine (HDM.out _).mono ?_; rintro e w4 ⟨rfl, hb4⟩; have HB4 := Lib.hid (chain HB3.out hb4); clear hb4)
    | (go_at_call 67; refine (HMO.out _).mono ?_; rintro e w5 ⟨m5', rfl, -, -, hb5⟩; have HB5 := Lib.hid (chain HB4.out hb5); clear hb5)
    | (go_at_call 68; refine (HDW.out _).mono ?_; rintro e w6 ⟨m6', rfl, -, -, hb6⟩; have HB6 := Lib.hid (chain HB5.out hb6); clear hb6)
    | (go_at_call 93; (with_reducible refine (HAW.out _ _).mono ?_); rintro e w6a ⟨rfl, hb⟩; have HB6a := Lib.hid (chain HB6.out hb); clear hb))
  go_ret2
  exact ⟨out_sets (by rw [HR.out]; exact y_mean) y_nums (Blk.new _ _ _), HB6a.out.alloc HB6a.out.size _⟩
set_option maxHeartbeats 1000000 in
set_option maxRecDepth 100000 in
theorem monthlyB_walk (s : ByteArray) (pa : Option Addr) (w : World) (r : Option (Option MV)) (hr : r = mvPlain 380 m5) (q0 : (s.toList == [64, 121, 101, 97, 114, 108, 121]) = false) (q1 : (s.toList == [64, 97, 110, 110, 117, 97, 108, 108, 121]) = false) (q2 : (s.toList == [64, 109, 111, 110, 116, 104, 108, 121]) = true) :
    Calls Tryz.prog 58 #[.string s, .pointer pa] w fun e w' => Out r (.pointer pa) e w' ∧ Below w.heap.size w w' := by
  have HR := Lib.hid hr
  have hfl := field0
  have HS := Lib.hid (fun w => seconds_any w)
  have HMI := Lib.hid (fun w => minutes_any w)
  have HH := Lib.hid (fun w => hours_any w)
  have HDM := Lib.hid (fun w => dom_any w)
  have HMO := Lib.hid (fun w => Names.months_any w)
  have HDW := Lib.hid (fun w => Names.dow_any w)
  have HAH := Lib.hid all_hour
  have HAD := Lib.hid all_dom
  have HAM := Lib.hid all_month
  have HAW := Lib.hid all_dow
  clear hr
  go_enter Tryz.func58, Tryz.ntmps58
  go_wp2_with (first
    | (go_at_call 63; refine (HS.out _).mono ?_; rintro e w1 ⟨rfl, hb1⟩; have HB1 := Lib.hid hb1; clear hb1)
    | (go_at_call 64; refine (HMI.out _).mono ?_; rintro e w2 ⟨rfl, hb2⟩; have HB2 := Lib.hid (chain HB1.out hb2); clear hb2)
    | (go_at_call 65; refine (HH.out _).mono ?_; rintro e w3 ⟨rfl, hb3⟩; have HB3 := Lib.hid (chain HB2.out hb3); clear hb3)
    | (go_at_call 66; refine (HDM.out _).mono ?_; rintro e w4 ⟨rfl, hb4⟩; have HB4 := Lib.hid (chain HB3.out hb4); clear hb4)
    | (go_at_call 67; refine (HMO.out _).mono ?_; rintro e w5 ⟨m5', rfl, -, -, hb5⟩; have HB5 := Lib.hid (chain HB4.out hb5); clear hb5)
    | (go_at_call 68; refine (HDW.out _).mono ?_; rintro e w6 ⟨m6', rfl, -, -, hb6⟩; have HB6 := Lib.hid (chain HB5a.out hb6); clear hb6)
    | (go_at_call 93; (with_reducible refine (HAM.out _ _).mono ?_); rintro e w5a ⟨rfl, hb⟩; have HB5a := Lib.hid (chain HB5.out hb); clear hb)
    | (go_at_call 93; (with_reducible refine (HAW.out _ _).mono ?_); rintro e w6a ⟨rfl, hb⟩; have HB6a := Lib.hid (chain HB6.out hb); clear hb))
  go_ret2
  exact ⟨out_sets (by rw [HR.out]; exact m_mean) m_nums (Blk.new _ _ _), HB6a.out.alloc HB6a.out.size _⟩
set_option maxHeartbeats 1000000 in
set_option maxRecDepth 100000 in
theorem weeklyB_walk (s : ByteArray) (pa : Option Addr) (w : World) (r : Option (Option MV)) (hr : r = mvPlain 380 w5) (q0 : (s.toList == [64, 121, 101, 97, 114, 108, 121]) = false) (q1 : (s.toList == [64, 97, 110, 110, 117, 97, 108, 108, 121]) = false) (q2 : (s.toList == [64, 109, 111, 110, 116, 104, 108, 121]) = false) (q3 : (s.toList == [64, 119, 101, 101, 107, 108, 121]) = true) :
    Calls Tryz.prog 58 #[.string s, .pointer pa] w fun e w' => Out r (.pointer pa) e w' ∧ Below w.heap.size w w' := by
  have HR := Lib.hid hr
  have hfl := field0
  have HS := Lib.hid (fun w => seconds_any w)
  have HMI := Lib.hid (fun w => minutes_any w)
  have HH := Lib.hid (fun w => hours_any w)
  have HDM := Lib.hid (fun w => dom_any w)
  have HMO := Lib.hid (fun w => Names.months_any w)
  have HDW := Lib.hid (fun w => Names.dow_any w)
  have HAH := Lib.hid all_hour
  have HAD := Lib.hid all_dom
  have HAM := Lib.hid all_month
  have HAW := Lib.hid all_dow
  clear hr
  go_enter Tryz.func58, Tryz.ntmps58
  go_wp2_with (first
    | (go_at_call 63; refine (HS.out _).mono ?_; rintro e w1 ⟨rfl, hb1⟩; have HB1 := Lib.hid hb1; clear hb1)
    | (go_at_call 64; refine (HMI.out _).mono ?_; rintro e w2 ⟨rfl, hb2⟩; have HB2 := Lib.hid (chain HB1.out hb2); clear hb2)
    | (go_at_call 65; refine (HH.out _).mono ?_; rintro e w3 ⟨rfl, hb3⟩; have HB3 := Lib.hid (chain HB2.out hb3); clear hb3)
    | (go_at_call 66; refine (HDM.out _).mono ?_; rintro e w4 ⟨rfl, hb4⟩; have HB4 := Lib.hid (chain HB3.out hb4); clear hb4)
    | (go_at_call 67; refine (HMO.out _).mono ?_; rintro e w5 ⟨m5', rfl, -, -, hb5⟩; have HB5 := Lib.hid (chain HB4a.out hb5); clear hb5)
    | (go_at_call 68; refine (HDW.out _).mono ?_; rintro e w6 ⟨m6', rfl, -, -, hb6⟩; have HB6 := Lib.hid (chain HB5a.out hb6); clear hb6)
    | (go_at_call 93; (with_reducible refine (HAD.out _ _).mono ?_); rintro e w4a ⟨rfl, hb⟩; have HB4a := Lib.hid (chain HB4.out hb); clear hb)
    | (go_at_call 93; (with_reducible refine (HAM.out _ _).mono ?_); rintro e w5a ⟨rfl, hb⟩; have HB5a := Lib.hid (chain HB5.out hb); clear hb))
  go_ret2
  exact ⟨out_sets (by rw [HR.out]; exact w_mean) w_nums (Blk.new _ _ _), HB6.out.alloc HB6.out.size _⟩
set_option maxHeartbeats 1000000 in
set_option maxRecDepth 100000 in
theorem dailyB_walk (s : ByteArray) (pa : Option Addr) (w : World) (r : Option (Option MV)) (hr : r = mvPlain 380 d5) (q0 : (s.toList == [64, 121, 101, 97, 114, 108, 121]) = false) (q1 : (s.toList == [64, 97, 110, 110, 117, 97, 108, 108, 121]) = false) (q2 : (s.toList == [64, 109, 111, 110, 116, 104, 108, 121]) = false) (q3 : (s.toList == [64, 119, 101, 101, 107, 108, 121]) = false) (q4 : (s.toList == [64, 100, 97, 105, 108, 121]) = true) :
    Calls Tryz.prog 58 #[.string s, .pointer pa] w fun e w' => Out r (.pointer pa) e w' ∧ Below w.heap.size w w' := by
  have HR := Lib.hid hr
  have hfl := field0
  have HS := Lib.hid (fun w => seconds_any w)
  have HMI := Lib.hid (fun w => minutes_any w)
  have HH := Lib.hid (fun w => hours_any w)
  have HDM := Lib.hid (fun w => dom_any w)
  have HMO := Lib.hid (fun w => Names.months_any w)
  have HDW := Lib.hid (fun w => Names.dow_any w)
  have HAH := Lib.hid all_hour
  have HAD := Lib.hid all_dom
  have HAM := Lib.hid all_month
  have HAW := Lib.hid all_dow
  clear hr
  go_enter Tryz.func58, Tryz.ntmps58
  go_wp2_with (first
    | (go_at_call 63; refine (HS.out _).mono ?_; rintro e w1 ⟨rfl, hb1⟩; have HB1 := Lib.hid hb1; clear hb1)
    | (go_at_call 64; refine (HMI.out _).mono ?_; rintro e w2 ⟨rfl, hb2⟩; have HB2 := Lib.hid (chain HB1.out hb2); clear hb2)
    | (go_at_call 65; refine (HH.out _).mono ?_; rintro e w3 ⟨rfl, hb3⟩; have HB3 := Lib.hid (chain HB2.out hb3); clear hb3)
    | (go_at_call 66; refine (HDM.out _).mono ?_; rintro e w4 ⟨rfl, hb4⟩; have HB4 := Lib.hid (chain HB3.out hb4); clear hb4)
    | (go_at_call 67; refine (HMO.out _).mono ?_; rintro e w5 ⟨m5', rfl, -, -, hb5⟩; have HB5 := Lib.hid (chain HB4a.out hb5); clear hb5)
    | (go_at_call 68; refine (HDW.out _).mono ?_; rintro e w6 ⟨m6', rfl, -, -, hb6⟩; have HB6 := Lib.hid (chain HB5a.out hb6); clear hb6)
    | (go_at_call 93; (with_reducible refine (HAD.out _ _).mono ?_); rintro e w4a ⟨rfl, hb⟩; have HB4a := Lib.hid (chain HB4.out hb); clear hb)
    | (go_at_call 93; (with_reducible refine (HAM.out _ _).mono ?_); rintro e w5a ⟨rfl, hb⟩; have HB5a := Lib.hid (chain HB5.out hb); clear hb)
    | (go_at_call 93; (with_reducible refine (HAW.out _ _).mono ?_); rintro e w6a ⟨rfl, hb⟩; have HB6a := Lib.hid (chain HB6.out hb); clear hb))
  go_ret2
  exact ⟨out_sets (by rw [HR.out]; exact d_mean) d_nums (Blk.new _ _ _), HB6a.out.alloc HB6a.out.size _⟩
set_option maxHeartbeats 1000000 in
set_option maxRecDepth 100000 in
theorem midnightB_walk (s : ByteArray) (pa : Option Addr) (w : World) (r : Option (Option MV)) (hr : r = mvPlain 380 d5) (q0 : (s.toList == [64, 121, 101, 97, 114, 108, 121]) = false) (q1 : (s.toList == [64, 97, 110, 110, 117, 97, 108, 108, 121]) = false) (q2 : (s.toList == [64, 109, 111, 110, 116, 104, 108, 121]) = false) (q3 : (s.toList == [64, 119, 101, 101, 107, 108, 121]) = false) (q4 : (s.toList == [64, 100, 97, 105, 108, 121]) = false) (q5 : (s.toList == [64, 109, 105, 100, 110, 105, 103, 104, 116]) = true) :
    Calls Tryz.prog 58 #[.string s, .pointer pa] w fun e w' => Out r (.pointer pa) e w' ∧ Below w.heap.size w w' := by
  have HR := Lib.hid hr
  have hfl := field0
  have HS := Lib.hid (fun w => seconds_any w)
  have HMI := Lib.hid (fun w => minutes_any w)
  have HH := Lib.hid (fun w => hours_any w)
  have HDM := Lib.hid (fun w => dom_any w)
  have HMO := Lib.hid (fun w => Names.months_any w)
  have HDW := Lib.hid (fun w => Names.dow_any w)
  have HAH := Lib.hid all_hour
  have HAD := Lib.hid all_dom
  have HAM := Lib.hid all_month
  have HAW := Lib.hid all_dow
  clear hr
  go_enter Tryz.func58, Tryz.ntmps58
  go_wp2_with (first
    | (go_at_call 63; refine (HS.out _).mono ?_; rintro e w1 ⟨rfl, hb1⟩; have HB1 := Lib.hid hb1; clear hb1)
    | (go_at_call 64; refine (HMI.out _).mono ?_; rintro e w2 ⟨rfl, hb2⟩; have HB2 := Lib.hid (chain HB1.out hb2); clear hb2)
    | (go_at_call 65; refine (HH.out _).mono ?_; rintro e w3 ⟨rfl, hb3⟩; have HB3 := Lib.hid (chain HB2.out hb3); clear hb3)
    | (go_at_call 66; refine (HDM.out _).mono ?_; rintro e w4 ⟨rfl, hb4⟩; have HB4 := Lib.hid (chain HB3.out hb4); clear hb4)
    | (go_at_call 67; refine (HMO.out _).mono ?_; rintro e w5 ⟨m5', rfl, -, -, hb5⟩; have HB5 := Lib.hid (chain HB4a.out hb5); clear hb5)
    | (go_at_call 68; refine (HDW.out _).mono ?_; rintro e w6 ⟨m6', rfl, -, -, hb6⟩; have HB6 := Lib.hid (chain HB5a.out hb6); clear hb6)
    | (go_at_call 93; (with_reducible refine (HAD.out _ _).mono ?_); rintro e w4a ⟨rfl, hb⟩; have HB4a := Lib.hid (chain HB4.out hb); clear hb)
    | (go_at_call 93; (with_reducible refine (HAM.out _ _).mono ?_); rintro e w5a ⟨rfl, hb⟩; have HB5a := Lib.hid (chain HB5.out hb); clear hb)
    | (go_at_call 93; (with_reducible refine (HAW.out _ _).mono ?_); rintro e w6a ⟨rfl, hb⟩; have HB6a := Lib.hid (chain HB6.out hb); clear hb))
  go_ret2
  exact ⟨out_sets (by rw [HR.out]; exact d_mean) d_nums (Blk.new _ _ _), HB6a.out.alloc HB6a.out.size _⟩
set_option maxHeartbeats 1000000 in
set_option maxRecDepth 100000 in
theorem hourlyB_walk (s : ByteArray) (pa : Option Addr) (w : World) (r : Option (Option MV)) (hr : r = mvPlain 380 h5) (q0 : (s.toList == [64, 121, 101, 97, 114, 108, 121]) = false) (q1 : (s.toList == [64, 97, 110, 110, 117, 97, 108, 108, 121]) = false) (q2 : (s.toList == [64, 109, 111, 110, 116, 104, 108, 121]) = false) (q3 : (s.toList == [64, 119, 101, 101, 107, 108, 121]) = false) (q4 : (s.toList == [64, 100, 97, 105, 108, 121]) = false) (q5 : (s.toList == [64, 109, 105, 100, 110, 105, 103, 104, 116]) = false) (q6 : (s.toList == [64, 104, 111, 117, 114, 108, 121]) = true) :
    Calls Tryz.prog 58 #[.string s, .pointer pa] w fun e w' => Out r (.pointer pa) e w' ∧ Below w.heap.size w w' := by
  have HR := Lib.hid hr
  have hfl := field0
  have HS := Lib.hid (fun w => seconds_any w)
  have HMI := Lib.hid (fun w => minutes_any w)
  have HH := Lib.hid (fun w => hours_any w)
  have HDM := Lib.hid (fun w => dom_any w)
  have HMO := Lib.hid (fun w => Names.months_any w)
  have HDW := Lib.hid (fun w => Names.dow_any w)
  have HAH := Lib.hid all_hour
  have HAD := Lib.hid all_dom
  have HAM := Lib.hid all_month
  have HAW := Lib.hid all_dow
  clear hr
  go_enter Tryz.func58, Tryz.ntmps58
  go_wp2_with (first
    | (go_at_call 63; refine (HS.out _).mono ?_; rintro e w1 ⟨rfl, hb1⟩; have HB1 := Lib.hid hb1; clear hb1)
    | (go_at_call 64; refine (HMI.out _).mono ?_; rintro e w2 ⟨rfl, hb2⟩; have HB2 := Lib.hid (chain HB1.out hb2); clear hb2)
    | (go_at_call 65; refine (HH.out _).mono ?_; rintro e w3 ⟨rfl, hb3⟩; have HB3 := Lib.hid (chain HB2.out hb3); clear hb3)
    | (go_at_call 66; refine (HDM.out _).mono ?_; rintro e w4 ⟨rfl, hb4⟩; have HB4 := Lib.hid (chain HB3a.out hb4); clear hb4)
    | (go_at_call 67; refine (HMO.out _).mono ?_; rintro e w5 ⟨m5', rfl, -, -, hb5⟩; have HB5 := Lib.hid (chain HB4a.out hb5); clear hb5)
    | (go_at_call 68; refine (HDW.out _).mono ?_; rintro e w6 ⟨m6', rfl, -, -, hb6⟩; have HB6 := Lib.hid (chain HB5a.out hb6); clear hb6)
    | (go_at_call 93; (with_reducible refine (HAH.out _ _).mono ?_); rintro e w3a ⟨rfl, hb⟩; have HB3a := Lib.hid (chain HB3.out hb); clear hb)
    | (go_at_call 93; (with_reducible refine (HAD.out _ _).mono ?_); rintro e w4a ⟨rfl, hb⟩; have HB4a := Lib.hid (chain HB4.out hb); clear hb)
    | (go_at_call 93; (with_reducible refine (HAM.out _ _).mono ?_); rintro e w5a ⟨rfl, hb⟩; have HB5a := Lib.hid (chain HB5.out hb); clear hb)
    | (go_at_call 93; (with_reducible refine (HAW.out _ _).mono ?_); rintro e w6a ⟨rfl, hb⟩; have HB6a := Lib.hid (chain HB6.out hb); clear hb))
  go_ret2
  exact ⟨out_sets (by rw [HR.out]; exact h_mean) h_nums (Blk.new _ _ _), HB6a.out.alloc HB6a.out.size _⟩
theorem mvDur_no {r : Option (Option Int)} (h : ∀ x, r ≠ some (some x)) : ∀ m, mvDur r ≠ some (some m) := by
  intro m
  cases r with
  | none => simp [mvDur]
  | some r =>
    cases r with
    | none => simp [mvDur]
    | some x => exact absurd rfl (h x)
theorem lone_no (b : Bool) : ∀ m : MV, (if b then some none else none : Option (Option MV)) ≠ some (some m) := by
  intro m
  cases b <;> simp
set_option maxHeartbeats 2000000 in
set_option maxRecDepth 100000 in
theorem desc_any (s : ByteArray) (pa : Option Addr) (w : World) (hs : s.size ≤ 65536) (hv : LeadErr w) :
    Calls Tryz.prog 58 #[.string s, .pointer pa] w fun e w' => Out (mvDesc s.data.toList) (.pointer pa) e w' ∧ Below w.heap.size w w' := by
  have hsm : s.size ≤ maxLen := by unfold maxLen; omega
  by_cases c0 : s.data.toList = yearlyB
  · have q0 := beq_list c0
    exact yearlyB_walk s pa w _ (by unfold mvDesc; rw [c0]; exact if_pos (by decide)) q0
  have q0 := beq_not c0
  unfold yearlyB at q0
  by_cases c1 : s.data.toList = annuallyB
  · have q1 := beq_list c1
    exact annuallyB_walk s pa w _ (by unfold mvDesc; rw [c1]; exact if_pos (by decide)) q0 q1
  have q1 := beq_not c1
  unfold annuallyB at q1
  by_cases c2 : s.data.toList = monthlyB
  · have q2 := beq_list c2
    exact monthlyB_walk s pa w _ (by unfold mvDesc; rw [c2]; exact if_pos (by decide)) q0 q1 q2
  have q2 := beq_not c2
  unfold monthlyB at q2
  by_cases c3 : s.data.toList = weeklyB
  · have q3 := beq_list c3
    exact weeklyB_walk s pa w _ (by unfold mvDesc; rw [c3]; exact if_pos (by decide)) q0 q1 q2 q3
  have q3 := beq_not c3
  unfold weeklyB at q3
  by_cases c4 : s.data.toList = dailyB
  · have q4 := beq_list c4
    exact dailyB_walk s pa w _ (by unfold mvDesc; rw [c4]; exact if_pos (by decide)) q0 q1 q2 q3 q4
  have q4 := beq_not c4
  unfold dailyB at q4
  by_cases c5 : s.data.toList = midnightB
  · have q5 := beq_list c5
    exact midnightB_walk s pa w _ (by unfold mvDesc; rw [c5]; exact if_pos (by decide)) q0 q1 q2 q3 q4 q5
  have q5 := beq_not c5
  unfold midnightB at q5
  by_cases c6 : s.data.toList = hourlyB
  · have q6 := beq_list c6
    exact hourlyB_walk s pa w _ (by unfold mvDesc; rw [c6]; exact if_pos (by decide)) q0 q1 q2 q3 q4 q5 q6
  have q6 := beq_not c6
  unfold hourlyB at q6
  have hf : fiveOf s.data.toList = [] := by
    unfold fiveOf
    rw [if_neg (by rintro (h | h); exact c0 h; exact c1 h), if_neg c2, if_neg c3, if_neg (by rintro (h | h); exact c4 h; exact c5 h), if_neg c6]
  unfold mvDesc
  rw [if_neg (by rw [hf]; simp)]
  clear hf c0 c1 c2 c3 c4 c5 c6
  have H1 : Hid (∀ w, Calls Tryz.prog 54 #[.string s, .string ⟨#[64, 101, 118, 101, 114, 121, 32]⟩] w fun e w' => e = .returned (.bool (starts everyB s.data.toList)) ∧ w = w') := Lib.hid (fun w => hasPrefix_any s ⟨#[64, 101, 118, 101, 114, 121, 32]⟩ w hsm (by decide))
  have HE := Lib.hid (fun t w => errNew_any t w)
  cases he : starts everyB s.data.toList with
  | true =>
    rw [he] at H1
    rw [if_pos rfl]
    have h7 : 7 ≤ s.size := by
      rcases Nat.lt_or_ge s.size 7 with hlt | hge
      · rw [starts_short (by rw [← Lib.size_eq]; exact hlt)] at he; cases he
      · exact hge
    have h7i : (7 : Int) ≤ (s.size : Int) := by omega
    have HD : Hid (∀ w, LeadErr w → Calls Tryz.prog 94 #[.string (s.extract 7 s.size)] w fun e w' => DurRes (dur (s.data.toList.drop 7)) e ∧ Below w.heap.size w w') := Lib.hid (fun w hv => by
      have := dur_any (s.extract 7 s.size) w (by simp; omega) hv
      rwa [Lib.extract_to_end] at this)
    have HEV := Lib.hid (fun (d : Int) (w : World) (h1 : -9223372036854775808 ≤ d) (h2 : d ≤ 9223372036854775807) => every_any d w h1 h2)
    have HV := Lib.hid hv
    obtain ⟨r, hr⟩ : ∃ r, dur (s.data.toList.drop 7) = r := ⟨_, rfl⟩
    rw [hr] at HD ⊢
    clear hr he hsm hv
    go_enter Tryz.func58, Tryz.ntmps58
    go_upto_region 16 with (first
      | (go_at_call 54; refine (H1.out _).mono ?_; rintro e w' ⟨rfl, rfl⟩)
      | (go_at_call 94; refine (HD.out _ HV.out).mono ?_; rintro e w1 ⟨hd, hb1⟩; have hd' : ∃ xv ev, e = .returned (.tuple #[xv, ev]) ∧ ((∃ T p, ev = .iface T p ∧ ∀ x, r ≠ some (some x)) ∨ ∃ x : Int, xv = .int .i64 x ∧ ev = .nilIface ∧ r ≠ none ∧ (∀ y, r = some (some y) → y = x) ∧ -9223372036854775808 ≤ x ∧ x ≤ 9223372036854775807) := (by
          rcases hd with ⟨T, p, v, rfl, h⟩ | ⟨x, rfl, h⟩
          · exact ⟨_, _, rfl, .inl ⟨T, p, rfl, h⟩⟩
          · exact ⟨_, _, rfl, .inr ⟨x, rfl, rfl, h⟩⟩); obtain ⟨xv, ev, rfl, hres⟩ := hd'; have HB1 := Lib.hid hb1; clear hd hb1))
    rcases hres with ⟨T, p, rfl, hno⟩ | ⟨x, rfl, rfl, hr0, hr1, hx1, hx2⟩
    · have HNO := Lib.hid (mvDur_no hno)
      clear hno
      go_wp2_with (go_at_call 53; refine (HE.out _ _).mono ?_; rintro e w2 ⟨⟨T2, p2, rfl⟩, hb2⟩; have HB2 := Lib.hid (chain HB1.out hb2); clear hb2)
      go_ret2
      exact ⟨.inl ⟨_, _, rfl, HNO.out⟩, HB2.out⟩
    · have HR0 := Lib.hid hr0
      have HR1 := Lib.hid hr1
      clear hr0 hr1
      go_wp2_with (go_at_call 95; refine (HEV.out x _ hx1 hx2).mono ?_; rintro e w2 ⟨rfl, hb2⟩; have HB2 := Lib.hid (chain HB1.out hb2); clear hb2)
      go_ret2
      refine ⟨.inr (.inr ⟨_, rfl, ?_, ?_⟩), HB2.out⟩
      · intro e
        cases r with
        | none => exact HR0.out rfl
        | some r => cases r <;> simp [mvDur] at e
      · intro m hm
        cases r with
        | none => simp [mvDur] at hm
        | some r =>
          cases r with
          | none => simp [mvDur] at hm
          | some y =>
            simp only [mvDur, Option.some.injEq] at hm
            rw [← hm, HR1.out y rfl]
  | false =>
    rw [he] at H1
    rw [if_neg (by decide)]
    have HL := Lib.hid (lone_no (Mean.lone s.data.toList))
    obtain ⟨mr, hmr⟩ : ∃ mr, (if Mean.lone s.data.toList = true then some none else none : Option (Option MV)) = mr := ⟨_, rfl⟩
    rw [hmr] at HL ⊢
    clear hmr he hsm
    go_enter Tryz.func58, Tryz.ntmps58
    go_wp2_with (first
      | (go_at_call 54; refine (H1.out _).mono ?_; rintro e w' ⟨rfl, rfl⟩)
      | (go_at_call 53; refine (HE.out _ _).mono ?_; rintro e w2 ⟨⟨T2, p2, rfl⟩, hb2⟩; have HB2 := Lib.hid hb2; clear hb2))
    go_ret2
    exact ⟨.inl ⟨_, _, rfl, HL.out⟩, HB2.out⟩
end Go.Proofs.YtmnjmhlodbifjaaGreatDoor.ParseDesc
