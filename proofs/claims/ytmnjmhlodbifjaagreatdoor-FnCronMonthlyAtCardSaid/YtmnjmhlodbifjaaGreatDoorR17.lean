/- cron.NewParser and impl.parser, which recovers. Conditions: at most one optional field. · The reference's CronParse at texts without zone and descriptor. Conditions: options below 512, texts of at most 65536 bytes. · impl.ParseCron and the law's cronMeansNothing at plain texts of ASCII. Conditions: options below 512 with at most one optional field, texts of at most 65536 bytes, strconv's sentinels hold something. · Floats of 64 bits that stand for whole numbers below 2^53, and what every operation on floats hands back. Conditions: none. · Durations as plain lists: what the reference reads. Conditions: none. · Names of time zones: time.LoadLocation and the reference's CronZoneName. Conditions: names of at most 65536 bytes; the package's own error holds something. -/
import Derived.Test.YtmnjmhlodbifjaaGreatDoorR4
import Derived.Test.YtmnjmhlodbifjaaGreatDoorR2
import Derived.Defers
import Derived.Recover
import Derived.Laws.Pointers
import Derived.Test.YtmnjmhlodbifjaaGreatDoorR15
import Derived.Test.YtmnjmhlodbifjaaGreatDoorR16
import Derived.Test.YtmnjmhlodbifjaaGreatDoorR14
import Derived.Laws.FloatArith
import Derived.Test.YtmnjmhlodbifjaaGreatDoorR3
import Derived.Test.YtmnjmhlodbifjaaGreatDoorR7
import Derived.Deep.QuietTactic
import Derived.BigQuiet

namespace Go.Proofs.YtmnjmhlodbifjaaGreatDoor.Parser
open Go Go.RowKit Go.Proofs.YtmnjmhlodbifjaaGreatDoor.Mem Go.Proofs.YtmnjmhlodbifjaaGreatDoor.FillPure Go.Proofs.YtmnjmhlodbifjaaGreatDoor.Aid
set_option linter.unusedVariables false
theorem newParser_any (o : Int) (w : World) (h : (sec o && dow o) = false) :
    Calls Tryz.prog 52 #[.int .i64 o] w fun e w' => e = .returned (.agg #[.int .i64 o]) ∧ Below w.heap.size w w' := by
  unfold sec dow at h
  by_cases h1 : 0 < Go.bits .and .i64 o 128
  · have h2 : ¬ 0 < Go.bits .and .i64 o 2 := by
      intro e; rw [decide_eq_true h1, decide_eq_true e] at h; cases h
    clear h
    go_enter Tryz.func52, Tryz.ntmps52
    go_wp2
    exact bodyPost_ret (v := .agg #[.int .i64 o]) (by simp [results, Tryz.results52, go_sem]) rfl ⟨rfl, ((Below.refl _ _).alloc (Nat.le_refl _) _)⟩
  · clear h
    by_cases h2 : 0 < Go.bits .and .i64 o 2
    · go_enter Tryz.func52, Tryz.ntmps52
      go_wp2
      exact bodyPost_ret (v := .agg #[.int .i64 o]) (by simp [results, Tryz.results52, go_sem]) rfl ⟨rfl, ((Below.refl _ _).alloc (Nat.le_refl _) _)⟩
    · go_enter Tryz.func52, Tryz.ntmps52
      go_wp2
      exact bodyPost_ret (v := .agg #[.int .i64 o]) (by simp [results, Tryz.results52, go_sem]) rfl ⟨rfl, ((Below.refl _ _).alloc (Nat.le_refl _) _)⟩
end Go.Proofs.YtmnjmhlodbifjaaGreatDoor.Parser
namespace Go.Proofs.YtmnjmhlodbifjaaGreatDoor.SpecParse0
open Go Go.RowKit Go.Proofs.YtmnjmhlodbifjaaGreatDoor.Mem Go.Proofs.YtmnjmhlodbifjaaGreatDoor.Aid Go.Proofs.YtmnjmhlodbifjaaGreatDoor.Set Go.Proofs.YtmnjmhlodbifjaaGreatDoor.Fields Go.Proofs.YtmnjmhlodbifjaaGreatDoor.Big Go.Proofs.YtmnjmhlodbifjaaGreatDoor.Meaning Go.Proofs.YtmnjmhlodbifjaaGreatDoor.FillPure Go.Proofs.YtmnjmhlodbifjaaGreatDoor.PlainPure Go.Proofs.YtmnjmhlodbifjaaGreatDoor.NameRel Go.Proofs.YtmnjmhlodbifjaaGreatDoor.SpecPlain Go.Proofs.YtmnjmhlodbifjaaGreatDoor.Head Go.Proofs.YtmnjmhlodbifjaaGreatDoor.ZoneHead
set_option linter.unusedVariables false
end Go.Proofs.YtmnjmhlodbifjaaGreatDoor.SpecParse0
namespace Go.Proofs.YtmnjmhlodbifjaaGreatDoor.ParseCron
open Go Go.RowKit Go.Proofs.YtmnjmhlodbifjaaGreatDoor.Mem Go.Proofs.YtmnjmhlodbifjaaGreatDoor.Aid Go.Proofs.YtmnjmhlodbifjaaGreatDoor.Err Go.Proofs.YtmnjmhlodbifjaaGreatDoor.SplitPure Go.Proofs.YtmnjmhlodbifjaaGreatDoor.FillPure Go.Proofs.YtmnjmhlodbifjaaGreatDoor.PlainPure Go.Proofs.YtmnjmhlodbifjaaGreatDoor.NameRel Go.Proofs.YtmnjmhlodbifjaaGreatDoor.PlainSched Go.Proofs.YtmnjmhlodbifjaaGreatDoor.Head Go.Proofs.YtmnjmhlodbifjaaGreatDoor.ParseA Go.Proofs.YtmnjmhlodbifjaaGreatDoor.ParseP Go.Proofs.YtmnjmhlodbifjaaGreatDoor.Parser Go.Proofs.YtmnjmhlodbifjaaGreatDoor.ZoneHead Go.Proofs.YtmnjmhlodbifjaaGreatDoor.Words Go.Proofs.YtmnjmhlodbifjaaGreatDoor.Meaning Go.Proofs.YtmnjmhlodbifjaaGreatDoor.SpecPlain Go.Proofs.YtmnjmhlodbifjaaGreatDoor.SpecSix Go.Proofs.YtmnjmhlodbifjaaGreatDoor.SpecParse0 Go.Proofs.YtmnjmhlodbifjaaGreatDoor.Big
set_option linter.unusedVariables false
theorem nil_size {s : ByteArray} (h : s.size = 0) : s.data.toList = [] := by
  have : s.data.toList.length = 0 := by simpa using h
  exact List.eq_nil_of_length_eq_zero this
theorem parse_empty (o : Int) (s : ByteArray) (w : World) (h0 : s.size = 0) :
    Calls Tryz.prog 31 #[.agg #[.int .i64 o], .string s] w fun e w' => ParseRes none (.pointer none) e w' ∧ Below w.heap.size w w' := by
  have hz : ((s.size : Int) == 0) = true := by rw [beq_iff_eq]; omega
  clear h0
  go_enter Tryz.func31, Tryz.ntmps31
  go_wp2_with (go_at_call 53; refine (errorsNew_any _ _).mono ?_; rintro e w1 ⟨he, hb1⟩; obtain ⟨T, p, rfl⟩ := he)
  go_ret2
  exact ⟨⟨_, _, rfl⟩, ((Below.refl _ w).alloc (Nat.le_refl _) _).trans (hb1.mono (by simp))⟩
def zeroS : Array Value := #[.bool false, .int .i64 0, .int .u64 0, .int .u64 0, .int .u64 0, .int .u64 0, .int .u64 0, .int .u64 0]
def setsS (a b c d e f : Int) : Array Value := #[.bool false, .int .i64 0, .int .u64 a, .int .u64 b, .int .u64 c, .int .u64 d, .int .u64 e, .int .u64 f]
def setsL (l : List Int) : Array Value := setsS (l.getD 0 0) (l.getD 1 0) (l.getD 2 0) (l.getD 3 0) (l.getD 4 0) (l.getD 5 0)
theorem infoSched : (Tryz.prog.info? 28).map (·.size) = some 8 := by kernel_rfl
end Go.Proofs.YtmnjmhlodbifjaaGreatDoor.ParseCron
namespace Go.Proofs.YtmnjmhlodbifjaaGreatDoor.Float
open Go Go.RowKit Go.Proofs.YtmnjmhlodbifjaaGreatDoor.Mem Go.Proofs.YtmnjmhlodbifjaaGreatDoor.Aid
set_option linter.unusedVariables false
def fl (n : Nat) : Nat := Ieee.double.nearest false n 0
theorem log_le {n : Nat} (h : n < 2 ^ 53) : n.log2 ≤ 52 := by
  by_cases h0 : n = 0
  · subst h0; decide
  · have := (Nat.log2_lt h0).2 h
    omega
theorem log_pow {n : Nat} (h : n ≠ 0) (k : Nat) : (n * 2 ^ k).log2 = n.log2 + k := by
  have h1 := Nat.log2_self_le h
  have h2 := Nat.lt_log2_self (n := n)
  have hp : 0 < 2 ^ k := Nat.two_pow_pos k
  have hne : n * 2 ^ k ≠ 0 := by
    intro e
    rcases Nat.mul_eq_zero.1 e with e | e
    · exact h e
    · omega
  refine (Nat.log2_eq_iff hne).2 ⟨?_, ?_⟩
  · rw [Nat.pow_add]; exact Nat.mul_le_mul_right _ h1
  · rw [show n.log2 + k + 1 = (n.log2 + 1) + k by omega, Nat.pow_add]; exact Nat.mul_lt_mul_of_pos_right h2 hp
theorem shl (n k : Nat) : n <<< k = n * 2 ^ k := Nat.shiftLeft_eq n k
theorem cut_exact (way : Ieee.Toward) (hw : way = .even ∨ way = .zero) (n k : Nat) (h : n ≠ 0) : way.cut false (n * 2 ^ k) k = n := by
  have hl := log_pow h k
  have hm : min k ((n * 2 ^ k).log2 + 2) = k := by omega
  have hp : 0 < 2 ^ k := Nat.two_pow_pos k
  unfold Ieee.Toward.cut
  simp only [hm, shl, Nat.one_mul, Nat.mul_div_cancel _ hp, Nat.mul_mod_left]
  rcases hw with rfl | rfl
  · have h1 : decide (2 ^ k < 2 * 0) = false := by simp
    have h2 : ((2 : Nat) ^ k == 2 * 0) = false := by
      rw [beq_eq_false_iff_ne]; omega
    rw [h1, h2]
    simp
  · simp
theorem leastPlace_eq : Ieee.double.leastPlace = -1074 := by decide
theorem frac_eq : Ieee.double.fractionBits = 52 := rfl
theorem inf_eq : Ieee.double.infRung = 9218868437227405312 := by decide
theorem binade_eq : Ieee.double.binade = 4503599627370496 := by decide
theorem sign_eq : Ieee.double.signWeight = 9223372036854775808 := by decide
theorem nearest_up {n : Nat} (h1 : 1 ≤ n) (h2 : n < 2 ^ 53) (k : Nat) : Ieee.double.nearest false (n * 2 ^ k) (-(k : Int)) = (n.log2 + 1022) * 4503599627370496 + n * 2 ^ (52 - n.log2) := by
  have h0 : n ≠ 0 := by omega
  have hl := log_le h2
  have hp : 0 < 2 ^ k := Nat.two_pow_pos k
  have hne : n * 2 ^ k ≠ 0 := by
    intro e
    rcases Nat.mul_eq_zero.1 e with e | e
    · exact h0 e
    · omega
  unfold Ieee.Format.nearest
  rw [if_neg hne]
  simp only [log_pow h0 k, leastPlace_eq, frac_eq, inf_eq, binade_eq]
  have e1 : max (-(k : Int) + ((n.log2 + k : Nat) : Int) - ((52 : Nat) : Int)) (-1074) = (n.log2 : Int) - 52 := by
    rw [Int.max_def]; split <;> omega
  rw [e1]
  have e2 : ((n.log2 : Int) - 52 - (-1074)).toNat = n.log2 + 1022 := by omega
  rw [e2]
  have hK : n * 2 ^ (52 - n.log2) < 9007199254740992 := by
    have := Nat.lt_log2_self (n := n)
    calc n * 2 ^ (52 - n.log2) < 2 ^ (n.log2 + 1) * 2 ^ (52 - n.log2) := Nat.mul_lt_mul_of_pos_right this (Nat.two_pow_pos _)
      _ = 9007199254740992 := by rw [← Nat.pow_add, show n.log2 + 1 + (52 - n.log2) = 53 by omega]
  have ec : Ieee.Toward.even.cut false ((n * 2 ^ k) <<< (-(k : Int) - ((n.log2 : Int) - 52)).toNat) ((n.log2 : Int) - 52 - -(k : Int)).toNat = n * 2 ^ (52 - n.log2) := by
    rw [shl, Nat.mul_assoc, ← Nat.pow_add]
    by_cases hk : k ≤ 52 - n.log2
    · rw [show ((n.log2 : Int) - 52 - -(k : Int)).toNat = 0 by omega, show k + (-(k : Int) - ((n.log2 : Int) - 52)).toNat = 52 - n.log2 by omega]
      have := cut_exact .even (.inl rfl) (n * 2 ^ (52 - n.log2)) 0 (by
        intro e
        rcases Nat.mul_eq_zero.1 e with e | e
        · exact h0 e
        · have := Nat.two_pow_pos (52 - n.log2); omega)
      rwa [Nat.pow_zero, Nat.mul_one] at this
    · obtain ⟨d, hd⟩ : ∃ d, k = (52 - n.log2) + d := ⟨k - (52 - n.log2), by omega⟩
      rw [show ((n.log2 : Int) - 52 - -(k : Int)).toNat = d by omega, show k + (-(k : Int) - ((n.log2 : Int) - 52)).toNat = (52 - n.log2) + d by omega]
      rw [Nat.pow_add, ← Nat.mul_assoc]
      exact cut_exact .even (.inl rfl) _ d (by
        intro e
        rcases Nat.mul_eq_zero.1 e with e | e
        · exact h0 e
        · have := Nat.two_pow_pos (52 - n.log2); omega)
  rw [ec]
  unfold Ieee.Format.word
  rw [if_neg (by decide)]
  rw [Nat.min_eq_left]
  generalize n * 2 ^ (52 - n.log2) = K at hK
  omega
theorem fl_eq {n : Nat} (h1 : 1 ≤ n) (h2 : n < 2 ^ 53) : fl n = (n.log2 + 1022) * 4503599627370496 + n * 2 ^ (52 - n.log2) := by
  have := nearest_up h1 h2 0
  rw [Nat.pow_zero, Nat.mul_one] at this
  exact this
theorem kept {n : Nat} (h1 : 1 ≤ n) (h2 : n < 2 ^ 53) : 4503599627370496 ≤ n * 2 ^ (52 - n.log2) ∧ n * 2 ^ (52 - n.log2) < 9007199254740992 := by
  have hl := log_le h2
  constructor
  · calc 4503599627370496 = 2 ^ n.log2 * 2 ^ (52 - n.log2) := by rw [← Nat.pow_add, show n.log2 + (52 - n.log2) = 52 by omega]
      _ ≤ n * 2 ^ (52 - n.log2) := Nat.mul_le_mul_right _ (Nat.log2_self_le (by omega))
  · have := Nat.lt_log2_self (n := n)
    calc n * 2 ^ (52 - n.log2) < 2 ^ (n.log2 + 1) * 2 ^ (52 - n.log2) := Nat.mul_lt_mul_of_pos_right this (Nat.two_pow_pos _)
      _ = 9007199254740992 := by rw [← Nat.pow_add, show n.log2 + 1 + (52 - n.log2) = 53 by omega]
theorem read_fl {n : Nat} (h1 : 1 ≤ n) (h2 : n < 2 ^ 53) : Ieee.double.read (fl n) = .number false (n * 2 ^ (52 - n.log2)) ((n.log2 : Int) - 52) := by
  have hl := log_le h2
  obtain ⟨k1, k2⟩ := kept h1 h2
  rw [fl_eq h1 h2]
  generalize n * 2 ^ (52 - n.log2) = K at k1 k2
  obtain ⟨J, rfl⟩ : ∃ J, K = 4503599627370496 + J := Nat.exists_eq_add_of_le k1
  have hJ : J < 4503599627370496 := by omega
  clear k1 k2
  obtain ⟨l, hl2⟩ : ∃ l, n.log2 = l := ⟨_, rfl⟩
  rw [hl2] at hl ⊢
  clear hl2
  unfold Ieee.Format.read
  simp only [leastPlace_eq, inf_eq, binade_eq, sign_eq]
  have e3 : (l + 1022) * 4503599627370496 + (4503599627370496 + J) = (l + 1023) * 4503599627370496 + J := by omega
  rw [e3]
  have hb : (l + 1023) * 4503599627370496 + J < 9223372036854775808 := by omega
  have e1 : ((l + 1023) * 4503599627370496 + J) / 9223372036854775808 = 0 := Nat.div_eq_of_lt hb
  have e2 : ((l + 1023) * 4503599627370496 + J) % 9223372036854775808 = (l + 1023) * 4503599627370496 + J := Nat.mod_eq_of_lt hb
  rw [e1, e2]
  have e4 : ((l + 1023) * 4503599627370496 + J) % 4503599627370496 = J := by
    rw [Nat.mul_comm, Nat.mul_add_mod]; exact Nat.mod_eq_of_lt hJ
  have e5 : ((l + 1023) * 4503599627370496 + J) / 4503599627370496 = l + 1023 := by
    rw [Nat.mul_comm, Nat.mul_add_div (show 0 < 4503599627370496 by decide), Nat.div_eq_of_lt hJ, Nat.add_zero]
  rw [e4, e5]
  have c1 : ¬ (l + 1023) * 4503599627370496 + J < 4503599627370496 := by omega
  have c2 : (l + 1023) * 4503599627370496 + J < 9218868437227405312 := by omega
  rw [if_neg c1, if_pos c2]
  have e7 : (-1074 : Int) + ((l + 1023 - 1 : Nat) : Int) = (l : Int) - 52 := by omega
  rw [e7]
  rfl
theorem mul_exact {a b : Nat} (ha : 1 ≤ a) (hb : 1 ≤ b) (h : a * b < 2 ^ 53) : Ieee.double.mul (fl a) (fl b) = some (fl (a * b)) := by
  have ha2 : a < 2 ^ 53 := Nat.lt_of_le_of_lt (Nat.le_mul_of_pos_right a hb) h
  have hb2 : b < 2 ^ 53 := Nat.lt_of_le_of_lt (Nat.le_mul_of_pos_left b ha) h
  have hab : 1 ≤ a * b := Nat.mul_pos ha hb
  have la := log_le ha2
  have lb := log_le hb2
  unfold Ieee.Format.mul
  rw [read_fl ha ha2, read_fl hb hb2]
  simp only [Ieee.Datum.product, Option.map_some, Ieee.Format.write]
  congr 1
  rw [show a * 2 ^ (52 - a.log2) * (b * 2 ^ (52 - b.log2)) = a * b * 2 ^ ((52 - a.log2) + (52 - b.log2)) by rw [Nat.pow_add]; ac_rfl]
  rw [show (a.log2 : Int) - 52 + ((b.log2 : Int) - 52) = -(((52 - a.log2) + (52 - b.log2) : Nat) : Int) by omega]
  rw [fl_eq hab h]
  exact nearest_up hab h _
theorem int_fl {n : Nat} (h1 : 1 ≤ n) (h2 : n < 2 ^ 53) : floatToIntVal .f64 (fl n) .u64 = some (n : Int) := by
  have hl := log_le h2
  have hd : FloatKind.f64.decode (fl n) = .number false (n * 2 ^ (52 - n.log2)) ((n.log2 : Int) - 52) := read_fl h1 h2
  unfold floatToIntVal
  rw [hd]
  simp only [Ieee.Datum.toInt, Ieee.Datum.integral]
  rw [show ((n.log2 : Int) - 52).toNat = 0 by omega, show (-((n.log2 : Int) - 52)).toNat = 52 - n.log2 by omega]
  rw [shl, Nat.pow_zero, Nat.mul_one, cut_exact .zero (.inr rfl) n _ (by omega)]
  have hs : Ieee.signed false n 0 = (n : Int) := by
    unfold Ieee.signed
    rw [if_neg (by decide), shl, Nat.pow_zero, Nat.mul_one]
  rw [hs]
  rw [if_pos]
  constructor
  · show (0 : Int) ≤ n
    omega
  · show (n : Int) ≤ 18446744073709551615
    omega
theorem of_int (n : Nat) : floatOfInt .f64 (n : Int) = fl n := by
  unfold floatOfInt FloatKind.nearest FloatKind.encode fl
  have h1 : decide ((n : Int) < 0) = false := decide_eq_false (by omega)
  rw [h1]
  rfl
theorem arith_gen (P : Program) (op : BinOp) (h : op = .mul ∨ op = .quo) (t : TypeId) (x y : Nat) (w : World) : ∃ b n, (binOp op t (.float .f64 x) (.float .f64 y)).run P w = .ok (.float .f64 b) (w.drewN n) := by
  cases hf : floatBits op .f64 x y with
  | some r => exact ⟨r, 0, run_float_arith w op t .f64 x y r hf⟩
  | none =>
    rcases h with rfl | rfl
    · unfold floatBits at hf
      simp only at hf
      cases hq : (Question.nanBits FloatKind.f64 x y).forced with
      | true => exact ⟨0, 0, by simp [binOp, Op.floatArith, hf, hq]; rfl⟩
      | false => exact ⟨(Question.nanBits FloatKind.f64 x y).cut (w.tape w.drawn (Question.nanBits FloatKind.f64 x y)), 1, by simp [binOp, Op.floatArith, hf, hq]; rfl⟩
    · unfold floatBits at hf
      simp only at hf
      cases hq : (Question.nanBits FloatKind.f64 x y).forced with
      | true => exact ⟨0, 0, by simp [binOp, Op.floatArith, hf, hq]; rfl⟩
      | false => exact ⟨(Question.nanBits FloatKind.f64 x y).cut (w.tape w.drawn (Question.nanBits FloatKind.f64 x y)), 1, by simp [binOp, Op.floatArith, hf, hq]; rfl⟩
theorem conv_gen (P : Program) (src dst : TypeId) (b : Nat) (w : World) (hs : (P.underlying src).isSome = true) (hd : P.underlying dst = some (.int .u64)) : ∃ (m n : Nat), m < 2 ^ 64 ∧ (convert src dst (.float .f64 b)).run P w = .ok (.int .u64 (m : Int)) (w.drewN n) := by
  cases hf : floatToIntVal .f64 b .u64 with
  | some r =>
    have hr : 0 ≤ r ∧ r ≤ 18446744073709551615 := by
      unfold floatToIntVal at hf
      split at hf
      · split at hf
        · rename_i hb; cases hf; exact hb
        · cases hf
      · cases hf
    refine ⟨r.toNat, 0, by omega, ?_⟩
    rw [show ((r.toNat : Nat) : Int) = r by omega]
    exact run_convert_float_int w src dst .f64 .u64 b r hs hd hf
  | none =>
    obtain ⟨u, hs'⟩ := Option.isSome_iff_exists.1 hs
    have key : ∀ z : Int, ∃ m : Nat, m < 2 ^ 64 ∧ IntKind.u64.wrap z = (m : Int) := fun z => by
      refine ⟨(IntKind.u64.wrap z).toNat, ?_, ?_⟩ <;> rw [IntKind.wrap_u64] <;> omega
    have hany : ∀ X : World, ∃ (m n : Nat), m < 2 ^ 64 ∧ (Conv.floatToInt .f64 b .u64).run P X = .ok (.int .u64 (m : Int)) (X.drewN n) := fun X => by
      have h2 : (Conv.floatToInt .f64 b .u64) = (do pure (.int .u64 (IntKind.u64.wrap (← choose (.floatToInt .f64 b .u64))))) := by
        unfold floatToIntVal at hf
        unfold Conv.floatToInt
        dsimp only
        cases he : (FloatKind.f64.decode b).toInt .zero with
        | none => rfl
        | some n =>
          rw [he] at hf
          simp only at hf
          split at hf
          · cases hf
          · rename_i hn
            simp only
            rw [if_neg hn]
      rw [h2]
      cases hq : (Question.floatToInt FloatKind.f64 b IntKind.u64).forced with
      | true =>
        obtain ⟨m, hm, he⟩ := key 0
        exact ⟨m, 0, hm, by simp [hq]; exact ⟨he, rfl⟩⟩
      | false =>
        obtain ⟨m, hm, he⟩ := key ((Question.floatToInt FloatKind.f64 b IntKind.u64).cut (X.tape X.drawn (Question.floatToInt FloatKind.f64 b IntKind.u64)))
        exact ⟨m, 1, hm, by simp [hq]; exact ⟨he, rfl⟩⟩
    obtain ⟨m, n, hm, he⟩ := hany w
    refine ⟨m, n, hm, ?_⟩
    cases u <;> simp [convert, run_underlying hs', run_underlying hd, he]
end Go.Proofs.YtmnjmhlodbifjaaGreatDoor.Float
namespace Go.Proofs.YtmnjmhlodbifjaaGreatDoor.DurPure
open Go Go.Proofs.YtmnjmhlodbifjaaGreatDoor.NumPure Go.Proofs.YtmnjmhlodbifjaaGreatDoor.Float
set_option linter.unusedVariables false
def numOf (l : List UInt8) : Nat := l.foldl (fun n c => 10 * n + (c.toNat - 48)) 0
theorem val_snoc (l : List UInt8) (c : UInt8) : numOf (l ++ [c]) = 10 * numOf l + (c.toNat - 48) := by simp [numOf]
theorem isDig_iff (c : UInt8) : isDig c = true ↔ 48 ≤ c.toNat ∧ c.toNat ≤ 57 := by
  unfold isDig
  simp
theorem fold_lt : ∀ (l : List UInt8) (n : Nat), (∀ c ∈ l, isDig c = true) → l.foldl (fun n c => 10 * n + (c.toNat - 48)) n < (n + 1) * 10 ^ l.length := by
  intro l
  induction l with
  | nil => intro n _; simp
  | cons c r ih =>
    intro n h
    have h1 := ih (10 * n + (c.toNat - 48)) (fun x hx => h x (by simp [hx]))
    have h2 := (isDig_iff c).1 (h c (by simp))
    rw [List.foldl_cons, List.length_cons, Nat.pow_succ]
    refine Nat.lt_of_lt_of_le h1 ?_
    calc (10 * n + (c.toNat - 48) + 1) * 10 ^ r.length ≤ ((n + 1) * 10) * 10 ^ r.length := Nat.mul_le_mul_right _ (by omega)
      _ = (n + 1) * (10 ^ r.length * 10) := by rw [Nat.mul_assoc, Nat.mul_comm 10]
theorem val_lt (l : List UInt8) (h : ∀ c ∈ l, isDig c = true) : numOf l < 10 ^ l.length := by
  have := fold_lt l 0 h
  simpa [numOf] using this
theorem dropWhile_le (p : UInt8 → Bool) : ∀ l : List UInt8, (l.dropWhile p).length ≤ l.length := by
  intro l
  induction l with
  | nil => simp
  | cons c r ih =>
    simp only [List.dropWhile]
    split
    · simp; omega
    · exact Nat.le_refl _
def isNum (c : UInt8) : Bool := isDig c || c == 46
def unitOf (u : List UInt8) : Nat × Nat :=
  if u = [110, 115] then (1, 0)
  else if u = [117, 115] ∨ u = [194, 181, 115] ∨ u = [206, 188, 115] then (1000, 3)
  else if u = [109, 115] then (1000000, 6)
  else if u = [115] then (1000000000, 9)
  else if u = [109] then (60000000000, 10)
  else if u = [104] then (3600000000000, 11)
  else (0, 0)
def whole (l : List UInt8) : List UInt8 := l.takeWhile isDig
def frac : List UInt8 → List UInt8 × List UInt8
  | [] => ([], [])
  | c :: r => if c = 46 then (r.takeWhile isDig, r.dropWhile isDig) else ([], c :: r)
def fpart (l : List UInt8) : List UInt8 := (frac (l.dropWhile isDig)).1
def behind (l : List UInt8) : List UInt8 := (frac (l.dropWhile isDig)).2
def unitName (l : List UInt8) : List UInt8 := (behind l).takeWhile fun c => !isNum c
def tailOf (l : List UInt8) : List UInt8 := (behind l).dropWhile fun c => !isNum c
def unitN (l : List UInt8) : Nat := (unitOf (unitName l)).1
def most (l : List UInt8) : Nat := (unitOf (unitName l)).2
def termBad (l : List UInt8) : Bool := (decide ((whole l).length + (fpart l).length = 0)) || unitN l == 0
def termOk (l : List UInt8) : Bool := decide ((whole l).length ≤ 15) && decide ((fpart l).length ≤ most l) && decide (numOf (whole l) ≤ 4611686018427387904 / unitN l - 1)
def termNum (l : List UInt8) : Nat := numOf (whole l) * unitN l + numOf (fpart l) * (unitN l / 10 ^ (fpart l).length)
def durGo : Nat → List UInt8 → Nat → Bool → Option (Option Nat)
  | 0, _, sum, fine => if fine then some (some sum) else some none
  | n + 1, l, sum, fine =>
    if l = [] then (if fine then some (some sum) else some none)
    else if termBad l then none
    else if fine && termOk l && decide (sum + termNum l ≤ 4611686018427387904) then durGo n (tailOf l) (sum + termNum l) true
    else durGo n (tailOf l) 0 false
theorem dur_false : ∀ n l sum x, durGo n l sum false ≠ some (some x) := by
  intro n
  induction n with
  | zero => intro l sum x; simp [durGo]
  | succ n ih =>
    intro l sum x
    unfold durGo
    split
    · simp
    · split
      · simp
      · simp only [Bool.false_and, Bool.false_eq_true, if_false]
        exact ih _ _ _
theorem dur_nil (n : Nat) (sum : Nat) (fine : Bool) : durGo n [] sum fine = if fine then some (some sum) else some none := by
  cases n <;> simp [durGo]
def signOf : List UInt8 → Bool × List UInt8
  | [] => (false, [])
  | c :: r => if c = 45 then (true, r) else if c = 43 then (false, r) else (false, c :: r)
def finish (neg : Bool) : Option (Option Nat) → Option (Option Int)
  | none => none
  | some none => some none
  | some (some n) => some (some (if neg then -(n : Int) else (n : Int)))
def dur (l : List UInt8) : Option (Option Int) :=
  if (signOf l).2 = [48] then some (some 0)
  else if (signOf l).2 = [] then none
  else finish (signOf l).1 (durGo (signOf l).2.length (signOf l).2 0 true)
theorem span_at {p : UInt8 → Bool} : ∀ {l : List UInt8} {k : Nat}, k ≤ l.length → (∀ j, j < k → p (l.getD j 0) = true) → (k < l.length → p (l.getD k 0) = false) → l.takeWhile p = l.take k ∧ l.dropWhile p = l.drop k := by
  intro l
  induction l with
  | nil => intro k hk _ _; have : k = 0 := by simpa using hk
           subst this; simp
  | cons c r ih =>
    intro k hk h1 h2
    cases k with
    | zero =>
      have h2 := h2 (by simp)
      simp only [List.getD_cons_zero] at h2
      simp [List.takeWhile, List.dropWhile, h2]
    | succ k =>
      have hc := h1 0 (by omega)
      simp only [List.getD_cons_zero] at hc
      obtain ⟨a, b⟩ := ih (k := k) (by simpa using hk) (fun j hj => by have := h1 (j + 1) (by omega); simpa using this) (fun hlt => by have := h2 (by simpa using hlt); simpa using this)
      simp [List.takeWhile, List.dropWhile, hc, a, b]
theorem rest_le (l : List UInt8) : (behind l).length ≤ l.length := by
  have h1 : (l.dropWhile isDig).length ≤ l.length := dropWhile_le _ _
  unfold behind
  cases hq : l.dropWhile isDig with
  | nil => simp [frac]
  | cons c r =>
    rw [hq] at h1
    by_cases hc : c = 46
    · have := dropWhile_le isDig r
      simp only [frac, if_pos hc]
      simp at h1; omega
    · simp only [frac, if_neg hc]
      exact h1
theorem rest_lt (l : List UInt8) (h : termBad l = false) : (tailOf l).length < l.length := by
  have h1 := rest_le l
  have hn : unitName l ≠ [] := by
    intro e
    unfold termBad unitN at h
    rw [e] at h
    simp [unitOf] at h
  unfold tailOf
  unfold unitName at hn
  cases hb : behind l with
  | nil => rw [hb] at hn; simp at hn
  | cons c r =>
    rw [hb] at hn h1
    cases hc : isNum c with
    | true => simp [List.takeWhile, hc] at hn
    | false =>
      have := dropWhile_le (fun c => !isNum c) r
      simp [List.dropWhile, hc] at h1 ⊢
      omega
theorem dur_step {n : Nat} {l : List UInt8} {sum : Nat} {fine : Bool} (h0 : l ≠ []) (hl : l.length ≤ n + 1) (hb : termBad l = false) : (fine && termOk l && decide (sum + termNum l ≤ 4611686018427387904)) = true → durGo (n + 1) l sum fine = durGo n (tailOf l) (sum + termNum l) true := by
  intro h
  rw [durGo, if_neg h0, hb, if_neg (by decide), if_pos h]
theorem dur_open {n : Nat} {l : List UInt8} {sum : Nat} {fine : Bool} (h0 : l ≠ []) (hb : termBad l = false) : (fine && termOk l && decide (sum + termNum l ≤ 4611686018427387904)) = false → durGo (n + 1) l sum fine = durGo n (tailOf l) 0 false := by
  intro h
  rw [durGo, if_neg h0, hb, if_neg (by decide), h, if_neg (by decide)]
theorem dur_bad {n : Nat} {l : List UInt8} {sum : Nat} {fine : Bool} (h0 : l ≠ []) (hb : termBad l = true) : durGo (n + 1) l sum fine = none := by
  rw [durGo, if_neg h0, if_pos hb]
theorem unit_cases (u : List UInt8) : unitOf u ∈ [(1, 0), (1000, 3), (1000000, 6), (1000000000, 9), (60000000000, 10), (3600000000000, 11), (0, 0)] := by
  unfold unitOf
  repeat' split
  all_goals simp
theorem div_tab : ∀ u ∈ [((1 : Nat), (0 : Nat)), (1000, 3), (1000000, 6), (1000000000, 9), (60000000000, 10), (3600000000000, 11)], ∀ k, k < 12 → k ≤ u.2 → Ieee.double.div (fl u.1) (fl (10 ^ k)) = some (fl (u.1 / 10 ^ k)) ∧ u.1 / 10 ^ k * 10 ^ k = u.1 := by decide +kernel
theorem fl_one : fl 1 = 4607182418800017408 := by decide +kernel
theorem fl_ten : fl 10 = 4621819117588971520 := by decide +kernel
end Go.Proofs.YtmnjmhlodbifjaaGreatDoor.DurPure
namespace Go.Proofs.YtmnjmhlodbifjaaGreatDoor.ZoneName
open Go Go.RowKit Go.Proofs.YtmnjmhlodbifjaaGreatDoor.Mem Go.Proofs.YtmnjmhlodbifjaaGreatDoor.Aid Go.Proofs.YtmnjmhlodbifjaaGreatDoor.Err
set_option linter.unusedVariables false
def utcB : List UInt8 := [85, 84, 67]
def localB : List UInt8 := [76, 111, 99, 97, 108]
def zname (l : List UInt8) : Option Bool := if l = [] ∨ l = utcB then some true else if l = localB then some false else none
def LocErr (w : World) : Prop := ∃ T p, w.cell? ⟨0, 0, none⟩ = some (.iface T p)
theorem LocErr.below {w w' : World} (h : LocErr w) (hb : Below w.heap.size w w') : LocErr w' := by
  obtain ⟨T, p, h⟩ := h
  exact ⟨T, p, (hb.cell (p := ⟨0, 0, none⟩) (World.block_lt_of_cell? w _ h)).trans h⟩
theorem utc_any (w : World) : Calls Tryz.prog 75 #[] w fun e w' => (∃ a, e = .returned (.pointer (some a))) ∧ Below w.heap.size w w' := by
  go_enter Tryz.func75, Tryz.ntmps75
  go_wp2
  go_ret
  exact ⟨⟨_, rfl⟩, (Below.refl _ _).alloc (Nat.le_refl _) _⟩
def dots (l : List UInt8) : Bool := (List.range (l.length - 1)).any fun i => l.getD i 0 == 46 && l.getD (i + 1) 0 == 46
theorem dots_yes {l : List UInt8} {k : Nat} (hk : k + 1 < l.length) (h1 : l.getD k 0 = 46) (h2 : l.getD (k + 1) 0 = 46) : dots l = true := by
  unfold dots
  rw [List.any_eq_true]
  exact ⟨k, List.mem_range.2 (by omega), by rw [h1, h2]; rfl⟩
theorem dots_no {l : List UInt8} (h : ∀ k, k + 1 < l.length → ¬ (l.getD k 0 = 46 ∧ l.getD (k + 1) 0 = 46)) : dots l = false := by
  unfold dots
  rw [List.any_eq_false]
  intro k hk
  have hk := List.mem_range.1 hk
  have := h k (by omega)
  simpa using this
theorem getD_at (s : ByteArray) (k : Nat) (h : k < s.size) : s.data.toList.getD k 0 = s[k] := by
  rw [List.getD_eq_getElem?_getD, List.getElem?_eq_getElem (by simpa using h)]; rfl
theorem byte_eq {b : UInt8} {n : Nat} (hn : n < 256) (h : ((b.toNat : Int) == (n : Int)) = true) : b = UInt8.ofNat n := by
  have h1 : (b.toNat : Int) = (n : Int) := by simpa using h
  have : b.toNat = n := by omega
  rw [← UInt8.toNat_inj, this]
  simp [Nat.mod_eq_of_lt hn]
theorem dots_any (s : ByteArray) (w : World) (hs : s.size ≤ 65536) : Calls Tryz.prog 90 #[.string s] w fun e w' => e = .returned (.bool (dots s.data.toList)) ∧ w = w' := by
  by_cases h2 : s.size < 2
  · have HD := Lib.hid (dots_no (l := s.data.toList) (fun k hk => by simp at hk; omega))
    go_enter Tryz.func90, Tryz.ntmps90
    go_wp2
    go_ret
    exact ⟨by rw [HD.out]; rfl, rfl⟩
  · obtain ⟨r, hr⟩ : ∃ r, dots s.data.toList = r := ⟨_, rfl⟩
    rw [hr]
    have HR := Lib.hid hr
    clear hr
    go_enter Tryz.func90, Tryz.ntmps90
    go_wp2
    go_loop [3] (fun i => ∃ k : Nat, i = .int .i64 (k : Int) ∧ k + 1 ≤ s.size ∧ Hid (∀ j, j < k → ¬ (s.data.toList.getD j 0 = 46 ∧ s.data.toList.getD (j + 1) 0 = 46))) (fun i => s.size - (intOf i).toNat)
    case atStart => exact ⟨0, rfl, by omega, Lib.hid (fun j hj => by omega)⟩
    case round =>
      obtain ⟨k, rfl, hk, HK⟩ := hrel
      by_cases hlt : k + 1 < s.size
      · have hki : (k : Int) + 1 < (s.size : Int) := by omega
        have hk0 : k < s.size := by omega
        obtain ⟨x, hx⟩ : ∃ x : Bool, (((s[k]).toNat : Int) == 46) = x := ⟨_, rfl⟩
        obtain ⟨y, hy⟩ : ∃ y : Bool, (((s[k + 1]).toNat : Int) == 46) = y := ⟨_, rfl⟩
        have HN : (x && y) = false → Hid (∀ j, j < k + 1 → ¬ (s.data.toList.getD j 0 = 46 ∧ s.data.toList.getD (j + 1) 0 = 46)) := fun hxy => Lib.hid (fun j hj => by
          by_cases hjk : j = k
          · subst hjk
            rw [getD_at s j hk0, getD_at s (j + 1) hlt]
            rintro ⟨e1, e2⟩
            rw [e1] at hx
            rw [e2] at hy
            rw [← hx, ← hy] at hxy
            revert hxy; decide
          · exact HK.out j (by omega))
        have HY : (x && y) = true → Hid (dots s.data.toList = true) := fun hxy => Lib.hid (by
          simp only [Bool.and_eq_true] at hxy
          refine dots_yes (k := k) (by simpa using hlt) ?_ ?_
          · rw [getD_at s k hk0]; exact byte_eq (n := 46) (by omega) (by rw [← hxy.1]; exact hx)
          · rw [getD_at s (k + 1) hlt]; exact byte_eq (n := 46) (by omega) (by rw [← hxy.2]; exact hy))
        cases x with
        | false =>
          have HN := HN rfl
          clear HY
          go_wp2
          go_round
          case rel => exact ⟨k + 1, by go_num, by omega, HN⟩
          case measure => simp [intOf]; omega
        | true =>
          cases y with
          | false =>
            have HN := HN rfl
            clear HY
            go_wp2
            go_round
            case rel => exact ⟨k + 1, by go_num, by omega, HN⟩
            case measure => simp [intOf]; omega
          | true =>
            have HY := HY rfl
            clear HN
            go_wp2
            go_ret
            exact ⟨by rw [← HR.out, HY.out]; rfl, rfl⟩
      · have HD := Lib.hid (dots_no (l := s.data.toList) (fun j hj => HK.out j (by simp at hj; omega)))
        go_wp2
        go_ret
        exact ⟨by rw [← HR.out, HD.out]; rfl, rfl⟩
def LocRes (r : Option Bool) (e : Ending) : Prop :=
  match r with
  | some true => ∃ a, e = .returned (.tuple #[.pointer (some a), .nilIface])
  | some false => e = .returned (.tuple #[.pointer none, .nilIface])
  | none => ∃ T p, e = .returned (.tuple #[.pointer none, .iface T p])
theorem errNew_any (s : ByteArray) (w : World) :
    Calls Tryz.prog 53 #[.string s] w fun e w' => (∃ T p, e = .returned (.iface T p)) ∧ Below w.heap.size w w' := by
  go_enter Tryz.func53, Tryz.ntmps53
  go_wp2
  go_ret
  exact ⟨⟨_, _, rfl⟩, (Below.refl _ _).alloc (Nat.le_refl _) _⟩
theorem beq_list {s : ByteArray} {l : List UInt8} (h : s.data.toList = l) : (s.toList == l) = true := by rw [ByteArray.toList_eq, h]; simp
theorem beq_not {s : ByteArray} {l : List UInt8} (h : ¬ s.data.toList = l) : (s.toList == l) = false := by rw [ByteArray.toList_eq]; simpa using h
set_option maxHeartbeats 1000000 in
theorem load_any (s : ByteArray) (w : World) (hs : s.size ≤ 65536) (hv : LocErr w) : Calls Tryz.prog 56 #[.string s] w fun e w' => LocRes (zname s.data.toList) e ∧ Below w.heap.size w w' := by
  unfold zname
  by_cases h0 : s.data.toList = []
  · rw [if_pos (.inl h0)]
    have q0 := beq_list h0
    have q1 : s.toList.isEmpty = true := by rw [ByteArray.toList_eq, h0]; rfl
    clear h0
    go_enter Tryz.func56, Tryz.ntmps56
    go_wp2_with (go_at_call 75; refine (utc_any _).mono ?_; rintro e w1 ⟨he, hb1⟩; obtain ⟨a, rfl⟩ := he)
    go_ret2
    exact ⟨⟨_, rfl⟩, hb1⟩
  · have q0 := beq_not h0
    have q1 : s.toList.isEmpty = false := by rw [ByteArray.toList_eq]; simpa using h0
    by_cases h1 : s.data.toList = utcB
    · rw [if_pos (.inr h1)]
      have q2 : (s.toList == [85, 84, 67]) = true := beq_list h1
      clear h0 h1
      go_enter Tryz.func56, Tryz.ntmps56
      go_wp2_with (go_at_call 75; refine (utc_any _).mono ?_; rintro e w1 ⟨he, hb1⟩; obtain ⟨a, rfl⟩ := he)
      go_ret2
      exact ⟨⟨_, rfl⟩, hb1⟩
    · rw [if_neg (by rintro (h | h); exact h0 h; exact h1 h)]
      have q2 : (s.toList == [85, 84, 67]) = false := beq_not h1
      by_cases h3 : s.data.toList = localB
      · rw [if_pos h3]
        have q3 : (s.toList == [76, 111, 99, 97, 108]) = true := beq_list h3
        clear h0 h1 h3
        go_enter Tryz.func56, Tryz.ntmps56
        go_wp2
        go_ret2
        exact ⟨rfl, Below.refl _ _⟩
      · rw [if_neg h3]
        have q3 : (s.toList == [76, 111, 99, 97, 108]) = false := beq_not h3
        have hpos : 0 < s.size := by
          rcases Nat.eq_zero_or_pos s.size with h | h
          · exact absurd (List.eq_nil_of_length_eq_zero (by simpa using h)) h0
          · exact h
        have HD := Lib.hid (fun w => dots_any s w hs)
        obtain ⟨T, p, hc⟩ := hv
        clear h0 h1 h3
        cases hd : dots s.data.toList with
        | true =>
          rw [hd] at HD
          clear hd
          go_enter Tryz.func56, Tryz.ntmps56
          go_wp2_with (go_at_call 90; refine (HD.out _).mono ?_; rintro e w1 ⟨rfl, rfl⟩)
          go_quiet (fail)
          go_wp2
          go_ret2
          exact ⟨⟨_, _, rfl⟩, drewNd (Below.refl _ _) _⟩
        | false =>
          rw [hd] at HD
          clear hd
          obtain ⟨x, hx⟩ : ∃ x : Bool, (((s[0]).toNat : Int) == 47) = x := ⟨_, rfl⟩
          obtain ⟨y, hy⟩ : ∃ y : Bool, (((s[0]).toNat : Int) == 92) = y := ⟨_, rfl⟩
          cases x with
          | true =>
            go_enter Tryz.func56, Tryz.ntmps56
            go_wp2_with (go_at_call 90; refine (HD.out _).mono ?_; rintro e w1 ⟨rfl, rfl⟩)
            go_quiet (fail)
            go_wp2
            go_ret2
            exact ⟨⟨_, _, rfl⟩, drewNd (Below.refl _ _) _⟩
          | false =>
            cases y with
            | true =>
              go_enter Tryz.func56, Tryz.ntmps56
              go_wp2_with (go_at_call 90; refine (HD.out _).mono ?_; rintro e w1 ⟨rfl, rfl⟩)
              go_quiet (fail)
              go_wp2
              go_ret2
              exact ⟨⟨_, _, rfl⟩, drewNd (Below.refl _ _) _⟩
            | false =>
              go_enter Tryz.func56, Tryz.ntmps56
              go_wp2_with (first
                | (go_at_call 90; refine (HD.out _).mono ?_; rintro e w1 ⟨rfl, rfl⟩)
                | (go_at_call 53; refine (errNew_any _ _).mono ?_; rintro e w2 ⟨he, hb2⟩; obtain ⟨T2, p2, rfl⟩ := he))
              go_ret2
              exact ⟨⟨_, _, rfl⟩, hb2⟩
end Go.Proofs.YtmnjmhlodbifjaaGreatDoor.ZoneName
