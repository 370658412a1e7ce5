/- The reference's CronSchedule and CronScheduleOf. Conditions: none. · What the rows' lists of package variables give: strconv's two sentinels. Conditions: the list is met. · What the rows' lists of package variables give: all sentinels and utf8's tables. Conditions: the list is met. · impl.CronZoned and the walk of FnCronZoned. Conditions: options below 512 with at most one optional field, texts of at most 65536 bytes, the package variables hold what their initialisers lay. · impl.ParseCron at every text. Conditions: options below 512 with at most one optional field, texts of at most 65536 bytes, the package variables hold what their initialisers lay. · strconv.Itoa of a number of at most two digits. Conditions: a number from 0 to 99. · Times and their parts. Conditions: instants within 10^12 seconds of 1970, nanoseconds below 2^30, zones in order. -/
import Derived.Test.YtmnjmhlodbifjaaGreatDoorR18
import Derived.Deep.RegionHeld3
import Derived.Deep.DrawnRows
import Derived.Test.YtmnjmhlodbifjaaGreatDoorRows
import Derived.Test.YtmnjmhlodbifjaaGreatDoorR7
import Derived.Stop.LaidErr
import Derived.MakeChecks
import Derived.LaidLaws
import Derived.LaidMore
import Derived.Lay
import Derived.Test.YtmnjmhlodbifjaaGreatDoorR17
import Derived.Lib.LaidU8T
import Derived.PinnedBridge
import Derived.Test.YtmnjmhlodbifjaaGreatDoorR24
import Derived.WalkKit
import Derived.ProofKit
import Derived.Laws.Strings2
import Derived.Lib.Hide
import Derived.Test.YtmnjmhlodbifjaaGreatDoorChecked
import Derived.Test.YtmnjmhlodbifjaaGreatDoorR3
import Derived.Test.YtmnjmhlodbifjaaGreatDoorR2

namespace Go.Proofs.YtmnjmhlodbifjaaGreatDoor.SchedOf
open Go Go.RowKit Go.Proofs.YtmnjmhlodbifjaaGreatDoor.Mem Go.Proofs.YtmnjmhlodbifjaaGreatDoor.Aid Go.Proofs.YtmnjmhlodbifjaaGreatDoor.Set Go.Proofs.YtmnjmhlodbifjaaGreatDoor.Fields Go.Proofs.YtmnjmhlodbifjaaGreatDoor.Big Go.Proofs.YtmnjmhlodbifjaaGreatDoor.Meaning Go.Proofs.YtmnjmhlodbifjaaGreatDoor.SpecBits Go.Proofs.YtmnjmhlodbifjaaGreatDoor.SpecSix Go.Proofs.YtmnjmhlodbifjaaGreatDoor.PlainPure Go.Proofs.YtmnjmhlodbifjaaGreatDoor.NameRel Go.Proofs.YtmnjmhlodbifjaaGreatDoor.ParseCron Go.Proofs.YtmnjmhlodbifjaaGreatDoor.Mean
set_option linter.unusedVariables false
attribute [local go_sem ↓] Go.wp_at_zero Go.wp_at_succ
theorem storeD_eq (a v : Value) : Instr.storeAt 28 a v = storeB 28 a v := rfl
attribute [local go_sem ↓] loadS_eq storeD_eq
def Keep (w0 : World) (b : Nat) (st : Nat → Bool) (f : Nat → Nat → Bool) (Y : World) : Prop :=
  Below w0.heap.size w0 Y ∧ w0.heap.size ≤ b ∧ FldAt Y b st f ∧ ∃ cs, cs.size = 8 ∧ Blk Y (b + 1) cs
theorem Keep.drew {w0 Y : World} {b : Nat} {st : Nat → Bool} {f : Nat → Nat → Bool} (h : Keep w0 b st f Y) : Keep w0 b st f Y.drew := by
  obtain ⟨h1, h2, h3, cs, h4, h5⟩ := h
  exact ⟨h1.drew, h2, h3.below (Below.refl _ Y).drew h3.lt, cs, h4, h5.drew⟩
theorem Keep.after {w0 Y Z : World} {b : Nat} {st : Nat → Bool} {f : Nat → Nat → Bool} (h : Keep w0 b st f Y) (hb : Below Y.heap.size Y Z) : Keep w0 b st f Z := by
  obtain ⟨h1, h2, h3, cs, h4, h5⟩ := h
  exact ⟨h1.trans (hb.mono h1.size), h2, h3.below hb h3.lt, cs, h4, h5.after hb⟩
def everyS (d : Int) : Array Value := #[.bool true, .int .i64 d, .int .u64 0, .int .u64 0, .int .u64 0, .int .u64 0, .int .u64 0, .int .u64 0]
end Go.Proofs.YtmnjmhlodbifjaaGreatDoor.SchedOf
namespace Go.Proofs.YtmnjmhlodbifjaaGreatDoor.Laid9
open Go.RowKit Go.Proofs.YtmnjmhlodbifjaaGreatDoor.Err
def list : List (String × DataW Unit) := [("math/bits.deBruijn32tab", Rows.laid_math_bits_deBruijn32tab), ("math/bits.deBruijn64tab", Rows.laid_math_bits_deBruijn64tab), ("internal/strconv.uint64pow10", Rows.laid_internal_strconv_uint64pow10), ("unicode/utf8.acceptRanges", Rows.laid_unicode_utf8_acceptRanges), ("pub-timebook/pub/gotime.errLeadingInt", Rows.laid_pub_timebook_pub_gotime_errLeadingInt), ("pub-timebook/pub/gotime.errLocation", Rows.laid_pub_timebook_pub_gotime_errLocation), ("strconv.ErrRange", Rows.laid_strconv_ErrRange), ("strconv.ErrSyntax", Rows.laid_strconv_ErrSyntax), ("unicode/utf8.first", Rows.laid_unicode_utf8_first)]
theorem gES : Tryz.prog.globalNamed "strconv.ErrSyntax" = some 7 := by kernel_rfl
theorem gER : Tryz.prog.globalNamed "strconv.ErrRange" = some 8 := by kernel_rfl
theorem tES : (Tryz.prog.globals[7]?).map (·.type) = some 80 := by kernel_rfl
theorem tER : (Tryz.prog.globals[8]?).map (·.type) = some 80 := by kernel_rfl
theorem rowErr (u : TypeId) (h : Tryz.prog.typeName? 3 u = some "*errors.errorString") : u = 147 := by
  have h2 : ("*errors.errorString" : String) = "*" ++ "errors.errorString" := by decide
  exact typeName_ptr_named (nm := "errors.errorString") (by rw [← h2]; kernel_rfl) (by kernel_rfl) (by decide) u (by rw [← h2]; exact h)
theorem of_laid {W : World} (h : laidMetH Tryz.prog list W) : ErrVars W := by
  rw [MakeChecks.laidMetH_plain _ _ _ (by kernel_rfl)] at h
  have h4 := h.tail.tail.tail.tail.tail.tail
  have h5 := h4.tail
  obtain ⟨a1, s1, hv1, -, -, -⟩ := laid_sentinel h4 gER tER Tryz.underlying80 rowErr Tryz.underlying147 Tryz.underlying149 rfl rfl Tryz.underlying9 (by kernel_rfl) (by kernel_rfl)
  obtain ⟨a0, s0, hv0, -, -, -⟩ := laid_sentinel h5 gES tES Tryz.underlying80 rowErr Tryz.underlying147 Tryz.underlying149 rfl rfl Tryz.underlying9 (by kernel_rfl) (by kernel_rfl)
  exact ⟨⟨_, _, hv0⟩, _, _, hv1⟩
noncomputable def start (os : Os) : World := World.laidAll Tryz.prog os list
theorem start_met (os : Os) (args : Array Value) : laidMetH Tryz.prog list ((start os).forCall (fun _ _ => 0) ⟨#[], args, []⟩).memory := by
  rw [MakeChecks.laidMetH_plain _ _ _ (by kernel_rfl)]
  exact laidMet_laidAll _ (by kernel_rfl) (by kernel_rfl)
end Go.Proofs.YtmnjmhlodbifjaaGreatDoor.Laid9
namespace Go.Proofs.YtmnjmhlodbifjaaGreatDoor.LaidZ
open Go Go.RowKit Go.Lib Go.Proofs Go.Proofs.YtmnjmhlodbifjaaGreatDoor.Err Go.Proofs.YtmnjmhlodbifjaaGreatDoor.Lead Go.Proofs.YtmnjmhlodbifjaaGreatDoor.ZoneName Go.Proofs.YtmnjmhlodbifjaaGreatDoor.Laid9
def Sents (w : World) : Prop := ErrVars w ∧ LeadErr w ∧ LocErr w ∧ Lib.Utf8Tabs 2 3 w
theorem Sents.below {w w' : World} (h : Sents w) (hb : Below w.heap.size w w') : Sents w' := ⟨h.1.below hb, h.2.1.below hb, h.2.2.1.below hb, Go.Proofs.Utf8Tabs_below h.2.2.2 hb⟩
theorem gEL : Tryz.prog.globalNamed "pub-timebook/pub/gotime.errLeadingInt" = some 4 := by kernel_rfl
theorem gEO : Tryz.prog.globalNamed "pub-timebook/pub/gotime.errLocation" = some 0 := by kernel_rfl
theorem tEL : (Tryz.prog.globals[4]?).map (·.type) = some 80 := by kernel_rfl
theorem tEO : (Tryz.prog.globals[0]?).map (·.type) = some 80 := by kernel_rfl
theorem accept_eq : Rows.laid_unicode_utf8_acceptRanges = acceptData := by kernel_rfl
theorem first_eq : Rows.laid_unicode_utf8_first = firstData := Go.Pinned.utf8First_eq
theorem of_laidZ {W : World} (h : laidMetH Tryz.prog list W) : Sents W := by
  have he := of_laid h
  rw [MakeChecks.laidMetH_plain _ _ _ (by kernel_rfl)] at h
  have h1 := h.tail.tail.tail.tail
  obtain ⟨a1, s1, hv1, -, -, -⟩ := laid_sentinel h1 gEL tEL Tryz.underlying80 rowErr Tryz.underlying147 Tryz.underlying149 rfl rfl Tryz.underlying9 (by kernel_rfl) (by kernel_rfl)
  have h2 := h1.tail
  obtain ⟨a2, s2, hv2, -, -, -⟩ := laid_sentinel h2 gEO tEO Tryz.underlying80 rowErr Tryz.underlying147 Tryz.underlying149 rfl rfl Tryz.underlying9 (by kernel_rfl) (by kernel_rfl)
  have r3 : VarReads Tryz.prog W "unicode/utf8.first" firstData := by
    rw [← first_eq]
    exact Lib.laidMet.reads h (.tail _ (.tail _ (.tail _ (.tail _ (.tail _ (.tail _ (.tail _ (.tail _ (.head _)))))))))
  have r4 : VarReads Tryz.prog W "unicode/utf8.acceptRanges" acceptData := by
    rw [← accept_eq]
    exact Lib.laidMet.reads h (.tail _ (.tail _ (.tail _ (.head _))))
  have hT := utf8Tabs_of_readsT (ρ := Tryz.lays197_ren) { Tryz.lays197 with } ⟨by kernel_rfl, by kernel_rfl, by kernel_rfl, by kernel_rfl, by kernel_rfl, by kernel_rfl, by kernel_rfl⟩ r3 r4
  exact ⟨he, ⟨_, _, World.var?_cell gEL hv1 0⟩, ⟨_, _, World.var?_cell gEO hv2 0⟩, hT⟩
end Go.Proofs.YtmnjmhlodbifjaaGreatDoor.LaidZ
namespace Go.Proofs.YtmnjmhlodbifjaaGreatDoor.Zoned
open Go Go.RowKit Go.Proofs.YtmnjmhlodbifjaaGreatDoor.Mem Go.Proofs.YtmnjmhlodbifjaaGreatDoor.Aid Go.Proofs.YtmnjmhlodbifjaaGreatDoor.Err Go.Proofs.YtmnjmhlodbifjaaGreatDoor.Fields Go.Proofs.YtmnjmhlodbifjaaGreatDoor.Big Go.Proofs.YtmnjmhlodbifjaaGreatDoor.Meaning Go.Proofs.YtmnjmhlodbifjaaGreatDoor.SpecBits Go.Proofs.YtmnjmhlodbifjaaGreatDoor.SpecSix Go.Proofs.YtmnjmhlodbifjaaGreatDoor.FillPure Go.Proofs.YtmnjmhlodbifjaaGreatDoor.PlainPure Go.Proofs.YtmnjmhlodbifjaaGreatDoor.NameRel Go.Proofs.YtmnjmhlodbifjaaGreatDoor.PlainSched Go.Proofs.YtmnjmhlodbifjaaGreatDoor.Parser Go.Proofs.YtmnjmhlodbifjaaGreatDoor.ParseCron Go.Proofs.YtmnjmhlodbifjaaGreatDoor.TrimSpec Go.Proofs.YtmnjmhlodbifjaaGreatDoor.LaidZ Go.Proofs.YtmnjmhlodbifjaaGreatDoor.Mean Go.Proofs.YtmnjmhlodbifjaaGreatDoor.ParseDesc Go.Proofs.YtmnjmhlodbifjaaGreatDoor.ParseAll Go.Proofs.YtmnjmhlodbifjaaGreatDoor.SchedOf
set_option linter.unusedVariables false
def schedA (ev : Bool) (d a b c e f g : Int) : Array Value := #[.bool ev, .int .i64 d, .int .u64 a, .int .u64 b, .int .u64 c, .int .u64 e, .int .u64 f, .int .u64 g]
theorem schedA_one (ev : Bool) (d a b c e f g : Int) : (schedA ev d a b c e f g).all (·.oneCell') = true := by simp [schedA, Value.oneCell']
end Go.Proofs.YtmnjmhlodbifjaaGreatDoor.Zoned
namespace Go.Proofs.YtmnjmhlodbifjaaGreatDoor.CronAll
open Go Go.RowKit Go.Proofs.YtmnjmhlodbifjaaGreatDoor.Mem Go.Proofs.YtmnjmhlodbifjaaGreatDoor.Aid Go.Proofs.YtmnjmhlodbifjaaGreatDoor.Big Go.Proofs.YtmnjmhlodbifjaaGreatDoor.Err Go.Proofs.YtmnjmhlodbifjaaGreatDoor.FillPure Go.Proofs.YtmnjmhlodbifjaaGreatDoor.PlainPure Go.Proofs.YtmnjmhlodbifjaaGreatDoor.NameRel Go.Proofs.YtmnjmhlodbifjaaGreatDoor.PlainSched Go.Proofs.YtmnjmhlodbifjaaGreatDoor.Parser Go.Proofs.YtmnjmhlodbifjaaGreatDoor.ParseCron Go.Proofs.YtmnjmhlodbifjaaGreatDoor.TrimSpec Go.Proofs.YtmnjmhlodbifjaaGreatDoor.LaidZ Go.Proofs.YtmnjmhlodbifjaaGreatDoor.Mean Go.Proofs.YtmnjmhlodbifjaaGreatDoor.ParseDesc Go.Proofs.YtmnjmhlodbifjaaGreatDoor.ParseAll Go.Proofs.YtmnjmhlodbifjaaGreatDoor.SchedOf Go.Proofs.YtmnjmhlodbifjaaGreatDoor.Zoned
set_option linter.unusedVariables false
def Fit2 (r : Option (Option MV)) (sch : Array Value) (ok : Bool) : Prop :=
  (ok = false ∧ ∀ m, r ≠ some (some m)) ∨
  (ok = true ∧ r ≠ none ∧ ∀ m, r = some (some m) → (∃ LL, m = .sets LL ∧ sch = setsL (numsOf LL 6)) ∨ (∃ d, m = .every d ∧ sch = everyS d))
theorem plain_out {r : Option (Option MV)} {loc : Value} {e : Ending} {w2 : World} (h : Out r loc e w2) :
    ∃ v1 v2, e = .returned (.tuple #[v1, v2]) ∧ ∃ (ev : Bool) (d x0 x1 x2 x3 x4 x5 : Int) (ok : Bool), Fit2 r (schedA ev d x0 x1 x2 x3 x4 x5) ok ∧ ∀ w3, Below w2.heap.size w2 w3 →
      Calls Tryz.prog 30 #[v1, v2] w3 fun e w' => e = .returned (.tuple #[.agg (schedA ev d x0 x1 x2 x3 x4 x5), .bool ok]) ∧ Below w3.heap.size w3 w' := by
  rcases h with ⟨T, p, h1, hno⟩ | ⟨g, l, h1, hsp, hr0, hr1⟩ | ⟨d, h1, hr0, hr1⟩
  · exact ⟨_, _, h1, false, 0, 0, 0, 0, 0, 0, 0, false, .inl ⟨rfl, hno⟩, fun w3 _ => plain_err _ _ _ _⟩
  · refine ⟨_, _, h1, false, 0, l.getD 0 0, l.getD 1 0, l.getD 2 0, l.getD 3 0, l.getD 4 0, l.getD 5 0, true, .inr ⟨rfl, hr0, fun m hm => ?_⟩, fun w3 hb => plain_spec _ _ _ _ _ _ _ _ _ (hsp.after hb)⟩
    obtain ⟨LL, h2, h3⟩ := hr1 m hm
    exact .inl ⟨LL, h2, by rw [← h3]; rfl⟩
  · exact ⟨_, _, h1, true, d, 0, 0, 0, 0, 0, 0, true, .inr ⟨rfl, hr0, fun m hm => .inr ⟨d, hr1 m hm, rfl⟩⟩, fun w3 _ => plain_delay _ _⟩
end Go.Proofs.YtmnjmhlodbifjaaGreatDoor.CronAll
namespace Go.Proofs.YtmnjmhlodbifjaaGreatDoor.Itoa
open Go Go.RowKit Go.Proofs.YtmnjmhlodbifjaaGreatDoor.SplitPure
set_option linter.unusedVariables false
def dig (n : Nat) : List UInt8 := if n < 10 then [UInt8.ofNat (48 + n)] else [UInt8.ofNat (48 + n / 10), UInt8.ofNat (48 + n % 10)]
def lowS : ByteArray := ⟨#[48, 49, 50, 51, 52, 53, 54, 55, 56, 57, 97, 98, 99, 100, 101, 102, 103, 104, 105, 106, 107, 108, 109, 110, 111, 112, 113, 114, 115, 116, 117, 118, 119, 120, 121, 122]⟩
set_option maxRecDepth 100000 in
def twoS : ByteArray := ⟨#[48, 48, 48, 49, 48, 50, 48, 51, 48, 52, 48, 53, 48, 54, 48, 55, 48, 56, 48, 57, 49, 48, 49, 49, 49, 50, 49, 51, 49, 52, 49, 53, 49, 54, 49, 55, 49, 56, 49, 57, 50, 48, 50, 49, 50, 50, 50, 51, 50, 52, 50, 53, 50, 54, 50, 55, 50, 56, 50, 57, 51, 48, 51, 49, 51, 50, 51, 51, 51, 52, 51, 53, 51, 54, 51, 55, 51, 56, 51, 57, 52, 48, 52, 49, 52, 50, 52, 51, 52, 52, 52, 53, 52, 54, 52, 55, 52, 56, 52, 57, 53, 48, 53, 49, 53, 50, 53, 51, 53, 52, 53, 53, 53, 54, 53, 55, 53, 56, 53, 57, 54, 48, 54, 49, 54, 50, 54, 51, 54, 52, 54, 53, 54, 54, 54, 55, 54, 56, 54, 57, 55, 48, 55, 49, 55, 50, 55, 51, 55, 52, 55, 53, 55, 54, 55, 55, 55, 56, 55, 57, 56, 48, 56, 49, 56, 50, 56, 51, 56, 52, 56, 53, 56, 54, 56, 55, 56, 56, 56, 57, 57, 48, 57, 49, 57, 50, 57, 51, 57, 52, 57, 53, 57, 54, 57, 55, 57, 56, 57, 57]⟩
theorem low_at : ∀ n : Fin 10, lowS.extract n.val (n.val + 1) = ofL (dig n.val) := by decide +kernel
theorem two_at : ∀ n : Fin 100, 10 ≤ n.val → twoS.extract (n.val * 2) (n.val * 2 + 2) = ofL (dig n.val) := by decide +kernel
theorem low_size : lowS.size = 36 := by decide +kernel
theorem two_size : twoS.size = 200 := by decide +kernel
set_option maxRecDepth 100000 in
theorem small_any (n : Nat) (w : World) (h : n < 100) : Calls Tryz.prog 101 #[.int .i64 (n : Int)] w fun e w' => e = .returned (.string (ofL (dig n))) ∧ w = w' := by
  by_cases h10 : n < 10
  · have hs := fun w => run_slice_string (P := Tryz.prog) w 9 lowS .i64 .i64 (n : Int) ((n : Int) + 1) Tryz.underlying9 (by omega) (by omega) (by rw [low_size]; omega)
    rw [show ((n : Int) + 1).toNat = n + 1 by omega, Int.toNat_natCast, low_at ⟨n, h10⟩] at hs
    unfold lowS at hs
    dsimp only at hs
    go_enter Tryz.func101, Tryz.ntmps101
    go_wp2_with fail
    go_ret
    exact ⟨rfl, rfl⟩
  · have hs := fun w => run_slice_string (P := Tryz.prog) w 9 twoS .i64 .i64 ((n : Int) * 2) ((n : Int) * 2 + 2) Tryz.underlying9 (by omega) (by omega) (by rw [two_size]; omega)
    rw [show ((n : Int) * 2 + 2).toNat = n * 2 + 2 by omega, show ((n : Int) * 2).toNat = n * 2 by omega, two_at ⟨n, h⟩ (by show 10 ≤ n; omega)] at hs
    unfold twoS at hs
    dsimp only at hs
    go_enter Tryz.func101, Tryz.ntmps101
    go_wp2_with fail
    go_ret
    exact ⟨rfl, rfl⟩
theorem itoa_any (n : Nat) (w : World) (h : n < 100) : Calls Tryz.prog 14 #[.int .i64 (n : Int)] w fun e w' => e = .returned (.string (ofL (dig n))) ∧ w = w' := by
  have HS := Lib.hid (fun w => small_any n w h)
  have HF : Hid (∀ w, Calls Tryz.prog 70 #[.int .i64 (n : Int), .int .i64 10] w fun e w' => e = .returned (.string (ofL (dig n))) ∧ w = w') := Lib.hid (fun w => by
    go_enter Tryz.func70, Tryz.ntmps70
    go_wp2_with (go_at_call 101; refine (HS.out _).mono ?_; rintro e w' ⟨rfl, rfl⟩)
    go_ret
    exact ⟨rfl, rfl⟩)
  have HI : Hid (∀ w, Calls Tryz.prog 33 #[.int .i64 (n : Int)] w fun e w' => e = .returned (.string (ofL (dig n))) ∧ w = w') := Lib.hid (fun w => by
    go_enter Tryz.func33, Tryz.ntmps33
    go_wp2_with (go_at_call 70; refine (HF.out _).mono ?_; rintro e w' ⟨rfl, rfl⟩)
    go_ret
    exact ⟨rfl, rfl⟩)
  go_enter Tryz.func14, Tryz.ntmps14
  go_wp2_with (go_at_call 33; refine (HI.out _).mono ?_; rintro e w' ⟨rfl, rfl⟩)
  go_ret
  exact ⟨rfl, rfl⟩
end Go.Proofs.YtmnjmhlodbifjaaGreatDoor.Itoa
namespace Go.Proofs.YtmnjmhlodbifjaaGreatDoor.Time
open Go Go.RowKit Go.Proofs.YtmnjmhlodbifjaaGreatDoor.Cal Go.Proofs.YtmnjmhlodbifjaaGreatDoor.Off Go.Proofs.YtmnjmhlodbifjaaGreatDoor.TimeNum Go.Proofs.YtmnjmhlodbifjaaGreatDoor.Lookup
set_option linter.unusedVariables false
theorem big_and (n : Int) (h0 : 0 ≤ n) (h1 : n < 1073741824) : Go.bits .and .u64 n 9223372036854775808 = 0 := by
  obtain ⟨n, rfl⟩ := Int.eq_ofNat_of_zero_le h0
  show IntKind.u64.wrap (((BitVec.ofInt 64 (n : Int)) &&& (BitVec.ofInt 64 9223372036854775808)).toNat : Int) = _
  have e : (BitVec.ofInt 64 (n : Int) &&& BitVec.ofInt 64 9223372036854775808).toNat = 0 := by
    rw [BitVec.ofInt_natCast, BitVec.toNat_and, BitVec.toNat_ofNat, Nat.mod_eq_of_lt (by omega), show (BitVec.ofInt 64 9223372036854775808).toNat = 2 ^ 63 by decide]
    apply Nat.eq_of_testBit_eq
    intro i
    rw [Nat.testBit_and, Nat.testBit_two_pow]
    by_cases hi : 63 = i
    · subst hi
      rw [Nat.testBit_lt_two_pow (Nat.lt_of_lt_of_le (m := 2 ^ 30) (by omega) (Nat.pow_le_pow_right (by decide) (by decide)))]
      simp
    · simp [hi]
  rw [e]; rfl
theorem mask_and (n : Int) (h0 : 0 ≤ n) (h1 : n < 1073741824) : Go.bits .and .u64 n 1073741823 = n := by
  obtain ⟨n, rfl⟩ := Int.eq_ofNat_of_zero_le h0
  show IntKind.u64.wrap (((BitVec.ofInt 64 (n : Int)) &&& (BitVec.ofInt 64 1073741823)).toNat : Int) = _
  have e : (BitVec.ofInt 64 (n : Int) &&& BitVec.ofInt 64 1073741823).toNat = n := by
    rw [BitVec.ofInt_natCast, BitVec.toNat_and, BitVec.toNat_ofNat, Nat.mod_eq_of_lt (by omega), show (BitVec.ofInt 64 1073741823).toNat = 2 ^ 30 - 1 by decide, Nat.and_two_pow_sub_one_eq_mod, Nat.mod_eq_of_lt (by omega)]
  rw [e]
  rw [IntWalk.u64_in _ (by omega)]
theorem mask_not (n : Int) (h0 : 0 ≤ n) (h1 : n < 1073741824) : Go.bits .andNot .u64 n 1073741823 = 0 := by
  obtain ⟨n, rfl⟩ := Int.eq_ofNat_of_zero_le h0
  show IntKind.u64.wrap (((BitVec.ofInt 64 (n : Int)) &&& ~~~(BitVec.ofInt 64 1073741823)).toNat : Int) = _
  have e : (BitVec.ofInt 64 (n : Int) &&& ~~~(BitVec.ofInt 64 1073741823)).toNat = 0 := by
    apply Nat.eq_of_testBit_eq
    intro i
    rw [← BitVec.getLsbD, BitVec.getLsbD_and, BitVec.getLsbD_not, BitVec.getLsbD, BitVec.getLsbD, BitVec.ofInt_natCast, BitVec.toNat_ofNat, Nat.mod_eq_of_lt (by omega), show (BitVec.ofInt 64 1073741823).toNat = 2 ^ 30 - 1 by decide, Nat.testBit_two_pow_sub_one]
    by_cases hi : i < 30
    · simp [hi]
    · rw [Nat.testBit_lt_two_pow (Nat.lt_of_lt_of_le (m := 2 ^ 30) (by omega) (Nat.pow_le_pow_right (by decide) (by omega)))]
      simp
  rw [e]; rfl
theorem or_zero (n : Int) (h0 : 0 ≤ n) (h1 : n < 1073741824) : Go.bits .or .u64 0 n = n := by
  obtain ⟨n, rfl⟩ := Int.eq_ofNat_of_zero_le h0
  show IntKind.u64.wrap (((BitVec.ofInt 64 0) ||| (BitVec.ofInt 64 (n : Int))).toNat : Int) = _
  have e : (BitVec.ofInt 64 0 ||| BitVec.ofInt 64 (n : Int)).toNat = n := by
    rw [BitVec.ofInt_natCast, BitVec.toNat_or, BitVec.toNat_ofNat, Nat.mod_eq_of_lt (by omega), show (BitVec.ofInt 64 0).toNat = 0 by decide, Nat.zero_or]
  rw [e]
  rw [IntWalk.u64_in _ (by omega)]
def Nn (n : Int) : Prop := 0 ≤ n ∧ n < 1073741824
def sec (e : Int) : Int := e - 62135596800
section
variable {w : World} {b : Nat} {n e : Int}
theorem sec_at (hc0 : w.cell? ⟨b, 0, none⟩ = some (.int .u64 n)) (hc1 : w.cell? ⟨b, 1, none⟩ = some (.int .i64 e)) (hn : Nn n) :
    Calls Tryz.prog 150 #[.pointer (some ⟨b, 0, none⟩)] w fun x w' => x = .returned (.int .i64 e) ∧ w = w' := by
  have hb := big_and n hn.1 hn.2
  go_enter Tryz.func150, Tryz.ntmps150
  go_wp2
  go_ret
  exact ⟨rfl, rfl⟩
theorem unixSec_at (hc0 : w.cell? ⟨b, 0, none⟩ = some (.int .u64 n)) (hc1 : w.cell? ⟨b, 1, none⟩ = some (.int .i64 e)) (hn : Nn n) (h0 : -1000000000000 ≤ e) (h1 : e ≤ 1000000000000) :
    Calls Tryz.prog 136 #[.pointer (some ⟨b, 0, none⟩)] w fun x w' => x = .returned (.int .i64 (sec e)) ∧ w = w' := by
  have HS := Lib.hid (sec_at hc0 hc1 hn)
  clear hc0 hc1
  go_enter Tryz.func136, Tryz.ntmps136
  go_wp2_with (go_at_call 150; refine HS.out.mono ?_; rintro e w' ⟨rfl, rfl⟩)
  go_ret
  exact ⟨ret_i (by unfold sec; omega), rfl⟩
theorem nsec_at (hc0 : w.cell? ⟨b, 0, none⟩ = some (.int .u64 n)) (hn : Nn n) :
    Calls Tryz.prog 137 #[.pointer (some ⟨b, 0, none⟩)] w fun x w' => x = .returned (.int .i32 n) ∧ w = w' := by
  have hb := mask_and n hn.1 hn.2
  have h1 := hn.1
  have h2 := hn.2
  go_enter Tryz.func137, Tryz.ntmps137
  go_wp2
  go_ret
  exact ⟨rfl, rfl⟩
theorem strip_at (hc0 : w.cell? ⟨b, 0, none⟩ = some (.int .u64 n)) (hn : Nn n) :
    Calls Tryz.prog 138 #[.pointer (some ⟨b, 0, none⟩)] w fun x w' => x = .returned (.tuple #[]) ∧ w = w' := by
  have hb := big_and n hn.1 hn.2
  go_enter Tryz.func138, Tryz.ntmps138
  go_wp2
  go_end0
  exact ⟨rfl, rfl⟩
end
structure UtcAt (w : World) (b : Nat) : Prop where
  lt : b < w.heap.size
  utc : w.cell? ⟨b, 0, none⟩ = some (.bool true)
  row : w.cell? ⟨b, 2, none⟩ = some (.slice none 0 0)
def zero : Int → Int := fun _ => 0
def ZoneAt (w : World) (b : Nat) (off : Int → Int) : Prop := (UtcAt w b ∧ off = zero) ∨ ∃ z : ZoneD, z.Good ∧ LocAt w b z ∧ off = z.off
def Clock (w : World) (loc : Option Addr) (off : Int → Int) : Prop := (loc = none ∧ off = zero) ∨ ∃ b z, loc = some ⟨b, 0, none⟩ ∧ ZoneD.Good z ∧ LocAt w b z ∧ off = z.off
theorem UtcAt.below {w w' : World} {b : Nat} (h : UtcAt w b) (hb : Below w.heap.size w w') : UtcAt w' b :=
  ⟨Nat.lt_of_lt_of_le h.lt hb.size, (hb.cell (World.block_lt_of_cell? w _ h.utc)).trans h.utc, (hb.cell (World.block_lt_of_cell? w _ h.row)).trans h.row⟩
theorem ZoneAt.below {w w' : World} {b : Nat} {off : Int → Int} (h : ZoneAt w b off) (hb : Below w.heap.size w w') : ZoneAt w' b off := by
  rcases h with ⟨h, e⟩ | ⟨z, h1, h2, e⟩
  · exact .inl ⟨h.below hb, e⟩
  · exact .inr ⟨z, h1, h2.below hb, e⟩
theorem Clock.below {w w' : World} {loc : Option Addr} {off : Int → Int} (h : Clock w loc off) (hb : Below w.heap.size w w') : Clock w' loc off := by
  rcases h with h | ⟨b, z, h1, h2, h3, e⟩
  · exact .inl h
  · exact .inr ⟨b, z, h1, h2, h3.below hb, e⟩
theorem Clock.bd {w : World} {loc : Option Addr} {off : Int → Int} (h : Clock w loc off) (s : Int) : -86400 ≤ off s ∧ off s ≤ 86400 := by
  rcases h with ⟨-, rfl⟩ | ⟨b, z, h1, h2, h3, rfl⟩
  · unfold zero; omega
  · exact h2.bd s
theorem utc_any (w : World) : Calls Tryz.prog 75 #[] w fun e w' => ∃ b, (e = .returned (.pointer (some ⟨b, 0, none⟩)) ∧ UtcAt w' b) ∧ Below w.heap.size w w' := by
  go_enter Tryz.func75, Tryz.ntmps75
  go_wp2
  go_ret
  have hh : ∀ (cs : Array Value) (E : TypeId), (w.alloc (.cells cs E)).heap[w.heap.size]? = some (.cells cs E) := fun cs E => heap_alloc_new w _
  refine ⟨w.heap.size, ⟨rfl, by simp, ?_, ?_⟩, (Below.refl _ _).alloc (Nat.le_refl _) _⟩ <;> (unfold World.cell?; simp only [hh]; rfl)
def FoundAt (off : Int → Int) (x : Int) (w : World) (e : Ending) (w' : World) : Prop :=
  ∃ (s : ByteArray) (start stop : Int) (d : Bool), e = .returned (.tuple #[.string s, .int .i64 (off x), .int .i64 start, .int .i64 stop, .bool d]) ∧ (∀ y, start ≤ y → y < stop → off y = off x) ∧
    (-9223372036854775808 ≤ start ∧ start ≤ 9223372036854775807 ∧ -9223372036854775808 ≤ stop ∧ stop ≤ 9223372036854775807) ∧ Below w.heap.size w w'
set_option maxRecDepth 100000 in
theorem lookup_at (b : Nat) (off : Int → Int) (x : Int) (w : World) (h : ZoneAt w b off) (h0 : -1000000000000000 ≤ x) (h1 : x ≤ 1000000000000000) :
    Calls Tryz.prog 211 #[.pointer (some ⟨b, 0, none⟩), .int .i64 x] w (FoundAt off x w) := by
  rcases h with ⟨h, rfl⟩ | ⟨z, h1', h2, rfl⟩
  · have hc := h.row
    go_enter Tryz.func211, Tryz.ntmps211
    go_wp2_with (go_at_call 216; refine (get_some b _).mono ?_; rintro e w' ⟨rfl, rfl⟩)
    exact bodyPost_ret (v := .tuple #[.string ⟨#[85, 84, 67]⟩, .int .i64 0, .int .i64 (-9223372036854775808), .int .i64 9223372036854775807, .bool false]) (by simp [results, Tryz.results211, go_sem]) rfl ⟨_, _, _, _, rfl, fun y _ _ => rfl, by omega, Below.refl _ _⟩
  · exact lookup_any b z x w h1' h2 (by omega) (by omega)
theorem get_none (w : World) : Calls Tryz.prog 216 #[.pointer none] w fun e w' => ∃ b, (e = .returned (.pointer (some ⟨b, 0, none⟩)) ∧ UtcAt w' b) ∧ Below w.heap.size w w' := by
  go_enter Tryz.func216, Tryz.ntmps216
  go_wp2_with (go_at_call 75; refine (utc_any _).mono ?_; rintro e w' ⟨b, ⟨rfl, hu⟩, hb⟩)
  go_ret
  exact ⟨b, ⟨rfl, hu⟩, hb⟩
def Box (w : World) (b : Nat) (x y z : Value) : Prop := b < w.heap.size ∧ w.cell? ⟨b, 0, none⟩ = some x ∧ w.cell? ⟨b, 1, none⟩ = some y ∧ w.cell? ⟨b, 2, none⟩ = some z
theorem Box.below {w w' : World} {b : Nat} {x y z : Value} {B : Nat} (h : Box w b x y z) (hb : Below B w w') (hB : b < B) : Box w' b x y z :=
  ⟨Nat.lt_of_lt_of_le h.1 hb.size, (hb.cell (p := ⟨b, 0, none⟩) hB).trans h.2.1, (hb.cell (p := ⟨b, 1, none⟩) hB).trans h.2.2.1, (hb.cell (p := ⟨b, 2, none⟩) hB).trans h.2.2.2⟩
theorem box_new (w : World) (E : TypeId) (x y z : Value) : Box (w.alloc (.cells #[x, y, z] E)) w.heap.size x y z := by
  have hh : (w.alloc (.cells #[x, y, z] E)).heap[w.heap.size]? = some (.cells #[x, y, z] E) := heap_alloc_new w _
  refine ⟨by simp, ?_, ?_, ?_⟩ <;> (unfold World.cell?; simp only [hh]; rfl)
def Es (e : Int) : Prop := -900000000000 ≤ e ∧ e ≤ 900000000000
set_option maxRecDepth 100000 in
theorem absSec_any (n e : Int) (loc : Option Addr) (off : Int → Int) (w : World) (hn : Nn n) (he : Es e) (hc : Clock w loc off) :
    Calls Tryz.prog 201 #[.agg #[.int .u64 n, .int .i64 e, .pointer loc]] w fun x w' => x = .returned (.int .u64 (abs (lo off (sec e)))) ∧ Below w.heap.size w w' := by
  have hE := Lib.hid he
  have hN := Lib.hid hn
  have hs0 : -1000000000000 ≤ sec e := by unfold sec; have := he.1; omega
  have hs1 : sec e ≤ 1000000000000 := by unfold sec; have := he.2; omega
  have hbd := Lib.hid (hc.bd (sec e))
  clear he hn
  rcases hc with ⟨rfl, rfl⟩ | ⟨b, z, rfl, hz, hl, rfl⟩
  · go_enter Tryz.func201, Tryz.ntmps201
    go_wp2_with fail
    refine (get_none _).mono ?_
    rintro x w1 ⟨b, ⟨rfl, hu⟩, hb⟩
    have hb0 := hu.utc
    have HX := Lib.hid ((box_new w 86 (.int .u64 n) (.int .i64 e) (.pointer none)).below hb (by simp))
    have HU := Lib.hid (hu)
    clear hu
    go_wp2_with fail
    refine (unixSec_at HX.out.2.1 HX.out.2.2.1 hN.out (by have := hE.out.1; omega) (by have := hE.out.2; omega)).mono ?_
    rintro x w2 ⟨rfl, rfl⟩
    go_wp2_with fail
    go_ret
    refine ⟨ret_i ?_, ((Below.refl _ _).alloc (Nat.le_refl _) _).trans (hb.mono (by simp))⟩
    simp only [u64_mod, wrap64, abs, lo, zero]
    omega
  · have hbw : Below w.heap.size w (w.alloc (.cells #[.int .u64 n, .int .i64 e, .pointer (some ⟨b, 0, none⟩)] 86)) := (Below.refl _ _).alloc (Nat.le_refl _) _
    have hl2 := hl.below hbw
    have HL := Lib.hid hl2
    have hb0 := hl2.utc
    have hb7 := hl2.cache
    have HZ := Lib.hid (lookup_any b z (sec e) · hz)
    clear hl hl2 hz
    go_enter Tryz.func201, Tryz.ntmps201
    go_wp2_with fail
    refine (unixSec_at (box_new _ _ _ _ _).2.1 (box_new _ _ _ _ _).2.2.1 hN.out (by have := hE.out.1; omega) (by have := hE.out.2; omega)).mono ?_
    rintro x w2 ⟨rfl, rfl⟩
    go_wp2_with fail
    refine (HZ.out _ HL.out (by omega) (by omega)).mono ?_
    rintro x w2 ⟨s, st, en, d, rfl, -, -, hb⟩
    go_wp2_with fail
    go_ret
    refine ⟨ret_i ?_, ((Below.refl _ _).alloc (Nat.le_refl _) _).trans (hb.mono (by simp))⟩
    have := hbd.out
    simp only [u64_mod, wrap64, abs, lo]
    omega
section
variable {n e : Int} {loc : Option Addr} {off : Int → Int} {w : World}
theorem lo_bd (he : Es e) (hc : Clock w loc off) : -1728000000000 ≤ lo off (sec e) ∧ lo off (sec e) ≤ 1728000000000 := by
  have h1 := hc.bd (sec e)
  obtain ⟨h2, h3⟩ := he
  unfold lo sec at *; omega
theorem dn_of (he : Es e) (hc : Clock w loc off) : Dn (day off (sec e)) := by
  have h := hc.bd (sec e)
  obtain ⟨h2, h3⟩ := he
  unfold Dn day lo sec at *; omega
theorem day_any (hn : Nn n) (he : Es e) (hc : Clock w loc off) :
    Calls Tryz.prog 188 #[.agg #[.int .u64 n, .int .i64 e, .pointer loc]] w fun x w' => x = .returned (.int .i64 (dOf (day off (sec e)))) ∧ Below w.heap.size w w' := by
  have hbw : Below w.heap.size w (w.alloc (.cells #[.int .u64 n, .int .i64 e, .pointer loc] 86)) := (Below.refl _ _).alloc (Nat.le_refl _) _
  have HA := Lib.hid (fun w1 (h : Below w.heap.size w w1) => absSec_any n e loc off w1 hn he (hc.below h))
  have HL := Lib.hid (lo_bd he hc)
  have HD := Lib.hid (dn_of he hc)
  clear hn he hc
  go_enter Tryz.func188, Tryz.ntmps188
  go_wp2_with (first
    | (go_at_call 201; refine (HA.out _ hbw).mono ?_; rintro x w1 ⟨rfl, hb⟩)
    | (go_at_call 202; refine (days_any (lo off (sec e)) _ HL.out.1 HL.out.2).mono ?_; rintro x w' ⟨rfl, rfl⟩)
    | (go_at_call 203; refine (split_cal (day off (sec e)) _ HD.out).mono ?_; rintro x w' ⟨rfl, rfl⟩)
    | (go_at_call 204; refine (ysplit_cal (day off (sec e)) _).mono ?_; rintro x w' ⟨rfl, rfl⟩))
  go_ret
  exact ⟨rfl, hbw.trans (hb.mono hbw.size)⟩
theorem year_any' (hn : Nn n) (he : Es e) (hc : Clock w loc off) :
    Calls Tryz.prog 192 #[.agg #[.int .u64 n, .int .i64 e, .pointer loc]] w fun x w' => x = .returned (.int .i64 (yOf (day off (sec e)))) ∧ Below w.heap.size w w' := by
  have hbw : Below w.heap.size w (w.alloc (.cells #[.int .u64 n, .int .i64 e, .pointer loc] 86)) := (Below.refl _ _).alloc (Nat.le_refl _) _
  have HA := Lib.hid (fun w1 (h : Below w.heap.size w w1) => absSec_any n e loc off w1 hn he (hc.below h))
  have HL := Lib.hid (lo_bd he hc)
  have HD := Lib.hid (dn_of he hc)
  clear hn he hc
  go_enter Tryz.func192, Tryz.ntmps192
  go_wp2_with (first
    | (go_at_call 201; refine (HA.out _ hbw).mono ?_; rintro x w1 ⟨rfl, hb⟩)
    | (go_at_call 202; refine (days_any (lo off (sec e)) _ HL.out.1 HL.out.2).mono ?_; rintro x w' ⟨rfl, rfl⟩)
    | (go_at_call 203; refine (split_cal (day off (sec e)) _ HD.out).mono ?_; rintro x w' ⟨rfl, rfl⟩)
    | (go_at_call 206; refine (jf_cal (day off (sec e)) _).mono ?_; rintro x w' ⟨rfl, rfl⟩)
    | (go_at_call 207; refine (year_cal (day off (sec e)) _ HD.out).mono ?_; rintro x w' ⟨rfl, rfl⟩))
  go_ret
  exact ⟨rfl, hbw.trans (hb.mono hbw.size)⟩
theorem month_any' (hn : Nn n) (he : Es e) (hc : Clock w loc off) :
    Calls Tryz.prog 193 #[.agg #[.int .u64 n, .int .i64 e, .pointer loc]] w fun x w' => x = .returned (.int .i64 (mOf (day off (sec e)))) ∧ Below w.heap.size w w' := by
  have hbw : Below w.heap.size w (w.alloc (.cells #[.int .u64 n, .int .i64 e, .pointer loc] 86)) := (Below.refl _ _).alloc (Nat.le_refl _) _
  have HA := Lib.hid (fun w1 (h : Below w.heap.size w w1) => absSec_any n e loc off w1 hn he (hc.below h))
  have HL := Lib.hid (lo_bd he hc)
  have HD := Lib.hid (dn_of he hc)
  clear hn he hc
  go_enter Tryz.func193, Tryz.ntmps193
  go_wp2_with (first
    | (go_at_call 201; refine (HA.out _ hbw).mono ?_; rintro x w1 ⟨rfl, hb⟩)
    | (go_at_call 202; refine (days_any (lo off (sec e)) _ HL.out.1 HL.out.2).mono ?_; rintro x w' ⟨rfl, rfl⟩)
    | (go_at_call 203; refine (split_cal (day off (sec e)) _ HD.out).mono ?_; rintro x w' ⟨rfl, rfl⟩)
    | (go_at_call 204; refine (ysplit_cal (day off (sec e)) _).mono ?_; rintro x w' ⟨rfl, rfl⟩)
    | (go_at_call 206; refine (jf_cal (day off (sec e)) _).mono ?_; rintro x w' ⟨rfl, rfl⟩)
    | (go_at_call 208; refine (month_cal (day off (sec e)) _).mono ?_; rintro x w' ⟨rfl, rfl⟩))
  go_ret
  exact ⟨rfl, hbw.trans (hb.mono hbw.size)⟩
theorem weekday_any (hn : Nn n) (he : Es e) (hc : Clock w loc off) :
    Calls Tryz.prog 214 #[.agg #[.int .u64 n, .int .i64 e, .pointer loc]] w fun x w' => x = .returned (.int .i64 (wdOf (day off (sec e)))) ∧ Below w.heap.size w w' := by
  have hbw : Below w.heap.size w (w.alloc (.cells #[.int .u64 n, .int .i64 e, .pointer loc] 86)) := (Below.refl _ _).alloc (Nat.le_refl _) _
  have HA := Lib.hid (fun w1 (h : Below w.heap.size w w1) => absSec_any n e loc off w1 hn he (hc.below h))
  have HL := Lib.hid (lo_bd he hc)
  have HD := Lib.hid (dn_of he hc)
  clear hn he hc
  go_enter Tryz.func214, Tryz.ntmps214
  go_wp2_with (first
    | (go_at_call 201; refine (HA.out _ hbw).mono ?_; rintro x w1 ⟨rfl, hb⟩)
    | (go_at_call 202; refine (days_any (lo off (sec e)) _ HL.out.1 HL.out.2).mono ?_; rintro x w' ⟨rfl, rfl⟩)
    | (go_at_call 221; refine (weekday_cal (day off (sec e)) _ HD.out).mono ?_; rintro x w' ⟨rfl, rfl⟩))
  go_ret
  exact ⟨rfl, hbw.trans (hb.mono hbw.size)⟩
theorem hour_any (hn : Nn n) (he : Es e) (hc : Clock w loc off) :
    Calls Tryz.prog 197 #[.agg #[.int .u64 n, .int .i64 e, .pointer loc]] w fun x w' => x = .returned (.int .i64 (tod off (sec e) / 3600)) ∧ Below w.heap.size w w' := by
  have hbw : Below w.heap.size w (w.alloc (.cells #[.int .u64 n, .int .i64 e, .pointer loc] 86)) := (Below.refl _ _).alloc (Nat.le_refl _) _
  have HA := Lib.hid (fun w1 (h : Below w.heap.size w w1) => absSec_any n e loc off w1 hn he (hc.below h))
  have HL := Lib.hid (lo_bd he hc)
  have HD := Lib.hid (dn_of he hc)
  have hab : 0 ≤ abs (lo off (sec e)) ∧ abs (lo off (sec e)) ≤ 18446744073709551615 := by have := HL.out; unfold abs; omega
  have HE : Hid (abs (lo off (sec e)) % 86400 = tod off (sec e) ∧ abs (lo off (sec e)) % 3600 = tod off (sec e) % 3600 ∧ abs (lo off (sec e)) % 60 = tod off (sec e) % 60) := Lib.hid (by unfold abs tod; omega)
  clear hn he hc
  go_enter Tryz.func197, Tryz.ntmps197
  go_wp2_with (first
    | (go_at_call 201; refine (HA.out _ hbw).mono ?_; rintro x w1 ⟨rfl, hb⟩))
  go_ret
  exact ⟨ret_i (by rw [HE.out.1]), hbw.trans (hb.mono hbw.size)⟩
theorem minute_any (hn : Nn n) (he : Es e) (hc : Clock w loc off) :
    Calls Tryz.prog 198 #[.agg #[.int .u64 n, .int .i64 e, .pointer loc]] w fun x w' => x = .returned (.int .i64 (tod off (sec e) % 3600 / 60)) ∧ Below w.heap.size w w' := by
  have hbw : Below w.heap.size w (w.alloc (.cells #[.int .u64 n, .int .i64 e, .pointer loc] 86)) := (Below.refl _ _).alloc (Nat.le_refl _) _
  have HA := Lib.hid (fun w1 (h : Below w.heap.size w w1) => absSec_any n e loc off w1 hn he (hc.below h))
  have HL := Lib.hid (lo_bd he hc)
  have HD := Lib.hid (dn_of he hc)
  have hab : 0 ≤ abs (lo off (sec e)) ∧ abs (lo off (sec e)) ≤ 18446744073709551615 := by have := HL.out; unfold abs; omega
  have HE : Hid (abs (lo off (sec e)) % 86400 = tod off (sec e) ∧ abs (lo off (sec e)) % 3600 = tod off (sec e) % 3600 ∧ abs (lo off (sec e)) % 60 = tod off (sec e) % 60) := Lib.hid (by unfold abs tod; omega)
  clear hn he hc
  go_enter Tryz.func198, Tryz.ntmps198
  go_wp2_with (first
    | (go_at_call 201; refine (HA.out _ hbw).mono ?_; rintro x w1 ⟨rfl, hb⟩))
  go_ret
  exact ⟨ret_i (by rw [HE.out.2.1]), hbw.trans (hb.mono hbw.size)⟩
theorem second_any (hn : Nn n) (he : Es e) (hc : Clock w loc off) :
    Calls Tryz.prog 200 #[.agg #[.int .u64 n, .int .i64 e, .pointer loc]] w fun x w' => x = .returned (.int .i64 (tod off (sec e) % 60)) ∧ Below w.heap.size w w' := by
  have hbw : Below w.heap.size w (w.alloc (.cells #[.int .u64 n, .int .i64 e, .pointer loc] 86)) := (Below.refl _ _).alloc (Nat.le_refl _) _
  have HA := Lib.hid (fun w1 (h : Below w.heap.size w w1) => absSec_any n e loc off w1 hn he (hc.below h))
  have HL := Lib.hid (lo_bd he hc)
  have HD := Lib.hid (dn_of he hc)
  have hab : 0 ≤ abs (lo off (sec e)) ∧ abs (lo off (sec e)) ≤ 18446744073709551615 := by have := HL.out; unfold abs; omega
  have HE : Hid (abs (lo off (sec e)) % 86400 = tod off (sec e) ∧ abs (lo off (sec e)) % 3600 = tod off (sec e) % 3600 ∧ abs (lo off (sec e)) % 60 = tod off (sec e) % 60) := Lib.hid (by unfold abs tod; omega)
  clear hn he hc
  go_enter Tryz.func200, Tryz.ntmps200
  go_wp2_with (first
    | (go_at_call 201; refine (HA.out _ hbw).mono ?_; rintro x w1 ⟨rfl, hb⟩))
  go_ret
  exact ⟨ret_i (by rw [HE.out.2.2]), hbw.trans (hb.mono hbw.size)⟩
theorem date_any (hn : Nn n) (he : Es e) (hc : Clock w loc off) :
    Calls Tryz.prog 212 #[.agg #[.int .u64 n, .int .i64 e, .pointer loc]] w fun x w' => x = .returned (.tuple #[.int .i64 (yOf (day off (sec e))), .int .i64 (mOf (day off (sec e))), .int .i64 (dOf (day off (sec e)))]) ∧ Below w.heap.size w w' := by
  have hbw : Below w.heap.size w (w.alloc (.cells #[.int .u64 n, .int .i64 e, .pointer loc] 86)) := (Below.refl _ _).alloc (Nat.le_refl _) _
  have HA := Lib.hid (fun w1 (h : Below w.heap.size w w1) => absSec_any n e loc off w1 hn he (hc.below h))
  have HL := Lib.hid (lo_bd he hc)
  have HD := Lib.hid (dn_of he hc)
  clear hn he hc
  go_enter Tryz.func212, Tryz.ntmps212
  go_wp2_with (first
    | (go_at_call 201; refine (HA.out _ hbw).mono ?_; rintro x w1 ⟨rfl, hb⟩)
    | (go_at_call 202; refine (days_any (lo off (sec e)) _ HL.out.1 HL.out.2).mono ?_; rintro x w' ⟨rfl, rfl⟩)
    | (go_at_call 219; refine (date_cal (day off (sec e)) _ HD.out).mono ?_; rintro x w' ⟨rfl, rfl⟩))
  go_ret3
  exact ⟨rfl, hbw.trans (hb.mono hbw.size)⟩
theorem clock_any' (hn : Nn n) (he : Es e) (hc : Clock w loc off) :
    Calls Tryz.prog 213 #[.agg #[.int .u64 n, .int .i64 e, .pointer loc]] w fun x w' => x = .returned (.tuple #[.int .i64 (tod off (sec e) / 3600), .int .i64 (tod off (sec e) % 3600 / 60), .int .i64 (tod off (sec e) % 60)]) ∧ Below w.heap.size w w' := by
  have hbw : Below w.heap.size w (w.alloc (.cells #[.int .u64 n, .int .i64 e, .pointer loc] 86)) := (Below.refl _ _).alloc (Nat.le_refl _) _
  have HA := Lib.hid (fun w1 (h : Below w.heap.size w w1) => absSec_any n e loc off w1 hn he (hc.below h))
  have HL := Lib.hid (lo_bd he hc)
  have HD := Lib.hid (dn_of he hc)
  clear hn he hc
  go_enter Tryz.func213, Tryz.ntmps213
  go_wp2_with (first
    | (go_at_call 201; refine (HA.out _ hbw).mono ?_; rintro x w1 ⟨rfl, hb⟩)
    | (go_at_call 220; refine (clock_any (lo off (sec e)) _ HL.out.1 HL.out.2).mono ?_; rintro x w' ⟨rfl, rfl⟩))
  go_ret3
  exact ⟨ret_3 (by unfold tod; omega) (by unfold tod; omega) (by unfold tod; omega), hbw.trans (hb.mono hbw.size)⟩
theorem nano_any (hn : Nn n) : Calls Tryz.prog 106 #[.agg #[.int .u64 n, .int .i64 e, .pointer loc]] w fun x w' => x = .returned (.int .i64 n) ∧ Below w.heap.size w w' := by
  have hbw : Below w.heap.size w (w.alloc (.cells #[.int .u64 n, .int .i64 e, .pointer loc] 86)) := (Below.refl _ _).alloc (Nat.le_refl _) _
  have h1 := hn.1
  have h2 := hn.2
  go_enter Tryz.func106, Tryz.ntmps106
  go_wp2_with (go_at_call 137; refine (nsec_at (box_new _ _ _ _ _).2.1 hn).mono ?_; rintro x w1 ⟨rfl, rfl⟩)
  go_ret
  exact ⟨rfl, hbw⟩
theorem unix_any (hn : Nn n) (he : Es e) : Calls Tryz.prog 105 #[.agg #[.int .u64 n, .int .i64 e, .pointer loc]] w fun x w' => x = .returned (.int .i64 (sec e)) ∧ Below w.heap.size w w' := by
  have hbw : Below w.heap.size w (w.alloc (.cells #[.int .u64 n, .int .i64 e, .pointer loc] 86)) := (Below.refl _ _).alloc (Nat.le_refl _) _
  have hE := Lib.hid he
  go_enter Tryz.func105, Tryz.ntmps105
  go_wp2_with (go_at_call 136; refine (unixSec_at (box_new _ _ _ _ _).2.1 (box_new _ _ _ _ _).2.2.1 hn (by have := hE.out.1; omega) (by have := hE.out.2; omega)).mono ?_; rintro x w1 ⟨rfl, rfl⟩)
  go_ret
  exact ⟨rfl, hbw⟩
theorem location_utc : Calls Tryz.prog 190 #[.agg #[.int .u64 n, .int .i64 e, .pointer none]] w fun x w' => ∃ b, (x = .returned (.pointer (some ⟨b, 0, none⟩)) ∧ UtcAt w' b) ∧ Below w.heap.size w w' := by
  have hbw : Below w.heap.size w (w.alloc (.cells #[.int .u64 n, .int .i64 e, .pointer none] 86)) := (Below.refl _ _).alloc (Nat.le_refl _) _
  go_enter Tryz.func190, Tryz.ntmps190
  go_wp2_with (go_at_call 75; refine (utc_any _).mono ?_; rintro x w' ⟨b, ⟨rfl, hu⟩, hb⟩)
  go_ret
  exact ⟨b, ⟨rfl, hu⟩, hbw.trans (hb.mono hbw.size)⟩
theorem location_zone {b : Nat} : Calls Tryz.prog 190 #[.agg #[.int .u64 n, .int .i64 e, .pointer (some ⟨b, 0, none⟩)]] w fun x w' => x = .returned (.pointer (some ⟨b, 0, none⟩)) ∧ Below w.heap.size w w' := by
  have hbw : Below w.heap.size w (w.alloc (.cells #[.int .u64 n, .int .i64 e, .pointer (some ⟨b, 0, none⟩)] 86)) := (Below.refl _ _).alloc (Nat.le_refl _) _
  go_enter Tryz.func190, Tryz.ntmps190
  go_wp2
  go_ret
  exact ⟨rfl, hbw⟩
def PlaceOf (off : Int → Int) (w : World) (x : Ending) (w' : World) : Prop := ∃ b, (x = .returned (.pointer (some ⟨b, 0, none⟩)) ∧ ZoneAt w' b off) ∧ Below w.heap.size w w'
end
end Go.Proofs.YtmnjmhlodbifjaaGreatDoor.Time
