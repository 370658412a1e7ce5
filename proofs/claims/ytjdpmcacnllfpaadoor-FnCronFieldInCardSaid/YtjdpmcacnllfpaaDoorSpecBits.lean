/- The reference's CronBits and the law's cronBits. Conditions: none. -/
import Derived.Test.YtjdpmcacnllfpaaDoorUnion
import Derived.BigFrame
namespace Go.Proofs.YtjdpmcacnllfpaaDoor.SpecBits
open Go Go.RowKit Go.Proofs.YtjdpmcacnllfpaaDoor.Set Go.Proofs.YtjdpmcacnllfpaaDoor.Bits Go.Proofs.YtjdpmcacnllfpaaDoor.Range Go.Proofs.YtjdpmcacnllfpaaDoor.SpecItem Go.Proofs.YtjdpmcacnllfpaaDoor.Union
set_option linter.unusedVariables false

/-- The number of a set. -/
def numOf (star : Bool) (f : Nat → Bool) : Int := bset fun i => (decide (i < 63) && f i) || (star && decide (i = 63))
theorem numOf_marked (star : Bool) (f : Nat → Bool) (h : f 63 = false) : numOf star f = marked f star := by
  unfold numOf marked
  refine bset_congr fun i hi => ?_
  by_cases h2 : i = 63
  · subst h2; simp [h]
  · rw [decide_eq_true (by omega), Bool.true_and]

def low (f : Nat → Bool) (k : Nat) (i : Nat) : Bool := decide (i < k) && f i
theorem low_zero (f : Nat → Bool) : bset (low f 0) = 0 := by rw [zero_eq]; exact bset_congr fun i _ => by simp [low]
theorem low_next (f : Nat → Bool) (k : Nat) (h : f k = true) : Go.bits .or .u64 (bset (low f k)) (IntKind.u64.wrap (2 ^ k)) = bset (low f (k + 1)) := by
  rw [wrap_pow, bits_or]
  refine bset_congr fun i _ => ?_
  unfold low
  by_cases hi : i = k
  · subst hi; simp [h]
  · have : decide (i < k) = decide (i < k + 1) := by rw [decide_eq_decide]; omega
    rw [this]; simp [hi]
theorem low_skip (f : Nat → Bool) (k : Nat) (h : f k = false) : bset (low f k) = bset (low f (k + 1)) := by
  refine bset_congr fun i _ => ?_
  unfold low
  by_cases hi : i = k
  · subst hi; simp [h]
  · have : decide (i < k) = decide (i < k + 1) := by rw [decide_eq_decide]; omega
    rw [this]
theorem low_end (f : Nat → Bool) : bset (low f 63) = numOf false f := by unfold numOf low; exact bset_congr fun i _ => by simp
theorem low_star (f : Nat → Bool) : Go.bits .or .u64 (bset (low f 63)) 9223372036854775808 = numOf true f := by
  rw [show (9223372036854775808 : Int) = starBit true from rfl, or_starBit]
  unfold numOf marked low
  rfl

set_option maxHeartbeats 2000000 in
set_option maxRecDepth 100000 in
theorem specBits_any (star : Bool) (f : Nat → Bool) (w : World) :
    Calls Tryd.prog 30 #[.agg (setArr star f)] w fun e w' => e = .returned (.int .u64 (numOf star f)) ∧ Below w.heap.size w w' := by
  have hS := Lib.hid (SetAt.new w star f)
  have hB : Hid (Below w.heap.size w (w.alloc (.cells (setArr star f) 31))) := Lib.hid ((Below.refl _ _).alloc (Nat.le_refl _) _)
  have hcs := hS.out.star
  go_enter Tryd.func30, Tryd.ntmps30
  go_wp2_with (first
    | (with_reducible refine wpList_box_set rfl (.tmp 0) rfl star f rfl ?_)
    | (with_reducible refine wpList_load_in rfl (.tmp 6) rfl w.heap.size star f rfl (by exact hS.out) ?_))
  go_loop [3, 4, 5, 8] (fun acc _ _ v => ∃ k : Nat, v = .int .i64 (k : Int) ∧ k ≤ 63 ∧ acc = .int .u64 (bset (low f k))) (fun _ _ _ v => 63 - (intOf v).toNat)
  case atStart => exact ⟨0, rfl, Nat.zero_le _, by rw [low_zero]⟩
  case round =>
    obtain ⟨k, rfl, hk, rfl⟩ := hrel
    by_cases hlt : k < 63
    · cases hf : f k with
      | true =>
        have HN := Lib.hid (low_next f k hf)
        go_wp2_with (with_reducible refine wpList_index_in rfl (.tmp 7) (.tmp 8) rfl f k rfl rfl (by omega) ?_)
        go_round
        case rel => exact ⟨k + 1, by go_num, by omega, by rw [← HN.out]⟩
        case measure => simp [intOf]; omega
      | false =>
        have HN := Lib.hid (low_skip f k hf)
        go_wp2_with (with_reducible refine wpList_index_in rfl (.tmp 7) (.tmp 8) rfl f k rfl rfl (by omega) ?_)
        go_round
        case rel => exact ⟨k + 1, by go_num, by omega, by rw [← HN.out]⟩
        case measure => simp [intOf]; omega
    · have hke : k = 63 := by omega
      subst hke
      cases star with
      | true =>
        go_wp2
        go_ret
        exact ⟨by rw [← low_star]; rfl, hB.out⟩
      | false =>
        go_wp2
        go_ret
        exact ⟨by rw [← low_end]; rfl, hB.out⟩

/-- A set loaded whole, where the guard says yes. -/
theorem wpList_load_want {ops : Array Oper} {rest : List Oper} {o : Oper} {a : Act} {w : World} {Q : Exit → Act → World → Prop} (hw : Region.wanted o (yielded ops a.tmps) = true)
    (x : Operand) (ho : o.op = .load 31 x) (b : Nat) (star : Bool) (f : Nat → Bool)
    (hx : a.eval x = .pointer (some ⟨b, 0, none⟩)) (hb : SetAt w b star f)
    (h : wpList Tryd.prog ops Q rest (a.put o.dst (.agg (setArr star f))) w) : wpList Tryd.prog ops Q (o :: rest) a w :=
  BigFrame.wpList_want hw fun _ hK => wp_load_row 31 x ho b hx _ (setArr star f) (0, 0) _ hb Tryd.underlying31 rfl (by rw [setArr_size]; exact sizeInfo) (hK _ _ h)

/-- The law's comparison, where the reference is sure. -/
theorem cronBits_fine (star : Bool) (f : Nat → Bool) (w : World) :
    Calls Tryd.prog 12 #[.int .u64 (numOf star f), .bool true, .agg (setArr star f), .int .i64 1] w fun e w' => e = .returned (.bool true) ∧ Below w.heap.size w w' := by
  have hS := Lib.hid (SetAt.new w star f)
  have hB : Hid (Below w.heap.size w (w.alloc (.cells (setArr star f) 31))) := Lib.hid ((Below.refl _ _).alloc (Nat.le_refl _) _)
  have HC := Lib.hid (fun w => specBits_any star f w)
  generalize numOf star f = n at HC ⊢
  go_enter Tryd.func12, Tryd.ntmps12
  go_wp2_with (first
    | (with_reducible refine wpList_box_set rfl (.tmp 2) rfl star f rfl ?_)
    | (refine wpList_load_want (by rfl) (.tmp 6) rfl w.heap.size star f rfl (by exact hS.out) ?_)
    | (go_at_call 30; refine (HC.out _).mono ?_; rintro e w1 ⟨rfl, hb1⟩))
  go_ret
  exact ⟨rfl, hB.out.trans (hb1.mono (by simp))⟩

theorem cronBits_bad (star : Bool) (f : Nat → Bool) (w : World) :
    Calls Tryd.prog 12 #[.int .u64 0, .bool false, .agg (setArr star f), .int .i64 0] w fun e w' => e = .returned (.bool true) ∧ Below w.heap.size w w' := by
  go_enter Tryd.func12, Tryd.ntmps12
  go_wp2_with (with_reducible refine wpList_box_set rfl (.tmp 2) rfl star f rfl ?_)
  go_ret
  exact ⟨rfl, (Below.refl _ _).alloc (Nat.le_refl _) _⟩

theorem cronBits_open (x : Int) (ok : Bool) (star : Bool) (f : Nat → Bool) (v : Nat) (w : World) (hv : 2 ≤ v) :
    Calls Tryd.prog 12 #[.int .u64 x, .bool ok, .agg (setArr star f), .int .i64 (v : Int)] w fun e w' => e = .returned (.bool true) ∧ Below w.heap.size w w' := by
  have h1 : ((v : Int) == 1) = false := beq_eq_false_iff_ne.2 (by omega)
  have h0 : ((v : Int) == 0) = false := beq_eq_false_iff_ne.2 (by omega)
  go_enter Tryd.func12, Tryd.ntmps12
  go_wp2_with (with_reducible refine wpList_box_set rfl (.tmp 2) rfl star f rfl ?_)
  go_ret
  exact ⟨rfl, (Below.refl _ _).alloc (Nat.le_refl _) _⟩

end Go.Proofs.YtjdpmcacnllfpaaDoor.SpecBits
