/- The reference's set of a field that bits mean. Conditions: none. -/
import Derived.Test.YtoekefbclkmchaaFields
import Derived.Test.YtoekefbclkmchaaDayM
namespace Go.Proofs.Ytoekefbclkmchaa.SetOf
open Go Go.RowKit Go.Proofs.Ytoekefbclkmchaa.Set Go.Proofs.Ytoekefbclkmchaa.Fields Go.Proofs.Ytoekefbclkmchaa.Moment Go.Proofs.Ytoekefbclkmchaa.DayM Go.Proofs.Ytoekefbclkmchaa.TimeNum
set_option linter.unusedVariables false

def loK (k : Nat) : Nat := if k = 3 ∨ k = 4 then 1 else 0
def hiK (k : Nat) : Nat := if k = 2 then 23 else if k = 3 then 31 else if k = 4 then 12 else if k = 5 then 6 else 59
theorem lo_hi (k : Nat) : loK k ≤ 1 ∧ 6 ≤ hiK k ∧ hiK k ≤ 59 := by
  unfold loK hiK
  constructor
  · split <;> omega
  · repeat' split
    all_goals omega
theorem low_any (k : Nat) (w : World) (hk : k ≤ 5) : Calls Try.prog 39 #[.int .i64 (k : Int)] w fun e w' => e = .returned (.int .i64 (loK k : Int)) ∧ w = w' := by
  have h : k = 0 ∨ k = 1 ∨ k = 2 ∨ k = 3 ∨ k = 4 ∨ k = 5 := by omega
  rcases h with rfl | rfl | rfl | rfl | rfl | rfl
  all_goals
    go_enter Try.func39, Try.ntmps39
    go_wp2
    go_ret
    exact ⟨rfl, rfl⟩
theorem high_any (k : Nat) (w : World) (hk : k ≤ 5) : Calls Try.prog 40 #[.int .i64 (k : Int)] w fun e w' => e = .returned (.int .i64 (hiK k : Int)) ∧ w = w' := by
  have h : k = 0 ∨ k = 1 ∨ k = 2 ∨ k = 3 ∨ k = 4 ∨ k = 5 := by omega
  rcases h with rfl | rfl | rfl | rfl | rfl | rfl
  all_goals
    go_enter Try.func40, Try.ntmps40
    go_wp2
    go_ret
    exact ⟨rfl, rfl⟩

/-- The values that bits mean in a field. -/
def inK (k : Nat) (S : Int) (v : Nat) : Bool := decide (loK k ≤ v) && decide (v ≤ hiK k) && has S (v : Int)
/-- The same up to a value. -/
def upK (k : Nat) (S : Int) (n v : Nat) : Bool := inK k S v && decide (v < n)
theorem upK_start (k : Nat) (S : Int) : (fun _ => false) = upK k S (loK k) := by
  funext v; unfold upK inK; simp; omega
theorem upK_end (k : Nat) (S : Int) : upK k S (hiK k + 1) = inK k S := by
  funext v; unfold upK
  by_cases h : v < hiK k + 1
  · simp [h]
  · unfold inK; simp; omega
theorem upK_next (k : Nat) (S : Int) (n : Nat) (h1 : loK k ≤ n) (h2 : n ≤ hiK k) : Set.upd (upK k S n) n (has S (n : Int)) = upK k S (n + 1) := by
  funext v
  unfold Set.upd upK inK
  by_cases h : v = n
  · subst h; simp [h1, h2]
  · have : decide (v < n) = decide (v < n + 1) := by rw [decide_eq_decide]; omega
    rw [if_neg h, this]

theorem shr_bit (S : Int) (v : Nat) (hS : U64 S) (hv : v ≤ 63) : (Go.bits .and .u64 (S / 2 ^ v) 1 == 1) = has S (v : Int) := by
  have h0 : 0 ≤ S / 2 ^ v := Int.ediv_nonneg hS.1 (Int.le_of_lt (Int.pow_pos (by decide)))
  have h1 : S / 2 ^ v ≤ S := Int.ediv_le_self _ hS.1
  have e1 : (1 : Int) = IntKind.u64.wrap (2 ^ 0) := by decide
  obtain ⟨n, rfl⟩ := Int.eq_ofNat_of_zero_le hS.1
  have hd : ((n : Int) / 2 ^ v) = ((n / 2 ^ v : Nat) : Int) := by simp
  have hb : has ((n : Int) / 2 ^ v) 0 = has (n : Int) (v : Int) := by
    unfold has
    rw [hd]
    simp only [Int.toNat_natCast]
    rw [Nat.testBit_div_two_pow]; simp
  have h := and_bit ((n : Int) / 2 ^ v) 0 h0 (by have := hS.2; omega) (by omega) (by omega)
  have hc : Go.bits .and .u64 ((n : Int) / 2 ^ v) 1 = Go.bits .and .u64 (IntKind.u64.wrap (2 ^ (0 : Int).toNat)) ((n : Int) / 2 ^ v) := by
    have e := Bits.eq_bset ((n : Int) / 2 ^ v) h0 (by have := hS.2; omega)
    rw [Bits.wrap_pow]
    have e2 : (1 : Int) = Bits.bset fun i => decide (i = 0) := by rw [← Bits.wrap_pow]; decide
    conv => lhs; rw [e2, e]
    conv => rhs; rw [e]
    rw [Bits.bits_and, Bits.bits_and]
    exact Bits.bset_congr fun i _ => by rw [Bool.and_comm]; rfl
  rw [hc, h, hb]
  cases has (n : Int) (v : Int) <;> simp

theorem below_setRow {B b : Nat} {w w' : World} (h : Below B w w') (hb : B ≤ b) (cs : Array Value) : Below B w (w'.setRow b cs) :=
  h.trans ⟨rfl, rfl, rfl, by simp [World.setRow], fun k hk => setRow_other w' b k cs (by omega)⟩

set_option maxHeartbeats 1000000 in
set_option maxRecDepth 100000 in
theorem setOf_any (k : Nat) (S : Int) (w : World) (hk : k ≤ 5) (hS : U64 S) :
    Calls Try.prog 14 #[.int .i64 (k : Int), .int .u64 S] w fun e w' => e = .returned (.agg (setArr (has S 63) (inK k S))) ∧ Below w.heap.size w w' := by
  have HL := Lib.hid (fun w => low_any k w hk)
  have HH := Lib.hid (fun w => high_any k w hk)
  have hlh := lo_hi k
  have h0 := hS.1
  have h1 := hS.2
  have HS := Lib.hid hS
  obtain ⟨V, s1, -, s3⟩ := star_of S hS
  have HV := Lib.hid s3
  have hw0 := SetAt.new w false (fun _ => false)
  have hw1 := SetAt.new (w.alloc (.cells (setArr false fun _ => false) 37)) false (fun _ => false)
  have hb0 : Below w.heap.size w ((w.alloc (.cells (setArr false fun _ => false) 37)).alloc (.cells (setArr false fun _ => false) 37)) := ((Below.refl _ _).alloc (Nat.le_refl _) _).alloc (by simp) _
  have HB := Lib.hid (show SetAt ((w.alloc (.cells (setArr false fun _ => false) 37)).alloc (.cells (setArr false fun _ => false) 37)) w.heap.size false (fun _ => false) ∧ SetAt ((w.alloc (.cells (setArr false fun _ => false) 37)).alloc (.cells (setArr false fun _ => false) 37)) (w.heap.size + 1) false (fun _ => false) from ⟨hw0.below (Below.alloc (Below.refl (w.heap.size + 1) _) (by simp) _) (by simp), by
    have := hw1
    rw [show (w.alloc (.cells (setArr false fun _ => false) 37)).heap.size = w.heap.size + 1 by simp] at this
    exact this⟩)
  have HB0 := Lib.hid hb0
  clear hw0 hw1 hb0 hS s3
  go_enter Try.func14, Try.ntmps14
  go_wp2_with (first
    | (with_reducible refine wpList_alloc_set rfl rfl ?_)
    | (go_at_call 39; refine (HL.out _).mono ?_; rintro e w' ⟨rfl, rfl⟩))
  go_loopw [6] (fun i wr => ∃ n : Nat, i = .int .i64 (n : Int) ∧ n ≤ hiK k + 1 ∧ loK k ≤ n ∧ Hid (SetAt wr w.heap.size false (fun _ => false) ∧ SetAt wr (w.heap.size + 1) false (upK k S n) ∧ Below w.heap.size w wr)) (fun i _ => (hiK k + 1) - (intOf i).toNat)
  case atStart => exact ⟨loK k, rfl, by omega, Nat.le_refl _, Lib.hid ⟨HB.out.1, by rw [← upK_start]; exact HB.out.2, HB0.out⟩⟩
  case round =>
    obtain ⟨n, rfl, hn1, hn2, HR⟩ := hrel
    by_cases hlt : n ≤ hiK k
    · have hv : n ≤ 62 := by omega
      have hc := HR.out.2.1.cell n hv
      have hf := HR.out.2.1.free (1 + n)
      have hsb := shr_bit S n HS.out (by omega)
      go_wp2_with (go_at_call 40; refine (HH.out _).mono ?_; rintro e w' ⟨rfl, rfl⟩)
      exact ⟨⟨n + 1, by go_num, by omega, by omega, Lib.hid ⟨HR.out.1.other _ _ (by simp), by
        have := HR.out.2.1.put n hv (has S (n : Int))
        rw [upK_next k S n hn2 hlt] at this
        exact this, HR.out.2.2.setCell (p := ⟨w.heap.size + 1, 1 + n, none⟩) (Nat.le_succ _) _⟩⟩, by simp [intOf]; omega⟩
    · obtain rfl : n = hiK k + 1 := by omega
      have hst := HR.out.2.1.star
      have hf := HR.out.2.1.free 0
      have hd : decide (((hiK k + 1 : Nat) : Int) ≤ (hiK k : Int)) = false := by simp; omega
      go_wp2_with (first
        | (go_at_call 40; refine (HH.out _).mono ?_; rintro e w' ⟨rfl, rfl⟩)
        | (with_reducible refine wpList_load_set rfl (.tmp 5) rfl (w.heap.size + 1) (V != 0) (upK k S (hiK k + 1)) rfl (HR.out.2.1.putStar _) ?_)
        | (with_reducible refine wpList_store_set rfl (.tmp 4) (.tmp 27) rfl w.heap.size false (V != 0) (fun _ => false) (upK k S (hiK k + 1)) rfl rfl (HR.out.1.other _ _ (by simp)) ?_))
      refine bodyPost_ret (results_set rfl _ _ w.heap.size (V != 0) (upK k S (hiK k + 1)) rfl (setRow_at (HR.out.1.other _ _ (by simp)))) rfl ⟨by rw [HV.out, upK_end], ?_⟩
      exact below_setRow (HR.out.2.2.setCell (p := ⟨w.heap.size + 1, 0, none⟩) (Nat.le_succ _) _) (Nat.le_refl _) _

end Go.Proofs.Ytoekefbclkmchaa.SetOf
