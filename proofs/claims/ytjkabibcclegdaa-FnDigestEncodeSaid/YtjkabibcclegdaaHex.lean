/- Hexadecimal digits of bytes: what Encode and DigestHex write. Conditions: none. -/
import Derived.Test.YtjkabibcclegdaaChecked
import Derived.Test.YtjkabibcclegdaaMem
import Derived.ProofKit
import Derived.OpenShut
import Derived.Lib.Hide
import Derived.Lib.ConvBytes
import Derived.Laws.MakeOwn
namespace Go.Proofs.Ytjkabibcclegdaa.Hex
open Go.RowKit Go.Proofs.Ytjkabibcclegdaa.Mem

def digits : ByteArray := ⟨#[48, 49, 50, 51, 52, 53, 54, 55, 56, 57, 97, 98, 99, 100, 101, 102]⟩
def digitN (n : Nat) : Nat := (digits.data.getD n 0).toNat
def digit (n : Int) : Int := (digitN n.toNat : Int)
theorem digits_at (n : Nat) (h : n < (⟨#[48, 49, 50, 51, 52, 53, 54, 55, 56, 57, 97, 98, 99, 100, 101, 102]⟩ : ByteArray).size) :
    ((⟨#[48, 49, 50, 51, 52, 53, 54, 55, 56, 57, 97, 98, 99, 100, 101, 102]⟩ : ByteArray)[n]'h).toNat = digitN n := by
  have h2 : n < 16 := h
  rcases n with _ | _ | _ | _ | _ | _ | _ | _ | _ | _ | _ | _ | _ | _ | _ | _ | n <;> first | rfl | omega
def hexOf (zs : List Int) : List Int := zs.flatMap fun b => [digit (b / 16), digit (b % 16)]

theorem hexOf_snoc (l : List Int) (b : Int) : hexOf (l ++ [b]) = hexOf l ++ [digit (b / 16), digit (b % 16)] := by simp [hexOf]
theorem hexOf_length (l : List Int) : (hexOf l).length = 2 * l.length := by
  induction l with
  | nil => rfl
  | cons a l ih => show (hexOf ([a] ++ l)).length = _; rw [show hexOf ([a] ++ l) = [digit (a / 16), digit (a % 16)] ++ hexOf l from by simp [hexOf], List.length_append, ih]; simp; omega

theorem take_snoc (zs : List Int) (k : Nat) (h : k < zs.length) : zs.take (k + 1) = zs.take k ++ [zs.getD k 0] := by
  rw [List.take_succ_eq_append_getElem h]; simp [List.getD, h]

theorem Try.info5 : (Try.prog.info? 5).map (fun i => (i.zero, i.size, i.bytes)) = some (some (.int .u8 0), 1, 1) := by kernel_rfl

theorem and15 (b : Int) (h0 : 0 ≤ b) (h1 : b ≤ 255) : Go.bits .and .u8 b 15 = b % 16 := by
  obtain ⟨n, rfl⟩ := Int.eq_ofNat_of_zero_le h0
  have : ∀ m : Fin 256, Go.bits .and .u8 ((m.val : Nat) : Int) 15 = ((m.val : Nat) : Int) % 16 := by decide +kernel
  exact this ⟨n, by omega⟩

theorem pair_cells (w : World) (e : TypeId) (a b : Value) : ∀ j u, [a, b][j]? = some u → (w.drew.alloc (.cells #[a, b] e)).cell? ((⟨w.heap.size, 0, none⟩ : Addr).add j) = some u := by
  intro j u h
  have hh : (w.drew.alloc (.cells #[a, b] e)).heap[w.heap.size]? = some (.cells #[a, b] e) := heap_alloc_new w.drew _
  match j, h with
  | 0, h => simp at h; subst h; unfold World.cell?; simp only [Addr.add_lit, hh]; rfl
  | 1, h => simp at h; subst h; unfold World.cell?; simp only [Addr.add_lit, hh]; rfl
  | n + 2, h => simp at h

/-- The loop's relation. -/
def Rel (E : Nat) (zs : List Int) (len : Nat) (w : World) (v i : Value) (wr : World) : Prop :=
  ∃ k : Nat, k ≤ len ∧ i = .int .i64 (k : Int) ∧ wr.ownsRow w.heap.size E 1 v (2 * k) ((hexOf (zs.take k)).map (Value.int .u8)) ∧ Below w.heap.size w wr

theorem rel_next (E : Nat) (zs : List Int) (len k : Nat) (w : World) (v' : Value) (b : Int) (w1 : World) (hk : k + 1 ≤ len) (hs : zs.take (k + 1) = zs.take k ++ [b])
    (h : w1.ownsRow w.heap.size E 1 v' (2 * k + 2) ((hexOf (zs.take k)).map (Value.int .u8) ++ [.int .u8 (digit (b / 16)), .int .u8 (digit (b % 16))])) (hb : Below w.heap.size w w1) :
    Rel E zs len w v' (.int .i64 ((k : Int) + 1)) w1 := by
  refine ⟨k + 1, hk, by go_num, ?_, hb⟩
  rw [hs, hexOf_snoc, List.map_append]
  exact h

set_option maxHeartbeats 1000000 in
theorem encode_row (nm : ByteArray) (x : Addr) (len cap : Nat) (zs : List Int) (w : World) (hl : len ≤ cap) (hz : zs.length = cap) (hcap : len ≤ 500)
    (hc : ∀ i, i < zs.length → w.cell? (x.add i) = some (.int .u8 (zs.getD i 0))) (hwf : ∀ n ∈ zs, (Lit.int .u8 n).wf = true) :
    Calls Try.prog 13 #[.string nm, .slice (some x) len cap] w fun e w' => e = .returned (.string (strOfNums (hexOf (zs.take len)))) ∧ Below w.heap.size w w' := by
  obtain ⟨i0, hi, hz0, hz1, hz2⟩ := info_parts Try.info5
  obtain ⟨hc, hwf⟩ := And.intro (Lib.hid hc) (Lib.hid hwf)
  go_enter Try.func13, Try.ntmps13
  go_wp2
  go_loopw [5, 10] (fun v i wr => Hid (Rel 5 zs len w v i wr) ∧ ∃ k : Nat, i = .int .i64 (k : Int)) (fun _ i _ => len - (intOf i).toNat)
  case atStart => exact ⟨Lib.hid ⟨0, Nat.zero_le _, rfl, by simpa [hexOf] using World.ownsRow_nil w _ _ _, Below.refl _ _⟩, 0, rfl⟩
  case round =>
    obtain ⟨⟨k, hk, rfl, hown, hbel⟩, -⟩ := hrel
    by_cases hlt : k < len
    · have hcell : wr.cell? (x.add k) = some (.int .u8 (zs.getD k 0)) := by
        rw [← hc.out k (by omega)]
        have := hc.out k (by omega)
        exact hbel.cell (World.block_lt_of_cell? w _ this)
      have hb := bounds_u8 (hwf.out (zs.getD k 0) (by simp [List.getD, show k < zs.length by omega]))
      have Hs := Lib.hid (take_snoc zs k (by omega))
      have Hlen : Hid ((hexOf (zs.take k)).length = 2 * k) := Lib.hid (by rw [hexOf_length, List.length_take]; omega)
      generalize zs.getD k 0 = b at hcell hb Hs
      have hb1 : 0 ≤ b := hb.1
      have hb2 : b ≤ 255 := hb.2
      have h15 := and15 b hb.1 hb.2
      have hd1 : b / 16 < 16 := by omega
      have hd2 : b % 16 < 16 := by omega
      have hd3 : 0 ≤ b / 16 := by omega
      have hd4 : 0 ≤ b % 16 := by omega
      clear hb
      have e1 := digits_at (b / 16).toNat
      have e2 := digits_at (b % 16).toNat
      go_wp2
      go_region_law (refine step_append_own rfl (.tmp 14) (.tmp 21) 22 rfl w.heap.size 5 i0 (.int .u8 0) 1 1 Try.underlying22 hi hz0 hz1 hz2 rfl (by decide) u5 (2 * k) ((hexOf (zs.take k)).map (Value.int .u8)) rfl (hown.drew.alloc _) ⟨wr.heap.size, 0, none⟩ 2 2 [.int .u8 (digit (b / 16)), .int .u8 (digit (b % 16))] rfl rfl (pair_cells _ _ _ _) (by simp [Value.oneCell']) (by unfold maxLen; omega) (by omega) (by have := hbel.size; simp; omega) ?_; intro v' w1 hown1 hgrow1)
      all_goals
        have hb9 : Below w.heap.size w w1 := ((hbel.alloc hbel.size _).drew).grown hgrow1 (by have := hbel.size; simp; omega) (fun j hj => (hown.lt j hj).1)
        have hr2 := rel_next 5 zs len k w v' b w1 (by omega) Hs.out hown1 hb9
        clear hown1 hb9 hgrow1 e1 e2
        go_wp2
        go_roundw
        case rel => exact ⟨Lib.hid hr2, k + 1, by go_num⟩
        case measure => simp [intOf]; omega
    · have hke : k = len := by omega
      subst hke
      have hcv := run_convert_own (P := Try.prog) wr 22 5 9 Try.underlying22 Try.underlying5 Try.underlying9 hown
      go_wp2
      go_ret
      exact ⟨rfl, hbel⟩

set_option maxHeartbeats 1000000 in
theorem encode_nil (nm : ByteArray) (w : World) :
    Calls Try.prog 13 #[.string nm, .slice none 0 0] w fun e w' => e = .returned (.string (strOfNums (hexOf []))) ∧ Below w.heap.size w w' := by
  have hcv := run_convert_bytes_nil (P := Try.prog) w 22 5 Try.underlying22 Try.underlying5 0 0 9 Try.underlying9
  go_enter Try.func13, Try.ntmps13
  go_wp2
  go_loop [5, 10] (fun v i => v = .slice none 0 0 ∧ i = .int .i64 0) (fun _ _ => 0)
  case atStart => exact ⟨rfl, rfl⟩
  case round =>
    obtain ⟨rfl, rfl⟩ := hrel
    go_wp2
    go_ret
    exact ⟨rfl, Below.refl _ _⟩

theorem encode_any (nm : ByteArray) (a : Option Addr) (len cap : Nat) (zs : List Int) (w : World) (h : IsRow .u8 w a len cap zs) (hcap : len ≤ 500) :
    Calls Try.prog 13 #[.string nm, .slice a len cap] w fun e w' => e = .returned (.string (strOfNums (hexOf (zs.take len)))) ∧ Below w.heap.size w w' := by
  rcases h with ⟨rfl, rfl, rfl, rfl⟩ | ⟨x, rfl, h1, h2, h3, h4, h5⟩
  · exact encode_nil nm w
  · exact encode_row nm x len cap zs w h1 h3 hcap h4 h5

theorem impl_any (nm : ByteArray) (a : Option Addr) (len cap : Nat) (zs : List Int) (w : World) (h : IsRow .u8 w a len cap zs) (hcap : len ≤ 500) :
    Calls Try.prog 6 #[.string nm, .slice a len cap] w fun e w' => e = .returned (.string (strOfNums (hexOf (zs.take len)))) ∧ Below w.heap.size w w' := by
  go_enter Try.func6, Try.ntmps6
  go_wp2_with (go_at_call 13; refine (encode_any nm a len cap zs _ h hcap).mono ?_; rintro e w' ⟨rfl, hb⟩)
  go_ret
  exact ⟨rfl, hb⟩

set_option maxHeartbeats 1000000 in
theorem digestHex_row (x : Addr) (len cap : Nat) (zs : List Int) (w : World) (hl : len ≤ cap) (hz : zs.length = cap) (hcap : len ≤ 500)
    (hc : ∀ i, i < zs.length → w.cell? (x.add i) = some (.int .u8 (zs.getD i 0))) (hwf : ∀ n ∈ zs, (Lit.int .u8 n).wf = true) :
    Calls Try.prog 8 #[.slice (some x) len cap] w fun e w' => e = .returned (.string (strOfNums (hexOf (zs.take len)))) ∧ Below w.heap.size w w' := by
  obtain ⟨i0, hi, hz0, hz1, hz2⟩ := info_parts Try.info5
  obtain ⟨hc, hwf⟩ := And.intro (Lib.hid hc) (Lib.hid hwf)
  go_enter Try.func8, Try.ntmps8
  go_wp2_with (at_make; refine wpList_make_own _ rfl _ _ 22 rfl w.heap.size 5 i0 (.int .u8 0) 1 Try.underlying22 hi hz0 hz1 .i64 .i64 _ (2 * len) rfl rfl (by omega) (by rw [hz2]; omega) (by unfold maxLen; omega) (Nat.le_refl _) ?_; intro w0 hown0 hgrow0)
  go_loopw [3, 12] (fun v i wr => Hid (Rel 5 zs len w v i wr) ∧ ∃ k : Nat, i = .int .i64 (k : Int)) (fun _ i _ => len - (intOf i).toNat)
  case atStart => exact ⟨Lib.hid ⟨0, Nat.zero_le _, rfl, by simpa [hexOf] using hown0, (Below.refl _ _).grown hgrow0 (Nat.le_refl _) (fun k hk => by cases hk)⟩, 0, rfl⟩
  case round =>
    obtain ⟨⟨k, hk, rfl, hown, hbel⟩, -⟩ := hrel
    by_cases hlt : k < len
    · have hcell : wr.cell? (x.add k) = some (.int .u8 (zs.getD k 0)) := by
        rw [← hc.out k (by omega)]
        have := hc.out k (by omega)
        exact hbel.cell (World.block_lt_of_cell? w _ this)
      have hb := bounds_u8 (hwf.out (zs.getD k 0) (by simp [List.getD, show k < zs.length by omega]))
      have Hs := Lib.hid (take_snoc zs k (by omega))
      have Hlen : Hid ((hexOf (zs.take k)).length = 2 * k) := Lib.hid (by rw [hexOf_length, List.length_take]; omega)
      generalize zs.getD k 0 = b at hcell hb Hs
      have hb1 : 0 ≤ b := hb.1
      have hb2 : b ≤ 255 := hb.2
      have h15 := and15 b hb.1 hb.2
      have hd1 : b / 16 < 16 := by omega
      have hd2 : b % 16 < 16 := by omega
      have hd3 : 0 ≤ b / 16 := by omega
      have hd4 : 0 ≤ b % 16 := by omega
      clear hb
      have e1 := digits_at (b / 16).toNat
      have e2 := digits_at (b % 16).toNat
      go_wp2
      go_region_law (refine step_append_own rfl (.tmp 16) (.tmp 23) 22 rfl w.heap.size 5 i0 (.int .u8 0) 1 1 Try.underlying22 hi hz0 hz1 hz2 rfl (by decide) u3 (2 * k) ((hexOf (zs.take k)).map (Value.int .u8)) rfl (hown.drew.alloc _) ⟨wr.heap.size, 0, none⟩ 2 2 [.int .u8 (digit (b / 16)), .int .u8 (digit (b % 16))] rfl rfl (pair_cells _ _ _ _) (by simp [Value.oneCell']) (by unfold maxLen; omega) (by omega) (by have := hbel.size; simp; omega) ?_; intro v' w1 hown1 hgrow1)
      all_goals
        have hb9 : Below w.heap.size w w1 := ((hbel.alloc hbel.size _).drew).grown hgrow1 (by have := hbel.size; simp; omega) (fun j hj => (hown.lt j hj).1)
        have hr2 := rel_next 5 zs len k w v' b w1 (by omega) Hs.out hown1 hb9
        clear hown1 hb9 hgrow1 e1 e2
        go_wp2
        go_roundw
        case rel => exact ⟨Lib.hid hr2, k + 1, by go_num⟩
        case measure => simp [intOf]; omega
    · have hke : k = len := by omega
      subst hke
      have hcv := run_convert_own (P := Try.prog) wr 22 5 9 Try.underlying22 Try.underlying5 Try.underlying9 hown
      go_wp2
      go_ret
      exact ⟨rfl, hbel⟩

set_option maxHeartbeats 1000000 in
theorem digestHex_nil (w : World) :
    Calls Try.prog 8 #[.slice none 0 0] w fun e w' => e = .returned (.string (strOfNums (hexOf []))) ∧ Below w.heap.size w w' := by
  obtain ⟨i0, hi, hz0, hz1, hz2⟩ := info_parts Try.info5
  go_enter Try.func8, Try.ntmps8
  go_wp2_with (at_make; refine wpList_make_own _ rfl _ _ 22 rfl w.heap.size 5 i0 (.int .u8 0) 1 Try.underlying22 hi hz0 hz1 .i64 .i64 _ 0 rfl rfl (by omega) (by rw [hz2]; omega) (by unfold maxLen; omega) (Nat.le_refl _) ?_; intro w0 hown0 hgrow0)
  have hbel : Below w.heap.size w w0 := (Below.refl _ _).grown hgrow0 (Nat.le_refl _) (fun k hk => by cases hk)
  go_loop [3, 12] (fun v i => v = .slice (some ⟨w.heap.size, 0, none⟩) 0 0 ∧ i = .int .i64 0) (fun _ _ => 0)
  case atStart => exact ⟨rfl, rfl⟩
  case round =>
    obtain ⟨rfl, rfl⟩ := hrel
    have hcv := run_convert_own (P := Try.prog) w0 22 5 9 Try.underlying22 Try.underlying5 Try.underlying9 (xs := []) hown0
    go_wp2
    go_ret
    exact ⟨rfl, hbel⟩

theorem digestHex_any (a : Option Addr) (len cap : Nat) (zs : List Int) (w : World) (h : IsRow .u8 w a len cap zs) (hcap : len ≤ 500) :
    Calls Try.prog 8 #[.slice a len cap] w fun e w' => e = .returned (.string (strOfNums (hexOf (zs.take len)))) ∧ Below w.heap.size w w' := by
  rcases h with ⟨rfl, rfl, rfl, rfl⟩ | ⟨x, rfl, h1, h2, h3, h4, h5⟩
  · exact digestHex_nil w
  · exact digestHex_row x len cap zs w h1 h3 hcap h4 h5

end Go.Proofs.Ytjkabibcclegdaa.Hex
