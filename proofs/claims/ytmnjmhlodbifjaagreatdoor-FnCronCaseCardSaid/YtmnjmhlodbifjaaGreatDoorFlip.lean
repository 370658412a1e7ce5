/- The law's cronFlip: a text with some letters in the other case. Conditions: sizes at most 2^31 - 1. -/
import Derived.Test.YtmnjmhlodbifjaaGreatDoorPlainPure
import Derived.Test.YtmnjmhlodbifjaaGreatDoorAid
import Derived.Lib.ConvBytes
import Derived.Laws.IdiomStrings
namespace Go.Proofs.YtmnjmhlodbifjaaGreatDoor.Flip
open Go Go.RowKit Go.Proofs.YtmnjmhlodbifjaaGreatDoor.Mem Go.Proofs.YtmnjmhlodbifjaaGreatDoor.Aid Go.Proofs.YtmnjmhlodbifjaaGreatDoor.PlainPure
set_option linter.unusedVariables false

/-- What a walk is told of a slice of bools that came in. -/
def Bools (w : World) (a : Option Addr) (n : Nat) : Prop := ∀ i, i < n → ∃ x b, a = some x ∧ x.block < w.heap.size ∧ w.cell? (x.add i) = some (.bool b)
theorem free_new (w : World) (e : TypeId) (s : ByteArray) (j : Nat) (hj : j < s.size) : (Lib.bytesWorld w e s).frozen? ⟨w.heap.size, j, none⟩ = false := by
  unfold World.frozen?
  rw [Lib.bytesWorld_at_new]
  have : j < (Lib.bytesCells w e s).size := by
    unfold Lib.bytesCells
    simp
    omega
  simp
  omega
theorem below_bytes (w : World) (e : TypeId) (s : ByteArray) : Below w.heap.size w (Lib.bytesWorld w e s) := by
  refine ⟨?_, ?_, ?_, by rw [Lib.bytesWorld_size]; omega, fun k hk => Lib.bytesWorld_at_old w e s k hk⟩
  all_goals
    unfold Lib.bytesWorld World.freeze
    split <;> rfl
theorem low_other (b : UInt8) : ((97 ≤ b.toNat ∧ b.toNat ≤ 122) ∨ (65 ≤ b.toNat ∧ b.toNat ≤ 90)) → low (b ^^^ 32) = low b :=
  all8 (P := fun b => ((97 ≤ b.toNat ∧ b.toNat ≤ 122) ∨ (65 ≤ b.toNat ∧ b.toNat ≤ 90)) → low (b ^^^ 32) = low b) (by decide +kernel) b
theorem xor_num : ∀ n : Fin 256, Go.bits .xor .u8 (n.val : Int) 32 = ((UInt8.ofNat n.val ^^^ 32).toNat : Int) := by decide +kernel
theorem xor_byte (b : UInt8) : Go.bits .xor .u8 (b.toNat : Int) 32 = ((b ^^^ 32).toNat : Int) := by
  have := xor_num ⟨b.toNat, b.toNat_lt⟩
  rwa [show UInt8.ofNat b.toNat = b from UInt8.ofNat_toNat] at this

/-- The text while it is turned: bytes t, of which those from k on are the old ones. -/
def Turning (s : ByteArray) (w : World) (t : Nat → UInt8) (k : Nat) (wr : World) : Prop :=
  (∀ j, j < s.size → wr.cell? ⟨w.heap.size, j, none⟩ = some (.int .u8 ((t j).toNat : Int))) ∧ (∀ j, low (t j) = low (s.data.toList.getD j 0)) ∧ (∀ j, k ≤ j → t j = s.data.toList.getD j 0) ∧
  (∀ j, j < s.size → wr.frozen? ⟨w.heap.size, j, none⟩ = false) ∧ Below w.heap.size w wr
theorem turn_keep {s : ByteArray} {w wr : World} {t : Nat → UInt8} {k : Nat} (h : Turning s w t k wr) : Turning s w t (k + 1) wr := ⟨h.1, h.2.1, fun j hj => h.2.2.1 j (by omega), h.2.2.2⟩
theorem turn_flip {s : ByteArray} {w wr : World} {t : Nat → UInt8} {k : Nat} (h : Turning s w t k wr) (hk : k < s.size) (hl : (97 ≤ (t k).toNat ∧ (t k).toNat ≤ 122) ∨ (65 ≤ (t k).toNat ∧ (t k).toNat ≤ 90)) :
    Turning s w (fun j => if j = k then t k ^^^ 32 else t j) (k + 1) (wr.setCell ⟨w.heap.size, k, none⟩ (.int .u8 ((t k ^^^ 32).toNat : Int))) := by
  obtain ⟨h1, h2, h3, h4, h5⟩ := h
  refine ⟨fun j hj => ?_, fun j => ?_, fun j hj => ?_, fun j hj => ?_, h5.setCell (Nat.le_refl _) _⟩
  · by_cases hjk : j = k
    · subst hjk
      dsimp only
      rw [if_pos rfl]
      exact World.cell?_setCell_same _ _ _ (h1 j hj)
    · dsimp only
      rw [if_neg hjk]
      exact (World.cell?_setCell_other _ _ _ _ (by intro e; injection e with _ e2; exact hjk e2.symm)).trans (h1 j hj)
  · dsimp only
    by_cases hjk : j = k
    · subst hjk
      rw [if_pos rfl, low_other _ hl, h2]
    · rw [if_neg hjk, h2]
  · dsimp only
    rw [if_neg (by omega), h3 j (by omega)]
  · simp [h4 j hj]

set_option maxHeartbeats 2000000 in
set_option maxRecDepth 100000 in
theorem flip_any (s : ByteArray) (fa : Option Addr) (fn fc : Nat) (w : World) (hs : s.size ≤ 2147483647) (hn : fn ≤ 2147483647) (hb : Bools w fa fn) :
    Calls Tryz.prog 7 #[.string s, .slice fa fn fc] w fun e w' => (∃ l : List UInt8, e = .returned (.string ⟨l.toArray⟩) ∧ l.length = s.size ∧ l.map low = s.data.toList.map low) ∧ Below w.heap.size w w' := by
  have hcv := Lib.run_convert_string_bytes (P := Tryz.prog) w 9 68 5 s Tryz.underlying9 Tryz.underlying68 Tryz.underlying5
  obtain ⟨W, hW⟩ : ∃ W, Lib.bytesWorld w 5 s = W := ⟨_, rfl⟩
  obtain ⟨cap, hcap⟩ : ∃ cap, grownCap w s.size 0 5 = cap := ⟨_, rfl⟩
  rw [hW, hcap] at hcv
  have HT : Hid (Turning s w (fun j => s.data.toList.getD j 0) 0 W) := Lib.hid (by
    rw [← hW]
    exact ⟨fun j hj => Lib.bytesWorld_cell w _ s j hj, fun j => rfl, fun j _ => rfl, fun j hj => free_new w _ s j hj, below_bytes w _ s⟩)
  have HB := Lib.hid hb
  clear hW hcap hb
  go_enter Tryz.func7, Tryz.ntmps7
  go_wp2
  clear hcv
  go_loopw [12, 6, 7] (fun i _ _ wr => ∃ k : Nat, i = .int .i64 (k : Int) ∧ k ≤ s.size ∧ Hid (∃ t, Turning s w t k wr)) (fun i _ _ _ => s.size - (intOf i).toNat)
  case atStart => exact ⟨0, rfl, Nat.zero_le _, Lib.hid ⟨_, HT.out⟩⟩
  case round =>
    clear HT
    obtain ⟨k, rfl, hk, hT⟩ := hrel
    obtain ⟨t, hT⟩ := hT.out
    have HT := Lib.hid hT
    by_cases hlt : k < s.size
    · have hki : (k : Int) < (s.size : Int) := by omega
      have hck := hT.1 k hlt
      have hfk := hT.2.2.2.1 k hlt
      have HX := Lib.hid (xor_byte (t k))
      have h255 := (t k).toNat_lt
      clear hT
      have KEEP : Hid (∃ t, Turning s w t (k + 1) wr) := Lib.hid ⟨_, turn_keep HT.out⟩
      by_cases hf : k < fn
      · have hfi : (k : Int) < (fn : Int) := by omega
        obtain ⟨x, b, rfl, hxb, hcx⟩ := HB.out k hf
        have hcx2 : wr.cell? (x.add k) = some (.bool b) := (HT.out.2.2.2.2.cell (by rw [show (x.add k).block = x.block by unfold Addr.add; split <;> rfl]; exact hxb)).trans hcx
        clear hcx
        cases b with
        | false =>
          go_wp2
          go_roundw
          case rel => exact ⟨k + 1, by go_num, by omega, KEEP⟩
          case measure => simp [intOf]; omega
        | true =>
          have FLIP : (97 ≤ (t k).toNat ∧ (t k).toNat ≤ 122) ∨ (65 ≤ (t k).toNat ∧ (t k).toNat ≤ 90) → Hid (∃ t', Turning s w t' (k + 1) (wr.setCell ⟨w.heap.size, k, none⟩ (.int .u8 ((t k ^^^ 32).toNat : Int)))) := fun hl => Lib.hid ⟨_, turn_flip HT.out hlt hl⟩
          by_cases hl : (97 ≤ (t k).toNat ∧ (t k).toNat ≤ 122) ∨ (65 ≤ (t k).toNat ∧ (t k).toNat ≤ 90)
          · have FL := FLIP hl
            have hx := HX.out
            clear FLIP KEEP
            rcases hl with ⟨h1, h2⟩ | ⟨h1, h2⟩
            · have h1i : (97 : Int) ≤ ((t k).toNat : Int) := by omega
              have h2i : ((t k).toNat : Int) ≤ 122 := by omega
              go_wp2
              go_roundw
              case rel => exact ⟨k + 1, by go_num, by omega, FL⟩
              case measure => simp [intOf]; omega
            · have h0 : ¬ 97 ≤ (t k).toNat := by omega
              have h1i : (65 : Int) ≤ ((t k).toNat : Int) := by omega
              have h2i : ((t k).toNat : Int) ≤ 90 := by omega
              go_wp2
              go_roundw
              case rel => exact ⟨k + 1, by go_num, by omega, FL⟩
              case measure => simp [intOf]; omega
          · clear FLIP
            have h4 : (t k).toNat < 65 ∨ (90 < (t k).toNat ∧ (t k).toNat < 97) ∨ 122 < (t k).toNat := by omega
            clear hl
            rcases h4 with h4 | ⟨h4, h5⟩ | h4
            · have h6 : ¬ 97 ≤ (t k).toNat := by omega
              have h7 : ¬ 65 ≤ (t k).toNat := by omega
              go_wp2
              go_roundw
              case rel => exact ⟨k + 1, by go_num, by omega, KEEP⟩
              case measure => simp [intOf]; omega
            · have h6 : ¬ 97 ≤ (t k).toNat := by omega
              have h7 : ¬ (t k).toNat ≤ 90 := by omega
              go_wp2
              go_roundw
              case rel => exact ⟨k + 1, by go_num, by omega, KEEP⟩
              case measure => simp [intOf]; omega
            · have h6 : ¬ (t k).toNat ≤ 122 := by omega
              have h7 : ¬ (t k).toNat ≤ 90 := by omega
              go_wp2
              go_roundw
              case rel => exact ⟨k + 1, by go_num, by omega, KEEP⟩
              case measure => simp [intOf]; omega
      · have hfd : decide (k < fn) = false := decide_eq_false hf
        go_wp2
        go_roundw
        case rel => exact ⟨k + 1, by go_num, by omega, KEEP⟩
        case measure => simp [intOf]; omega
    · have hback := run_convert_bytes_back (P := Tryz.prog) wr 68 9 5 ⟨w.heap.size, 0, none⟩ cap ((List.range s.size).map t) Tryz.underlying68 Tryz.underlying5 Tryz.underlying9 (fun j hj => by
        have hj' : j < s.size := by simpa using hj
        have e : ((⟨w.heap.size, 0, none⟩ : Addr).add j) = ⟨w.heap.size, j, none⟩ := by unfold Addr.add; split <;> simp_all
        rw [e, HT.out.1 j hj']
        simp)
      have hlen : ((List.range s.size).map t).length = s.size := by simp
      rw [hlen] at hback
      clear hT
      obtain ⟨l, hl⟩ : ∃ l, (List.range s.size).map t = l := ⟨_, rfl⟩
      have HL := Lib.hid hl
      rw [hl] at hback
      clear hl hlen
      go_wp2
      go_ret
      refine ⟨⟨l, rfl, by rw [← HL.out]; simp, ?_⟩, HT.out.2.2.2.2⟩
      rw [← HL.out]
      apply List.ext_getElem?
      intro j
      rw [List.getElem?_map, List.getElem?_map, List.getElem?_map]
      by_cases hj : j < s.size
      · rw [List.getElem?_range hj]
        simp only [Option.map_some]
        rw [HT.out.2.1 j, List.getElem?_eq_getElem (by simpa using hj), List.getD_eq_getElem?_getD, List.getElem?_eq_getElem (by simpa using hj)]
        rfl
      · rw [List.getElem?_eq_none (by simp; omega), List.getElem?_eq_none (by simp; omega)]
        rfl
end Go.Proofs.YtmnjmhlodbifjaaGreatDoor.Flip
