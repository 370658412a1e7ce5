/- The reference's CronField: a list of items. Conditions: bounds within 0 to 62, texts of at most 65536 bytes. -/
import Derived.Test.YtmnjmhlodbifjaaGreatDoorSpecBits
import Derived.Test.YtmnjmhlodbifjaaGreatDoorSpecEnds
import Derived.Test.YtmnjmhlodbifjaaGreatDoorItemPure
namespace Go.Proofs.YtmnjmhlodbifjaaGreatDoor.SpecField
open Go Go.RowKit Go.Proofs.YtmnjmhlodbifjaaGreatDoor.Mem Go.Proofs.YtmnjmhlodbifjaaGreatDoor.NumPure Go.Proofs.YtmnjmhlodbifjaaGreatDoor.Split Go.Proofs.YtmnjmhlodbifjaaGreatDoor.SplitPure Go.Proofs.YtmnjmhlodbifjaaGreatDoor.SpecPieces Go.Proofs.YtmnjmhlodbifjaaGreatDoor.SpecEnds Go.Proofs.YtmnjmhlodbifjaaGreatDoor.Set Go.Proofs.YtmnjmhlodbifjaaGreatDoor.Bits Go.Proofs.YtmnjmhlodbifjaaGreatDoor.SpecItem Go.Proofs.YtmnjmhlodbifjaaGreatDoor.Union
set_option linter.unusedVariables false

/-- The union and the worst verdict of a list. -/
def specList (lo hi : Nat) (days : Bool) (sval : List UInt8 → Nat × Nat) : List (List UInt8) → CSet → Nat → CSet × Nat
  | [], s, v => (s, v)
  | p :: r, s, v => if p = [] then specList lo hi days sval r s (worseN v 2)
    else specList lo hi days sval r (union s (specItem lo hi days sval p).1) (worseN v (specItem lo hi days sval p).2)

def specField (lo hi : Nat) (days : Bool) (sval : List UInt8 → Nat × Nat) (l : List UInt8) : CSet × Nat :=
  if (specList lo hi days sval (pieces 44 l) empty 1).2 ≠ 1 then (empty, (specList lo hi days sval (pieces 44 l) empty 1).2) else (specList lo hi days sval (pieces 44 l) empty 1)

theorem item_two {lo hi : Nat} {days : Bool} {sval : List UInt8 → Nat × Nat} {l : List UInt8} (hlo : lo ≤ 62) (hhi : hi ≤ 62) (hs : ∀ l, (sval l).2 ≤ 2 ∧ (sval l).1 ≤ huge) : (specItem lo hi days sval l).2 ≤ 2 := by
  have hi0 : ∀ e t, t.2.1 ≤ 2 → (itemOf lo hi e t).2 ≤ 2 := by
    intro e t h
    unfold itemOf
    split
    · exact h
    · split <;> simp
  unfold specItem
  split
  · simp
  · split
    · simp
    · rename_i a r _ _
      have h := specEnds_le (days := days) (ps := SplitPure.pieces 45 a) hlo hhi hs
      exact hi0 _ _ (withStep_le (e := specEnds lo hi days sval (SplitPure.pieces 45 a)) (r := r) hhi h.2.1 h.2.2).2.1
theorem worse_two {a b : Nat} (h1 : a ≤ 2) (h2 : b ≤ 2) : worseN a b ≤ 2 := by unfold worseN; split <;> omega

/-- Behind the call of cronPieces: the box of the bounds, the two sets, and old memory as it was. -/
theorem field_start (lo hi : Nat) (kind : Int) (w w1 : World)
    (hb : Below (((w.alloc (.cells #[.int .i64 (lo : Int), .int .i64 (hi : Int), .int .i64 kind] 186)).alloc (.cells (setArr false fun _ => false) 55)).alloc (.cells (setArr false fun _ => false) 55)).heap.size
      (((w.alloc (.cells #[.int .i64 (lo : Int), .int .i64 (hi : Int), .int .i64 kind] 186)).alloc (.cells (setArr false fun _ => false) 55)).alloc (.cells (setArr false fun _ => false) 55)) w1) :
    Box3 w1 w.heap.size (.int .i64 (lo : Int)) (.int .i64 (hi : Int)) (.int .i64 kind) ∧ SetAt w1 (w.heap.size + 1) false (fun _ => false) ∧ SetAt w1 (w.heap.size + 1 + 1) false (fun _ => false) ∧ Below w.heap.size w w1 := by
  have h1 := box3_new w 186 (.int .i64 (lo : Int)) (.int .i64 (hi : Int)) (.int .i64 kind)
  have hsz : (w.alloc (.cells #[.int .i64 (lo : Int), .int .i64 (hi : Int), .int .i64 kind] 186)).heap.size = w.heap.size + 1 := by simp
  have hbw : Below w.heap.size w (w.alloc (.cells #[.int .i64 (lo : Int), .int .i64 (hi : Int), .int .i64 kind] 186)) := (Below.refl _ _).alloc (Nat.le_refl _) _
  generalize w.alloc (.cells #[.int .i64 (lo : Int), .int .i64 (hi : Int), .int .i64 kind] 186) = wa at h1 hb hsz hbw
  have h2 := SetAt.new wa false fun _ => false
  have hb2 : Below wa.heap.size wa (wa.alloc (.cells (setArr false fun _ => false) 55)) := (Below.refl _ _).alloc (Nat.le_refl _) _
  have hsz2 : (wa.alloc (.cells (setArr false fun _ => false) 55)).heap.size = wa.heap.size + 1 := by simp
  generalize wa.alloc (.cells (setArr false fun _ => false) 55) = wb at h2 hb hb2 hsz2
  have h3 := SetAt.new wb false fun _ => false
  have hb3 : Below wb.heap.size wb (wb.alloc (.cells (setArr false fun _ => false) 55)) := (Below.refl _ _).alloc (Nat.le_refl _) _
  have hsz3 : (wb.alloc (.cells (setArr false fun _ => false) 55)).heap.size = wb.heap.size + 1 := by simp
  generalize wb.alloc (.cells (setArr false fun _ => false) 55) = wc at h3 hb hb3 hsz3
  refine ⟨((h1.below hb2).below hb3).below hb, ?_, ?_, hbw.trans ((hb2.mono (by omega)).trans ((hb3.mono (by omega)).trans (hb.mono (by omega))))⟩
  · rw [← hsz]; exact (h2.below hb3 (by omega)).below hb (by omega)
  · rw [← hsz, ← hsz2]; exact h3.below hb (by omega)

/-- The loop's relation. -/
def Rel (lo hi : Nat) (kind : Int) (days : Bool) (sval : List UInt8 → Nat × Nat) (ps : List (List UInt8)) (t : CSet × Nat) (w0 : World) (g : Nat) (v i : Value) (wr : World) : Prop :=
  ∃ (k n : Nat) (c : CSet), i = .int .i64 (k : Int) ∧ v = .int .i64 (n : Int) ∧ n ≤ 2 ∧ k ≤ ps.length ∧ specList lo hi days sval (ps.drop k) c n = t ∧
    Box3 wr w0.heap.size (.int .i64 (lo : Int)) (.int .i64 (hi : Int)) (.int .i64 kind) ∧ SetAt wr (w0.heap.size + 1) false (fun _ => false) ∧ SetAt wr (w0.heap.size + 1 + 1) c.1 c.2 ∧ Strs wr g ps ∧ Below w0.heap.size w0 wr

theorem rel_next {lo hi : Nat} {kind : Int} {days : Bool} {sval : List UInt8 → Nat × Nat} {ps : List (List UInt8)} {t : CSet × Nat} {w0 wr w3 : World} {g k n m : Nat} {sa sb : Bool} {fa fb : Nat → Bool}
    (hk : k + 1 ≤ ps.length) (hn : worseN n m ≤ 2) (ht : specList lo hi days sval (ps.drop (k + 1)) (union (sa, fa) (sb, fb)) (worseN n m) = t)
    (hbx : Box3 wr w0.heap.size (.int .i64 (lo : Int)) (.int .i64 (hi : Int)) (.int .i64 kind)) (h1 : SetAt wr (w0.heap.size + 1) false (fun _ => false)) (h2 : SetAt wr (w0.heap.size + 1 + 1) sa fa) (hS : Strs wr g ps) (hb : Below w0.heap.size w0 wr) (hg : w0.heap.size + 1 + 1 < g)
    (hb2 : Below wr.heap.size wr w3) :
    Rel lo hi kind days sval ps t w0 g (.int .i64 (worseN n m : Int)) (.int .i64 ((k : Int) + 1)) (w3.setRow (w0.heap.size + 1 + 1) (setArr (sa || sb) fun i => fa i || fb i)) := by
  have e1 := hbx.below hb2
  have e2 := h1.below hb2 h1.lt
  have e3 := h2.below hb2 h2.lt
  have e4 := hS.below hb2
  have e5 := hb.trans (hb2.mono hb.size)
  have hbb := below_setRow e5 (show w0.heap.size ≤ w0.heap.size + 1 + 1 by omega) (setArr (sa || sb) fun i => fa i || fb i)
  have hkeep : ∀ b j, b ≠ w0.heap.size + 1 + 1 → (w3.setRow (w0.heap.size + 1 + 1) (setArr (sa || sb) fun i => fa i || fb i)).cell? ⟨b, j, none⟩ = w3.cell? ⟨b, j, none⟩ := by
    intro b j hne
    unfold World.cell?
    rw [show (w3.setRow (w0.heap.size + 1 + 1) (setArr (sa || sb) fun i => fa i || fb i)).heap[b]? = w3.heap[b]? from setRow_other w3 _ b _ hne]
  have hsz : (w3.setRow (w0.heap.size + 1 + 1) (setArr (sa || sb) fun i => fa i || fb i)).heap.size = w3.heap.size := by simp [World.setRow]
  refine ⟨k + 1, worseN n m, union (sa, fa) (sb, fb), by go_num, rfl, hn, hk, ht, ?_, setRow_else e2 (by omega), setRow_at e3, ?_, hbb⟩
  · exact ⟨by rw [hsz]; exact e1.1, by rw [hkeep _ _ (by omega)]; exact e1.2.1, by rw [hkeep _ _ (by omega)]; exact e1.2.2.1, by rw [hkeep _ _ (by omega)]; exact e1.2.2.2⟩
  · exact ⟨by rw [hsz]; exact e4.1, fun i p hp => by rw [hkeep _ _ (by omega)]; exact e4.2 i p hp⟩

theorem after_item {wr w2 : World} {b : Nat} {sa sb : Bool} {fa fb : Nat → Bool} (h2 : SetAt wr b sa fa) (hb2 : Below wr.heap.size wr w2) :
    SetAt ((w2.alloc (.cells (setArr false fun _ => false) 55)).setRow w2.heap.size (setArr sb fb)) b sa fa ∧
    SetAt ((w2.alloc (.cells (setArr false fun _ => false) 55)).setRow w2.heap.size (setArr sb fb)) w2.heap.size sb fb ∧
    Below wr.heap.size wr ((w2.alloc (.cells (setArr false fun _ => false) 55)).setRow w2.heap.size (setArr sb fb)) := by
  have e1 := h2.below hb2 h2.lt
  have hs := hb2.size
  have hlt := h2.lt
  exact ⟨setRow_else ((Below.heap_alloc w2 _ _ e1.lt).trans e1) (by omega), setRow_at (SetAt.new w2 _ _), below_setRow (hb2.alloc hb2.size _) hb2.size _⟩

set_option maxHeartbeats 2000000 in
set_option maxRecDepth 100000 in
theorem field_any (s : ByteArray) (lo hi : Nat) (kind : Int) (days : Bool) (sval : List UInt8 → Nat × Nat) (w : World) (hlo : lo ≤ 62) (hhi : hi ≤ 62) (hs : s.size ≤ 65536)
    (hd : days = (kind == 3 || kind == 5)) (hval : ValueAt kind sval) :
    Calls Tryz.prog 116 #[.agg #[.int .i64 (lo : Int), .int .i64 (hi : Int), .int .i64 kind], .string s] w fun e w' => ItemRes (specField lo hi days sval s.data.toList) e ∧ Below w.heap.size w w' := by
  have HP := Lib.hid (fun w => pieces_any s 44 w hs)
  have HL := Lib.hid (pieces_sum 44 s.data.toList)
  have hcount := pieces_count 44 s.data.toList
  rw [length_toList] at hcount HL
  unfold specField
  obtain ⟨ps, Hps⟩ : ∃ ps, Hid (pieces 44 s.data.toList = ps) := ⟨_, Lib.hid rfl⟩
  rw [Hps.out] at HP HL hcount ⊢
  have HI := Lib.hid (fun (p : List UInt8) (h : p.length ≤ 65536) (w : World) => item_any (ofL p) lo hi kind days sval w hlo hhi (by rw [size_ofL]; exact h) hd hval)
  have H2 := Lib.hid (fun l => item_two (lo := lo) (hi := hi) (days := days) (l := l) hlo hhi hval.1)
  clear hd hval
  obtain ⟨t, Ht⟩ : ∃ t, Hid (specList lo hi days sval ps empty 1 = t) := ⟨_, Lib.hid rfl⟩
  rw [Ht.out]
  obtain ⟨R, HR⟩ : ∃ R, Hid ((if t.2 ≠ 1 then (empty, t.2) else t) = R) := ⟨_, Lib.hid rfl⟩
  rw [HR.out]
  go_enter Tryz.func116, Tryz.ntmps116
  go_wp2_with (first
    | (with_reducible refine wpList_alloc_set rfl rfl ?_)
    | (go_at_call 140; refine (HP.out _).mono ?_; rintro e w1 ⟨g, cap, rfl, hcap, hg, hS, hb1⟩; (have HX := Lib.hid (And.intro (field_start lo hi kind w w1 hb1) hS))))
  have hg2 : w.heap.size + 1 + 1 < g := by simp at hg; omega
  clear hb1 hg hS
  go_loopw [7, 9, 10, 11, 15] (fun v _ _ _ i wr => Hid (Rel lo hi kind days sval ps t w g v i wr) ∧ (∃ k : Nat, i = .int .i64 (k : Int) ∧ k ≤ ps.length) ∧ ∃ n : Nat, v = .int .i64 (n : Int)) (fun _ _ _ _ i _ => ps.length - (intOf i).toNat)
  case atStart => exact ⟨Lib.hid ⟨0, 1, empty, rfl, rfl, by omega, Nat.zero_le _, Ht.out, HX.out.1.1, HX.out.1.2.1, HX.out.1.2.2.1, HX.out.2, HX.out.1.2.2.2⟩, ⟨0, rfl, Nat.zero_le _⟩, 1, rfl⟩
  case round =>
    obtain ⟨⟨k, n, ⟨sa, fa⟩, rfl, rfl, hn, hk, HT, hbox, hs1, hs2, hS, hbel⟩, -⟩ := hrel
    have HT := Lib.hid HT
    clear HX
    by_cases hlt : k < ps.length
    · have hat : ps[k]? = some ps[k] := List.getElem?_eq_getElem hlt
      have hmem : ps[k] ∈ ps := List.getElem_mem hlt
      have hpl := HL.out _ hmem
      have hck := hS.2 k _ hat
      have hd : ps.drop k = ps[k] :: ps.drop (k + 1) := List.drop_eq_getElem_cons hlt
      rw [hd] at HT
      obtain ⟨p, hp⟩ : ∃ p, ps[k] = p := ⟨_, rfl⟩
      rw [hp] at HT hck hpl
      have hpl2 : p.length ≤ 65536 := by omega
      clear hd hat hmem hp hpl
      have HB := Lib.hid (And.intro hbox (And.intro hs1 (And.intro hs2 (And.intro hS hbel))))
      obtain ⟨hc0, hc1, hc2⟩ := hbox.2
      clear hbox hs1 hs2 hS hbel
      by_cases hpe : p = []
      · have HT2 : Hid (specList lo hi days sval (ps.drop (k + 1)) (sa, fa) (worseN n 2) = t) := Lib.hid (by rw [← HT.out, hpe]; simp only [specList, if_pos])
        subst hpe
        have hq : ((ofL ([] : List UInt8)).toList == []) = true := by rw [ByteArray.toList_eq, toList_ofL]; rfl
        clear HT
        go_wp2_with (go_at_call 46; refine (worse_any _ 2 _ hn (by omega)).mono ?_; rintro e w5 ⟨rfl, rfl⟩)
        go_roundw
        case rel => exact ⟨Lib.hid ⟨k + 1, worseN n 2, (sa, fa), by go_num, rfl, worse_two hn (by omega), by omega, HT2.out, HB.out.1, HB.out.2.1, HB.out.2.2.1, HB.out.2.2.2.1, HB.out.2.2.2.2⟩, ⟨k + 1, by go_num, by omega⟩, _, rfl⟩
        case measure => simp [intOf]; omega
      · have hq : ((ofL p).toList == []) = false := by rw [ByteArray.toList_eq, toList_ofL]; simpa using hpe
        have HIp := Lib.hid (HI.out p hpl2)
        have hm := H2.out p
        rw [toList_ofL] at HIp
        have HT2 : Hid (specList lo hi days sval (ps.drop (k + 1)) (union (sa, fa) (specItem lo hi days sval p).1) (worseN n (specItem lo hi days sval p).2) = t) := Lib.hid (by rw [← HT.out]; simp only [specList, if_neg hpe])
        obtain ⟨q, hq2⟩ : ∃ q, specItem lo hi days sval p = q := ⟨_, rfl⟩
        rw [hq2] at HIp HT2 hm
        obtain ⟨⟨sb, fb⟩, m⟩ := q
        simp only at hm
        clear hq2 hpe HT
        go_wp2_with (first
          | (go_at_call 141; refine (HIp.out _).mono ?_; rintro e w2 ⟨rfl, hb2⟩; (have HF2 := Lib.hid (after_item (sb := sb) (fb := fb) HB.out.2.2.1 hb2)))
          | (with_reducible refine wpList_alloc_set rfl rfl ?_)
          | (with_reducible refine wpList_store_set rfl (.tmp 10) (.tmp 27) rfl w2.heap.size false sb (fun _ => false) fb rfl rfl (SetAt.new w2 _ _) ?_)
          | (with_reducible refine wpList_load_set rfl (.tmp 6) rfl (w.heap.size + 1 + 1) sa fa rfl (by exact HF2.out.1) ?_)
          | (with_reducible refine wpList_load_set rfl (.tmp 10) rfl w2.heap.size sb fb rfl (by exact HF2.out.2.1) ?_)
          | (go_at_call 142; refine (union_any sa sb fa fb _).mono ?_; rintro e w3 ⟨rfl, hb3⟩; (have HF3 := Lib.hid (HF2.out.2.2.trans (hb3.mono HF2.out.2.2.size))))
          | (go_at_call 46; refine (worse_any _ _ _ hn hm).mono ?_; rintro e w5 ⟨rfl, rfl⟩)
          | (with_reducible refine wpList_store_set rfl (.tmp 6) (.tmp 31) rfl (w.heap.size + 1 + 1) sa (sa || sb) fa (fun i => fa i || fb i) rfl rfl (by exact HB.out.2.2.1.below HF3.out HB.out.2.2.1.lt) ?_))
        have HN := Lib.hid (rel_next (kind := kind) (show k + 1 ≤ ps.length from hlt) (worse_two hn hm) HT2.out HB.out.1 HB.out.2.1 HB.out.2.2.1 HB.out.2.2.2.1 HB.out.2.2.2.2 hg2 HF3.out)
        go_roundw
        case rel => exact ⟨HN, ⟨k + 1, by go_num, by omega⟩, _, rfl⟩
        case measure => simp [intOf]; omega
    · have HT2 : Hid (t = ((sa, fa), n)) := Lib.hid (by rw [← HT.out, List.drop_of_length_le (by omega)]; rfl)
      have hb2 := setRow_at (star' := sa) (f' := fa) hs1
      by_cases hn1 : n = 1
      · subst hn1
        go_wp2_with (first
          | (with_reducible refine wpList_load_set rfl (.tmp 6) rfl (w.heap.size + 1 + 1) sa fa rfl (by exact hs2) ?_)
          | (with_reducible refine wpList_store_set rfl (.tmp 4) (.tmp 40) rfl (w.heap.size + 1) false sa (fun _ => false) fa rfl rfl (by exact hs1) ?_))
        refine bodyPost_ret (results_set_tmp rfl _ _ (w.heap.size + 1) sa fa rfl (setRow_at hs1)) rfl ?_
        exact ⟨by rw [← HR.out, HT2.out, if_neg (by simp)]; rfl, below_setRow hbel (by omega) _⟩
      · have hnq : ((n : Int) != 1) = true := by rw [bne_iff_ne]; omega
        go_wp2_with (first
          | (with_reducible refine wpList_build_set rfl rfl ?_)
          | (with_reducible refine wpList_store_set rfl (.tmp 4) (.tmp 38) rfl (w.heap.size + 1) false false (fun _ => false) (fun _ => false) rfl rfl (by exact hs1) ?_))
        refine bodyPost_ret (results_set_tmp rfl _ _ (w.heap.size + 1) false (fun _ => false) rfl (setRow_at hs1)) rfl ?_
        exact ⟨by rw [← HR.out, HT2.out, if_pos hn1]; rfl, below_setRow hbel (by omega) _⟩

end Go.Proofs.YtmnjmhlodbifjaaGreatDoor.SpecField
