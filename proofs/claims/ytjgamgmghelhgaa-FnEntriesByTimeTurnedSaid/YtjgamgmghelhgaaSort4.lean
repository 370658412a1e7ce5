/- sort.order2, median, medianAdjacent, choosePivot over byTime. Conditions: indices within the row. -/
import Derived.Test.YtjgamgmghelhgaaSortK
import Derived.Deep.DeepCutAuto
namespace Go.Proofs.Ytjgamgmghelhgaa.Sort4
open Go Go.RowKit Go.Sort Go.Proofs.Ytjgamgmghelhgaa.SortS Go.Proofs.Ytjgamgmghelhgaa.SortK
set_option linter.unusedVariables false

section
variable {α : Type} [Inhabited α] {enc : α → Value} {lt : α → α → Bool} {blk n : Nat} {rv : Value} {w0 : World}
/-- A counter in a box of its own beside the row. -/
structure Bx (enc : α → Value) (blk n : Nat) (w0 : World) (p : Nat) (X : World) (d : Array α) (s : Nat) : Prop where
  k : K enc blk n w0 X X d
  cell : X.cell? ⟨p, 0, none⟩ = some (.int .i64 (s : Int))
  free : X.frozen? ⟨p, 0, none⟩ = false
  old : w0.heap.size ≤ p
  new : p < X.heap.size
variable {p : Nat} {X w' w1 : World} {d : Array α} {s s' : Nat}
theorem Bx.step (hb : blk < w0.heap.size) (h : Bx enc blk n w0 p X d s) (st : St p X w') (hc : w'.cell? ⟨p, 0, none⟩ = some (.int .i64 (s' : Int))) (hf : w'.frozen? ⟨p, 0, none⟩ = false) : Bx enc blk n w0 p w' d s' := by
  have hne : blk ≠ p := by have := h.old; omega
  have hlt : blk < X.heap.size := h.k.inn hb
  refine ⟨⟨⟨st.os.trans h.k.beg.os, st.tape.trans h.k.beg.tape, st.output.trans h.k.beg.output, Nat.le_trans h.k.beg.size st.size, fun k hk hkb => (st.block k (Nat.lt_of_lt_of_le hk h.k.beg.size) (by have := h.old; omega)).trans (h.k.beg.block k hk hkb)⟩, St.refl _ _, fun j hj => ?_, h.k.len⟩, hc, hf, h.old, Nat.lt_of_lt_of_le h.new st.size⟩
  obtain ⟨h1, h2⟩ := h.k.row j hj
  exact ⟨(st.cell (p := ⟨blk, 0 + j, none⟩) hlt hne).trans h1, (st.frozen (p := ⟨blk, 0 + j, none⟩) hlt hne).trans h2⟩

set_option maxHeartbeats 1000000 in
set_option maxRecDepth 100000 in
theorem order2_any (cx : Cx enc lt blk rv n w0) (hX : Bx enc blk n w0 p X d s) (a b : Nat) (ha : a < n) (hb : b < n) (hs : s ≤ 1000) :
    Calls Try.prog 35 #[.iface 56 rv, .int .i64 (a : Int), .int .i64 (b : Int), .pointer (some ⟨p, 0, none⟩)] X fun e w' => e = .returned (.tuple #[.int .i64 ((order2 lt d a b s).1 : Int), .int .i64 ((order2 lt d a b s).2.1 : Int)]) ∧ St p X w' ∧ Bx enc blk n w0 p w' d (order2 lt d a b s).2.2 := by
  have hbig := cx.big
  have HL0 := Lib.hid (hX.k.less cx b a hb ha)
  have HX := Lib.hid hX
  have hblk := cx.blk
  have hmL := meth_less
  clear hX cx
  unfold order2
  cases hlv : lt d[b]! d[a]! with
  | true =>
    rw [hlv] at HL0
    rw [if_pos rfl]
    clear hlv
    go_enter Try.func35, Try.ntmps35
    go_wp2_with (go_at_call 56; refine HL0.out.mono ?_; rintro e w1 ⟨rfl, k1, hb1⟩; have hc1 := (hb1.cell (p := ⟨p, 0, none⟩) HX.out.new).trans HX.out.cell; have hf1 := (hb1.frozen (p := ⟨p, 0, none⟩) HX.out.new).trans HX.out.free; have HB1 := Lib.hid hb1; clear hb1 k1)
    go_ret2
    have st : St p X (w1.setCell ⟨p, 0, none⟩ (.int .i64 ((s : Int) + 1))) := (St.of_below HB1.out).setCell (p := ⟨p, 0, none⟩) (.inl rfl) _
    exact ⟨rfl, st, HX.out.step hblk st (by rw [show ((s + 1 : Nat) : Int) = (s : Int) + 1 by omega]; exact World.cell?_setCell_same _ _ _ hc1) (by simpa using hf1)⟩
  | false =>
    rw [hlv] at HL0
    rw [if_neg (by simp)]
    clear hlv
    go_enter Try.func35, Try.ntmps35
    go_wp2_with (go_at_call 56; refine HL0.out.mono ?_; rintro e w1 ⟨rfl, k1, hb1⟩; have HB1 := Lib.hid hb1; clear hb1 k1)
    go_ret2
    have st : St p X w1 := St.of_below HB1.out
    exact ⟨rfl, st, HX.out.step hblk st ((HB1.out.cell (p := ⟨p, 0, none⟩) HX.out.new).trans HX.out.cell) ((HB1.out.frozen (p := ⟨p, 0, none⟩) HX.out.new).trans HX.out.free)⟩
theorem order2_in (lt : α → α → Bool) (d : Array α) (a b s : Nat) (ha : a < n) (hb : b < n) : (order2 lt d a b s).1 < n ∧ (order2 lt d a b s).2.1 < n ∧ (order2 lt d a b s).2.2 ≤ s + 1 := by
  unfold order2
  split
  · exact ⟨hb, ha, Nat.le_refl _⟩
  · exact ⟨ha, hb, Nat.le_succ _⟩

set_option maxHeartbeats 1000000 in
set_option maxRecDepth 100000 in
theorem median_any (cx : Cx enc lt blk rv n w0) (hX : Bx enc blk n w0 p X d s) (a b c : Nat) (ha : a < n) (hb : b < n) (hc : c < n) (hs : s ≤ 900) :
    Calls Try.prog 34 #[.iface 56 rv, .int .i64 (a : Int), .int .i64 (b : Int), .int .i64 (c : Int), .pointer (some ⟨p, 0, none⟩)] X fun e w' => e = .returned (.int .i64 ((median lt d a b c s).1 : Int)) ∧ St p X w' ∧ Bx enc blk n w0 p w' d (median lt d a b c s).2 ∧ (median lt d a b c s).1 < n ∧ (median lt d a b c s).2 ≤ s + 3 := by
  unfold median
  dsimp only
  have hbig := cx.big
  have HX := Lib.hid hX
  have h1 := order2_in (n := n) lt d a b s ha hb
  have H1 := Lib.hid (fun X (h : Bx enc blk n w0 p X d s) => order2_any cx h a b ha hb (by omega))
  obtain ⟨⟨a1, b1, s1⟩, hr1⟩ : ∃ r : Nat × Nat × Nat, order2 lt d a b s = r := ⟨_, rfl⟩
  rw [hr1] at h1 H1 ⊢
  dsimp only at h1 H1 ⊢
  have h2 := order2_in (n := n) lt d b1 c s1 h1.2.1 hc
  have H2 := Lib.hid (fun X (h : Bx enc blk n w0 p X d s1) => order2_any cx h b1 c h1.2.1 hc (by omega))
  obtain ⟨⟨b2, c2, s2⟩, hr2⟩ : ∃ r : Nat × Nat × Nat, order2 lt d b1 c s1 = r := ⟨_, rfl⟩
  rw [hr2] at h2 H2 ⊢
  dsimp only at h2 H2 ⊢
  have h3 := order2_in (n := n) lt d a1 b2 s2 h1.1 h2.1
  have H3 := Lib.hid (fun X (h : Bx enc blk n w0 p X d s2) => order2_any cx h a1 b2 h1.1 h2.1 (by omega))
  obtain ⟨⟨a3, b3, s3⟩, hr3⟩ : ∃ r : Nat × Nat × Nat, order2 lt d a1 b2 s2 = r := ⟨_, rfl⟩
  rw [hr3] at h3 H3 ⊢
  dsimp only at h3 H3 ⊢
  have HF : Hid (b3 < n ∧ s3 ≤ s + 3) := Lib.hid (by omega)
  clear hr1 hr2 hr3 h1 h2 h3 hX cx
  go_enter Try.func34, Try.ntmps34
  go_wp2_with (go_at_call 35; (first
    | (with_reducible refine (H1.out _ HX.out).mono ?_; rintro e w1 ⟨rfl, st1, bx1⟩; have HS1 := Lib.hid st1; have HB1 := Lib.hid bx1; clear st1 bx1)
    | (with_reducible refine (H2.out _ HB1.out).mono ?_; rintro e w2 ⟨rfl, st1, bx1⟩; have HS2 := Lib.hid (HS1.out.trans st1); have HB2 := Lib.hid bx1; clear st1 bx1)
    | (with_reducible refine (H3.out _ HB2.out).mono ?_; rintro e w3 ⟨rfl, st1, bx1⟩; have HS3 := Lib.hid (HS2.out.trans st1); have HB3 := Lib.hid bx1; clear st1 bx1)))
  go_ret
  exact ⟨rfl, HS3.out, HB3.out, HF.out⟩
set_option maxHeartbeats 1000000 in
theorem medAdj_any (cx : Cx enc lt blk rv n w0) (hX : Bx enc blk n w0 p X d s) (a : Nat) (ha0 : 1 ≤ a) (ha : a + 1 < n) (hs : s ≤ 900) :
    Calls Try.prog 33 #[.iface 56 rv, .int .i64 (a : Int), .pointer (some ⟨p, 0, none⟩)] X fun e w' => e = .returned (.int .i64 ((medianAdjacent lt d a s).1 : Int)) ∧ St p X w' ∧ Bx enc blk n w0 p w' d (medianAdjacent lt d a s).2 ∧ (medianAdjacent lt d a s).1 < n ∧ (medianAdjacent lt d a s).2 ≤ s + 3 := by
  have hbig := cx.big
  have H1 := median_any cx hX (a - 1) a (a + 1) (by omega) (by omega) ha hs
  rw [show ((a - 1 : Nat) : Int) = (a : Int) - 1 by omega, show ((a + 1 : Nat) : Int) = (a : Int) + 1 by omega] at H1
  have HM := Lib.hid H1
  clear H1 hX cx
  unfold medianAdjacent
  go_enter Try.func33, Try.ntmps33
  go_wp2_with (go_at_call 34; refine HM.out.mono ?_; rintro e w1 ⟨rfl, h⟩; have HR := Lib.hid h; clear h)
  go_ret
  exact ⟨rfl, HR.out⟩

def hintCode : Hint → Int
  | .unknown => 0
  | .increasing => 1
  | .decreasing => 2
set_option maxHeartbeats 4000000 in
set_option maxRecDepth 100000 in
theorem pivot_any (cx : Cx enc lt blk rv n w0) (k0 : K enc blk n w0 X X d) (a b : Nat) (hab : a < b) (hb : b ≤ n) :
    Calls Try.prog 24 #[.iface 56 rv, .int .i64 (a : Int), .int .i64 (b : Int)] X fun e w' => e = .returned (.tuple #[.int .i64 ((choosePivot lt d a b).1 : Int), .int .i64 (hintCode (choosePivot lt d a b).2)]) ∧ Below X.heap.size X w' ∧ (choosePivot lt d a b).1 < n := by
  have hbig := cx.big
  have hblk := cx.blk
  have hold : w0.heap.size ≤ X.heap.size := k0.beg.size
  obtain ⟨l, hl⟩ : ∃ l : Nat, b - a = l := ⟨_, rfl⟩
  have hli : (b : Int) - (a : Int) = (l : Int) := by omega
  obtain ⟨q, hq⟩ : ∃ q : Nat, l / 4 = q := ⟨_, rfl⟩
  have hqi : (l : Int).tdiv 4 = (q : Int) := by rw [Int.tdiv_eq_ediv_of_nonneg (by omega)]; omega
  obtain ⟨i, hi⟩ : ∃ i : Nat, a + q = i := ⟨_, rfl⟩
  obtain ⟨j, hj⟩ : ∃ j : Nat, a + q * 2 = j := ⟨_, rfl⟩
  obtain ⟨kk, hk⟩ : ∃ k : Nat, a + q * 3 = k := ⟨_, rfl⟩
  have hii : (a : Int) + (q : Int) = (i : Int) := by omega
  have hji : (a : Int) + (q : Int) * 2 = (j : Int) := by omega
  have hki : (a : Int) + (q : Int) * 3 = (kk : Int) := by omega
  have hbound : i < n ∧ j < n ∧ kk < n ∧ q ≤ 4611686018427387904 := by omega
  have HB0 : Hid (Bx enc blk n w0 X.heap.size (X.alloc (.cells #[.int .i64 0] 3)) d 0) := Lib.hid ⟨(k0.alloc hblk _).here, by simp [go_sem], by simp [go_sem], hold, by simp⟩
  have HBW : Hid (Below X.heap.size X (X.alloc (.cells #[.int .i64 0] 3))) := Lib.hid ((Below.refl _ _).alloc (Nat.le_refl _) _)
  unfold choosePivot
  rw [hl]
  dsimp only
  rw [hq, show q * 1 = q by omega, hi, hj, hk]
  obtain ⟨r, hr⟩ : ∃ r : Nat × Nat, (if 8 ≤ l then (if 50 ≤ l then median lt d (medianAdjacent lt d i 0).1 (medianAdjacent lt d j (medianAdjacent lt d i 0).2).1 (medianAdjacent lt d kk (medianAdjacent lt d j (medianAdjacent lt d i 0).2).2).1 (medianAdjacent lt d kk (medianAdjacent lt d j (medianAdjacent lt d i 0).2).2).2 else median lt d i j kk 0) else (j, 0)) = r := ⟨_, rfl⟩
  have hrg : (if l ≥ 8 then (if l ≥ 50 then median lt d (medianAdjacent lt d i 0).1 (medianAdjacent lt d j (medianAdjacent lt d i 0).2).1 (medianAdjacent lt d kk (medianAdjacent lt d j (medianAdjacent lt d i 0).2).2).1 (medianAdjacent lt d kk (medianAdjacent lt d j (medianAdjacent lt d i 0).2).2).2 else median lt d i j kk 0) else (j, 0)) = r := hr
  rw [hrg]
  have CX := Lib.hid cx
  clear hrg k0 cx
  have hj0 := hbound.2.1
  go_enter Try.func24, Try.ntmps24
  go_upto_region 6 with fail
  by_cases l8 : 8 ≤ l
  · have l8i : (8 : Int) ≤ (l : Int) := by omega
    rw [if_pos l8] at hr
    by_cases l50 : 50 ≤ l
    · have l50i : (50 : Int) ≤ (l : Int) := by omega
      rw [if_pos l50] at hr
      obtain ⟨⟨i1, s1⟩, hr1⟩ : ∃ r : Nat × Nat, medianAdjacent lt d i 0 = r := ⟨_, rfl⟩
      have H1 := medAdj_any CX.out HB0.out i (by omega) (by omega) (by omega)
      rw [hr1] at hr H1
      dsimp only at hr H1
      obtain ⟨⟨j1, s2⟩, hr2⟩ : ∃ r : Nat × Nat, medianAdjacent lt d j s1 = r := ⟨_, rfl⟩
      have H2 : ∀ w1, Bx enc blk n w0 X.heap.size w1 d s1 → s1 ≤ 3 → _ := fun w1 h hs => medAdj_any CX.out h j (by omega) (by omega) (by omega)
      rw [hr2] at hr H2
      dsimp only at hr H2
      obtain ⟨⟨k1, s3⟩, hr3⟩ : ∃ r : Nat × Nat, medianAdjacent lt d kk s2 = r := ⟨_, rfl⟩
      have H3 : ∀ w1, Bx enc blk n w0 X.heap.size w1 d s2 → s2 ≤ 6 → _ := fun w1 h hs => medAdj_any CX.out h kk (by omega) (by omega) (by omega)
      rw [hr3] at hr H3
      dsimp only at hr H3
      have H4 : ∀ w1, Bx enc blk n w0 X.heap.size w1 d s3 → s3 ≤ 9 → i1 < n → j1 < n → k1 < n → _ := fun w1 h hs e1 e2 e3 => median_any CX.out h i1 j1 k1 e1 e2 e3 (by omega)
      obtain ⟨r1, r2⟩ := r
      rw [hr] at H4
      dsimp only at H4 ⊢
      have H1 := Lib.hid H1
      have H2 := Lib.hid H2
      have H3 := Lib.hid H3
      have H4 := Lib.hid H4
      clear hr hr1 hr2 hr3 hi hj hk hl hq
      go_upto_region 12 with (first
        | (go_at_call 33; (first
          | (with_reducible refine H1.out.mono ?_; rintro e w1 ⟨rfl, st1, bx1, n1, m1⟩; have HS1 := Lib.hid st1; have HB1 := Lib.hid bx1; have HN1 := Lib.hid n1; have HM1 := Lib.hid m1; clear st1 bx1 n1 m1)
          | (with_reducible refine (H2.out _ HB1.out (by have := HM1.out; omega)).mono ?_; rintro e w2 ⟨rfl, st1, bx1, n1, m1⟩; have HS2 := Lib.hid (HS1.out.trans st1); have HB2 := Lib.hid bx1; have HN2 := Lib.hid n1; have HM2 := Lib.hid m1; clear st1 bx1 n1 m1)
          | (with_reducible refine (H3.out _ HB2.out (by have := HM1.out; have := HM2.out; omega)).mono ?_; rintro e w3 ⟨rfl, st1, bx1, n1, m1⟩; have HS3 := Lib.hid (HS2.out.trans st1); have HB3 := Lib.hid bx1; have HN3 := Lib.hid n1; have HM3 := Lib.hid m1; clear st1 bx1 n1 m1)))
        | (go_at_call 34; (with_reducible refine (H4.out _ HB3.out (by have := HM1.out; have := HM2.out; have := HM3.out; omega) HN1.out HN2.out HN3.out).mono ?_); rintro e wz ⟨rfl, st1, bx1, n1, m1⟩; have HSZ := Lib.hid (HS3.out.trans st1); have HBZ := Lib.hid bx1; have HRN := Lib.hid n1; clear st1 bx1 n1 m1))
      have hcz := HBZ.out.cell
      have FIN : Hid (Below X.heap.size X wz ∧ r1 < n) := Lib.hid ⟨HBW.out.trans (HSZ.out.below (Nat.le_refl _) (by simp)), HRN.out⟩
      by_cases z0 : r2 = 0
      · have e0 : ((r2 : Int) == 0) = true := by rw [beq_iff_eq]; omega
        go_wp2_with fail
        go_ret2
        first | exact ⟨rfl, FIN.out⟩ | exact ⟨rfl, FIN.out.1⟩
      · have e0 : ((r2 : Int) == 0) = false := by rw [beq_eq_false_iff_ne]; omega
        by_cases z1 : r2 = 12
        · have e1 : ((r2 : Int) == 12) = true := by rw [beq_iff_eq]; omega
          go_wp2_with fail
          go_ret2
          first | exact ⟨rfl, FIN.out⟩ | exact ⟨rfl, FIN.out.1⟩
        · have e1 : ((r2 : Int) == 12) = false := by rw [beq_eq_false_iff_ne]; omega
          go_wp2_with fail
          go_ret2
          first | exact ⟨rfl, FIN.out⟩ | exact ⟨rfl, FIN.out.1⟩
    · have l50i : ¬ (50 : Int) ≤ (l : Int) := by omega
      rw [if_neg l50] at hr
      have H4 := median_any CX.out HB0.out i j kk hbound.1 hbound.2.1 hbound.2.2.1 (by omega)
      obtain ⟨r1, r2⟩ := r
      rw [hr] at H4
      dsimp only at H4 ⊢
      have H4 := Lib.hid H4
      clear hr hi hj hk hl hq
      go_upto_region 12 with (go_at_call 34; (with_reducible refine H4.out.mono ?_); rintro e wz ⟨rfl, st1, bx1, n1, m1⟩; have HSZ := Lib.hid st1; have HBZ := Lib.hid bx1; have HRN := Lib.hid n1; clear st1 bx1 n1 m1)
      have hcz := HBZ.out.cell
      have FIN : Hid (Below X.heap.size X wz ∧ r1 < n) := Lib.hid ⟨HBW.out.trans (HSZ.out.below (Nat.le_refl _) (by simp)), HRN.out⟩
      by_cases z0 : r2 = 0
      · have e0 : ((r2 : Int) == 0) = true := by rw [beq_iff_eq]; omega
        go_wp2_with fail
        go_ret2
        first | exact ⟨rfl, FIN.out⟩ | exact ⟨rfl, FIN.out.1⟩
      · have e0 : ((r2 : Int) == 0) = false := by rw [beq_eq_false_iff_ne]; omega
        by_cases z1 : r2 = 12
        · have e1 : ((r2 : Int) == 12) = true := by rw [beq_iff_eq]; omega
          go_wp2_with fail
          go_ret2
          first | exact ⟨rfl, FIN.out⟩ | exact ⟨rfl, FIN.out.1⟩
        · have e1 : ((r2 : Int) == 12) = false := by rw [beq_eq_false_iff_ne]; omega
          go_wp2_with fail
          go_ret2
          first | exact ⟨rfl, FIN.out⟩ | exact ⟨rfl, FIN.out.1⟩
  · have l8i : ¬ (8 : Int) ≤ (l : Int) := by omega
    rw [if_neg l8] at hr
    subst hr
    have FIN : Hid (Below X.heap.size X (X.alloc (.cells #[.int .i64 0] 3)) ∧ j < n) := Lib.hid ⟨HBW.out, hj0⟩
    go_wp2_with fail
    go_ret2
    first | exact ⟨rfl, FIN.out⟩ | exact ⟨rfl, FIN.out.1⟩
end

end Go.Proofs.Ytjgamgmghelhgaa.Sort4
