/- The program's place made of a zone that came in. Conditions: a zone in order. -/
import Derived.Test.YtmnjmhlodbifjaaGreatDoorR26
import Derived.Deep.AppendLies

namespace Go.Proofs.YtmnjmhlodbifjaaGreatDoor.Zone3
open Go Go.RowKit Go.Proofs.YtmnjmhlodbifjaaGreatDoor.Mem Go.Proofs.YtmnjmhlodbifjaaGreatDoor.Cal Go.Proofs.YtmnjmhlodbifjaaGreatDoor.Off Go.Proofs.YtmnjmhlodbifjaaGreatDoor.TimeNum Go.Proofs.YtmnjmhlodbifjaaGreatDoor.Lookup Go.Proofs.YtmnjmhlodbifjaaGreatDoor.Time Go.Proofs.YtmnjmhlodbifjaaGreatDoor.Time2 Go.Proofs.YtmnjmhlodbifjaaGreatDoor.SpecCal Go.Proofs.YtmnjmhlodbifjaaGreatDoor.Zone Go.Proofs.YtmnjmhlodbifjaaGreatDoor.Zone2
set_option linter.unusedVariables false
def zoneS : ByteArray := ⟨#[122, 111, 110, 101]⟩
def zrow (o : Nat → Int) (d : Nat → Bool) : Nat → List Value
  | 0 => []
  | k + 1 => zrow o d k ++ [.string zoneS, .int .i64 (o k), .bool (d k)]
def trow (wh : Nat → Int) (ix : Nat → Int) : Nat → List Value
  | 0 => []
  | k + 1 => trow wh ix k ++ [.int .i64 (wh k), .int .u8 (ix k), .bool false, .bool false]
theorem zrow_len (o : Nat → Int) (d : Nat → Bool) (k : Nat) : (zrow o d k).length = k * 3 := by
  induction k with
  | zero => rfl
  | succ k ih => simp [zrow, ih]; omega
theorem trow_len (wh ix : Nat → Int) (k : Nat) : (trow wh ix k).length = k * 4 := by
  induction k with
  | zero => rfl
  | succ k ih => simp [trow, ih]; omega
theorem zrow_at (o : Nat → Int) (d : Nat → Bool) (k i : Nat) (h : i < k) : (zrow o d k)[i * 3]? = some (.string zoneS) ∧ (zrow o d k)[i * 3 + 1]? = some (.int .i64 (o i)) ∧ (zrow o d k)[i * 3 + 2]? = some (.bool (d i)) := by
  induction k with
  | zero => omega
  | succ k ih =>
    unfold zrow
    by_cases c : i < k
    · have h1 := ih c
      have hl := zrow_len o d k
      rw [List.getElem?_append_left (by omega), List.getElem?_append_left (by omega), List.getElem?_append_left (by omega)]
      exact h1
    · obtain rfl : i = k := by omega
      have hl := zrow_len o d i
      rw [List.getElem?_append_right (by omega), List.getElem?_append_right (by omega), List.getElem?_append_right (by omega), hl]
      simp
theorem trow_at (wh ix : Nat → Int) (k i : Nat) (h : i < k) : (trow wh ix k)[i * 4]? = some (.int .i64 (wh i)) ∧ (trow wh ix k)[i * 4 + 1]? = some (.int .u8 (ix i)) := by
  induction k with
  | zero => omega
  | succ k ih =>
    unfold trow
    by_cases c : i < k
    · have h1 := ih c
      have hl := trow_len wh ix k
      rw [List.getElem?_append_left (by omega), List.getElem?_append_left (by omega)]
      exact h1
    · obtain rfl : i = k := by omega
      have hl := trow_len wh ix i
      rw [List.getElem?_append_right (by omega), List.getElem?_append_right (by omega), hl]
      simp
def LocBlk (w : World) (b : Nat) (v1 v2 : Value) : Prop := w.heap[b]? = some (.cells #[.bool false, .string zoneS, v1, v2, .string ⟨#[]⟩, .int .i64 0, .int .i64 0, .pointer none] 174 (0, 0))
section
variable {w : World} {b : Nat} {v1 v2 : Value}
theorem LocBlk.c0 (h : LocBlk w b v1 v2) : w.cell? ⟨b, 0, none⟩ = some (.bool false) := by rw [cell_of_row w b _ _ _ _ h]; rfl
theorem LocBlk.c2 (h : LocBlk w b v1 v2) : w.cell? ⟨b, 2, none⟩ = some v1 := by rw [cell_of_row w b _ _ _ _ h]; rfl
theorem LocBlk.c3 (h : LocBlk w b v1 v2) : w.cell? ⟨b, 3, none⟩ = some v2 := by rw [cell_of_row w b _ _ _ _ h]; rfl
theorem LocBlk.c7 (h : LocBlk w b v1 v2) : w.cell? ⟨b, 7, none⟩ = some (.pointer none) := by rw [cell_of_row w b _ _ _ _ h]; rfl
theorem LocBlk.free (h : LocBlk w b v1 v2) (j : Nat) : w.frozen? ⟨b, j, none⟩ = false := frozen_of_row w b j _ _ h
theorem LocBlk.lt (h : LocBlk w b v1 v2) : b < w.heap.size := (Array.getElem?_eq_some_iff.1 h).1
theorem LocBlk.put2 (h : LocBlk w b v1 v2) (u : Value) : LocBlk (w.setCell ⟨b, 2, none⟩ u) b u v2 := by
  unfold LocBlk
  rw [heap_setCell_same w b 2 _ _ _ h]; rfl
theorem LocBlk.put3 (h : LocBlk w b v1 v2) (u : Value) : LocBlk (w.setCell ⟨b, 3, none⟩ u) b v1 u := by
  unfold LocBlk
  rw [heap_setCell_same w b 3 _ _ _ h]; rfl
theorem LocBlk.grown {w' : World} {row : Option Nat} (h : LocBlk w b v1 v2) (hg : w.grownBy w' row) (hr : ∀ k, row = some k → b + 1 ≤ k) : LocBlk w' b v1 v2 := by
  unfold LocBlk
  rw [hg.block b h.lt (fun e => by have := hr b e.symm; omega)]; exact h
theorem LocBlk.drew (h : LocBlk w b v1 v2) : LocBlk w.drew b v1 v2 := h
theorem LocBlk.alloc (h : LocBlk w b v1 v2) (o : Obj) : LocBlk (w.alloc o) b v1 v2 := by
  unfold LocBlk
  rw [Below.heap_alloc w o b h.lt]; exact h
end
theorem infoZ : (Tryz.prog.info? 176).map (fun i => (i.zero, i.size, i.bytes)) = some (some (.agg #[.string ⟨#[]⟩, .int .i64 0, .bool false]), 3, 32) := by kernel_rfl
theorem infoT : (Tryz.prog.info? 178).map (fun i => (i.zero, i.size, i.bytes)) = some (some (.agg #[.int .i64 0, .int .u8 0, .bool false, .bool false]), 4, 16) := by kernel_rfl
theorem cells3 (w : World) (e : TypeId) (a b c : Value) : ∀ j u, [a, b, c][j]? = some u → (w.alloc (.cells #[a, b, c] e)).cell? ((⟨w.heap.size, 0, none⟩ : Addr).add j) = some u := by
  intro j u h
  have hh : (w.alloc (.cells #[a, b, c] e)).heap[w.heap.size]? = some (.cells #[a, b, c] e) := heap_alloc_new w _
  match j, h with
  | 0, h => simp at h; subst h; unfold World.cell?; simp only [Addr.add_lit, hh]; rfl
  | 1, h => simp at h; subst h; unfold World.cell?; simp only [Addr.add_lit, hh]; rfl
  | 2, h => simp at h; subst h; unfold World.cell?; simp only [Addr.add_lit, hh]; rfl
  | n + 3, h => simp at h
theorem cells4 (w : World) (e : TypeId) (a b c d : Value) : ∀ j u, [a, b, c, d][j]? = some u → (w.alloc (.cells #[a, b, c, d] e)).cell? ((⟨w.heap.size, 0, none⟩ : Addr).add j) = some u := by
  intro j u h
  have hh : (w.alloc (.cells #[a, b, c, d] e)).heap[w.heap.size]? = some (.cells #[a, b, c, d] e) := heap_alloc_new w _
  match j, h with
  | 0, h => simp at h; subst h; unfold World.cell?; simp only [Addr.add_lit, hh]; rfl
  | 1, h => simp at h; subst h; unfold World.cell?; simp only [Addr.add_lit, hh]; rfl
  | 2, h => simp at h; subst h; unfold World.cell?; simp only [Addr.add_lit, hh]; rfl
  | 3, h => simp at h; subst h; unfold World.cell?; simp only [Addr.add_lit, hh]; rfl
  | n + 4, h => simp at h
def Z1 (o : Nat → Int) (d : Nat → Bool) (w : World) (k : Nat) (v : Value) (wr : World) : Prop :=
  LocBlk wr w.heap.size v (.slice none 0 0) ∧ wr.ownsRow (w.heap.size + 1) 176 3 v k (zrow o d k) ∧ Below w.heap.size w wr
theorem z1_next {o : Nat → Int} {d : Nat → Bool} {w wr w1 : World} {k : Nat} {v v' : Value} {A : Obj} (hb : LocBlk w1 w.heap.size v (.slice none 0 0)) (hbe : Below w.heap.size w wr) (hown0 : wr.ownsRow (w.heap.size + 1) 176 3 v k (zrow o d k))
    (hown : w1.ownsRow (w.heap.size + 1) 176 3 v' (k + 1) (zrow o d k ++ [.string zoneS, .int .i64 (o k), .bool (d k)])) (hg : (wr.alloc A).drew.grownBy w1 v.ownBlock) :
    Z1 o d w (k + 1) v' (w1.setCell ⟨w.heap.size, 2, none⟩ v') := by
  refine ⟨hb.put2 v', ownsRow_setCell_below hown (Nat.lt_succ_self _) _, ?_⟩
  exact ((((hbe.alloc hbe.size A).drew).grown hg (by have := hbe.size; simp; omega) (fun j hj => by have := (hown0.lt j hj).1; omega))).setCell (p := ⟨w.heap.size, 2, none⟩) (Nat.le_refl _) _
structure Z2 (z : ZoneD) (g cg B2 : Nat) (w : World) (k : Nat) (v : Value) (wr : World) : Prop where
  blk : LocBlk wr w.heap.size (.slice (some ⟨g, 0, none⟩) z.n cg) v
  own : wr.ownsRow B2 178 4 v k (trow z.wh (fun i => (z.ix i : Int)) k)
  bel : Below w.heap.size w wr
  zc : ∀ (j : Nat) u, (zrow z.o z.d z.n)[j]? = some u → wr.cell? ⟨g, j, none⟩ = some u
  hB : B2 ≤ wr.heap.size
  hg : g < B2
  hb : w.heap.size < B2
  hne : g ≠ w.heap.size
theorem z2_next {z : ZoneD} {g cg B2 : Nat} {w wr w1 : World} {k : Nat} {v v' : Value} {A : Obj} (h : Z2 z g cg B2 w k v wr) (hb : LocBlk w1 w.heap.size (.slice (some ⟨g, 0, none⟩) z.n cg) v)
    (hown : w1.ownsRow B2 178 4 v' (k + 1) (trow z.wh (fun i => (z.ix i : Int)) k ++ [.int .i64 (z.wh k), .int .u8 (z.ix k : Int), .bool false, .bool false])) (hg : (wr.alloc A).drew.grownBy w1 v.ownBlock) :
    Z2 z g cg B2 w (k + 1) v' (w1.setCell ⟨w.heap.size, 3, none⟩ v') := by
  have h1 := h.hB
  have h2 := h.hg
  have h3 := h.hb
  have hs := hg.size
  simp at hs
  have hbl : ∀ j, v.ownBlock = some j → B2 ≤ j := fun j hj => (h.own.lt j hj).1
  refine ⟨hb.put3 v', ownsRow_setCell_below hown h3 _, ?_, fun j u hu => ?_, by simp [World.setCell]; omega, h2, h3, h.hne⟩
  · exact ((((h.bel.alloc h.bel.size A).drew).grown hg (by have := h.bel.size; simp; omega) (fun j hj => by have := hbl j hj; omega))).setCell (p := ⟨w.heap.size, 3, none⟩) (Nat.le_refl _) _
  · rw [World.cell?_of_block (w := w1) (a := ⟨g, j, none⟩) (by rw [Below.heap_setCell _ _ _ _ h.hne])]
    rw [World.cell?_of_block (w := (wr.alloc A).drew) (a := ⟨g, j, none⟩) (hg.block g (by simp; omega) (fun e => by have := hbl g e.symm; omega))]
    rw [World.cell?_of_block (w := wr) (a := ⟨g, j, none⟩) (by show (wr.alloc A).heap[g]? = _; exact Below.heap_alloc _ _ _ (by omega))]
    exact h.zc j u hu
theorem loc_of {z : ZoneD} {g cg B2 : Nat} {w wr : World} {v : Value} (h : Z2 z g cg B2 w z.m v wr) (hm : 1 ≤ z.m) (hc : z.n ≤ cg) : LocAt wr w.heap.size z := by
  rcases h.own.2 with ⟨-, e⟩ | ⟨hh, ch, cur, e, h1, h2, h3, h4, h5, h6⟩
  · omega
  · subst e
    refine ⟨h.blk.lt, h.blk.c0, ⟨g, cg, hh, ch, h.blk.c2, h.blk.c3, hc, h3, fun k hk => ?_, fun i hi => ?_⟩, h.blk.c7⟩
    · obtain ⟨a1, a2, a3⟩ := zrow_at z.o z.d z.n k hk
      exact ⟨⟨_, h.zc _ _ a1⟩, h.zc _ _ a2, h.zc _ _ a3⟩
    · obtain ⟨a1, a2⟩ := trow_at z.wh (fun i => (z.ix i : Int)) z.m i hi
      have c1 := World.ownsRow.cells h.own (g := hh) rfl _ _ a1
      have c2 := World.ownsRow.cells h.own (g := hh) rfl _ _ a2
      simp only [Addr.add_lit] at c1 c2
      simp at c1 c2
      exact ⟨c1, c2⟩
set_option maxHeartbeats 4000000 in
theorem zone_any (xo xd xw xi : Addr) (co cd cw ci : Nat) (z : ZoneD) (w : World) (hz : z.Good)
    (ro : Row w (some xo) z.n (fun k => .int .i64 (z.o k))) (rd : Row w (some xd) z.n (fun k => .bool (z.d k))) (rw' : Row w (some xw) z.m (fun k => .int .i64 (z.wh k))) (ri : Row w (some xi) z.m (fun k => .int .i64 (z.ix k : Int))) :
    Calls Tryz.prog 76 #[.slice (some xo) z.n co, .slice (some xd) z.n cd, .slice (some xw) z.m cw, .slice (some xi) z.m ci] w fun e w' => ∃ b, (e = .returned (.pointer (some ⟨b, 0, none⟩)) ∧ LocAt w' b z) ∧ Below w.heap.size w w' := by
  obtain ⟨i0, hi, hz0, hz1, hz2⟩ := info_parts infoZ
  obtain ⟨j0, hj, hj0, hj1, hj2⟩ := info_parts infoT
  have hn2 := hz.n64
  have hm2 := hz.m4096
  have HO := Lib.hid ro
  have HD := Lib.hid rd
  have HW := Lib.hid rw'
  have HI := Lib.hid ri
  have HZ := Lib.hid hz
  clear ro rd rw' ri hz
  go_enter Tryz.func76, Tryz.ntmps76
  go_wp2
  go_loopw [18] (fun i wr => ∃ k : Nat, k ≤ z.n ∧ i = .int .i64 (k : Int) ∧ Hid (∃ v, Z1 z.o z.d w k v wr)) (fun i _ => z.n - (intOf i).toNat)
  case atStart =>
    refine ⟨0, Nat.zero_le _, rfl, Lib.hid ⟨.slice none 0 0, ?_, World.ownsRow_nil _ _ _ _, (Below.refl _ _).alloc (Nat.le_refl _) _⟩⟩
    exact heap_alloc_new w _
  case round =>
    obtain ⟨k, hk, rfl, HV⟩ := hrel
    obtain ⟨v, hblk, hown, hbel⟩ := HV.out
    have hc2 := hblk.c2
    have hf2 := hblk.free 2
    have hlt0 := hblk.lt
    by_cases hlt : k < z.n
    · have hco := (HO.out.below hbel).cell hlt
      have hcd := (HD.out.below hbel).cell hlt
      have HB := Lib.hid hblk
      have HOW := Lib.hid hown
      have HBE := Lib.hid hbel
      have hob := HZ.out.o1 k hlt
      clear hblk hown hbel HV
      go_wp2
      go_region_law (refine step_append_lies _ (by rfl) (.tmp 27) (.tmp 34) 170 (by rfl) (w.heap.size + 1) 176 i0 (.agg #[.string ⟨#[]⟩, .int .i64 0, .bool false]) 3 32 Tryz.underlying170 hi hz0 hz1 hz2 rfl (by decide) v k (zrow z.o z.d k) (by rfl) (HOW.out.drew.alloc _) ⟨wr.heap.size, 0, none⟩ 1 1 [.string zoneS, .int .i64 (z.o k), .bool (z.d k)] (by rfl) (by rfl) (cells3 _ _ _ _ _) (by simp [Value.oneCell']) (by omega) (by unfold maxLen; omega) (by omega) (by simp; omega) (wr.heap.size + 1) (by simp) ?_; intro gg cap1 w1 hown1 hgrow1 hat hlt1; have hbk := (HB.out.drew.alloc _).grown hgrow1 (fun j hj => (HOW.out.lt j hj).1); have e2 := hbk.c2; have g2 := hbk.free 2)
      all_goals
        have HN : Hid (∃ v, Z1 z.o z.d w (k + 1) v (w1.setCell ⟨w.heap.size, 2, none⟩ (.slice (some ⟨gg, 0, none⟩) (k + 1) cap1))) := Lib.hid ⟨_, z1_next hbk HBE.out HOW.out hown1 hgrow1⟩
        clear hown1 hgrow1 hat hlt1 hbk e2 g2 HB HOW HBE
        go_wp2
        go_roundw
        case rel => exact ⟨k + 1, by omega, by go_num, HN⟩
        case measure => simp [intOf]; omega
    · obtain rfl : k = z.n := by omega
      have hd : decide ((z.n : Int) < (z.n : Int)) = false := by simp
      obtain ⟨g, cg, hv, hge, hcg, hgl, hzc⟩ : ∃ g cg, v = .slice (some ⟨g, 0, none⟩) z.n cg ∧ w.heap.size + 1 ≤ g ∧ z.n ≤ cg ∧ g < wr.heap.size ∧ ∀ (j : Nat) u, (zrow z.o z.d z.n)[j]? = some u → wr.cell? ⟨g, j, none⟩ = some u := by
        have hn1 := HZ.out.n1
        rcases hown.2 with ⟨-, e⟩ | ⟨g, cg, cur, e, h1, h2, h3, h4, h5, h6⟩
        · omega
        · refine ⟨g, cg, e, h1, h3, (Array.getElem?_eq_some_iff.1 h2).1, fun j u hu => ?_⟩
          subst e
          have c1 := World.ownsRow.cells hown (g := g) rfl _ _ hu
          simp only [Addr.add_lit] at c1
          simpa using c1
      subst hv
      obtain ⟨B2, HZ2⟩ : ∃ B2, Hid (Z2 z g cg B2 w 0 (.slice none 0 0) wr) := ⟨wr.heap.size, Lib.hid ⟨hblk, World.ownsRow_nil _ _ _ _, hbel, hzc, Nat.le_refl _, hgl, hlt0, by omega⟩⟩
      have HCG := Lib.hid hcg
      have HLT := Lib.hid hlt0
      clear hblk hown hbel HV hc2 hf2 hge hcg hgl hzc
      go_wp2
      go_loopw [41] (fun i ws => ∃ k : Nat, k ≤ z.m ∧ i = .int .i64 (k : Int) ∧ Hid (∃ v, Z2 z g cg B2 w k v ws)) (fun i _ => z.m - (intOf i).toNat)
      case atStart => exact ⟨0, Nat.zero_le _, rfl, Lib.hid ⟨_, HZ2.out⟩⟩
      case round =>
        obtain ⟨q, hq, rfl, HV⟩ := hrel
        obtain ⟨v, hz2⟩ := HV.out
        have hc3 := hz2.blk.c3
        have hf3 := hz2.blk.free 3
        by_cases hlt2 : q < z.m
        · have hcw := (HW.out.below hz2.bel).cell hlt2
          have hci := (HI.out.below hz2.bel).cell hlt2
          have hwb := HZ.out.w64 q hlt2
          have hib := HZ.out.ixn q hlt2
          have H2 := Lib.hid hz2
          have hsz := hz2.hB
          have hlt9 := hz2.blk.lt
          have v1 : IntKind.u8.wrap ((z.ix q : Nat) : Int) = ((z.ix q : Nat) : Int) := IntWalk.u8_in _ (by omega)
          clear hz2 HV
          go_wp2
          go_region_law (refine step_append_lies _ (by rfl) (.tmp 50) (.tmp 58) 171 (by rfl) B2 178 j0 (.agg #[.int .i64 0, .int .u8 0, .bool false, .bool false]) 4 16 Tryz.underlying171 hj hj0 hj1 hj2 rfl (by decide) v q (trow z.wh (fun i => (z.ix i : Int)) q) (by rfl) (H2.out.own.drew.alloc _) ⟨wr.heap.size, 0, none⟩ 1 1 [.int .i64 (z.wh q), .int .u8 (z.ix q : Int), .bool false, .bool false] (by rfl) (by rfl) (cells4 _ _ _ _ _ _) (by simp [Value.oneCell']) (by omega) (by unfold maxLen; omega) (by omega) (by simp; omega) (wr.heap.size + 1) (by simp) ?_; intro gg cap1 w1 hown1 hgrow1 hat hlt1; have hbk := (H2.out.blk.drew.alloc _).grown hgrow1 (fun j hj => by have := (H2.out.own.lt j hj).1; have := H2.out.hb; omega); have e3 := hbk.c3; have g3 := hbk.free 3)
          all_goals
            have HN : Hid (∃ v, Z2 z g cg B2 w (q + 1) v (w1.setCell ⟨w.heap.size, 3, none⟩ (.slice (some ⟨gg, 0, none⟩) (q + 1) cap1))) := Lib.hid ⟨_, z2_next H2.out hbk hown1 hgrow1⟩
            clear hown1 hgrow1 hat hlt1 hbk e3 g3 H2
            go_wp2
            go_roundw
            case rel => exact ⟨q + 1, by omega, by go_num, HN⟩
            case measure => simp [intOf]; omega
        · obtain rfl : q = z.m := by omega
          have hd2 : decide ((z.m : Int) < (z.m : Int)) = false := by simp
          have HL := Lib.hid (loc_of hz2 HZ.out.m1 HCG.out)
          have HB2 := Lib.hid hz2.bel
          clear hz2 HV hc3 hf3
          go_wp2
          go_ret
          exact ⟨_, ⟨rfl, HL.out⟩, HB2.out⟩
end Go.Proofs.YtmnjmhlodbifjaaGreatDoor.Zone3
