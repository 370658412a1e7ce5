/- The reference's CronLocal: the least second of clocks without changes that is in the sets. Conditions: seconds of some ten thousand years. · The reference's CronChange, and what lies between two changes. Conditions: UTC or a zone in order. · The thin package's Next. Conditions: a plain zone in the window; instants from year 1 on; offsets of whole minutes. -/
import Derived.Test.YtmnjmhlodbifjaaGreatDoorR33
import Derived.Test.YtmnjmhlodbifjaaGreatDoorR30
import Derived.Test.YtmnjmhlodbifjaaGreatDoorR27
import Derived.Test.YtmnjmhlodbifjaaGreatDoorR32

namespace Go.Proofs.YtmnjmhlodbifjaaGreatDoor.Local
open Go Go.RowKit Go.Proofs.YtmnjmhlodbifjaaGreatDoor.Set Go.Proofs.YtmnjmhlodbifjaaGreatDoor.Fields Go.Proofs.YtmnjmhlodbifjaaGreatDoor.SetOf Go.Proofs.YtmnjmhlodbifjaaGreatDoor.Moment Go.Proofs.YtmnjmhlodbifjaaGreatDoor.DayM Go.Proofs.YtmnjmhlodbifjaaGreatDoor.TimeNum Go.Proofs.YtmnjmhlodbifjaaGreatDoor.Cal Go.Proofs.YtmnjmhlodbifjaaGreatDoor.SpecCal Go.Proofs.YtmnjmhlodbifjaaGreatDoor.DayFits Go.Proofs.YtmnjmhlodbifjaaGreatDoor.FieldsOf Go.Proofs.YtmnjmhlodbifjaaGreatDoor.Never Go.Proofs.YtmnjmhlodbifjaaGreatDoor.CronTime Go.Proofs.YtmnjmhlodbifjaaGreatDoor.Tomorrow
set_option linter.unusedVariables false
def dfit (st : Nat → Bool) (f : Nat → Nat → Bool) (n : Int) : Bool := f 4 (mOf n).toNat && dayFits st f (dOf n).toNat (wdOf n).toNat
def lfit (st : Nat → Bool) (f : Nat → Nat → Bool) (y : Int) : Bool := dfit st f (y / 86400) && tfit f (y % 86400).toNat
def NoL (st : Nat → Bool) (f : Nat → Nat → Bool) (a n : Int) : Prop := ∀ y, a ≤ y → y < n → lfit st f y = false
def LocalIs (st : Nat → Bool) (f : Nat → Nat → Bool) (a til last : Int) (x : Int) (b : Bool) : Prop :=
  (b = true ∧ a ≤ x ∧ x < til ∧ lfit st f x = true ∧ yOf (x / 86400) ≤ last ∧ NoL st f a x) ∨ (b = false ∧ ∀ y, a ≤ y → y < til → yOf (y / 86400) ≤ last → lfit st f y = false)
def LocalRes (st : Nat → Bool) (f : Nat → Nat → Bool) (a til last : Int) (w : World) (e : Ending) (w' : World) : Prop :=
  (∃ x b, e = .returned (.tuple #[.int .i64 x, .bool b]) ∧ LocalIs st f a til last x b) ∧ Below w.heap.size w w'
section
variable {st : Nat → Bool} {f : Nat → Nat → Bool} {a til last : Int}
theorem never_no (h : neverB f = true) (y : Int) : lfit st f y = false := by
  unfold neverB at h
  unfold lfit tfit
  have hy : 0 ≤ y % 86400 ∧ y % 86400 < 86400 := by omega
  obtain ⟨e, he⟩ : ∃ e : Nat, (y % 86400).toNat = e := ⟨_, rfl⟩
  have hb : e < 86400 := by omega
  rw [he]
  simp only [Bool.or_eq_true] at h
  rcases h with (h | h) | h
  · rw [(emptyB_iff _).1 h (e / 3600) (by omega)]; simp
  · rw [(emptyB_iff _).1 h (e % 3600 / 60) (by omega)]; simp
  · rw [(emptyB_iff _).1 h (e % 60) (by omega)]; simp
theorem NoL.day {n : Int} {s : Nat} (h : NoL st f a (86400 * n + s)) (hd : dfit st f n = false ∨ NoT f s 86400) : NoL st f a (86400 * (n + 1) + (0 : Nat)) := fun y y1 y2 => by
  by_cases c : y < 86400 * n + s
  · exact h y y1 c
  · have e1 : y / 86400 = n := by omega
    unfold lfit
    rcases hd with hd | hd
    · rw [e1, hd]; rfl
    · rw [hd (y % 86400).toNat (by omega) (by omega)]
      simp
theorem NoL.hit {n : Int} {s e : Nat} (h : NoL st f a (86400 * n + s)) (hs : s ≤ e) (he : e < 86400) (hn : NoT f s e) : NoL st f a (86400 * n + e) := fun y y1 y2 => by
  by_cases c : y < 86400 * n + s
  · exact h y y1 c
  · have e1 : y / 86400 = n := by omega
    unfold lfit
    rw [hn (y % 86400).toNat (by omega) (by omega)]
    simp
theorem hit_is {n : Int} {e : Nat} (he : e < 86400) (hd : dfit st f n = true) (ht : tfit f e = true) : lfit st f (86400 * n + e) = true := by
  unfold lfit
  rw [show (86400 * n + (e : Int)) / 86400 = n by omega, show ((86400 * n + (e : Int)) % 86400).toNat = e by omega, hd, ht]
  rfl
end
def DayAt (X : World) (b : Nat) (n : Int) : Prop := b < X.heap.size ∧ (X.cell? ⟨b, 0, none⟩ = some (.int .i64 (yOf n)) ∧ X.cell? ⟨b, 1, none⟩ = some (.int .i64 (mOf n)) ∧ X.cell? ⟨b, 2, none⟩ = some (.int .i64 (dOf n))) ∧ X.frozen? ⟨b, 0, none⟩ = false ∧ X.frozen? ⟨b, 1, none⟩ = false ∧ X.frozen? ⟨b, 2, none⟩ = false
theorem DayAt.below {X Y : World} {b : Nat} {n : Int} (h : DayAt X b n) (hb : Below X.heap.size X Y) : DayAt Y b n := by
  obtain ⟨h0, ⟨h1, h2, h3⟩, h4, h5, h6⟩ := h
  exact ⟨Nat.lt_of_lt_of_le h0 hb.size, ⟨(hb.cell (p := ⟨b, 0, none⟩) h0).trans h1, (hb.cell (p := ⟨b, 1, none⟩) h0).trans h2, (hb.cell (p := ⟨b, 2, none⟩) h0).trans h3⟩, (hb.frozen (p := ⟨b, 0, none⟩) h0).trans h4, (hb.frozen (p := ⟨b, 1, none⟩) h0).trans h5, (hb.frozen (p := ⟨b, 2, none⟩) h0).trans h6⟩
theorem dayAt_set {Y : World} {b : Nat} {n : Int} (hlt : b < Y.heap.size) (h0 : ∃ v, Y.cell? ⟨b, 0, none⟩ = some v) (h1 : ∃ v, Y.cell? ⟨b, 1, none⟩ = some v) (h2 : ∃ v, Y.cell? ⟨b, 2, none⟩ = some v) (f0 : Y.frozen? ⟨b, 0, none⟩ = false) (f1 : Y.frozen? ⟨b, 1, none⟩ = false) (f2 : Y.frozen? ⟨b, 2, none⟩ = false) :
    DayAt (((Y.setCell ⟨b, 0, none⟩ (.int .i64 (yOf n))).setCell ⟨b, 1, none⟩ (.int .i64 (mOf n))).setCell ⟨b, 2, none⟩ (.int .i64 (dOf n))) b n :=
  ⟨by simpa using hlt, NextB.cell_set3 Y b _ _ _ h0 h1 h2, by simp [go_sem, f0], by simp [go_sem, f1], by simp [go_sem, f2]⟩
theorem dayAt_new (X : World) (n : Int) : DayAt (X.alloc (.cells #[.int .i64 (yOf n), .int .i64 (mOf n), .int .i64 (dOf n)] 50)) X.heap.size n := by
  have hb := Below.refl (X.alloc (.cells #[.int .i64 (yOf n), .int .i64 (mOf n), .int .i64 (dOf n)] 50)).heap.size (X.alloc (.cells #[.int .i64 (yOf n), .int .i64 (mOf n), .int .i64 (dOf n)] 50))
  exact ⟨by simp, ⟨cells_after hb 0 _ rfl, cells_after hb 1 _ rfl, cells_after hb 2 _ rfl⟩, free_after hb 0, free_after hb 1, free_after hb 2⟩
theorem fresh3 {X Y : World} {E : TypeId} {x y z : Value} (h : Below (X.alloc (.cells #[x, y, z] E)).heap.size (X.alloc (.cells #[x, y, z] E)) Y) :
    (Y.cell? ⟨X.heap.size, 0, none⟩ = some x ∧ Y.cell? ⟨X.heap.size, 1, none⟩ = some y ∧ Y.cell? ⟨X.heap.size, 2, none⟩ = some z) ∧ (Y.frozen? ⟨X.heap.size, 0, none⟩ = false ∧ Y.frozen? ⟨X.heap.size, 1, none⟩ = false ∧ Y.frozen? ⟨X.heap.size, 2, none⟩ = false) ∧ Below X.heap.size X Y ∧ X.heap.size < Y.heap.size :=
  ⟨⟨cells_after h 0 _ rfl, cells_after h 1 _ rfl, cells_after h 2 _ rfl⟩, ⟨free_after h 0, free_after h 1, free_after h 2⟩, ((Below.refl _ _).alloc (Nat.le_refl _) _).trans (h.mono (by simp)), Nat.lt_of_lt_of_le (by simp) h.size⟩
def load39 (v : Value) : Sem Value := Instr.loadAt 57 v
theorem load39_eq (v : Value) : Instr.loadAt 57 v = load39 v := rfl
attribute [local go_sem ↓] load39_eq
theorem load39_run {X : World} {b : Nat} {st : Nat → Bool} {f : Nat → Nat → Bool} (h : FldAt X b st f) : (load39 (.pointer (some ⟨b, 0, none⟩))).run Tryz.prog X = .ok (.agg (fldArr st f)) X := by
  have := run_loadAt_mid (P := Tryz.prog) X b 0 57 (fldArr st f).toList _ h.range Tryz.underlying57 rfl (by simp [fldArr_size, sizeInfoF])
  show (Instr.loadAt 57 (.pointer (some ⟨b, 0, none⟩))).run Tryz.prog X = .ok (.agg (fldArr st f)) X
  simpa using this
set_option maxHeartbeats 2000000 in
set_option maxRecDepth 100000 in
theorem local_any (st : Nat → Bool) (f : Nat → Nat → Bool) (a til last : Int) (w : World) (a0 : -70000000000 ≤ a) (a1 : a ≤ 600000000000) (t1 : til ≤ 9000000000000000000) (t0 : -9000000000000000000 ≤ til) (l0 : -20000 ≤ last) (l1 : last ≤ 20000) :
    Calls Tryz.prog 88 #[.agg (fldArr st f), .int .i64 a, .int .i64 til, .int .i64 last] w (LocalRes st f a til last w) := by
  obtain ⟨W, hW⟩ : ∃ W, w.alloc (.cells (fldArr st f) 57) = W := ⟨_, rfl⟩
  have hF : FldAt W w.heap.size st f := by rw [← hW]; exact FldAt.new w st f
  have hbW : Below w.heap.size w W := by rw [← hW]; exact (Below.refl _ _).alloc (Nat.le_refl _) _
  have HF := Lib.hid hF
  have HB := Lib.hid hbW
  have HNV := Lib.hid (fun w1 => never_any st f w1)
  have HTI := Lib.hid (fun (s : Nat) (hs : s < 86400) w1 => time_any st f s w1 hs)
  have HDF := Lib.hid (fun (y m : Int) (d wd : Nat) w1 (hd : d ≤ 62) (hwd : wd ≤ 62) => dayFits_any st f y m d wd w1 hd hwd)
  obtain ⟨C, hC⟩ : ∃ C, ys (last + 1) = C := ⟨_, rfl⟩
  have hCb : -9000000 ≤ C ∧ C ≤ 7000000 := by rw [← hC]; unfold ys; omega
  have HC : Hid (∀ n, yOf n ≤ last → n < C) := Lib.hid (fun n hn => by
    rw [← hC]
    by_cases c : ys (last + 1) ≤ n
    · have h1 := year_in n
      have h2 : yOf n + 1 ≤ last + 1 := by omega
      by_cases c2 : yOf n + 1 = last + 1
      · rw [c2] at h1; omega
      · have := ys_mono (yOf n + 1) (last + 1) (by omega)
        have := lp_01 (yOf n + 1)
        omega
    · omega)
  obtain ⟨D0, hD0⟩ : ∃ D0, a / 86400 = D0 := ⟨_, rfl⟩
  have hDb : -811000 ≤ D0 ∧ D0 ≤ 7000000 := by omega
  have HD0 := Lib.hid hD0
  obtain ⟨nv, hnv⟩ : ∃ nv, neverB f = nv := ⟨_, rfl⟩
  rw [hnv] at HNV
  have HV := Lib.hid hnv
  obtain ⟨s0, hs0⟩ : ∃ s0 : Nat, a - 86400 * D0 = (s0 : Int) := ⟨(a - 86400 * D0).toNat, by omega⟩
  have hs1 : s0 < 86400 := by omega
  have HS0 := Lib.hid hs0
  have HDO := Lib.hid (fun w1 => dateOf_any D0 w1 ⟨by omega, by omega⟩)
  have HFD := Lib.hid (fun w1 => floorDiv_any a 86400 w1 ⟨by omega, by omega⟩ (by omega) (by omega))
  rw [hD0] at HFD
  clear hF hbW hC hD0 hnv
  cases nv
  case true =>
    go_enter Tryz.func88, Tryz.ntmps88
    go_wp2_with (first
      | (with_reducible refine wpList_box_fields rfl (.tmp 0) rfl st f rfl ?_)
      | ((with_reducible refine at_load rfl ?_); (refine wpList_load_fields rfl (.tmp 4) rfl w.heap.size st f rfl HF.out ?_))
      | ((go_at_call 118); (with_reducible refine (HNV.out _).mono ?_); rintro e w1 ⟨rfl, hb1⟩))
    exact bodyPost_ret (v := .tuple #[.int .i64 0, .bool false]) (by simp [results, Tryz.results88, go_sem, *]) rfl ⟨⟨_, _, rfl, .inr ⟨rfl, fun y y1 y2 y3 => never_no HV.out y⟩⟩, HB.out.trans (hb1.mono HB.out.size)⟩
  case false =>
    go_enter Tryz.func88, Tryz.ntmps88
    go_wp2_with (first
      | (with_reducible refine wpList_box_fields rfl (.tmp 0) rfl st f rfl ?_)
      | ((with_reducible refine at_load rfl ?_); (refine wpList_load_fields rfl (.tmp 4) rfl w.heap.size st f rfl HF.out ?_))
      | ((go_at_call 118); (with_reducible refine (HNV.out _).mono ?_); rintro e w1 ⟨rfl, hb1⟩)
      | ((go_at_call 77); (with_reducible refine (HFD.out _).mono ?_); rintro e w2 ⟨rfl, rfl⟩)
      | ((go_at_call 78); (with_reducible refine (HDO.out _).mono ?_); rintro e w3 ⟨rfl, hb3⟩))
    go_loopw [10, 11, 12] (fun va vb vc wr => ∃ (N : Int) (s b : Nat), va = .int .i64 N ∧ vb = .int .i64 (s : Int) ∧ vc = .pointer (some ⟨b, 0, none⟩) ∧ s < 86400 ∧ D0 ≤ N ∧ (N ≤ C ∨ N = D0) ∧ Hid (NoL st f a (86400 * N + s)) ∧ Hid (a ≤ 86400 * N + s) ∧ Hid (Below W.heap.size W wr ∧ W.heap.size ≤ b ∧ DayAt wr b N)) (fun va _ _ _ => (20000000 - intOf va).toNat)
    case atStart =>
      have h13 : Below W.heap.size W w3 := hb1.trans (hb3.mono hb1.size)
      refine ⟨D0, s0, w3.heap.size, rfl, by have := HS0.out; congr 1, rfl, hs1, by omega, .inr rfl, Lib.hid (fun y y1 y2 => by have := HS0.out; omega), Lib.hid (by have := HS0.out; omega), Lib.hid ⟨h13.alloc h13.size _, h13.size, ?_⟩⟩
      exact dayAt_new w3 D0
    case round =>
      obtain ⟨N, s, b, rfl, rfl, rfl, hs, hN0, hN1, HNO, HLE, HWR⟩ := hrel
      obtain ⟨wrh, hbb, wrd⟩ := HWR.out
      obtain ⟨⟨p1, p2, p3, p4⟩, -⟩ := date_of N
      have hyi := year_in N
      have hml := mlen_bd (yOf N) (mOf N)
      obtain ⟨yy, hyy⟩ : ∃ yy, yOf N = yy := ⟨_, rfl⟩
      obtain ⟨mn, hmn⟩ : ∃ mn : Nat, mOf N = mn := ⟨(mOf N).toNat, by omega⟩
      obtain ⟨dn, hdn⟩ : ∃ dn : Nat, dOf N = dn := ⟨(dOf N).toNat, by omega⟩
      obtain ⟨wn, hwn⟩ : ∃ wn : Nat, wdOf N = wn := ⟨(wdOf N).toNat, by unfold wdOf; omega⟩
      have hw6 : wn ≤ 6 := by unfold wdOf at hwn; omega
      have hNb : -811000 ≤ N ∧ N ≤ 7000000 := by omega
      have hyb : -100000 ≤ yy ∧ yy ≤ 100000 := by rw [hyy] at hyi; unfold ys at hyi; omega
      have hmb : 1 ≤ mn ∧ mn ≤ 12 := by omega
      have hdb : 1 ≤ dn ∧ dn ≤ 31 := by omega
      have HTM := Lib.hid (fun w1 => tomorrow_any N w1 ⟨by omega, by omega⟩)
      unfold dateA at HTM
      rw [hyy, hmn, hdn] at HTM
      have HWD := Lib.hid (fun w1 => weekday_any N w1 ⟨by omega, by omega⟩)
      rw [hwn] at HWD
      have hdf : dfit st f N = (f 4 mn && dayFits st f dn wn) := by unfold dfit; rw [hmn, hdn, hwn]; simp
      clear p1 p2 p3 p4 hyi hml
      have hfw : FldAt wr w.heap.size st f := HF.out.below wrh HF.out.lt
      have c4 : wr.cell? ⟨w.heap.size, 257 + mn, none⟩ = some (.bool (f 4 mn)) := hfw.val 4 mn (by omega) (by omega)
      have i1 : (mn : Int) < 63 := by omega
      by_cases cl : yy ≤ last
      · have hCN : N < C := HC.out N (by rw [hyy]; exact cl)
        by_cases ct : 86400 * N < til
        · obtain ⟨p, hp⟩ : ∃ p, f 4 mn = p := ⟨_, rfl⟩
          rw [hp] at c4 hdf
          cases p
          case false =>
            have hno : dfit st f N = false := by rw [hdf]; rfl
            have hnoH := Lib.hid hno
            clear hdf hp hno
            obtain ⟨-, ⟨k0, k1, k2⟩, f0, f1, f2⟩ := wrd
            rw [hyy] at k0
            rw [hmn] at k1
            rw [hdn] at k2
            have wrd := HWR.out.2.2
            go_wp2_with fail
            go_region
            obtain ⟨X1, hX1⟩ : ∃ X1, wr.drew = X1 := ⟨_, rfl⟩
            have X1h : Below W.heap.size W X1 := by rw [← hX1]; exact wrh.drew
            have X1d : DayAt X1 b N := by rw [← hX1]; exact wrd.below (Below.refl _ _).drew
            rw [hX1]
            clear hX1 wrd k0 k1 k2 f0 f1 f2 c4 hfw
            obtain ⟨-, ⟨k0, k1, k2⟩, f0, f1, f2⟩ := X1d
            rw [hyy] at k0
            rw [hmn] at k1
            rw [hdn] at k2
            go_wp2_with (go_at_call 119; refine (HTM.out _).mono ?_; rintro x Y ⟨rfl, hbY⟩; obtain ⟨⟨y0, y1, y2⟩, ⟨e0, e1, e2⟩, hbXY, hltY⟩ := fresh3 hbY)
            refine ⟨⟨N + 1, 0, X1.heap.size, rfl, rfl, rfl, by omega, by omega, .inl (by have := hCN; omega), Lib.hid (NoL.day HNO.out (.inl hnoH.out)), Lib.hid (by have := HLE.out; omega), Lib.hid ⟨?_, X1h.size, dayAt_set hltY ⟨_, y0⟩ ⟨_, y1⟩ ⟨_, y2⟩ e0 e1 e2⟩⟩, by simp [intOf]; omega⟩
            exact Time2.below_set3 (X1h.trans (hbXY.mono X1h.size)) X1h.size
          case true =>
            obtain ⟨q, hq⟩ : ∃ q, dayFits st f dn wn = q := ⟨_, rfl⟩
            have HDN := Lib.hid (fun w1 => HDF.out yy (mn : Int) dn wn w1 (by omega) (by omega))
            rw [hq] at HDN hdf
            have HKS : Hid (∀ X, Below wr.heap.size wr X → X.cell? ⟨b, 0, none⟩ = some (.int .i64 yy) ∧ X.cell? ⟨b, 1, none⟩ = some (.int .i64 (mn : Int)) ∧ X.cell? ⟨b, 2, none⟩ = some (.int .i64 (dn : Int)) ∧ X.cell? ⟨w.heap.size, 257 + mn, none⟩ = some (.bool true) ∧ (load39 (.pointer (some ⟨w.heap.size, 0, none⟩))).run Tryz.prog X = .ok (.agg (fldArr st f)) X) := Lib.hid (fun X hX => by
              have h1 := (wrd.below hX).2.1
              rw [hyy, hmn, hdn] at h1
              have h2 := hfw.below hX hfw.lt
              have h3 := h2.val 4 mn (by omega) (by omega)
              rw [hp] at h3
              exact ⟨h1.1, h1.2.1, h1.2.2, h3, load39_run h2⟩)
            obtain ⟨k0, k1, k2, k4, k5⟩ := HKS.out _ (Below.refl _ _)
            clear hp
            go_wp2_with fail
            go_region_held3 (fun X => X.cell? ⟨b, 0, none⟩ = some (.int .i64 yy) ∧ X.cell? ⟨b, 1, none⟩ = some (.int .i64 (mn : Int)) ∧ X.cell? ⟨b, 2, none⟩ = some (.int .i64 (dn : Int)) ∧ X.cell? ⟨w.heap.size, 257 + mn, none⟩ = some (.bool true) ∧ (load39 (.pointer (some ⟨w.heap.size, 0, none⟩))).run Tryz.prog X = .ok (.agg (fldArr st f)) X) (exact HKS.out _ (by repeat (first | exact Below.refl _ _ | assumption | refine Below.drew ?_)))
              ((first
                | (go_at_call 79; (with_reducible refine (HWD.out _).mono ?_); rintro e w4 ⟨rfl, rfl⟩)
                | (go_at_call 120; (with_reducible refine (HDN.out _).mono ?_); rintro e w5 ⟨rfl, hb5⟩; (have hb6 := undrew hb5))))
            have w5h : Below W.heap.size W w5 := wrh.trans (hb6.mono wrh.size)
            have w5d : DayAt w5 b N := wrd.below hb6
            clear hb5 hb6 HKS k0 k1 k2 k4 k5
            cases q
            case false =>
              have hno : dfit st f N = false := by rw [hdf]; rfl
              have hnoH := Lib.hid hno
              clear hdf hno wrd hfw c4
              obtain ⟨-, ⟨k0, k1, k2⟩, f0, f1, f2⟩ := w5d
              rw [hyy] at k0
              rw [hmn] at k1
              rw [hdn] at k2
              go_wp2_with (go_at_call 119; refine (HTM.out _).mono ?_; rintro x Y ⟨rfl, hbY⟩; obtain ⟨⟨y0, y1, y2⟩, ⟨e0, e1, e2⟩, hbXY, hltY⟩ := fresh3 hbY)
              refine ⟨⟨N + 1, 0, w5.heap.size, rfl, rfl, rfl, by omega, by omega, .inl (by have := hCN; omega), Lib.hid (NoL.day HNO.out (.inl hnoH.out)), Lib.hid (by have := HLE.out; omega), Lib.hid ⟨?_, w5h.size, dayAt_set hltY ⟨_, y0⟩ ⟨_, y1⟩ ⟨_, y2⟩ e0 e1 e2⟩⟩, by simp [intOf]; omega⟩
              exact Time2.below_set3 (w5h.trans (hbXY.mono w5h.size)) w5h.size
            case true =>
              have hyes : dfit st f N = true := by rw [hdf]; rfl
              have HYES := Lib.hid hyes
              clear hdf hyes wrd hfw c4
              go_upto_if 53 with (go_at_call 121; refine (HTI.out s hs _).mono ?_; rintro x X1 ⟨⟨T, rfl, hT⟩, hb7⟩)
              have X1h := w5h.trans (hb7.mono w5h.size)
              have X1d := w5d.below hb7
              rcases hT with ⟨e, rfl, e1, e2, e3, e4⟩ | ⟨rfl, hn⟩
              · by_cases hlt : 86400 * N + (e : Int) < til
                · go_wp2_with fail
                  exact bodyPost_ret (v := .tuple #[.int .i64 (86400 * N + (e : Int)), .bool true]) (by simp [results, Tryz.results88, go_sem, *]) rfl ⟨⟨_, _, rfl, .inl ⟨rfl, by have := HLE.out; omega, hlt, hit_is e2 HYES.out e3, by rw [show (86400 * N + (e : Int)) / 86400 = N by omega, hyy]; exact cl, NoL.hit HNO.out e1 e2 e4⟩⟩, HB.out.trans (X1h.mono HB.out.size)⟩
                · go_wp2_with fail
                  exact bodyPost_ret (v := .tuple #[.int .i64 (86400 * N + (e : Int)), .bool false]) (by simp [results, Tryz.results88, go_sem, *]) rfl ⟨⟨_, _, rfl, .inr ⟨rfl, fun y y1 y2 y3 => NoL.hit HNO.out e1 e2 e4 y y1 (by omega)⟩⟩, HB.out.trans (X1h.mono HB.out.size)⟩
              · have hnH := Lib.hid hn
                clear hn
                obtain ⟨-, ⟨k0, k1, k2⟩, f0, f1, f2⟩ := X1d
                rw [hyy] at k0
                rw [hmn] at k1
                rw [hdn] at k2
                go_wp2_with (go_at_call 119; refine (HTM.out _).mono ?_; rintro x Y ⟨rfl, hbY⟩; obtain ⟨⟨y0, y1, y2⟩, ⟨e0, e1, e2⟩, hbXY, hltY⟩ := fresh3 hbY)
                refine ⟨⟨N + 1, 0, X1.heap.size, rfl, rfl, rfl, by omega, by omega, .inl (by have := hCN; omega), Lib.hid (NoL.day HNO.out (.inr hnH.out)), Lib.hid (by have := HLE.out; omega), Lib.hid ⟨?_, X1h.size, dayAt_set hltY ⟨_, y0⟩ ⟨_, y1⟩ ⟨_, y2⟩ e0 e1 e2⟩⟩, by simp [intOf]; omega⟩
                exact Time2.below_set3 (X1h.trans (hbXY.mono X1h.size)) X1h.size
        · obtain ⟨-, ⟨k0, k1, k2⟩, f0, f1, f2⟩ := wrd
          rw [hyy] at k0
          rw [hmn] at k1
          rw [hdn] at k2
          go_wp2_with fail
          exact bodyPost_ret (v := .tuple #[.int .i64 0, .bool false]) (by simp [results, Tryz.results88, go_sem, *]) rfl ⟨⟨_, _, rfl, .inr ⟨rfl, fun y y1 y2 y3 => HNO.out y y1 (by omega)⟩⟩, HB.out.trans (wrh.mono HB.out.size)⟩
      · obtain ⟨-, ⟨k0, k1, k2⟩, f0, f1, f2⟩ := wrd
        rw [hyy] at k0
        rw [hmn] at k1
        rw [hdn] at k2
        go_wp2_with fail
        exact bodyPost_ret (v := .tuple #[.int .i64 0, .bool false]) (by simp [results, Tryz.results88, go_sem, *]) rfl ⟨⟨_, _, rfl, .inr ⟨rfl, fun y y1 y2 y3 => HNO.out y y1 (by
          have h1 : y / 86400 < N := by
            by_cases c : N ≤ y / 86400
            · have := year_mono c
              omega
            · omega
          omega)⟩⟩, HB.out.trans (wrh.mono HB.out.size)⟩
end Go.Proofs.YtmnjmhlodbifjaaGreatDoor.Local
namespace Go.Proofs.YtmnjmhlodbifjaaGreatDoor.Change
open Go Go.RowKit Go.Proofs.YtmnjmhlodbifjaaGreatDoor.Cal Go.Proofs.YtmnjmhlodbifjaaGreatDoor.Off Go.Proofs.YtmnjmhlodbifjaaGreatDoor.TimeNum Go.Proofs.YtmnjmhlodbifjaaGreatDoor.Lookup Go.Proofs.YtmnjmhlodbifjaaGreatDoor.Zone Go.Proofs.YtmnjmhlodbifjaaGreatDoor.Zone2 Go.Proofs.YtmnjmhlodbifjaaGreatDoor.DayFits
set_option linter.unusedVariables false
def ChangeIs (r : Raw) (s : Int) (x : Int) (b : Bool) : Prop :=
  (b = true ∧ s < x ∧ (∃ i, i < r.nw ∧ r.wh i = x) ∧ ∀ i, i < r.nw → r.wh i ≤ s ∨ x ≤ r.wh i) ∨ (b = false ∧ ∀ i, i < r.nw → r.wh i ≤ s)
def ChangeRes (r : Raw) (s : Int) (w : World) (e : Ending) (w' : World) : Prop := (∃ x b, e = .returned (.tuple #[.int .i64 x, .bool b]) ∧ ChangeIs r s x b) ∧ Below w.heap.size w w'
set_option maxHeartbeats 1000000 in
theorem change_any (r : Raw) (co cd cw ci : Nat) (s : Int) (w : World) (h : r.At w) (hok : r.Ok) :
    Calls Tryz.prog 87 #[.agg #[.slice r.ao r.no co, .slice r.ad r.nd cd, .slice r.aw r.nw cw, .slice r.ai r.ni ci], .int .i64 s] w (ChangeRes r s w) := by
  obtain ⟨ao, ad, aw, ai, no, nd, nw, ni, o, d, wh, ix⟩ := r
  obtain ⟨ro, rd, rw', ri, -, -, lw, -, bo, bw, bi⟩ := h
  simp only at *
  have HA : Hid (∀ i j, i ≤ j → j < nw → wh i ≤ wh j) := Lib.hid (fun i j hij hj => by
    rcases hok with ⟨-, -, z2, -⟩ | ⟨hg, -, -, -⟩
    · simp only at z2; omega
    · exact hg.asc' hij hj)
  have hbw : Below w.heap.size w (w.alloc (.cells #[.slice ao no co, .slice ad nd cd, .slice aw nw cw, .slice ai ni ci] 43)) := (Below.refl _ _).alloc (Nat.le_refl _) _
  have HW := Lib.hid (rw'.below hbw)
  have HB := Lib.hid hbw
  clear hok ro rd rw' ri bo bi hbw
  have HLW := Lib.hid lw
  clear bw
  go_enter Tryz.func87, Tryz.ntmps87
  go_wp2
  go_loop [11] (fun i => ∃ k : Nat, k ≤ nw ∧ i = .int .i64 (k : Int) ∧ Hid (∀ j, j < k → wh j ≤ s)) (fun i => nw - (intOf i).toNat)
  case atStart => exact ⟨0, Nat.zero_le _, rfl, Lib.hid (fun j hj => absurd hj (Nat.not_lt_zero j))⟩
  case round =>
    obtain ⟨k, hk, rfl, HK⟩ := hrel
    by_cases hlt : k < nw
    · obtain ⟨x, hx, hc⟩ := HW.out k hlt
      subst hx
      by_cases hs : s < wh k
      · go_wp2
        exact bodyPost_ret (v := .tuple #[.int .i64 (wh k), .bool true]) (by simp [results, Tryz.results87, go_sem, *]) rfl ⟨⟨_, _, rfl, .inl ⟨rfl, hs, ⟨k, hlt, rfl⟩, fun i hi => by
          by_cases c : i < k
          · exact .inl (HK.out i c)
          · exact .inr (HA.out k i (by omega) hi)⟩⟩, HB.out⟩
      · go_wp2
        refine ⟨⟨k + 1, by omega, by go_num, Lib.hid (fun j hj => by
          by_cases c : j < k
          · exact HK.out j c
          · obtain rfl : j = k := by omega
            omega)⟩, by simp [intOf]; omega⟩
    · obtain rfl : k = nw := by omega
      have hd : decide ((k : Int) < (k : Int)) = false := by simp
      go_wp2
      exact bodyPost_ret (v := .tuple #[.int .i64 0, .bool false]) (by simp [results, Tryz.results87, go_sem, *]) rfl ⟨⟨_, _, rfl, .inr ⟨rfl, HK.out⟩⟩, HB.out⟩
theorem offK_same (o : Nat → Int) (wh : Nat → Int) (ix : Nat → Nat) (y z : Int) : ∀ k, (∀ i, i < k → (wh i ≤ y ↔ wh i ≤ z)) → offK o wh ix y k = offK o wh ix z k := by
  intro k
  induction k with
  | zero => intro _; rfl
  | succ k ih =>
    intro h
    have h1 := h k (by omega)
    unfold offK
    by_cases c : wh k ≤ y
    · rw [if_pos c, if_pos (h1.1 c)]
    · rw [if_neg c, if_neg (fun c2 => c (h1.2 c2)), ih (fun i hi => h i (by omega))]
theorem off_same (r : Raw) {y z : Int} (hyz : y ≤ z) (h : ∀ i, i < r.nw → r.wh i ≤ y ∨ z < r.wh i) : Raw.off r y = Raw.off r z := by
  unfold Raw.off ZoneD.off
  refine offK_same _ _ _ _ _ _ (fun i hi => ?_)
  have : r.toD.wh i = r.wh i := rfl
  rw [this]
  rcases h i hi with c | c
  · exact ⟨fun _ => by omega, fun _ => c⟩
  · exact ⟨fun c2 => by omega, fun c2 => by omega⟩
theorem ChangeIs.before {r : Raw} {s x y : Int} (h : ChangeIs r s x true) (h1 : s ≤ y) (h2 : y < x) : Raw.off r y = Raw.off r s := by
  rcases h with ⟨-, h3, -, h4⟩ | ⟨h3, -⟩
  · refine (off_same r h1 (fun i hi => ?_)).symm
    rcases h4 i hi with c | c
    · exact .inl c
    · exact .inr (by omega)
  · cases h3
theorem ChangeIs.after {r : Raw} {s x y : Int} (h : ChangeIs r s x false) (h1 : s ≤ y) : Raw.off r y = Raw.off r s := by
  rcases h with ⟨h3, -⟩ | ⟨-, h4⟩
  · cases h3
  · exact (off_same r h1 (fun i hi => .inl (h4 i hi))).symm
end Go.Proofs.YtmnjmhlodbifjaaGreatDoor.Change
namespace Go.Proofs.YtmnjmhlodbifjaaGreatDoor.NextJ
open Go Go.RowKit Go.Proofs.YtmnjmhlodbifjaaGreatDoor.TimeNum Go.Proofs.YtmnjmhlodbifjaaGreatDoor.Lookup Go.Proofs.YtmnjmhlodbifjaaGreatDoor.Time Go.Proofs.YtmnjmhlodbifjaaGreatDoor.Time2 Go.Proofs.YtmnjmhlodbifjaaGreatDoor.DayM Go.Proofs.YtmnjmhlodbifjaaGreatDoor.Moment Go.Proofs.YtmnjmhlodbifjaaGreatDoor.Cal Go.Proofs.YtmnjmhlodbifjaaGreatDoor.Off Go.Proofs.YtmnjmhlodbifjaaGreatDoor.Search Go.Proofs.YtmnjmhlodbifjaaGreatDoor.NextP Go.Proofs.YtmnjmhlodbifjaaGreatDoor.NextA Go.Proofs.YtmnjmhlodbifjaaGreatDoor.NextB Go.Proofs.YtmnjmhlodbifjaaGreatDoor.NextC Go.Proofs.YtmnjmhlodbifjaaGreatDoor.Zone Go.Proofs.YtmnjmhlodbifjaaGreatDoor.Zone2 Go.Proofs.YtmnjmhlodbifjaaGreatDoor.DayFits Go.Proofs.YtmnjmhlodbifjaaGreatDoor.NextI
set_option linter.unusedVariables false
def U6 (se mi hr dom mon dow : Int) : Prop := U64 se ∧ U64 mi ∧ U64 hr ∧ U64 dom ∧ U64 mon ∧ U64 dow
structure Asked (off : Int → Int) (S : Sched) (s : Int) (Y5 : Int) (o : Option Int) : Prop where
  ans : IsNext off S (s + 1) Y5 o
  low : -62135596800 ≤ s
  top : s ≤ 300000000000
  year : yOf (day off (s + 1)) + 5 = Y5
  min : off (s + 1) % 60 = 0
  win : ∃ A B hi, Plain off A B ∧ A + 3456000 ≤ s + 1 ∧ hi + 172800 ≤ B ∧ s + 1 ≤ hi ∧ hi ≤ 269000000000 ∧ EndOf off Y5 hi o
theorem time_any (sb : Nat) (se mi hr dom mon dow nano s : Int) (loc : Option Addr) (off : Int → Int) (Y5 : Int) (o : Option Int) (w : World)
    (hs : SpecAt w sb se mi hr dom mon dow) (hu : U6 se mi hr dom mon dow) (n0 : 0 ≤ nano) (n1 : nano < 1000000000) (hc : Clock w loc off) (ha : Asked off (sched se mi hr dom mon dow) s Y5 o) :
    Calls Tryz.prog 189 #[.pointer (some ⟨sb, 0, none⟩), .agg #[.int .u64 nano, .int .i64 (s + 62135596800), .pointer loc]] w fun x w' => x = .returned (timeV loc o) ∧ Below w.heap.size w w' := by
  obtain ⟨A, B, hi, hP, hA, hB, hf, ht, he⟩ := ha.win
  obtain ⟨u1, u2, u3, u4, u5, u6⟩ := hu
  refine (next_any sb se mi hr dom mon dow nano s loc off A B hi Y5 w hs u1 u2 u3 u4 u5 u6 n0 n1 hc (ha.ans.ctx he hP hA hB hf) (by have := ha.low; omega) ht ha.year ha.min).mono ?_
  intro x w' hx
  exact ha.ans.post he hP hA hB hx
theorem Asked.bound {off : Int → Int} {S : Sched} {s Y5 : Int} {o : Option Int} (ha : Asked off S s Y5 o) : ∀ x, o = some x → -62135596800 < x ∧ x ≤ 270000000000 := by
  obtain ⟨A, B, hi, hP, hA, hB, hf, ht, he⟩ := ha.win
  rintro x rfl
  have h1 := ha.ans.1
  have h2 := ha.low
  have e : hi = x := he
  omega
theorem set2 {W X : World} (h : Below W.heap.size W X) (x y : Value) : Below W.heap.size W ((X.setCell ⟨W.heap.size, 0, none⟩ x).setCell ⟨W.heap.size, 1, none⟩ y) := (h.setCell (p := ⟨W.heap.size, 0, none⟩) (Nat.le_refl _) _).setCell (p := ⟨W.heap.size, 1, none⟩) (Nat.le_refl _) _
theorem nil_next (a : Addr) (w : World) : (nilAhead 403 97 (.pointer (some a)) "Next").run Tryz.prog w = .ok (some false) w := by kernel_rfl
theorem meth_next (a : Addr) (w : World) : (method 403 97 (.pointer (some a)) "Next").run Tryz.prog w = .ok (189, .pointer (some a)) w := by kernel_rfl
set_option maxHeartbeats 2000000 in
set_option maxRecDepth 100000 in
theorem next_any (r : Raw) (co cd cw ci : Nat) (d se mi hr dom mon dow s nano Y5 : Int) (o : Option Int) (w : World) (h : r.At w) (hok : r.Ok) (hu : U6 se mi hr dom mon dow) (n0 : 0 ≤ nano) (n1 : nano < 1000000000)
    (ha : Asked (Raw.off r) (sched se mi hr dom mon dow) s Y5 o) :
    Calls Tryz.prog 15 #[.agg #[.bool false, .int .i64 d, .int .u64 se, .int .u64 mi, .int .u64 hr, .int .u64 dom, .int .u64 mon, .int .u64 dow], .agg #[.int .i64 s, .int .i64 nano], .agg #[.slice r.ao r.no co, .slice r.ad r.nd cd, .slice r.aw r.nw cw, .slice r.ai r.ni ci]] w fun x w' => x = .returned (ansV o) ∧ Below w.heap.size w w' := by
  obtain ⟨W0, hW0⟩ : ∃ W0, (((w.alloc (.cells #[.bool false, .int .i64 d, .int .u64 se, .int .u64 mi, .int .u64 hr, .int .u64 dom, .int .u64 mon, .int .u64 dow] 28)).alloc (.cells #[.int .i64 s, .int .i64 nano] 34)).alloc (.cells #[.slice r.ao r.no co, .slice r.ad r.nd cd, .slice r.aw r.nw cw, .slice r.ai r.ni ci] 43)) = W0 := ⟨_, rfl⟩
  have hsz : W0.heap.size = w.heap.size + 3 := by rw [← hW0]; simp
  have hb0 : Below w.heap.size w W0 := by rw [← hW0]; exact (((Below.refl _ _).alloc (Nat.le_refl _) _).alloc (by simp) _).alloc (by simp; omega) _
  have HKS : Hid (∀ X, Below W0.heap.size W0 X → X.cell? ⟨w.heap.size, 0, none⟩ = some (.bool false) ∧ X.cell? ⟨w.heap.size, 1, none⟩ = some (.int .i64 d) ∧ X.cell? ⟨w.heap.size, 2, none⟩ = some (.int .u64 se) ∧ X.cell? ⟨w.heap.size, 3, none⟩ = some (.int .u64 mi) ∧ X.cell? ⟨w.heap.size, 4, none⟩ = some (.int .u64 hr) ∧ X.cell? ⟨w.heap.size, 5, none⟩ = some (.int .u64 dom) ∧ X.cell? ⟨w.heap.size, 6, none⟩ = some (.int .u64 mon) ∧ X.cell? ⟨w.heap.size, 7, none⟩ = some (.int .u64 dow) ∧ X.cell? ⟨w.heap.size + 1, 0, none⟩ = some (.int .i64 s) ∧ X.cell? ⟨w.heap.size + 1, 1, none⟩ = some (.int .i64 nano) ∧ X.cell? ⟨w.heap.size + 1 + 1, 0, none⟩ = some (.slice r.ao r.no co) ∧ X.cell? ⟨w.heap.size + 1 + 1, 1, none⟩ = some (.slice r.ad r.nd cd) ∧ X.cell? ⟨w.heap.size + 1 + 1, 2, none⟩ = some (.slice r.aw r.nw cw) ∧ X.cell? ⟨w.heap.size + 1 + 1, 3, none⟩ = some (.slice r.ai r.ni ci)) := Lib.hid (fun X hX => by
    have e1 : (w.alloc (.cells #[.bool false, .int .i64 d, .int .u64 se, .int .u64 mi, .int .u64 hr, .int .u64 dom, .int .u64 mon, .int .u64 dow] 28)).heap.size = w.heap.size + 1 := by simp
    have e2 : ((w.alloc (.cells #[.bool false, .int .i64 d, .int .u64 se, .int .u64 mi, .int .u64 hr, .int .u64 dom, .int .u64 mon, .int .u64 dow] 28)).alloc (.cells #[.int .i64 s, .int .i64 nano] 34)).heap.size = w.heap.size + 1 + 1 := by simp
    have h3 : Below (((w.alloc (.cells #[.bool false, .int .i64 d, .int .u64 se, .int .u64 mi, .int .u64 hr, .int .u64 dom, .int .u64 mon, .int .u64 dow] 28)).alloc (.cells #[.int .i64 s, .int .i64 nano] 34)).alloc (.cells #[.slice r.ao r.no co, .slice r.ad r.nd cd, .slice r.aw r.nw cw, .slice r.ai r.ni ci] 43)).heap.size (((w.alloc (.cells #[.bool false, .int .i64 d, .int .u64 se, .int .u64 mi, .int .u64 hr, .int .u64 dom, .int .u64 mon, .int .u64 dow] 28)).alloc (.cells #[.int .i64 s, .int .i64 nano] 34)).alloc (.cells #[.slice r.ao r.no co, .slice r.ad r.nd cd, .slice r.aw r.nw cw, .slice r.ai r.ni ci] 43)) X := by rw [hW0]; exact hX
    have h2 : Below ((w.alloc (.cells #[.bool false, .int .i64 d, .int .u64 se, .int .u64 mi, .int .u64 hr, .int .u64 dom, .int .u64 mon, .int .u64 dow] 28)).alloc (.cells #[.int .i64 s, .int .i64 nano] 34)).heap.size ((w.alloc (.cells #[.bool false, .int .i64 d, .int .u64 se, .int .u64 mi, .int .u64 hr, .int .u64 dom, .int .u64 mon, .int .u64 dow] 28)).alloc (.cells #[.int .i64 s, .int .i64 nano] 34)) X := ((Below.refl _ _).alloc (Nat.le_refl _) _).trans (h3.mono (by simp))
    have h1 : Below (w.alloc (.cells #[.bool false, .int .i64 d, .int .u64 se, .int .u64 mi, .int .u64 hr, .int .u64 dom, .int .u64 mon, .int .u64 dow] 28)).heap.size (w.alloc (.cells #[.bool false, .int .i64 d, .int .u64 se, .int .u64 mi, .int .u64 hr, .int .u64 dom, .int .u64 mon, .int .u64 dow] 28)) X := ((Below.refl _ _).alloc (Nat.le_refl _) _).trans (h2.mono (by simp))
    have b0 := cells_after h2 0 _ rfl
    have b1 := cells_after h2 1 _ rfl
    have c0 := cells_after h3 0 _ rfl
    have c1 := cells_after h3 1 _ rfl
    have c2 := cells_after h3 2 _ rfl
    have c3 := cells_after h3 3 _ rfl
    rw [e1] at b0 b1
    rw [e2] at c0 c1 c2 c3
    exact ⟨cells_after h1 0 _ rfl, cells_after h1 1 _ rfl, cells_after h1 2 _ rfl, cells_after h1 3 _ rfl, cells_after h1 4 _ rfl, cells_after h1 5 _ rfl, cells_after h1 6 _ rfl, cells_after h1 7 _ rfl, b0, b1, c0, c1, c2, c3⟩)
  have HL := Lib.hid (fun w1 (hb : Below w.heap.size w w1) => impl_location r co cd cw ci w1 (h.below hb) hok)
  have HM := Lib.hid (fun (b : Nat) w1 (hz : ZoneAt w1 b (Raw.off r)) => moment_any s nano b (Raw.off r) w1 hz n0 n1 (by have := ha.low; omega) (by have := ha.top; omega))
  have HN := Lib.hid (fun (sb : Nat) (loc : Option Addr) w1 (hs : SpecAt w1 sb se mi hr dom mon dow) (hc : Clock w1 loc (Raw.off r)) => time_any sb se mi hr dom mon dow nano s loc (Raw.off r) Y5 o w1 hs hu n0 n1 hc ha)
  have HA := Lib.hid (fun (loc : Option Addr) w1 => answer_any o loc w1 ha.bound)
  have HB0 := Lib.hid hb0
  have HSZ := Lib.hid hsz
  obtain ⟨av, hav⟩ : ∃ av, ansV o = av := ⟨_, rfl⟩
  obtain ⟨x0, p0, hop⟩ : ∃ x0 p0, ansV o = .tuple #[.agg #[.int .i64 x0, .int .i64 0], .bool p0] := by
    cases o with
    | none => exact ⟨0, false, rfl⟩
    | some x => exact ⟨x, true, rfl⟩
  rw [hop] at HA
  rw [hop]
  clear hsz hb0 hav hop h hok hu n0 n1 ha
  go_enter Tryz.func15, Tryz.ntmps15
  go_wp2_with fail
  clear hW0
  obtain ⟨V, hV⟩ : ∃ V, W0.alloc (.cells #[.int .i64 0, .int .i64 0] 34) = V := ⟨_, rfl⟩
  have hbV : Below W0.heap.size W0 V := by rw [← hV]; exact (Below.refl _ _).alloc (Nat.le_refl _) _
  have hsV : W0.heap.size < V.heap.size := by rw [← hV]; simp
  have HD : Hid (∀ X, Below V.heap.size V X → X.cell? ⟨W0.heap.size, 0, none⟩ = some (.int .i64 0) ∧ X.cell? ⟨W0.heap.size, 1, none⟩ = some (.int .i64 0) ∧ X.frozen? ⟨W0.heap.size, 0, none⟩ = false ∧ X.frozen? ⟨W0.heap.size, 1, none⟩ = false) := Lib.hid (fun X hX => by
    rw [← hV] at hX
    exact ⟨cells_after hX 0 _ rfl, cells_after hX 1 _ rfl, free_after hX 0, free_after hX 1⟩)
  have HBV := Lib.hid hbV
  have hnil := nil_next
  have hmeth := meth_next
  have HSV := Lib.hid hsV
  rw [hV]
  clear hV hbV hsV
  go_region_held3 (fun X => X.cell? ⟨w.heap.size, 0, none⟩ = some (.bool false) ∧ X.cell? ⟨w.heap.size, 1, none⟩ = some (.int .i64 d) ∧ X.cell? ⟨w.heap.size, 2, none⟩ = some (.int .u64 se) ∧ X.cell? ⟨w.heap.size, 3, none⟩ = some (.int .u64 mi) ∧ X.cell? ⟨w.heap.size, 4, none⟩ = some (.int .u64 hr) ∧ X.cell? ⟨w.heap.size, 5, none⟩ = some (.int .u64 dom) ∧ X.cell? ⟨w.heap.size, 6, none⟩ = some (.int .u64 mon) ∧ X.cell? ⟨w.heap.size, 7, none⟩ = some (.int .u64 dow) ∧ X.cell? ⟨w.heap.size + 1, 0, none⟩ = some (.int .i64 s) ∧ X.cell? ⟨w.heap.size + 1, 1, none⟩ = some (.int .i64 nano) ∧ X.cell? ⟨w.heap.size + 1 + 1, 0, none⟩ = some (.slice r.ao r.no co) ∧ X.cell? ⟨w.heap.size + 1 + 1, 1, none⟩ = some (.slice r.ad r.nd cd) ∧ X.cell? ⟨w.heap.size + 1 + 1, 2, none⟩ = some (.slice r.aw r.nw cw) ∧ X.cell? ⟨w.heap.size + 1 + 1, 3, none⟩ = some (.slice r.ai r.ni ci)) (exact HKS.out _ (by repeat (first | exact Below.refl _ _ | assumption | exact HBV.out | refine Below.drew ?_ | refine set2 ?_ _ _)))
    ((first
      | (go_at_call 35; (with_reducible refine (schedule_any _ _ _ _ _ _ _ _).mono ?_); rintro x w1 ⟨sb, ⟨rfl, hsp⟩, hb⟩; (have hv1 := undrew hb); (have hb1 := HBV.out.trans (hv1.mono (Nat.le_of_lt HSV.out))); clear hb)
      | (go_at_call 37; (with_reducible refine (HL.out _ (HB0.out.trans (hb1.mono HB0.out.size))).mono ?_); rintro x w2 ⟨lb, ⟨rfl, hz⟩, hb⟩; (have hv2 := hv1.trans (hb.mono hv1.size)); (have hb2 := HBV.out.trans (hv2.mono (Nat.le_of_lt HSV.out))); (have hsp2 := hsp.below hb); clear hb)
      | (go_at_call 36; (with_reducible refine (HM.out lb _ hz).mono ?_); rintro x w3 ⟨loc, ⟨rfl, hcl⟩, hb⟩; (have hv3 := hv2.trans (hb.mono hv2.size)); (have hb3 := HBV.out.trans (hv3.mono (Nat.le_of_lt HSV.out))); (have hsp3 := hsp2.below hb); clear hb)
      | (go_at_call 189; (with_reducible refine (HN.out sb loc _ hsp3 hcl).mono ?_); rintro x w4 ⟨rfl, hb⟩; (have hv4 := hv3.trans (hb.mono hv3.size)); (have hb4 := HBV.out.trans (hv4.mono (Nat.le_of_lt HSV.out))); clear hb)
      | (go_at_call 34; (with_reducible refine (HA.out loc _).mono ?_); rintro x w5 ⟨rfl, hb⟩; (have hv5 := hv4.trans (hb.mono hv4.size)); (have hb5 := HBV.out.trans (hv5.mono (Nat.le_of_lt HSV.out))); (obtain ⟨d0, d1, g0, g1⟩ := HD.out _ hv5); clear hb)))
  all_goals
    go_wp2_with fail
    refine bodyPost_ret (v := .tuple #[.agg #[.int .i64 x0, .int .i64 0], .bool p0]) (by simp [results, Tryz.results15, go_sem, *]) rfl ⟨rfl, ?_⟩
    exact HB0.out.trans ((set2 hb5 _ _).mono HB0.out.size)
end Go.Proofs.YtmnjmhlodbifjaaGreatDoor.NextJ
