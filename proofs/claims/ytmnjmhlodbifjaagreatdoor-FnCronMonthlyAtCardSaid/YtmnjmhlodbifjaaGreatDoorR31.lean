/- The walk of (*SpecSchedule).Next. Conditions: a schedule without a zone of its own; a plain zone in the window. -/
import Derived.Test.YtmnjmhlodbifjaaGreatDoorR30
import Derived.Deep.DeepCutAuto
import Derived.Deep.CutBlock

namespace Go.Proofs.YtmnjmhlodbifjaaGreatDoor.NextC
open Go Go.RowKit Go.Proofs.YtmnjmhlodbifjaaGreatDoor.TimeNum Go.Proofs.YtmnjmhlodbifjaaGreatDoor.Lookup Go.Proofs.YtmnjmhlodbifjaaGreatDoor.Time Go.Proofs.YtmnjmhlodbifjaaGreatDoor.Time2 Go.Proofs.YtmnjmhlodbifjaaGreatDoor.DayM Go.Proofs.YtmnjmhlodbifjaaGreatDoor.Moment Go.Proofs.YtmnjmhlodbifjaaGreatDoor.Cal Go.Proofs.YtmnjmhlodbifjaaGreatDoor.Off Go.Proofs.YtmnjmhlodbifjaaGreatDoor.Search Go.Proofs.YtmnjmhlodbifjaaGreatDoor.NextP Go.Proofs.YtmnjmhlodbifjaaGreatDoor.RegS Go.Proofs.YtmnjmhlodbifjaaGreatDoor.NextA Go.Proofs.YtmnjmhlodbifjaaGreatDoor.NextB
set_option linter.unusedVariables false
def sched (se mi hr dom mon dow : Int) : Sched := ⟨fun m => has mon m, fun d => dayOK dom dow d, fun h => has hr h, fun m => has mi m, fun s => has se s⟩
def tOf (w X : World) : Int := match X.cell? ⟨w.heap.size, 1, none⟩ with | some (.int _ e) => e - 62135596800 | _ => 0
def boolOf : Value → Bool | .bool b => b | _ => false
theorem tOf_at {w X : World} {loc : Option Addr} {t : Int} (h : At w loc X t) : tOf w X = t := by
  unfold tOf
  rw [h.2.1.2.2.1]
  simp only
  omega
def Rel (w : World) (loc : Option Addr) (ol lb : Nat) (off : Int → Int) (S : Sched) (first hi Y5 : Int) (m : Nat) (F : Int → Prop) (v : Value) (X : World) : Prop :=
  ∃ added t, v = .bool added ∧ Hid (NextP.Good off S first hi added t ∧ yr off t ≤ Y5 ∧ mu hi added t ≤ m ∧ F t) ∧ Hid (Hold w loc off ol lb X t)
def RelT (w : World) (loc : Option Addr) (ol lb : Nat) (off : Int → Int) (S : Sched) (first hi Y5 : Int) (m : Nat) (F : Int → Prop) (v : Value) (X : World) : Prop :=
  ∃ t, v = .bool true ∧ Hid (NextP.Good off S first hi true t ∧ yr off t ≤ Y5 ∧ mu hi true t ≤ m ∧ F t) ∧ Hid (Hold w loc off ol lb X t)
def J (w : World) (loc : Option Addr) (sb : Nat) (off : Int → Int) (S : Sched) (first hi Y5 : Int) (a : Act) (X : World) : Prop :=
  ∃ added t ol lb u, a = frame sb w.heap.size (w.heap.size + 1) (some ⟨ol, 0, none⟩) (some ⟨lb, 0, none⟩) added Y5 u ∧ NextP.Good off S first hi added t ∧ Hold w loc off ol lb X t
def jmu (w : World) (hi : Int) (a : Act) (X : World) : Nat := mu hi (boolOf (a.tmps.getD 7 undef)) (tOf w X)
theorem J_of {w : World} {loc : Option Addr} {sb : Nat} {off : Int → Int} {S : Sched} {first hi Y5 : Int} {a : Act} {X : World} (added : Bool) (t : Int) (ol lb : Nat)
    (ha : a = frame sb w.heap.size (w.heap.size + 1) (some ⟨ol, 0, none⟩) (some ⟨lb, 0, none⟩) added Y5 (fun i => a.tmps.getD i undef)) (hg : NextP.Good off S first hi added t) (hh : Hold w loc off ol lb X t) : J w loc sb off S first hi Y5 a X :=
  ⟨added, t, ol, lb, _, ha, hg, hh⟩
theorem jmu_lt {w : World} {loc : Option Addr} {hi : Int} {a : Act} {X : World} {t : Int} {m : Nat} (h : At w loc X t) (hb : a.tmps.getD 7 undef = .bool true) (hm : mu hi true t < m) : jmu w hi a X < m := by
  unfold jmu
  rw [tOf_at h, hb]
  exact hm
theorem up_lt {off : Int → Int} {S : Sched} {first hi : Int} {t r : Int} (hg : NextP.Good off S first hi true r) (h : t < r) : mu hi true r < mu hi true t :=
  mu_lt hg.seen.le (fun _ => h) (fun h => by cases h)
theorem first_le {off : Int → Int} {S : Sched} {first hi : Int} {t r : Int} (hg : NextP.Good off S first hi true r) (h : t - 3200000 < r) : mu hi true r ≤ mu hi false t :=
  Nat.le_of_lt (mu_lt hg.seen.le (fun h => by cases h) (fun _ => h))
def NextPost (w : World) (loc : Option Addr) (off : Int → Int) (S : Sched) (first hi Y5 : Int) (x : Ending) (w' : World) : Prop :=
  ∃ t, Seen off S first hi t ∧ first - 3100000 ≤ t ∧ ((Fit off S t ∧ yr off t ≤ Y5 ∧ x = .returned (.agg #[.int .u64 0, .int .i64 (t + 62135596800), .pointer loc])) ∨ (Y5 < yr off t ∧ x = .returned (.agg #[.int .u64 0, .int .i64 0, .pointer none]))) ∧ Below w.heap.size w w'
theorem scope_again {P : Program} {Q : Exit → Act → World → Prop} {a : Act} {w : World} {c rest : Code} (l : Nat) (J : Act → World → Prop) (μ : Act → World → Nat) (hf : findLabel c l = some (Code.skip.seq rest))
    (pass : ∀ a w, J a w → rest.wp P (Exit.jump l (fun a' w' => J a' w' ∧ μ a' w' < μ a w) Q) a w)
    (first : (∀ a w, J a w → rest.wp P (Exit.jump l J Q) a w) → c.wp P (Exit.jump l J Q) a w) : (Code.scope c).wp P Q a w := by
  refine wp_scope_jumps l J μ hf (first fun a w hJ => Code.wp_mono (fun e a' w' h => ?_) (pass a w hJ)) (fun a w hJ => wp_seq (wp_skip (pass a w hJ)))
  cases e <;> first | exact h | exact ⟨h.1, h.2.1⟩
set_option maxHeartbeats 4000000 in
set_option maxRecDepth 100000 in
theorem next_any (sb : Nat) (se mi hr dom mon dow n t0 : Int) (loc : Option Addr) (off : Int → Int) (A B hi Y5 : Int) (w : World)
    (hs : SpecAt w sb se mi hr dom mon dow) (u1 : U64 se) (u2 : U64 mi) (u3 : U64 hr) (u4 : U64 dom) (u5 : U64 mon) (u6 : U64 dow)
    (n0 : 0 ≤ n) (n1 : n < 1000000000) (hc : Clock w loc off) (hx : Ctx off (sched se mi hr dom mon dow) A B (t0 + 1) hi Y5)
    (b0 : -62135596801 ≤ t0) (b1 : hi ≤ 269000000000) (hY : yOf (day off (t0 + 1)) + 5 = Y5) (h60 : off (t0 + 1) % 60 = 0) :
    Calls Tryz.prog 189 #[.pointer (some ⟨sb, 0, none⟩), .agg #[.int .u64 n, .int .i64 (t0 + 62135596800), .pointer loc]] w (NextPost w loc off (sched se mi hr dom mon dow) (t0 + 1) hi Y5) := by
  obtain ⟨S, hS⟩ : ∃ S, sched se mi hr dom mon dow = S := ⟨_, rfl⟩
  obtain ⟨first, hfi⟩ : ∃ first, t0 + 1 = first := ⟨_, rfl⟩
  rw [hS, hfi] at hx
  rw [hfi] at hY h60
  have HBd : Hid (∀ {added : Bool} {t : Int}, NextP.Good off S first hi added t → Bd t) := Lib.hid (fun h => by have := h.low; have := h.seen.le; unfold Bd; omega)
  have HC := Lib.hid hc
  have HX := Lib.hid hx
  have HS := Lib.hid hs
  have HU := Lib.hid (And.intro u1 (And.intro u2 (And.intro u3 (And.intro u4 (And.intro u5 u6)))))
  have HY := Lib.hid hY
  have H60 := Lib.hid h60
  have HFI := Lib.hid hfi
  have HSS := Lib.hid hS
  clear hs hc hx hY h60 u1 u2 u3 u4 u5 u6
  obtain ⟨W, hW⟩ : ∃ W, (w.alloc (.cells #[.int .u64 n, .int .i64 (t0 + 62135596800), .pointer loc] 86)).alloc (.cells #[.int .u64 0, .int .i64 0, .pointer none] 86) = W := ⟨_, rfl⟩
  go_enter Tryz.func189, Tryz.ntmps189
  rw [hS, hfi]
  clear hS hfi
  go_wp2_with fail
  refine scope_again 0 (J w loc sb off S first hi Y5) (jmu w hi) rfl ?pass ?first
  case first =>
    intro hpass
    have HN : Hid (AtN w n (t0 + 62135596800) loc W) := Lib.hid (by rw [← hW]; exact AtN.of w _ n (t0 + 62135596800) loc)
    have HL := Lib.hid (fun X' (h : AtN w n (t0 + 62135596800) loc X') => place_t (n := n) (e := t0 + 62135596800) HC.out h.2.1.2.1 h.2.2.2.1.2.1)
    obtain ⟨c0, c1, c2⟩ := HN.out.cells
    have hgf : NextP.Good off S first hi false first := ⟨HX.out.seen_first, by omega, fun _ => rfl, (fun h => by cases h), (fun h => by cases h), (fun h => by cases h), (fun h => by cases h)⟩
    have hbd := HBd.out hgf
    have hyb := year_b HC.out hbd
    have hfi := HFI.out
    have hY := HY.out
    obtain ⟨y, hy⟩ : ∃ y, yOf (day off first) = y := ⟨_, rfl⟩
    rw [hy] at hyb hY
    clear hW
    go_upto_region 7 with (first
      | (go_at_call 190; refine (HL.out _ hn1).mono ?_; rintro x X2 ⟨lb, ⟨rfl, hp2⟩, hb2⟩; have hn2 := hn1.below hb2; obtain ⟨j0, j1, j2⟩ := hn2.cells; have s62 := (HS.out.below hn2.1).2.2.2.2.2.2)
      | (go_at_call 190; refine (HL.out _ HN.out).mono ?_; rintro x X1 ⟨ol, ⟨rfl, hp1⟩, hb1⟩; have hn1 := HN.out.below hb1; obtain ⟨k0, k1, k2⟩ := hn1.cells; have s6 := (HS.out.below hn1.1).2.2.2.2.2.2))
    have HN2 := Lib.hid hn2
    have HP1 := Lib.hid (hp1.below hb2)
    have HP2 := Lib.hid hp2
    have HF1 := Lib.hid (fun X' (h : Below X2.heap.size X2 X') => nano_any (w := X') (e := t0 + 62135596800) (loc := loc) (show Nn n from ⟨n0, by omega⟩))
    have HF2 := Lib.hid (fun X' (h : Below X2.heap.size X2 X') => whole_t (X := X') (loc := loc) (n := n) (e := t0 + 62135596800) n0 n1 (by unfold Es; unfold Bd at hbd; omega))
    rw [show t0 + 62135596800 + 1 = first + 62135596800 by omega] at HF2
    have HY1 := Lib.hid (fun X' (h : Below w.heap.size w X') => year_t HC.out hbd h)
    rw [hy] at HY1
    have HG0 := Lib.hid hgf
    have e1 : IntKind.i64.wrap n = n := IntWalk.i64_in _ (by omega)
    have e2 : IntKind.i64.wrap (1000000000 - n) = 1000000000 - n := IntWalk.i64_in _ (by omega)
    clear hgf hbd hfi hy hn1 hn2 hp1 hp2 hb1 hb2 k0 k1 k2 j0 j1 j2 s6 s62 c0 c1 c2
    go_wp2_with fail
    refine RegS.region_S (n := 6) (S := fun X' => Below X2.heap.size X2 X') (by kernel_rfl) rfl ((Below.refl _ _).drew) (fun inv => ?_)
    refine RegS.AnyS.take (i := 0) (v := .agg #[.int .u64 n, .int .i64 (t0 + 62135596800), .pointer loc]) inv (by kernel_rfl) rfl rfl (by omega) (by kernel_rfl) (by kernel_rfl) (by kernel_rfl) (fun _ _ _ h => h) ⟨by rfl, fun X' hX => ?_⟩ (some 30) rfl (fun inv => ?_)
    · obtain ⟨k0, k1, k2⟩ := (HN2.out.below hX).cells
      go_simp
      exact ⟨rfl, hX⟩
    simp only [Act.put, List.setIfInBounds_toArray, List.set_cons_zero, List.set_cons_succ]
    refine RegS.AnyS.take (i := 1) (v := .agg #[.int .u64 n, .int .i64 (t0 + 62135596800), .pointer loc]) inv (by kernel_rfl) rfl rfl (by omega) (by kernel_rfl) (by kernel_rfl) (by kernel_rfl) (fun _ _ _ h => h) ⟨by rfl, fun X' hX => ?_⟩ (some 31) rfl (fun inv => ?_)
    · obtain ⟨k0, k1, k2⟩ := (HN2.out.below hX).cells
      go_simp
      exact ⟨rfl, hX⟩
    simp only [Act.put, List.setIfInBounds_toArray, List.set_cons_zero, List.set_cons_succ]
    refine RegS.AnyS.take (i := 2) (v := .int .i64 n) inv (by kernel_rfl) rfl rfl (by omega) (by kernel_rfl) (by kernel_rfl) (by kernel_rfl) (fun _ _ _ h => h) ⟨by rfl, fun X' hX => ?_⟩ (some 32) rfl (fun inv => ?_)
    · go_simp
      exact RegS.gives_call (HF1.out _ hX) hX
    simp only [Act.put, List.setIfInBounds_toArray, List.set_cons_zero, List.set_cons_succ]
    refine RegS.AnyS.take (i := 3) (v := .int .i64 n) inv (by kernel_rfl) rfl rfl (by omega) (by kernel_rfl) (by kernel_rfl) (by kernel_rfl) (fun _ _ _ h => h) ⟨by rfl, fun X' hX => ?_⟩ (some 33) rfl (fun inv => ?_)
    · go_simp
      exact ⟨rfl, hX⟩
    simp only [Act.put, List.setIfInBounds_toArray, List.set_cons_zero, List.set_cons_succ]
    refine RegS.AnyS.take (i := 4) (v := .int .i64 (1000000000 - n)) inv (by kernel_rfl) rfl rfl (by omega) (by kernel_rfl) (by kernel_rfl) (by kernel_rfl) (fun _ _ _ h => h) ⟨by rfl, fun X' hX => ?_⟩ (some 34) rfl (fun inv => ?_)
    · go_simp
      exact ⟨rfl, hX⟩
    simp only [Act.put, List.setIfInBounds_toArray, List.set_cons_zero, List.set_cons_succ]
    refine RegS.AnyS.take (i := 5) (v := .agg #[.int .u64 0, .int .i64 (first + 62135596800), .pointer loc]) inv (by kernel_rfl) rfl rfl (by omega) (by kernel_rfl) (by kernel_rfl) (by kernel_rfl) (fun _ _ _ h => h) ⟨by rfl, fun X' hX => ?_⟩ (some 35) rfl (fun inv => ?_)
    · go_simp
      exact RegS.gives_call (HF2.out _ hX) hX
    simp only [Act.put, List.setIfInBounds_toArray, List.set_cons_zero, List.set_cons_succ]
    refine RegS.AnyS.last (by kernel_rfl) rfl (by kernel_rfl) (fun X4 hX K hK => ?_)
    have hh4 := HN2.out.below hX
    obtain ⟨f0, f1, f2⟩ := hh4.free
    obtain ⟨k0, k1, k2⟩ := hh4.cells
    go_simp
    refine hK.out _ _ ?_
    have hat := AtN.put hh4 (t1 := first)
    have HP1' := Lib.hid ((HP1.out.below hX).put (.int .u64 0) (.int .i64 (first + 62135596800)) (.pointer loc))
    have HP2' := Lib.hid ((HP2.out.below hX).put (.int .u64 0) (.int .i64 (first + 62135596800)) (.pointer loc))
    go_wp2_with (go_at_call 192; refine (HY1.out _ hat.1).mono ?_; rintro x X5 ⟨rfl, hb5⟩; have hh5 : Hold w loc off ol lb X5 first := ⟨hat.below hb5, HP1'.out.below hb5, HP2'.out.below hb5⟩)
    go_step3
    rename_i K hK
    exact hK _ _ (hpass _ _ (J_of false first ol lb rfl HG0.out hh5))
  case pass =>
    rintro a X ⟨added, t, ol, lb, u, rfl, hg, hh⟩
    have hm : jmu w hi (frame sb w.heap.size (w.heap.size + 1) (some ⟨ol, 0, none⟩) (some ⟨lb, 0, none⟩) added Y5 u) X = mu hi added t := by
      unfold jmu
      rw [tOf_at hh.1]
      rfl
    simp only [hm]
    rw [frame_eq]
    obtain ⟨m, hm2⟩ : ∃ m, mu hi added t = m := ⟨_, rfl⟩
    rw [hm2]
    clear hm
    have HG := Lib.hid hg
    have HH := Lib.hid hh
    have HM2 := Lib.hid hm2
    obtain ⟨c0, c1, c2⟩ := hh.cells
    have HYr := Lib.hid (fun X' (h : Below w.heap.size w X') => year_t HC.out (HBd.out HG.out) h)
    clear hg hh hm2
    by_cases hy : Y5 < yOf (day off t)
    · go_wp2_with (go_at_call 192; refine (HYr.out _ HH.out.base).mono ?_; rintro x X1 ⟨rfl, hb⟩; have hh1 := HH.out.below hb; obtain ⟨d0, d1, d2⟩ := hh1.res; obtain ⟨g0, g1, g2⟩ := hh1.rfree)
      simp only [Exit.jump]
      refine bodyPost_ret (v := .agg #[.int .u64 0, .int .i64 0, .pointer none]) (by simp [results, Tryz.results189, go_sem, *]) rfl ⟨t, HG.out.seen, HG.out.low, .inr ⟨hy, rfl⟩, below_set3 hh1.base (Nat.le_succ _)⟩
    · go_upto_block 0 with (go_at_call 192; refine (HYr.out _ HH.out.base).mono ?_; rintro x X1 ⟨rfl, hb⟩; have HH1 := Lib.hid (HH.out.below hb))
      have HR0 := Lib.hid (show Rel w loc ol lb off S first hi Y5 m (fun _ => True) (.bool added) X1 from ⟨added, t, rfl, Lib.hid ⟨HG.out, by unfold yr; omega, by rw [HM2.out]; exact Nat.le_refl _, trivial⟩, HH1⟩)
      clear hy c0 c1 c2 HYr hb HH HH1 HG HM2
      go_cut [7] (fun v wx => Hid (Rel w loc ol lb off S first hi Y5 m (fun t => monF off S t = true) v wx))
      case first =>
        go_wp2_with fail
        go_loopw [7] (fun v wr => Hid (Rel w loc ol lb off S first hi Y5 m (fun t => True) v wr)) (fun v wr => mu hi (boolOf v) (tOf w wr))
        case atStart => exact HR0
        case round =>
          obtain ⟨added, t, rfl, HG, HH⟩ := hrel.out
          have hmu : mu hi (boolOf (Value.bool added)) (tOf w wr) = mu hi added t := by rw [tOf_at HH.out.1]; rfl
          obtain ⟨c0, c1, c2⟩ := HH.out.cells
          obtain ⟨⟨m1, m2, m3, m4⟩, -⟩ := date_of (day off t)
          have htb := tod_bd (off := off) t
          obtain ⟨kn, hkn⟩ : ∃ kn : Nat, mOf (day off t) = kn := ⟨(mOf (day off t)).toNat, by omega⟩
          have HF := Lib.hid (fun X' (h : Below w.heap.size w X') => month_t HC.out (HBd.out HG.out.1) h)
          rw [hkn] at HF
          obtain ⟨V1, a1, -, a3⟩ := bit_of mon kn HU.out.2.2.2.2.1 (by omega)
          obtain ⟨p, hp⟩ : ∃ p, has mon (kn : Int) = p := ⟨_, rfl⟩
          rw [hp] at a3
          have HP : Hid (monF off S t = p) := Lib.hid (by rw [← HSS.out]; unfold monF sched; dsimp only; rw [hkn]; exact hp)
          have v1 : min (IntKind.u64.wrap ((kn : Nat) : Int)).toNat 64 = kn := by rw [IntWalk.u64_in _ (by omega)]; omega
          have HKS : Hid (∀ X', Below wr.heap.size wr X' → X'.cell? ⟨w.heap.size, 0, none⟩ = some (.int .u64 0) ∧ X'.cell? ⟨w.heap.size, 1, none⟩ = some (.int .i64 (t + 62135596800)) ∧ X'.cell? ⟨w.heap.size, 2, none⟩ = some (.pointer loc) ∧ X'.cell? ⟨sb, 4, none⟩ = some (.int .u64 mon)) := Lib.hid (fun X' h => by
            have h1 := HH.out.below h
            exact ⟨h1.cells.1, h1.cells.2.1, h1.cells.2.2, (HS.out.below h1.base).2.2.2.2.1⟩)
          clear m1 m2 m3 m4 hkn hp c0 c1 c2 htb
          go_wp2_with fail
          go_region_held3 (fun X => X.cell? ⟨w.heap.size, 0, none⟩ = some (.int .u64 0) ∧ X.cell? ⟨w.heap.size, 1, none⟩ = some (.int .i64 (t + 62135596800)) ∧ X.cell? ⟨w.heap.size, 2, none⟩ = some (.pointer loc) ∧ X.cell? ⟨sb, 4, none⟩ = some (.int .u64 mon)) (exact HKS.out _ (by repeat (first | exact Below.refl _ _ | assumption | refine Below.drew ?_)))
            ((go_at_call 193; (with_reducible refine (HF.out _ (HH.out.base.trans ((Below.refl _ _).drew.mono HH.out.base.size))).mono ?_); rintro x X2 ⟨rfl, hb0⟩; (have hb1 := undrew hb0)))
          have HH2 := Lib.hid (HH.out.below hb1)
          clear hb0 hb1 v1 a1 HKS HF
          cases p
          case true =>
            go_wp2_with fail
            go_meet
            exact Lib.hid ⟨added, t, rfl, Lib.hid ⟨HG.out.1, HG.out.2.1, HG.out.2.2.1, HP.out⟩, HH2⟩
          case false =>
            go_upto_if 55 with fail
            go_cut [7] (fun v wx => Hid (RelT w loc ol lb off S first hi Y5 (mu hi added t) (fun t => monF off S t = false) v wx))
            case first =>
              cases added
              case true =>
                go_wp2_with fail
                go_meet
                exact Lib.hid ⟨t, rfl, Lib.hid ⟨HG.out.1, HG.out.2.1, Nat.le_refl _, HP.out⟩, HH2⟩
              case false =>
                have ht : t = first := HG.out.1.ini rfl
                obtain ⟨t1, hd, hg3, hf3, hy3, hlo, hhi, -, -⟩ := month_first HX.out (by rw [← ht]; exact HP.out)
                rw [← ht] at hd hy3 hlo
                have HE := Lib.hid (show NextP.Good off S first hi true t1 ∧ yr off t1 ≤ Y5 ∧ mu hi true t1 ≤ mu hi false t ∧ monF off S t1 = false from ⟨hg3, by rw [hy3]; exact HG.out.2.1, first_le hg3 (by omega), hf3⟩)
                have hyb := year_b HC.out (HBd.out HG.out.1)
                have hmb := (date_of (day off t)).1
                have hml := mlen_bd (yOf (day off t)) (mOf (day off t))
                have htb := tod_bd (off := off) t
                have HF1 := Lib.hid (fun X' (h : Below X2.heap.size X2 X') => year_t HC.out (HBd.out HG.out.1) (HH2.out.below h).base)
                have HF2 := Lib.hid (fun X' (h : Below X2.heap.size X2 X') => month_t HC.out (HBd.out HG.out.1) (HH2.out.below h).base)
                have HF3 := Lib.hid (fun X' (h : Below X2.heap.size X2 X') => date_t (HH2.out.below h).pair (yOf (day off t)) (mOf (day off t)) 1 0 (by omega) (by omega) hmb.1 (by have := hmb.2.1; omega) (by have := hmb.2.2.1; omega) (by have := hmb.2.2.2; omega) (by omega) (by omega) t1 hd)
                clear ht hd hg3 hf3 hy3 hlo hhi hyb hmb hml htb
                go_wp2_with fail
                refine RegS.region_S (n := 6) (S := fun X' => Below X2.heap.size X2 X') (by kernel_rfl) rfl ((Below.refl _ _).drew) (fun inv => ?_)
                refine RegS.AnyS.take (i := 0) (v := .agg #[.int .u64 0, .int .i64 (t + 62135596800), .pointer loc]) inv (by kernel_rfl) rfl rfl (by omega) (by kernel_rfl) (by kernel_rfl) (by kernel_rfl) (fun _ _ _ h => h) ⟨by rfl, fun X' hX => ?_⟩ (some 56) rfl (fun inv => ?_)
                · obtain ⟨k0, k1, k2⟩ := (HH2.out.below hX).cells
                  go_simp
                  exact ⟨rfl, hX⟩
                simp only [Act.put, List.setIfInBounds_toArray, List.set_cons_zero, List.set_cons_succ]
                refine RegS.AnyS.take (i := 1) (v := .int .i64 (yOf (day off t))) inv (by kernel_rfl) rfl rfl (by omega) (by kernel_rfl) (by kernel_rfl) (by kernel_rfl) (fun _ _ _ h => h) ⟨by rfl, fun X' hX => ?_⟩ (some 57) rfl (fun inv => ?_)
                · go_simp
                  exact RegS.gives_call (HF1.out _ hX) hX
                simp only [Act.put, List.setIfInBounds_toArray, List.set_cons_zero, List.set_cons_succ]
                refine RegS.AnyS.take (i := 2) (v := .agg #[.int .u64 0, .int .i64 (t + 62135596800), .pointer loc]) inv (by kernel_rfl) rfl rfl (by omega) (by kernel_rfl) (by kernel_rfl) (by kernel_rfl) (fun _ _ _ h => h) ⟨by rfl, fun X' hX => ?_⟩ (some 58) rfl (fun inv => ?_)
                · obtain ⟨k0, k1, k2⟩ := (HH2.out.below hX).cells
                  go_simp
                  exact ⟨rfl, hX⟩
                simp only [Act.put, List.setIfInBounds_toArray, List.set_cons_zero, List.set_cons_succ]
                refine RegS.AnyS.take (i := 3) (v := .int .i64 (mOf (day off t))) inv (by kernel_rfl) rfl rfl (by omega) (by kernel_rfl) (by kernel_rfl) (by kernel_rfl) (fun _ _ _ h => h) ⟨by rfl, fun X' hX => ?_⟩ (some 59) rfl (fun inv => ?_)
                · go_simp
                  exact RegS.gives_call (HF2.out _ hX) hX
                simp only [Act.put, List.setIfInBounds_toArray, List.set_cons_zero, List.set_cons_succ]
                refine RegS.AnyS.take (i := 4) (v := .pointer (some ⟨lb, 0, none⟩)) inv (by kernel_rfl) rfl rfl (by omega) (by kernel_rfl) (by kernel_rfl) (by kernel_rfl) (fun _ _ _ h => h) ⟨by rfl, fun X' hX => ?_⟩ (some 60) rfl (fun inv => ?_)
                · go_simp
                  exact ⟨rfl, hX⟩
                simp only [Act.put, List.setIfInBounds_toArray, List.set_cons_zero, List.set_cons_succ]
                refine RegS.AnyS.take (i := 5) (v := .agg #[.int .u64 0, .int .i64 (t1 + 62135596800), .pointer loc]) inv (by kernel_rfl) rfl rfl (by omega) (by kernel_rfl) (by kernel_rfl) (by kernel_rfl) (fun _ _ _ h => h) ⟨by rfl, fun X' hX => ?_⟩ (some 61) rfl (fun inv => ?_)
                · go_simp
                  exact RegS.gives_call (HF3.out _ hX) hX
                simp only [Act.put, List.setIfInBounds_toArray, List.set_cons_zero, List.set_cons_succ]
                refine RegS.AnyS.last (by kernel_rfl) rfl (by kernel_rfl) (fun X4 hX K hK => ?_)
                have hh4 := HH2.out.below hX
                obtain ⟨f0, f1, f2⟩ := hh4.free
                obtain ⟨k0, k1, k2⟩ := hh4.cells
                go_simp
                refine hK.out _ _ ?_
                go_wp2_with fail
                go_meet
                exact Lib.hid ⟨t1, rfl, HE, Lib.hid (Hold.put hh4 (t1 := t1))⟩
            case rest =>
              obtain ⟨t2, rfl, HG2, HH3⟩ := hcut.out
              obtain ⟨c0, c1, c2⟩ := HH3.out.cells
              obtain ⟨r, hr, hg3, hlt, hyr⟩ := month_up HX.out HG2.out.1 HG2.out.2.2.2 HG2.out.2.1
              have HA := Lib.hid (fun X' (h : Below w.heap.size w X') => addDate_t HC.out (HBd.out HG2.out.1) h 1 0 (by omega) (by omega) (by omega) (by omega) r hr)
              have HB := Lib.hid (fun X' (h : Below w.heap.size w X') => month_t HC.out (HBd.out hg3) h)
              have HG3 := Lib.hid hg3
              have hlt2 := Nat.lt_of_lt_of_le (up_lt hg3 hlt) HG2.out.2.2.1
              have HLT := Lib.hid hlt2
              have HYR := Lib.hid hyr
              clear hr hg3 hlt hlt2 hyr
              obtain ⟨z, hz⟩ : ∃ z, mOf (day off r) = z := ⟨_, rfl⟩
              have HZ := Lib.hid hz
              rw [hz] at HB
              clear hz
              by_cases hj : z = 1
              · have hjb : (z == 1) = true := by simpa using hj
                go_wp2_with (first
                  | (go_at_call 195; refine (HA.out _ HH3.out.base).mono ?_; rintro x X4 ⟨rfl, hb4⟩; have hh4 := HH3.out.below hb4; obtain ⟨f0, f1, f2⟩ := hh4.free; obtain ⟨k0, k1, k2⟩ := hh4.cells)
                  | (go_at_call 193; refine (HB.out _ (Hold.put hh4 (t1 := r)).base).mono ?_; rintro x X5 ⟨rfl, hb5⟩; have hh5 := (Hold.put hh4 (t1 := r)).below hb5))
                go_step3
                exact ⟨rfl, J_of true r ol lb rfl HG3.out hh5, jmu_lt hh5.1 rfl (Nat.lt_of_lt_of_le HLT.out HG.out.2.2.1)⟩
              · have hjb : (z == 1) = false := by simpa using hj
                go_wp2_with (first
                  | (go_at_call 195; refine (HA.out _ HH3.out.base).mono ?_; rintro x X4 ⟨rfl, hb4⟩; have hh4 := HH3.out.below hb4; obtain ⟨f0, f1, f2⟩ := hh4.free; obtain ⟨k0, k1, k2⟩ := hh4.cells)
                  | (go_at_call 193; refine (HB.out _ (Hold.put hh4 (t1 := r)).base).mono ?_; rintro x X5 ⟨rfl, hb5⟩; have hh5 := (Hold.put hh4 (t1 := r)).below hb5))
                have hfin : yr off r ≤ Y5 ∧ (True) := by
                  rcases HYR.out with h | h
                  · exact absurd (HZ.out.symm.trans h) hj
                  · exact ⟨by rw [h]; exact HG2.out.2.1, trivial⟩
                refine ⟨Lib.hid ⟨true, r, rfl, Lib.hid ⟨HG3.out, hfin.1, Nat.le_trans (Nat.le_of_lt HLT.out) HG.out.2.2.1, hfin.2⟩, Lib.hid hh5⟩, ?_⟩
                rw [hmu, tOf_at hh5.1]
                exact HLT.out
      case rest =>
        have HR0 := hcut
        clear hcut
        go_upto_block 2 with fail
        go_cut [7] (fun v wx => Hid (Rel w loc ol lb off S first hi Y5 m (fun t => monF off S t = true ∧ dyF off S t = true) v wx))
        case first =>
          go_wp2_with fail
          go_loopw [7] (fun v wr => Hid (Rel w loc ol lb off S first hi Y5 m (fun t => monF off S t = true) v wr)) (fun v wr => mu hi (boolOf v) (tOf w wr))
          case atStart => exact HR0
          case round =>
            obtain ⟨added, t, rfl, HG, HH⟩ := hrel.out
            have hmu : mu hi (boolOf (Value.bool added)) (tOf w wr) = mu hi added t := by rw [tOf_at HH.out.1]; rfl
            obtain ⟨c0, c1, c2⟩ := HH.out.cells
            obtain ⟨p, hp⟩ : ∃ p, dayOK dom dow (day off t) = p := ⟨_, rfl⟩
            have HF := Lib.hid (fun X' (h : Below w.heap.size w X') => dayMatches_t HC.out (HBd.out HG.out.1) h sb se mi hr dom mon dow HS.out HU.out.2.2.2.1 HU.out.2.2.2.2.2)
            rw [hp] at HF
            have HP : Hid (dyF off S t = p) := Lib.hid (by rw [← HSS.out]; exact hp)
            clear hp
            go_upto_if 70 with (go_at_call 196; refine (HF.out _ HH.out.base).mono ?_; rintro x X2 ⟨rfl, hb1⟩)
            have HH2 := Lib.hid (HH.out.below hb1)
            clear hb1 HF c0 c1 c2
            cases p
            case true =>
              go_wp2_with fail
              go_meet
              exact Lib.hid ⟨added, t, rfl, Lib.hid ⟨HG.out.1, HG.out.2.1, HG.out.2.2.1, ⟨HG.out.2.2.2, HP.out⟩⟩, HH2⟩
            case false =>
              go_upto_if 72 with fail
              go_cut [7] (fun v wx => Hid (RelT w loc ol lb off S first hi Y5 (mu hi added t) (fun t => monF off S t = true ∧ dyF off S t = false) v wx))
              case first =>
                cases added
                case true =>
                  go_wp2_with fail
                  go_meet
                  exact Lib.hid ⟨t, rfl, Lib.hid ⟨HG.out.1, HG.out.2.1, Nat.le_refl _, ⟨HG.out.2.2.2, HP.out⟩⟩, HH2⟩
                case false =>
                  have ht : t = first := HG.out.1.ini rfl
                  obtain ⟨t1, hd, hg3, hm3, hf3, hy3, hlo, hhi⟩ := day_first HX.out (by rw [← ht]; exact HG.out.2.2.2) (by rw [← ht]; exact HP.out)
                  rw [← ht] at hd hy3 hlo
                  have HE := Lib.hid (show NextP.Good off S first hi true t1 ∧ yr off t1 ≤ Y5 ∧ mu hi true t1 ≤ mu hi false t ∧ monF off S t1 = true ∧ dyF off S t1 = false from ⟨hg3, by rw [hy3]; exact HG.out.2.1, first_le hg3 (by omega), ⟨hm3, hf3⟩⟩)
                  have hyb := year_b HC.out (HBd.out HG.out.1)
                  have hmb := (date_of (day off t)).1
                  have hml := mlen_bd (yOf (day off t)) (mOf (day off t))
                  have htb := tod_bd (off := off) t
                  have HF1 := Lib.hid (fun X' (h : Below X2.heap.size X2 X') => year_t HC.out (HBd.out HG.out.1) (HH2.out.below h).base)
                  have HF2 := Lib.hid (fun X' (h : Below X2.heap.size X2 X') => month_t HC.out (HBd.out HG.out.1) (HH2.out.below h).base)
                  have HF4 := Lib.hid (fun X' (h : Below X2.heap.size X2 X') => day_t HC.out (HBd.out HG.out.1) (HH2.out.below h).base)
                  have HF3 := Lib.hid (fun X' (h : Below X2.heap.size X2 X') => date_t (HH2.out.below h).pair (yOf (day off t)) (mOf (day off t)) (dOf (day off t)) 0 (by omega) (by omega) hmb.1 (by have := hmb.2.1; omega) (by have := hmb.2.2.1; omega) (by have := hmb.2.2.2; omega) (by omega) (by omega) t1 hd)
                  clear ht hd hg3 hf3 hy3 hlo hhi hyb hmb hml htb hm3
                  go_wp2_with fail
                  refine RegS.region_S (n := 8) (S := fun X' => Below X2.heap.size X2 X') (by kernel_rfl) rfl ((Below.refl _ _).drew) (fun inv => ?_)
                  refine RegS.AnyS.take (i := 0) (v := .agg #[.int .u64 0, .int .i64 (t + 62135596800), .pointer loc]) inv (by kernel_rfl) rfl rfl (by omega) (by kernel_rfl) (by kernel_rfl) (by kernel_rfl) (fun _ _ _ h => h) ⟨by rfl, fun X' hX => ?_⟩ (some 73) rfl (fun inv => ?_)
                  · obtain ⟨k0, k1, k2⟩ := (HH2.out.below hX).cells
                    go_simp
                    exact ⟨rfl, hX⟩
                  simp only [Act.put, List.setIfInBounds_toArray, List.set_cons_zero, List.set_cons_succ]
                  refine RegS.AnyS.take (i := 1) (v := .int .i64 (yOf (day off t))) inv (by kernel_rfl) rfl rfl (by omega) (by kernel_rfl) (by kernel_rfl) (by kernel_rfl) (fun _ _ _ h => h) ⟨by rfl, fun X' hX => ?_⟩ (some 74) rfl (fun inv => ?_)
                  · go_simp
                    exact RegS.gives_call (HF1.out _ hX) hX
                  simp only [Act.put, List.setIfInBounds_toArray, List.set_cons_zero, List.set_cons_succ]
                  refine RegS.AnyS.take (i := 2) (v := .agg #[.int .u64 0, .int .i64 (t + 62135596800), .pointer loc]) inv (by kernel_rfl) rfl rfl (by omega) (by kernel_rfl) (by kernel_rfl) (by kernel_rfl) (fun _ _ _ h => h) ⟨by rfl, fun X' hX => ?_⟩ (some 75) rfl (fun inv => ?_)
                  · obtain ⟨k0, k1, k2⟩ := (HH2.out.below hX).cells
                    go_simp
                    exact ⟨rfl, hX⟩
                  simp only [Act.put, List.setIfInBounds_toArray, List.set_cons_zero, List.set_cons_succ]
                  refine RegS.AnyS.take (i := 3) (v := .int .i64 (mOf (day off t))) inv (by kernel_rfl) rfl rfl (by omega) (by kernel_rfl) (by kernel_rfl) (by kernel_rfl) (fun _ _ _ h => h) ⟨by rfl, fun X' hX => ?_⟩ (some 76) rfl (fun inv => ?_)
                  · go_simp
                    exact RegS.gives_call (HF2.out _ hX) hX
                  simp only [Act.put, List.setIfInBounds_toArray, List.set_cons_zero, List.set_cons_succ]
                  refine RegS.AnyS.take (i := 4) (v := .agg #[.int .u64 0, .int .i64 (t + 62135596800), .pointer loc]) inv (by kernel_rfl) rfl rfl (by omega) (by kernel_rfl) (by kernel_rfl) (by kernel_rfl) (fun _ _ _ h => h) ⟨by rfl, fun X' hX => ?_⟩ (some 77) rfl (fun inv => ?_)
                  · obtain ⟨k0, k1, k2⟩ := (HH2.out.below hX).cells
                    go_simp
                    exact ⟨rfl, hX⟩
                  simp only [Act.put, List.setIfInBounds_toArray, List.set_cons_zero, List.set_cons_succ]
                  refine RegS.AnyS.take (i := 5) (v := .int .i64 (dOf (day off t))) inv (by kernel_rfl) rfl rfl (by omega) (by kernel_rfl) (by kernel_rfl) (by kernel_rfl) (fun _ _ _ h => h) ⟨by rfl, fun X' hX => ?_⟩ (some 78) rfl (fun inv => ?_)
                  · go_simp
                    exact RegS.gives_call (HF4.out _ hX) hX
                  simp only [Act.put, List.setIfInBounds_toArray, List.set_cons_zero, List.set_cons_succ]
                  refine RegS.AnyS.take (i := 6) (v := .pointer (some ⟨lb, 0, none⟩)) inv (by kernel_rfl) rfl rfl (by omega) (by kernel_rfl) (by kernel_rfl) (by kernel_rfl) (fun _ _ _ h => h) ⟨by rfl, fun X' hX => ?_⟩ (some 79) rfl (fun inv => ?_)
                  · go_simp
                    exact ⟨rfl, hX⟩
                  simp only [Act.put, List.setIfInBounds_toArray, List.set_cons_zero, List.set_cons_succ]
                  refine RegS.AnyS.take (i := 7) (v := .agg #[.int .u64 0, .int .i64 (t1 + 62135596800), .pointer loc]) inv (by kernel_rfl) rfl rfl (by omega) (by kernel_rfl) (by kernel_rfl) (by kernel_rfl) (fun _ _ _ h => h) ⟨by rfl, fun X' hX => ?_⟩ (some 80) rfl (fun inv => ?_)
                  · go_simp
                    exact RegS.gives_call (HF3.out _ hX) hX
                  simp only [Act.put, List.setIfInBounds_toArray, List.set_cons_zero, List.set_cons_succ]
                  refine RegS.AnyS.last (by kernel_rfl) rfl (by kernel_rfl) (fun X4 hX K hK => ?_)
                  have hh4 := HH2.out.below hX
                  obtain ⟨f0, f1, f2⟩ := hh4.free
                  obtain ⟨k0, k1, k2⟩ := hh4.cells
                  go_simp
                  refine hK.out _ _ ?_
                  go_wp2_with fail
                  go_meet
                  exact Lib.hid ⟨t1, rfl, HE, Lib.hid (Hold.put hh4 (t1 := t1))⟩
              case rest =>
                obtain ⟨t2, rfl, HG2, HH3⟩ := hcut.out
                obtain ⟨c0, c1, c2⟩ := HH3.out.cells
                obtain ⟨r, hr, hg3, hlt, htod, hyr⟩ := day_up HX.out HG2.out.1 HG2.out.2.2.2.1 HG2.out.2.2.2.2 HG2.out.2.1
                have HA := Lib.hid (fun X' (h : Below w.heap.size w X') => addDate_t HC.out (HBd.out HG2.out.1) h 0 1 (by omega) (by omega) (by omega) (by omega) r hr)
                have HB := Lib.hid (fun X' (h : Below w.heap.size w X') => day_t HC.out (HBd.out hg3) h)
                have HHr := Lib.hid (fun X' (h : Below w.heap.size w X') => hour_t HC.out (HBd.out hg3) h)
                rw [htod, show (0 : Int) / 3600 = 0 by decide] at HHr
                have HG3 := Lib.hid hg3
                have hlt2 := Nat.lt_of_lt_of_le (up_lt hg3 hlt) HG2.out.2.2.1
                have HLT := Lib.hid hlt2
                have HYR := Lib.hid hyr
                clear hr hg3 hlt hlt2 hyr htod
                obtain ⟨z, hz⟩ : ∃ z, dOf (day off r) = z := ⟨_, rfl⟩
                have HZ := Lib.hid hz
                rw [hz] at HB
                clear hz
                by_cases hj : z = 1
                · have hjb : (z == 1) = true := by simpa using hj
                  go_wp2_with (first
                    | (go_at_call 195; refine (HA.out _ HH3.out.base).mono ?_; rintro x X4 ⟨rfl, hb4⟩; have hh4 := HH3.out.below hb4; obtain ⟨f0, f1, f2⟩ := hh4.free; obtain ⟨k0, k1, k2⟩ := hh4.cells)
                    | (go_at_call 197; refine (HHr.out _ (Hold.put hh4 (t1 := r)).base).mono ?_; rintro x X5 ⟨rfl, hb5⟩; have hh5 := (Hold.put hh4 (t1 := r)).below hb5; obtain ⟨k3, k4, k5⟩ := hh5.cells)
                    | (go_at_call 188; refine (HB.out _ hh5.base).mono ?_; rintro x X6 ⟨rfl, hb6⟩; have hh6 := hh5.below hb6))
                  go_step3
                  exact ⟨rfl, J_of true r ol lb rfl HG3.out hh6, jmu_lt hh6.1 rfl (Nat.lt_of_lt_of_le HLT.out HG.out.2.2.1)⟩
                · have hjb : (z == 1) = false := by simpa using hj
                  go_wp2_with (first
                    | (go_at_call 195; refine (HA.out _ HH3.out.base).mono ?_; rintro x X4 ⟨rfl, hb4⟩; have hh4 := HH3.out.below hb4; obtain ⟨f0, f1, f2⟩ := hh4.free; obtain ⟨k0, k1, k2⟩ := hh4.cells)
                    | (go_at_call 197; refine (HHr.out _ (Hold.put hh4 (t1 := r)).base).mono ?_; rintro x X5 ⟨rfl, hb5⟩; have hh5 := (Hold.put hh4 (t1 := r)).below hb5; obtain ⟨k3, k4, k5⟩ := hh5.cells)
                    | (go_at_call 188; refine (HB.out _ hh5.base).mono ?_; rintro x X6 ⟨rfl, hb6⟩; have hh6 := hh5.below hb6))
                  have hfin : yr off r ≤ Y5 ∧ (monF off S r = true) := by
                    rcases HYR.out with h | h
                    · exact absurd (HZ.out.symm.trans h) hj
                    · exact ⟨by rw [h.2]; exact HG2.out.2.1, h.1⟩
                  refine ⟨Lib.hid ⟨true, r, rfl, Lib.hid ⟨HG3.out, hfin.1, Nat.le_trans (Nat.le_of_lt HLT.out) HG.out.2.2.1, hfin.2⟩, Lib.hid hh6⟩, ?_⟩
                  rw [hmu, tOf_at hh6.1]
                  exact HLT.out
        case rest =>
          have HR0 := hcut
          clear hcut
          go_upto_block 4 with fail
          go_cut [7] (fun v wx => Hid (Rel w loc ol lb off S first hi Y5 m (fun t => monF off S t = true ∧ dyF off S t = true ∧ hrF off S t = true) v wx))
          case first =>
            go_wp2_with fail
            go_loopw [7] (fun v wr => Hid (Rel w loc ol lb off S first hi Y5 m (fun t => monF off S t = true ∧ dyF off S t = true) v wr)) (fun v wr => mu hi (boolOf v) (tOf w wr))
            case atStart => exact HR0
            case round =>
              obtain ⟨added, t, rfl, HG, HH⟩ := hrel.out
              have hmu : mu hi (boolOf (Value.bool added)) (tOf w wr) = mu hi added t := by rw [tOf_at HH.out.1]; rfl
              obtain ⟨c0, c1, c2⟩ := HH.out.cells
              obtain ⟨⟨m1, m2, m3, m4⟩, -⟩ := date_of (day off t)
              have htb := tod_bd (off := off) t
              obtain ⟨kn, hkn⟩ : ∃ kn : Nat, tod off t / 3600 = kn := ⟨(tod off t / 3600).toNat, by omega⟩
              have HF := Lib.hid (fun X' (h : Below w.heap.size w X') => hour_t HC.out (HBd.out HG.out.1) h)
              rw [hkn] at HF
              obtain ⟨V1, a1, -, a3⟩ := bit_of hr kn HU.out.2.2.1 (by omega)
              obtain ⟨p, hp⟩ : ∃ p, has hr (kn : Int) = p := ⟨_, rfl⟩
              rw [hp] at a3
              have HP : Hid (hrF off S t = p) := Lib.hid (by rw [← HSS.out]; unfold hrF sched; dsimp only; rw [hkn]; exact hp)
              have v1 : min (IntKind.u64.wrap ((kn : Nat) : Int)).toNat 64 = kn := by rw [IntWalk.u64_in _ (by omega)]; omega
              have HKS : Hid (∀ X', Below wr.heap.size wr X' → X'.cell? ⟨w.heap.size, 0, none⟩ = some (.int .u64 0) ∧ X'.cell? ⟨w.heap.size, 1, none⟩ = some (.int .i64 (t + 62135596800)) ∧ X'.cell? ⟨w.heap.size, 2, none⟩ = some (.pointer loc) ∧ X'.cell? ⟨sb, 2, none⟩ = some (.int .u64 hr)) := Lib.hid (fun X' h => by
                have h1 := HH.out.below h
                exact ⟨h1.cells.1, h1.cells.2.1, h1.cells.2.2, (HS.out.below h1.base).2.2.1⟩)
              clear m1 m2 m3 m4 hkn hp c0 c1 c2 htb
              go_wp2_with fail
              go_region_held3 (fun X => X.cell? ⟨w.heap.size, 0, none⟩ = some (.int .u64 0) ∧ X.cell? ⟨w.heap.size, 1, none⟩ = some (.int .i64 (t + 62135596800)) ∧ X.cell? ⟨w.heap.size, 2, none⟩ = some (.pointer loc) ∧ X.cell? ⟨sb, 2, none⟩ = some (.int .u64 hr)) (exact HKS.out _ (by repeat (first | exact Below.refl _ _ | assumption | refine Below.drew ?_)))
                ((go_at_call 197; (with_reducible refine (HF.out _ (HH.out.base.trans ((Below.refl _ _).drew.mono HH.out.base.size))).mono ?_); rintro x X2 ⟨rfl, hb0⟩; (have hb1 := undrew hb0)))
              have HH2 := Lib.hid (HH.out.below hb1)
              clear hb0 hb1 v1 a1 HKS HF
              cases p
              case true =>
                go_wp2_with fail
                go_meet
                exact Lib.hid ⟨added, t, rfl, Lib.hid ⟨HG.out.1, HG.out.2.1, HG.out.2.2.1, ⟨HG.out.2.2.2.1, HG.out.2.2.2.2, HP.out⟩⟩, HH2⟩
              case false =>
                go_upto_if 115 with fail
                go_cut [7] (fun v wx => Hid (RelT w loc ol lb off S first hi Y5 (mu hi added t) (fun t => monF off S t = true ∧ dyF off S t = true ∧ hrF off S t = false) v wx))
                case first =>
                  cases added
                  case true =>
                    go_wp2_with fail
                    go_meet
                    exact Lib.hid ⟨t, rfl, Lib.hid ⟨HG.out.1, HG.out.2.1, Nat.le_refl _, ⟨HG.out.2.2.2.1, HG.out.2.2.2.2, HP.out⟩⟩, HH2⟩
                  case false =>
                    have ht : t = first := HG.out.1.ini rfl
                    obtain ⟨t1, hd, hg3, hm3, hd3, hf3, hy3, hlo, hhi⟩ := hour_first HX.out (by rw [← ht]; exact HG.out.2.2.2.1) (by rw [← ht]; exact HG.out.2.2.2.2) (by rw [← ht]; exact HP.out) (by rw [← ht]; exact HG.out.2.1)
                    rw [← ht] at hd hy3 hlo
                    have HE := Lib.hid (show NextP.Good off S first hi true t1 ∧ yr off t1 ≤ Y5 ∧ mu hi true t1 ≤ mu hi false t ∧ monF off S t1 = true ∧ dyF off S t1 = true ∧ hrF off S t1 = false from ⟨hg3, by rw [hy3]; exact HG.out.2.1, first_le hg3 (by omega), ⟨hm3, hd3, hf3⟩⟩)
                    have hyb := year_b HC.out (HBd.out HG.out.1)
                    have hmb := (date_of (day off t)).1
                    have hml := mlen_bd (yOf (day off t)) (mOf (day off t))
                    have htb := tod_bd (off := off) t
                    have HF1 := Lib.hid (fun X' (h : Below X2.heap.size X2 X') => year_t HC.out (HBd.out HG.out.1) (HH2.out.below h).base)
                    have HF2 := Lib.hid (fun X' (h : Below X2.heap.size X2 X') => month_t HC.out (HBd.out HG.out.1) (HH2.out.below h).base)
                    have HF4 := Lib.hid (fun X' (h : Below X2.heap.size X2 X') => day_t HC.out (HBd.out HG.out.1) (HH2.out.below h).base)
                    have HF5 := Lib.hid (fun X' (h : Below X2.heap.size X2 X') => hour_t HC.out (HBd.out HG.out.1) (HH2.out.below h).base)
                    have HF3 := Lib.hid (fun X' (h : Below X2.heap.size X2 X') => date_t (HH2.out.below h).pair (yOf (day off t)) (mOf (day off t)) (dOf (day off t)) (tod off t / 3600) (by omega) (by omega) hmb.1 (by have := hmb.2.1; omega) (by have := hmb.2.2.1; omega) (by have := hmb.2.2.2; omega) (by omega) (by omega) t1 hd)
                    clear ht hd hg3 hf3 hy3 hlo hhi hyb hmb hml htb hm3 hd3
                    go_wp2_with fail
                    refine RegS.region_S (n := 10) (S := fun X' => Below X2.heap.size X2 X') (by kernel_rfl) rfl ((Below.refl _ _).drew) (fun inv => ?_)
                    refine RegS.AnyS.take (i := 0) (v := .agg #[.int .u64 0, .int .i64 (t + 62135596800), .pointer loc]) inv (by kernel_rfl) rfl rfl (by omega) (by kernel_rfl) (by kernel_rfl) (by kernel_rfl) (fun _ _ _ h => h) ⟨by rfl, fun X' hX => ?_⟩ (some 116) rfl (fun inv => ?_)
                    · obtain ⟨k0, k1, k2⟩ := (HH2.out.below hX).cells
                      go_simp
                      exact ⟨rfl, hX⟩
                    simp only [Act.put, List.setIfInBounds_toArray, List.set_cons_zero, List.set_cons_succ]
                    refine RegS.AnyS.take (i := 1) (v := .int .i64 (yOf (day off t))) inv (by kernel_rfl) rfl rfl (by omega) (by kernel_rfl) (by kernel_rfl) (by kernel_rfl) (fun _ _ _ h => h) ⟨by rfl, fun X' hX => ?_⟩ (some 117) rfl (fun inv => ?_)
                    · go_simp
                      exact RegS.gives_call (HF1.out _ hX) hX
                    simp only [Act.put, List.setIfInBounds_toArray, List.set_cons_zero, List.set_cons_succ]
                    refine RegS.AnyS.take (i := 2) (v := .agg #[.int .u64 0, .int .i64 (t + 62135596800), .pointer loc]) inv (by kernel_rfl) rfl rfl (by omega) (by kernel_rfl) (by kernel_rfl) (by kernel_rfl) (fun _ _ _ h => h) ⟨by rfl, fun X' hX => ?_⟩ (some 118) rfl (fun inv => ?_)
                    · obtain ⟨k0, k1, k2⟩ := (HH2.out.below hX).cells
                      go_simp
                      exact ⟨rfl, hX⟩
                    simp only [Act.put, List.setIfInBounds_toArray, List.set_cons_zero, List.set_cons_succ]
                    refine RegS.AnyS.take (i := 3) (v := .int .i64 (mOf (day off t))) inv (by kernel_rfl) rfl rfl (by omega) (by kernel_rfl) (by kernel_rfl) (by kernel_rfl) (fun _ _ _ h => h) ⟨by rfl, fun X' hX => ?_⟩ (some 119) rfl (fun inv => ?_)
                    · go_simp
                      exact RegS.gives_call (HF2.out _ hX) hX
                    simp only [Act.put, List.setIfInBounds_toArray, List.set_cons_zero, List.set_cons_succ]
                    refine RegS.AnyS.take (i := 4) (v := .agg #[.int .u64 0, .int .i64 (t + 62135596800), .pointer loc]) inv (by kernel_rfl) rfl rfl (by omega) (by kernel_rfl) (by kernel_rfl) (by kernel_rfl) (fun _ _ _ h => h) ⟨by rfl, fun X' hX => ?_⟩ (some 120) rfl (fun inv => ?_)
                    · obtain ⟨k0, k1, k2⟩ := (HH2.out.below hX).cells
                      go_simp
                      exact ⟨rfl, hX⟩
                    simp only [Act.put, List.setIfInBounds_toArray, List.set_cons_zero, List.set_cons_succ]
                    refine RegS.AnyS.take (i := 5) (v := .int .i64 (dOf (day off t))) inv (by kernel_rfl) rfl rfl (by omega) (by kernel_rfl) (by kernel_rfl) (by kernel_rfl) (fun _ _ _ h => h) ⟨by rfl, fun X' hX => ?_⟩ (some 121) rfl (fun inv => ?_)
                    · go_simp
                      exact RegS.gives_call (HF4.out _ hX) hX
                    simp only [Act.put, List.setIfInBounds_toArray, List.set_cons_zero, List.set_cons_succ]
                    refine RegS.AnyS.take (i := 6) (v := .agg #[.int .u64 0, .int .i64 (t + 62135596800), .pointer loc]) inv (by kernel_rfl) rfl rfl (by omega) (by kernel_rfl) (by kernel_rfl) (by kernel_rfl) (fun _ _ _ h => h) ⟨by rfl, fun X' hX => ?_⟩ (some 122) rfl (fun inv => ?_)
                    · obtain ⟨k0, k1, k2⟩ := (HH2.out.below hX).cells
                      go_simp
                      exact ⟨rfl, hX⟩
                    simp only [Act.put, List.setIfInBounds_toArray, List.set_cons_zero, List.set_cons_succ]
                    refine RegS.AnyS.take (i := 7) (v := .int .i64 (tod off t / 3600)) inv (by kernel_rfl) rfl rfl (by omega) (by kernel_rfl) (by kernel_rfl) (by kernel_rfl) (fun _ _ _ h => h) ⟨by rfl, fun X' hX => ?_⟩ (some 123) rfl (fun inv => ?_)
                    · go_simp
                      exact RegS.gives_call (HF5.out _ hX) hX
                    simp only [Act.put, List.setIfInBounds_toArray, List.set_cons_zero, List.set_cons_succ]
                    refine RegS.AnyS.take (i := 8) (v := .pointer (some ⟨lb, 0, none⟩)) inv (by kernel_rfl) rfl rfl (by omega) (by kernel_rfl) (by kernel_rfl) (by kernel_rfl) (fun _ _ _ h => h) ⟨by rfl, fun X' hX => ?_⟩ (some 124) rfl (fun inv => ?_)
                    · go_simp
                      exact ⟨rfl, hX⟩
                    simp only [Act.put, List.setIfInBounds_toArray, List.set_cons_zero, List.set_cons_succ]
                    refine RegS.AnyS.take (i := 9) (v := .agg #[.int .u64 0, .int .i64 (t1 + 62135596800), .pointer loc]) inv (by kernel_rfl) rfl rfl (by omega) (by kernel_rfl) (by kernel_rfl) (by kernel_rfl) (fun _ _ _ h => h) ⟨by rfl, fun X' hX => ?_⟩ (some 125) rfl (fun inv => ?_)
                    · go_simp
                      exact RegS.gives_call (HF3.out _ hX) hX
                    simp only [Act.put, List.setIfInBounds_toArray, List.set_cons_zero, List.set_cons_succ]
                    refine RegS.AnyS.last (by kernel_rfl) rfl (by kernel_rfl) (fun X4 hX K hK => ?_)
                    have hh4 := HH2.out.below hX
                    obtain ⟨f0, f1, f2⟩ := hh4.free
                    obtain ⟨k0, k1, k2⟩ := hh4.cells
                    go_simp
                    refine hK.out _ _ ?_
                    go_wp2_with fail
                    go_meet
                    exact Lib.hid ⟨t1, rfl, HE, Lib.hid (Hold.put hh4 (t1 := t1))⟩
                case rest =>
                  obtain ⟨t2, rfl, HG2, HH3⟩ := hcut.out
                  obtain ⟨c0, c1, c2⟩ := HH3.out.cells
                  obtain ⟨hg3, hyr⟩ := hour_up HX.out HG2.out.1 HG2.out.2.2.2.1 HG2.out.2.2.2.2.1 HG2.out.2.2.2.2.2 HG2.out.2.1
                  have HA := Lib.hid (fun X' => add_t (X := X') (loc := loc) 3600000000000 3600 (HBd.out HG2.out.1) (by omega) (by omega) (by omega))
                  have hlt : t2 < t2 + 3600 := by omega
                  obtain ⟨r, hr⟩ : ∃ r, t2 + 3600 = r := ⟨_, rfl⟩
                  rw [hr] at hg3 hyr HA hlt
                  have HB := Lib.hid (fun X' (h : Below w.heap.size w X') => hour_t HC.out (HBd.out hg3) h)
                  have HG3 := Lib.hid hg3
                  have hlt2 := Nat.lt_of_lt_of_le (up_lt hg3 hlt) HG2.out.2.2.1
                  have HLT := Lib.hid hlt2
                  have HYR := Lib.hid hyr
                  clear hr hg3 hlt hlt2 hyr
                  obtain ⟨z, hz⟩ : ∃ z, tod off r / 3600 = z := ⟨_, rfl⟩
                  have HZ := Lib.hid hz
                  rw [hz] at HB
                  clear hz
                  by_cases hj : z = 0
                  · have hjb : (z == 0) = true := by simpa using hj
                    go_wp2_with (first
                      | (go_at_call 191; refine (HA.out _).mono ?_; rintro x X4 ⟨rfl, hb4⟩; have hh4 := HH3.out.below hb4; obtain ⟨f0, f1, f2⟩ := hh4.free; obtain ⟨k0, k1, k2⟩ := hh4.cells)
                      | (go_at_call 197; refine (HB.out _ (Hold.put hh4 (t1 := r)).base).mono ?_; rintro x X5 ⟨rfl, hb5⟩; have hh5 := (Hold.put hh4 (t1 := r)).below hb5))
                    go_step3
                    exact ⟨rfl, J_of true r ol lb rfl HG3.out hh5, jmu_lt hh5.1 rfl (Nat.lt_of_lt_of_le HLT.out HG.out.2.2.1)⟩
                  · have hjb : (z == 0) = false := by simpa using hj
                    go_wp2_with (first
                      | (go_at_call 191; refine (HA.out _).mono ?_; rintro x X4 ⟨rfl, hb4⟩; have hh4 := HH3.out.below hb4; obtain ⟨f0, f1, f2⟩ := hh4.free; obtain ⟨k0, k1, k2⟩ := hh4.cells)
                      | (go_at_call 197; refine (HB.out _ (Hold.put hh4 (t1 := r)).base).mono ?_; rintro x X5 ⟨rfl, hb5⟩; have hh5 := (Hold.put hh4 (t1 := r)).below hb5))
                    have hfin : yr off r ≤ Y5 ∧ (monF off S r = true ∧ dyF off S r = true) := by
                      rcases HYR.out with h | h
                      · exact absurd (HZ.out.symm.trans h) hj
                      · exact ⟨by rw [h.2.2]; exact HG2.out.2.1, ⟨h.1, h.2.1⟩⟩
                    refine ⟨Lib.hid ⟨true, r, rfl, Lib.hid ⟨HG3.out, hfin.1, Nat.le_trans (Nat.le_of_lt HLT.out) HG.out.2.2.1, hfin.2⟩, Lib.hid hh5⟩, ?_⟩
                    rw [hmu, tOf_at hh5.1]
                    exact HLT.out
          case rest =>
            have HR0 := hcut
            clear hcut
            go_upto_block 6 with fail
            go_cut [7] (fun v wx => Hid (Rel w loc ol lb off S first hi Y5 m (fun t => monF off S t = true ∧ dyF off S t = true ∧ hrF off S t = true ∧ miF off S t = true) v wx))
            case first =>
              go_wp2_with fail
              go_loopw [7] (fun v wr => Hid (Rel w loc ol lb off S first hi Y5 m (fun t => monF off S t = true ∧ dyF off S t = true ∧ hrF off S t = true) v wr)) (fun v wr => mu hi (boolOf v) (tOf w wr))
              case atStart => exact HR0
              case round =>
                obtain ⟨added, t, rfl, HG, HH⟩ := hrel.out
                have hmu : mu hi (boolOf (Value.bool added)) (tOf w wr) = mu hi added t := by rw [tOf_at HH.out.1]; rfl
                obtain ⟨c0, c1, c2⟩ := HH.out.cells
                obtain ⟨⟨m1, m2, m3, m4⟩, -⟩ := date_of (day off t)
                have htb := tod_bd (off := off) t
                obtain ⟨kn, hkn⟩ : ∃ kn : Nat, tod off t % 3600 / 60 = kn := ⟨(tod off t % 3600 / 60).toNat, by omega⟩
                have HF := Lib.hid (fun X' (h : Below w.heap.size w X') => minute_t HC.out (HBd.out HG.out.1) h)
                rw [hkn] at HF
                obtain ⟨V1, a1, -, a3⟩ := bit_of mi kn HU.out.2.1 (by omega)
                obtain ⟨p, hp⟩ : ∃ p, has mi (kn : Int) = p := ⟨_, rfl⟩
                rw [hp] at a3
                have HP : Hid (miF off S t = p) := Lib.hid (by rw [← HSS.out]; unfold miF sched; dsimp only; rw [hkn]; exact hp)
                have v1 : min (IntKind.u64.wrap ((kn : Nat) : Int)).toNat 64 = kn := by rw [IntWalk.u64_in _ (by omega)]; omega
                have HKS : Hid (∀ X', Below wr.heap.size wr X' → X'.cell? ⟨w.heap.size, 0, none⟩ = some (.int .u64 0) ∧ X'.cell? ⟨w.heap.size, 1, none⟩ = some (.int .i64 (t + 62135596800)) ∧ X'.cell? ⟨w.heap.size, 2, none⟩ = some (.pointer loc) ∧ X'.cell? ⟨sb, 1, none⟩ = some (.int .u64 mi)) := Lib.hid (fun X' h => by
                  have h1 := HH.out.below h
                  exact ⟨h1.cells.1, h1.cells.2.1, h1.cells.2.2, (HS.out.below h1.base).2.1⟩)
                clear m1 m2 m3 m4 hkn hp c0 c1 c2 htb
                go_wp2_with fail
                go_region_held3 (fun X => X.cell? ⟨w.heap.size, 0, none⟩ = some (.int .u64 0) ∧ X.cell? ⟨w.heap.size, 1, none⟩ = some (.int .i64 (t + 62135596800)) ∧ X.cell? ⟨w.heap.size, 2, none⟩ = some (.pointer loc) ∧ X.cell? ⟨sb, 1, none⟩ = some (.int .u64 mi)) (exact HKS.out _ (by repeat (first | exact Below.refl _ _ | assumption | refine Below.drew ?_)))
                  ((go_at_call 198; (with_reducible refine (HF.out _ (HH.out.base.trans ((Below.refl _ _).drew.mono HH.out.base.size))).mono ?_); rintro x X2 ⟨rfl, hb0⟩; (have hb1 := undrew hb0)))
                have HH2 := Lib.hid (HH.out.below hb1)
                clear hb0 hb1 v1 a1 HKS HF
                cases p
                case true =>
                  go_wp2_with fail
                  go_meet
                  exact Lib.hid ⟨added, t, rfl, Lib.hid ⟨HG.out.1, HG.out.2.1, HG.out.2.2.1, ⟨HG.out.2.2.2.1, HG.out.2.2.2.2.1, HG.out.2.2.2.2.2, HP.out⟩⟩, HH2⟩
                case false =>
                  go_upto_if 142 with fail
                  go_cut [7] (fun v wx => Hid (RelT w loc ol lb off S first hi Y5 (mu hi added t) (fun t => monF off S t = true ∧ dyF off S t = true ∧ hrF off S t = true ∧ miF off S t = false) v wx))
                  case first =>
                    cases added
                    case true =>
                      go_wp2_with fail
                      go_meet
                      exact Lib.hid ⟨t, rfl, Lib.hid ⟨HG.out.1, HG.out.2.1, Nat.le_refl _, ⟨HG.out.2.2.2.1, HG.out.2.2.2.2.1, HG.out.2.2.2.2.2, HP.out⟩⟩, HH2⟩
                    case false =>
                      have ht : t = first := HG.out.1.ini rfl
                      obtain ⟨t1, hd, hg3, hm3, hd3, hh3, hf3, hy3, hlo, hhi⟩ := min_first HX.out H60.out (by rw [← ht]; exact HG.out.2.2.2.1) (by rw [← ht]; exact HG.out.2.2.2.2.1) (by rw [← ht]; exact HG.out.2.2.2.2.2) (by rw [← ht]; exact HP.out)
                      rw [← ht] at hd hy3 hlo
                      have HE := Lib.hid (show NextP.Good off S first hi true t1 ∧ yr off t1 ≤ Y5 ∧ mu hi true t1 ≤ mu hi false t ∧ monF off S t1 = true ∧ dyF off S t1 = true ∧ hrF off S t1 = true ∧ miF off S t1 = false from ⟨hg3, by rw [hy3]; exact HG.out.2.1, first_le hg3 (by omega), ⟨hm3, hd3, hh3, hf3⟩⟩)
                      have htf := HG.out.1.ini rfl
                      have hfi2 := HFI.out
                      have HF3 := Lib.hid (fun X' => trunc_t (X := X') (loc := loc) 60 60000000000 (HBd.out HG.out.1) (by omega) (.inr ⟨rfl, rfl⟩) t1 hd)
                      obtain ⟨c0, c1, c2⟩ := HH2.out.cells
                      clear ht htf hfi2 hd hg3 hf3 hy3 hlo hhi hm3 hd3 hh3
                      go_wp2_with (go_at_call 199; refine (HF3.out _).mono ?_; rintro x X4 ⟨rfl, hb4⟩; have hh4 := HH2.out.below hb4; obtain ⟨f0, f1, f2⟩ := hh4.free; obtain ⟨k0, k1, k2⟩ := hh4.cells)
                      go_meet
                      exact Lib.hid ⟨t1, rfl, HE, Lib.hid (Hold.put hh4 (t1 := t1))⟩
                  case rest =>
                    obtain ⟨t2, rfl, HG2, HH3⟩ := hcut.out
                    obtain ⟨c0, c1, c2⟩ := HH3.out.cells
                    obtain ⟨hg3, hyr⟩ := min_up HX.out HG2.out.1 HG2.out.2.2.2.1 HG2.out.2.2.2.2.1 HG2.out.2.2.2.2.2.1 HG2.out.2.2.2.2.2.2 HG2.out.2.1
                    have HA := Lib.hid (fun X' => add_t (X := X') (loc := loc) 60000000000 60 (HBd.out HG2.out.1) (by omega) (by omega) (by omega))
                    have hlt : t2 < t2 + 60 := by omega
                    obtain ⟨r, hr⟩ : ∃ r, t2 + 60 = r := ⟨_, rfl⟩
                    rw [hr] at hg3 hyr HA hlt
                    have HB := Lib.hid (fun X' (h : Below w.heap.size w X') => minute_t HC.out (HBd.out hg3) h)
                    have HG3 := Lib.hid hg3
                    have hlt2 := Nat.lt_of_lt_of_le (up_lt hg3 hlt) HG2.out.2.2.1
                    have HLT := Lib.hid hlt2
                    have HYR := Lib.hid hyr
                    clear hr hg3 hlt hlt2 hyr
                    obtain ⟨z, hz⟩ : ∃ z, tod off r % 3600 / 60 = z := ⟨_, rfl⟩
                    have HZ := Lib.hid hz
                    rw [hz] at HB
                    clear hz
                    by_cases hj : z = 0
                    · have hjb : (z == 0) = true := by simpa using hj
                      go_wp2_with (first
                        | (go_at_call 191; refine (HA.out _).mono ?_; rintro x X4 ⟨rfl, hb4⟩; have hh4 := HH3.out.below hb4; obtain ⟨f0, f1, f2⟩ := hh4.free; obtain ⟨k0, k1, k2⟩ := hh4.cells)
                        | (go_at_call 198; refine (HB.out _ (Hold.put hh4 (t1 := r)).base).mono ?_; rintro x X5 ⟨rfl, hb5⟩; have hh5 := (Hold.put hh4 (t1 := r)).below hb5))
                      go_step3
                      exact ⟨rfl, J_of true r ol lb rfl HG3.out hh5, jmu_lt hh5.1 rfl (Nat.lt_of_lt_of_le HLT.out HG.out.2.2.1)⟩
                    · have hjb : (z == 0) = false := by simpa using hj
                      go_wp2_with (first
                        | (go_at_call 191; refine (HA.out _).mono ?_; rintro x X4 ⟨rfl, hb4⟩; have hh4 := HH3.out.below hb4; obtain ⟨f0, f1, f2⟩ := hh4.free; obtain ⟨k0, k1, k2⟩ := hh4.cells)
                        | (go_at_call 198; refine (HB.out _ (Hold.put hh4 (t1 := r)).base).mono ?_; rintro x X5 ⟨rfl, hb5⟩; have hh5 := (Hold.put hh4 (t1 := r)).below hb5))
                      have hfin : yr off r ≤ Y5 ∧ (monF off S r = true ∧ dyF off S r = true ∧ hrF off S r = true) := by
                        rcases HYR.out with h | h
                        · exact absurd (HZ.out.symm.trans h) hj
                        · exact ⟨by rw [h.2.2.2]; exact HG2.out.2.1, ⟨h.1, h.2.1, h.2.2.1⟩⟩
                      refine ⟨Lib.hid ⟨true, r, rfl, Lib.hid ⟨HG3.out, hfin.1, Nat.le_trans (Nat.le_of_lt HLT.out) HG.out.2.2.1, hfin.2⟩, Lib.hid hh5⟩, ?_⟩
                      rw [hmu, tOf_at hh5.1]
                      exact HLT.out
            case rest =>
              have HR0 := hcut
              clear hcut
              go_upto_block 8 with fail
              go_cut [7] (fun v wx => Hid (Rel w loc ol lb off S first hi Y5 m (fun t => monF off S t = true ∧ dyF off S t = true ∧ hrF off S t = true ∧ miF off S t = true ∧ seF off S t = true) v wx))
              case first =>
                go_wp2_with fail
                go_loopw [7] (fun v wr => Hid (Rel w loc ol lb off S first hi Y5 m (fun t => monF off S t = true ∧ dyF off S t = true ∧ hrF off S t = true ∧ miF off S t = true) v wr)) (fun v wr => mu hi (boolOf v) (tOf w wr))
                case atStart => exact HR0
                case round =>
                  obtain ⟨added, t, rfl, HG, HH⟩ := hrel.out
                  have hmu : mu hi (boolOf (Value.bool added)) (tOf w wr) = mu hi added t := by rw [tOf_at HH.out.1]; rfl
                  obtain ⟨c0, c1, c2⟩ := HH.out.cells
                  obtain ⟨⟨m1, m2, m3, m4⟩, -⟩ := date_of (day off t)
                  have htb := tod_bd (off := off) t
                  obtain ⟨kn, hkn⟩ : ∃ kn : Nat, tod off t % 60 = kn := ⟨(tod off t % 60).toNat, by omega⟩
                  have HF := Lib.hid (fun X' (h : Below w.heap.size w X') => second_t HC.out (HBd.out HG.out.1) h)
                  rw [hkn] at HF
                  obtain ⟨V1, a1, -, a3⟩ := bit_of se kn HU.out.1 (by omega)
                  obtain ⟨p, hp⟩ : ∃ p, has se (kn : Int) = p := ⟨_, rfl⟩
                  rw [hp] at a3
                  have HP : Hid (seF off S t = p) := Lib.hid (by rw [← HSS.out]; unfold seF sched; dsimp only; rw [hkn]; exact hp)
                  have v1 : min (IntKind.u64.wrap ((kn : Nat) : Int)).toNat 64 = kn := by rw [IntWalk.u64_in _ (by omega)]; omega
                  have HKS : Hid (∀ X', Below wr.heap.size wr X' → X'.cell? ⟨w.heap.size, 0, none⟩ = some (.int .u64 0) ∧ X'.cell? ⟨w.heap.size, 1, none⟩ = some (.int .i64 (t + 62135596800)) ∧ X'.cell? ⟨w.heap.size, 2, none⟩ = some (.pointer loc) ∧ X'.cell? ⟨sb, 0, none⟩ = some (.int .u64 se)) := Lib.hid (fun X' h => by
                    have h1 := HH.out.below h
                    exact ⟨h1.cells.1, h1.cells.2.1, h1.cells.2.2, (HS.out.below h1.base).1⟩)
                  clear m1 m2 m3 m4 hkn hp c0 c1 c2 htb
                  go_wp2_with fail
                  go_region_held3 (fun X => X.cell? ⟨w.heap.size, 0, none⟩ = some (.int .u64 0) ∧ X.cell? ⟨w.heap.size, 1, none⟩ = some (.int .i64 (t + 62135596800)) ∧ X.cell? ⟨w.heap.size, 2, none⟩ = some (.pointer loc) ∧ X.cell? ⟨sb, 0, none⟩ = some (.int .u64 se)) (exact HKS.out _ (by repeat (first | exact Below.refl _ _ | assumption | refine Below.drew ?_)))
                    ((go_at_call 200; (with_reducible refine (HF.out _ (HH.out.base.trans ((Below.refl _ _).drew.mono HH.out.base.size))).mono ?_); rintro x X2 ⟨rfl, hb0⟩; (have hb1 := undrew hb0)))
                  have HH2 := Lib.hid (HH.out.below hb1)
                  clear hb0 hb1 v1 a1 HKS HF
                  cases p
                  case true =>
                    go_wp2_with fail
                    go_meet
                    exact Lib.hid ⟨added, t, rfl, Lib.hid ⟨HG.out.1, HG.out.2.1, HG.out.2.2.1, ⟨HG.out.2.2.2.1, HG.out.2.2.2.2.1, HG.out.2.2.2.2.2.1, HG.out.2.2.2.2.2.2, HP.out⟩⟩, HH2⟩
                  case false =>
                    go_upto_if 161 with fail
                    go_cut [7] (fun v wx => Hid (RelT w loc ol lb off S first hi Y5 (mu hi added t) (fun t => monF off S t = true ∧ dyF off S t = true ∧ hrF off S t = true ∧ miF off S t = true ∧ seF off S t = false) v wx))
                    case first =>
                      cases added
                      case true =>
                        go_wp2_with fail
                        go_meet
                        exact Lib.hid ⟨t, rfl, Lib.hid ⟨HG.out.1, HG.out.2.1, Nat.le_refl _, ⟨HG.out.2.2.2.1, HG.out.2.2.2.2.1, HG.out.2.2.2.2.2.1, HG.out.2.2.2.2.2.2, HP.out⟩⟩, HH2⟩
                      case false =>
                        have ht : t = first := HG.out.1.ini rfl
                        obtain ⟨t1, hd, hg3, hm3, hd3, hh3, hi3, hf3, hy3, hlo, hhi⟩ : ∃ t1, first + 62135596800 - (first + 62135596800) % 1 = t1 + 62135596800 ∧ NextP.Good off S first hi true t1 ∧ monF off S t1 = true ∧ dyF off S t1 = true ∧ hrF off S t1 = true ∧ miF off S t1 = true ∧ seF off S t1 = false ∧ yr off t1 = yr off first ∧ first - 60 ≤ t1 ∧ t1 ≤ hi := ⟨first, by omega, sec_first HX.out (by have := HG.out.1; rw [ht] at this; exact this) (by rw [← ht]; exact HG.out.2.2.2.1) (by rw [← ht]; exact HG.out.2.2.2.2.1) (by rw [← ht]; exact HG.out.2.2.2.2.2.1) (by rw [← ht]; exact HG.out.2.2.2.2.2.2), (by rw [← ht]; exact HG.out.2.2.2.1), (by rw [← ht]; exact HG.out.2.2.2.2.1), (by rw [← ht]; exact HG.out.2.2.2.2.2.1), (by rw [← ht]; exact HG.out.2.2.2.2.2.2), (by rw [← ht]; exact HP.out), rfl, by omega, by have := HG.out.1.seen.le; omega⟩
                        rw [← ht] at hd hy3 hlo
                        have HE := Lib.hid (show NextP.Good off S first hi true t1 ∧ yr off t1 ≤ Y5 ∧ mu hi true t1 ≤ mu hi false t ∧ monF off S t1 = true ∧ dyF off S t1 = true ∧ hrF off S t1 = true ∧ miF off S t1 = true ∧ seF off S t1 = false from ⟨hg3, by rw [hy3]; exact HG.out.2.1, first_le hg3 (by omega), ⟨hm3, hd3, hh3, hi3, hf3⟩⟩)
                        have htf := HG.out.1.ini rfl
                        have hfi2 := HFI.out
                        have HF3 := Lib.hid (fun X' => trunc_t (X := X') (loc := loc) 1 1000000000 (HBd.out HG.out.1) (by omega) (.inl ⟨rfl, rfl⟩) t1 hd)
                        obtain ⟨c0, c1, c2⟩ := HH2.out.cells
                        clear ht htf hfi2 hd hg3 hf3 hy3 hlo hhi hm3 hd3 hh3 hi3
                        go_wp2_with (go_at_call 199; refine (HF3.out _).mono ?_; rintro x X4 ⟨rfl, hb4⟩; have hh4 := HH2.out.below hb4; obtain ⟨f0, f1, f2⟩ := hh4.free; obtain ⟨k0, k1, k2⟩ := hh4.cells)
                        go_meet
                        exact Lib.hid ⟨t1, rfl, HE, Lib.hid (Hold.put hh4 (t1 := t1))⟩
                    case rest =>
                      obtain ⟨t2, rfl, HG2, HH3⟩ := hcut.out
                      obtain ⟨c0, c1, c2⟩ := HH3.out.cells
                      obtain ⟨hg3, hyr⟩ := sec_up HX.out HG2.out.1 HG2.out.2.2.2.1 HG2.out.2.2.2.2.1 HG2.out.2.2.2.2.2.1 HG2.out.2.2.2.2.2.2.1 HG2.out.2.2.2.2.2.2.2 HG2.out.2.1
                      have HA := Lib.hid (fun X' => add_t (X := X') (loc := loc) 1000000000 1 (HBd.out HG2.out.1) (by omega) (by omega) (by omega))
                      have hlt : t2 < t2 + 1 := by omega
                      obtain ⟨r, hr⟩ : ∃ r, t2 + 1 = r := ⟨_, rfl⟩
                      rw [hr] at hg3 hyr HA hlt
                      have HB := Lib.hid (fun X' (h : Below w.heap.size w X') => second_t HC.out (HBd.out hg3) h)
                      have HG3 := Lib.hid hg3
                      have hlt2 := Nat.lt_of_lt_of_le (up_lt hg3 hlt) HG2.out.2.2.1
                      have HLT := Lib.hid hlt2
                      have HYR := Lib.hid hyr
                      clear hr hg3 hlt hlt2 hyr
                      obtain ⟨z, hz⟩ : ∃ z, tod off r % 60 = z := ⟨_, rfl⟩
                      have HZ := Lib.hid hz
                      rw [hz] at HB
                      clear hz
                      by_cases hj : z = 0
                      · have hjb : (z == 0) = true := by simpa using hj
                        go_wp2_with (first
                          | (go_at_call 191; refine (HA.out _).mono ?_; rintro x X4 ⟨rfl, hb4⟩; have hh4 := HH3.out.below hb4; obtain ⟨f0, f1, f2⟩ := hh4.free; obtain ⟨k0, k1, k2⟩ := hh4.cells)
                          | (go_at_call 200; refine (HB.out _ (Hold.put hh4 (t1 := r)).base).mono ?_; rintro x X5 ⟨rfl, hb5⟩; have hh5 := (Hold.put hh4 (t1 := r)).below hb5))
                        go_step3
                        exact ⟨rfl, J_of true r ol lb rfl HG3.out hh5, jmu_lt hh5.1 rfl (Nat.lt_of_lt_of_le HLT.out HG.out.2.2.1)⟩
                      · have hjb : (z == 0) = false := by simpa using hj
                        go_wp2_with (first
                          | (go_at_call 191; refine (HA.out _).mono ?_; rintro x X4 ⟨rfl, hb4⟩; have hh4 := HH3.out.below hb4; obtain ⟨f0, f1, f2⟩ := hh4.free; obtain ⟨k0, k1, k2⟩ := hh4.cells)
                          | (go_at_call 200; refine (HB.out _ (Hold.put hh4 (t1 := r)).base).mono ?_; rintro x X5 ⟨rfl, hb5⟩; have hh5 := (Hold.put hh4 (t1 := r)).below hb5))
                        have hfin : yr off r ≤ Y5 ∧ (monF off S r = true ∧ dyF off S r = true ∧ hrF off S r = true ∧ miF off S r = true) := by
                          rcases HYR.out with h | h
                          · exact absurd (HZ.out.symm.trans h) hj
                          · exact ⟨by rw [h.2.2.2.2]; exact HG2.out.2.1, ⟨h.1, h.2.1, h.2.2.1, h.2.2.2.1⟩⟩
                        refine ⟨Lib.hid ⟨true, r, rfl, Lib.hid ⟨HG3.out, hfin.1, Nat.le_trans (Nat.le_of_lt HLT.out) HG.out.2.2.1, hfin.2⟩, Lib.hid hh5⟩, ?_⟩
                        rw [hmu, tOf_at hh5.1]
                        exact HLT.out
              case rest =>
                have HR0 := hcut
                clear hcut
                obtain ⟨added, t, rfl, HG, HH⟩ := HR0.out
                obtain ⟨c0, c1, c2⟩ := HH.out.cells
                have HI := Lib.hid (fun X' (h : Below wc.heap.size wc X') => in_any 0 (t + 62135596800) loc loc ol off X' nn0 (HH.out.below h).opair)
                go_wp2_with (go_at_call 74; refine (HI.out _ (Below.refl _ _)).mono ?_; rintro x X1 ⟨rfl, hb⟩; have hh1 := HH.out.below hb; obtain ⟨d0, d1, d2⟩ := hh1.res; obtain ⟨g0, g1, g2⟩ := hh1.rfree)
                simp only [Exit.jump]
                refine bodyPost_ret (v := .agg #[.int .u64 0, .int .i64 (t + 62135596800), .pointer loc]) (by simp [results, Tryz.results189, go_sem, *]) rfl ⟨t, HG.out.1.seen, HG.out.1.low, .inl ⟨HG.out.2.2.2, HG.out.2.1, rfl⟩, below_set3 hh1.base (Nat.le_succ _)⟩
end Go.Proofs.YtmnjmhlodbifjaaGreatDoor.NextC
