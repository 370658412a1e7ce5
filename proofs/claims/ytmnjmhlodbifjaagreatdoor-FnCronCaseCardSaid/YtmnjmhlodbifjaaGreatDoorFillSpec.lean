/- The reference's CronFill. Conditions: options below 512. -/
import Derived.Test.YtmnjmhlodbifjaaGreatDoorFillA
namespace Go.Proofs.YtmnjmhlodbifjaaGreatDoor.FillSpec
open Go Go.RowKit Go.Proofs.YtmnjmhlodbifjaaGreatDoor.Mem Go.Proofs.YtmnjmhlodbifjaaGreatDoor.FillPure Go.Proofs.YtmnjmhlodbifjaaGreatDoor.FillA
set_option linter.unusedVariables false

/-- The reference's number of the kind that is missing. -/
def missI (miss : Nat) : Int := if miss = 6 then -1 else (miss : Int)
theorem missI_ne (miss k : Nat) (hm : miss ≤ 6) (hk : k < 6) : ((k : Int) != missI miss) = decide (k ≠ miss) := by
  unfold missI
  rw [Bool.eq_iff_iff, bne_iff_ne, decide_eq_true_eq]
  split <;> omega

/-- What both hand back. -/
def FillRes (r : Option (List ByteArray)) (B : Nat) (e : Ending) (w' : World) : Prop :=
  match r with
  | some L => ∃ g, e = .returned (.tuple #[.slice (some ⟨g, 0, none⟩) 6 6, .bool true]) ∧ B ≤ g ∧ RowAt w' g (fun k => L.getD k ⟨#[]⟩)
  | none => e = .returned (.tuple #[.slice none 0 0, .bool false])

theorem miss_facts {o : Int} {m : Nat} {miss : Nat} (h : missOf o m = some miss) : miss ≤ 6 := by
  unfold missOf at h
  split at h
  · cases h
  · split at h
    · cases h; omega
    · split at h
      · cases h; omega
      · split at h
        · cases h; omega
        · cases h

/-- The row when k places are laid. -/
def soFar (t : Nat → Bool) (fs : List ByteArray) (k j : Nat) : ByteArray := if j < k then at' t fs j else ⟨#[]⟩
theorem soFar_next (t : Nat → Bool) (fs : List ByteArray) (k : Nat) : upd (soFar t fs k) k (at' t fs k) = soFar t fs (k + 1) := by
  funext j
  unfold upd soFar
  by_cases h : j = k
  · subst h; simp
  · rw [if_neg h]
    by_cases h2 : j < k
    · rw [if_pos h2, if_pos (by omega)]
    · rw [if_neg h2, if_neg (by omega)]
theorem upd_upd (f : Nat → ByteArray) (k : Nat) (x y : ByteArray) : upd (upd f k x) k y = upd f k y := by
  funext j; unfold upd; split <;> rfl
theorem without_true {t : Nat → Bool} {miss k : Nat} (h : without t miss k = true) : t k = true ∧ k ≠ miss := by
  unfold without at h
  simpa using h
theorem cnt_without {t : Nat → Bool} {miss : Nat} (h : miss < 6) (ht : t miss = true) : cnt (without t miss) 6 + 1 = cnt t 6 := by
  have h6 : miss = 0 ∨ miss = 1 ∨ miss = 2 ∨ miss = 3 ∨ miss = 4 ∨ miss = 5 := by omega
  rcases h6 with rfl | rfl | rfl | rfl | rfl | rfl <;> simp [cnt, without, ht] <;> omega
theorem miss_count {o : Int} {m miss : Nat} (hsec : sec o = true → takes o 0 = true) (hdow : dow o = true → takes o 5 = true) (h : missOf o m = some miss) : cnt (without (takes o) miss) 6 = m := by
  unfold missOf at h
  split at h
  · cases h
  · split at h
    · cases h
      rename_i h2
      rw [h2]
      refine cnt_congr fun j hj => ?_
      unfold without
      rw [decide_eq_true (by omega), Bool.and_true]
    · split at h
      · cases h
        rename_i h2
        have := cnt_without (show 0 < 6 by omega) (hsec h2.1)
        omega
      · split at h
        · cases h
          rename_i h2
          have := cnt_without (show 5 < 6 by omega) (hdow h2.1)
          omega
        · cases h

set_option maxHeartbeats 2000000 in
set_option maxRecDepth 100000 in
theorem fill_any (o : Int) (oa : Option Addr) (cap : Nat) (fs : List ByteArray) (w : World) (hm : fs.length ≤ 65536) (ht : Texts w oa fs)
    (h1 : (Go.bits .and .i64 o 2 != 0) = sec o) (h2 : (Go.bits .and .i64 o 128 != 0) = dow o) (hsec : sec o = true → takes o 0 = true) (hdow : dow o = true → takes o 5 = true) :
    Calls Tryz.prog 83 #[.slice oa fs.length cap, .int .i64 o] w fun e w' => FillRes (fillOf o fs) w.heap.size e w' ∧ Below w.heap.size w w' := by
  have HTW := Lib.hid (fun w => two_any o w h1 h2)
  have HMAY := Lib.hid (fun w => may_any o w h1 h2)
  have HT := Lib.hid ht
  clear h1 h2 ht
  have hT6 := cnt_le (takes o) 6
  by_cases hboth : (sec o && dow o) = true
  · rw [hboth] at HTW
    have HR : Hid (fillOf o fs = none) := Lib.hid (by unfold fillOf missOf; rw [if_pos hboth]; rfl)
    clear hboth
    go_enter Tryz.func83, Tryz.ntmps83
    go_wp2_with (go_at_call 26; refine (HTW.out _).mono ?_; rintro e w1 ⟨rfl, rfl⟩)
    go_ret2
    exact ⟨by rw [HR.out]; rfl, Below.refl _ _⟩
  · have hb2 : (sec o && dow o) = false := by simpa using hboth
    rw [hb2] at HTW
    have HB := Lib.hid hboth
    clear hboth hb2
    go_enter Tryz.func83, Tryz.ntmps83
    go_wp2_with (go_at_call 26; refine (HTW.out _).mono ?_; rintro e w1 ⟨rfl, rfl⟩)
    go_loopw [6, 7, 14] (fun c _ v wr => ∃ k : Nat, v = .int .i64 (k : Int) ∧ k ≤ 6 ∧ c = .int .i64 (cnt (takes o) k : Int) ∧ Hid (Below w.heap.size w wr)) (fun _ _ v _ => 6 - (intOf v).toNat)
    case atStart => exact ⟨0, rfl, Nat.zero_le _, rfl, Lib.hid (Below.refl _ _)⟩
    case round =>
      obtain ⟨k, rfl, hk, rfl, hbel⟩ := hrel
      have hck := cnt_le (takes o) k
      by_cases hlt : k < 6
      · cases htk : takes o k with
        | true =>
          have hcs : cnt (takes o) (k + 1) = cnt (takes o) k + 1 := by rw [cnt_succ, if_pos htk]
          have HK := Lib.hid (fun w => takes_any o k w hlt)
          rw [htk] at HK
          clear htk
          go_wp2_with (go_at_call 113; refine (HK.out _).mono ?_; rintro e w2 ⟨rfl, hb2⟩)
          go_roundw
          case rel => exact ⟨k + 1, by go_num, by omega, by rw [hcs]; go_num, Lib.hid (hbel.out.trans (hb2.mono hbel.out.size))⟩
          case measure => simp [intOf]; omega
        | false =>
          have hcs : cnt (takes o) (k + 1) = cnt (takes o) k := by rw [cnt_succ, htk]; rfl
          have HK := Lib.hid (fun w => takes_any o k w hlt)
          rw [htk] at HK
          clear htk
          go_wp2_with (go_at_call 113; refine (HK.out _).mono ?_; rintro e w2 ⟨rfl, hb2⟩)
          go_roundw
          case rel => exact ⟨k + 1, by go_num, by omega, by rw [hcs], Lib.hid (hbel.out.trans (hb2.mono hbel.out.size))⟩
          case measure => simp [intOf]; omega
      · have hk6 : k = 6 := by omega
        subst hk6
        obtain ⟨T, hT⟩ : ∃ T, cnt (takes o) 6 = T := ⟨_, rfl⟩
        have hmiss : Hid (missOf o fs.length = if fs.length = T then some 6 else if sec o = true ∧ fs.length + 1 = T then some 0 else if dow o = true ∧ fs.length + 1 = T then some 5 else none) := Lib.hid (by
          unfold missOf; rw [if_neg HB.out, hT])
        rw [hT] at hT6 hck ⊢
        by_cases hno : missOf o fs.length = none
        · have HR : Hid (fillOf o fs = none) := Lib.hid (by unfold fillOf; rw [hno]; rfl)
          rw [hmiss.out] at hno
          have hne : fs.length ≠ T := by intro e; rw [if_pos e] at hno; cases hno
          rw [if_neg hne] at hno
          by_cases hmay : mayOf o < 0
          · have HM := HMAY.out
            obtain ⟨y, hy⟩ : ∃ y, mayOf o = y := ⟨_, rfl⟩
            rw [hy] at HM hmay
            have HM := Lib.hid HM
            clear hno
            go_wp2_with (go_at_call 114; refine (HM.out _).mono ?_; rintro e w2 ⟨rfl, rfl⟩)
            go_ret2
            exact ⟨by rw [HR.out]; rfl, hbel.out⟩
          · have hne2 : fs.length + 1 ≠ T := by
              intro e
              unfold mayOf at hmay
              cases hs : sec o with
              | true => rw [if_pos ⟨hs, e⟩] at hno; cases hno
              | false =>
                cases hd : dow o with
                | true => rw [if_neg (by simp [hs]), if_pos ⟨hd, e⟩] at hno; cases hno
                | false => rw [hs, hd] at hmay; simp at hmay
            have HM := HMAY.out
            obtain ⟨y, hy⟩ : ∃ y, mayOf o = y := ⟨_, rfl⟩
            rw [hy] at HM hmay
            have HM := Lib.hid HM
            clear hno
            have hq : ((fs.length : Int) != (T : Int) - 1) = true := by rw [bne_iff_ne]; omega
            go_wp2_with (go_at_call 114; refine (HM.out _).mono ?_; rintro e w2 ⟨rfl, rfl⟩)
            go_ret2
            exact ⟨by rw [HR.out]; rfl, hbel.out⟩
        · obtain ⟨miss, hms⟩ := Option.ne_none_iff_exists'.1 hno
          have hm6 := miss_facts hms
          have HR : Hid (fillOf o fs = some (filled (without (takes o) miss) fs)) := Lib.hid (by unfold fillOf; rw [hms]; rfl)
          have HMS := Lib.hid hms
          clear hno hms
          go_upto_if 28 with (go_at_call 114; refine (HMAY.out _).mono ?_; rintro e w2 ⟨rfl, rfl⟩)
          go_cut [8] (fun s8 wx => s8 = .int .i64 (missI miss) ∧ wx = wr)
          case first =>
            have hms := HMS.out
            rw [hmiss.out] at hms
            by_cases he : fs.length = T
            · rw [if_pos he] at hms
              have hmi : Hid (missI miss = -1) := Lib.hid (by cases hms; rfl)
              clear hms hmiss
              go_wp2
              go_meet
              case rel => exact ⟨by rw [hmi.out], rfl⟩
            · rw [if_neg he] at hms
              have hmi : mayOf o = missI miss ∧ fs.length + 1 = T ∧ 0 ≤ missI miss := by
                unfold mayOf
                cases hs : sec o with
                | true =>
                  by_cases he2 : fs.length + 1 = T
                  · rw [if_pos ⟨hs, he2⟩] at hms; cases hms; exact ⟨rfl, he2, by decide⟩
                  · rw [if_neg (fun h => he2 h.2), if_neg (fun h => he2 h.2)] at hms; cases hms
                | false =>
                  rw [if_neg (by simp [hs])] at hms
                  by_cases he2 : dow o = true ∧ fs.length + 1 = T
                  · rw [if_pos he2] at hms; cases hms; rw [he2.1]; exact ⟨rfl, he2.2, by decide⟩
                  · rw [if_neg he2] at hms; cases hms
              obtain ⟨e1, e2, e3⟩ := hmi
              have hq : ((fs.length : Int) != (T : Int) - 1) = false := by rw [bne_eq_false_iff_eq]; omega
              rw [e1]
              clear hms hmiss e1
              go_wp2
              go_meet
              case rel => exact ⟨rfl, rfl⟩
          case rest =>
            obtain ⟨rfl, rfl⟩ := hcut
            have HNE := Lib.hid (fun (k : Nat) (hk : k < 6) => missI_ne miss k hm6 hk)
            generalize missI miss = mi at HNE
            go_wp2_with (with_reducible refine wpList_make6 rfl _ _ rfl rfl rfl ?_)
            obtain ⟨g, hg⟩ : ∃ g : Nat, wc.heap.size = g := ⟨_, rfl⟩
            have hs0 : Hid (RowAt (wc.alloc (.cells (strArr fun _ => ⟨#[]⟩) 9)) g (soFar (without (takes o) miss) fs 0)) := Lib.hid (by rw [← hg]; exact (RowAt.new wc _).congr fun j _ => by simp [soFar])
            have hs1 : Hid (Below w.heap.size w (wc.alloc (.cells (strArr fun _ => ⟨#[]⟩) 9))) := Lib.hid (hbel.out.alloc hbel.out.size _)
            have hwg : w.heap.size ≤ g := by rw [← hg]; exact hbel.out.size
            have HLEN := Lib.hid (miss_count hsec hdow HMS.out)
            rw [hg]
            clear hbel hmiss hg hsec hdow
            go_loopw [10, 11, 41] (fun n _ v wr => ∃ k : Nat, v = .int .i64 (k : Int) ∧ k ≤ 6 ∧ n = .int .i64 (cnt (without (takes o) miss) k : Int) ∧ Hid (RowAt wr g (soFar (without (takes o) miss) fs k)) ∧ Hid (Below w.heap.size w wr)) (fun _ _ v _ => 6 - (intOf v).toNat)
            case atStart => exact ⟨0, rfl, Nat.zero_le _, rfl, hs0, hs1⟩
            case round =>
              clear hs0 hs1
              obtain ⟨k, rfl, hk, rfl, hs0, hs1⟩ := hrel
              by_cases hlt : k < 6
              · have hkc := hs0.out.cell k hlt
                have hkf := hs0.out.free k
                have hcl := cnt_le (without (takes o) miss) k
                have hli : ((k : Nat) : Int) < 6 := by omega
                have hneq := HNE.out k hlt
                have HK := Lib.hid (fun w => takes_any o k w hlt)
                have HS1 : Hid (RowAt (wr.setCell ⟨g, k, none⟩ (.string (dflt k))) g (upd (soFar (without (takes o) miss) fs k) k (dflt k)) ∧ Below w.heap.size w (wr.setCell ⟨g, k, none⟩ (.string (dflt k)))) := Lib.hid ⟨hs0.out.put k hlt _, hs1.out.setCell hwg _⟩
                have HNX := Lib.hid (soFar_next (without (takes o) miss) fs k)
                cases hu : without (takes o) miss k with
                | true =>
                  obtain ⟨htk, hkm⟩ := without_true hu
                  rw [htk] at HK
                  have hkm' : ((k : Int) != mi) = true := by rw [hneq]; exact decide_eq_true hkm
                  have hcs : cnt (without (takes o) miss) (k + 1) = cnt (without (takes o) miss) k + 1 := by rw [cnt_succ, if_pos hu]
                  have hclt : cnt (without (takes o) miss) k < fs.length := by rw [← HLEN.out]; exact cnt_lt _ hlt hu
                  have HAT : Hid (at' (without (takes o) miss) fs k = fs[cnt (without (takes o) miss) k]) := Lib.hid (by
                    unfold at'; rw [if_pos hu, List.getD_eq_getElem?_getD, List.getElem?_eq_getElem hclt]; rfl)
                  have hget : fs[cnt (without (takes o) miss) k]? = some fs[cnt (without (takes o) miss) k] := List.getElem?_eq_getElem hclt
                  obtain ⟨a, rfl, -⟩ := HT.out _ _ hget
                  have HGET := Lib.hid hget
                  obtain ⟨x, hx⟩ : ∃ x, fs[cnt (without (takes o) miss) k] = x := ⟨_, rfl⟩
                  rw [hx] at HAT HGET
                  have HN := HNX.out
                  rw [HAT.out] at HN
                  have HN := Lib.hid HN
                  clear hneq htk hkm hget hx HAT HNX hu
                  go_wp2_with (first
                    | (go_at_call 115; refine (dflt_any k _).mono ?_; rintro e w' ⟨rfl, rfl⟩)
                    | (go_at_call 113; refine (HK.out _).mono ?_; rintro e w2 ⟨rfl, hb2⟩; (have HB2 := Lib.hid (HS1.out.2.trans (hb2.mono HS1.out.2.size))); (have HR2 := Lib.hid (HS1.out.1.below hb2 HS1.out.1.lt)); (have kf := HR2.out.free k); (have kc := HR2.out.cell k hlt); (have kt := (HT.out.below HB2.out).cell HGET.out)))
                  go_roundw
                  case rel => exact ⟨k + 1, by go_num, by omega, by rw [hcs]; go_num, Lib.hid (by rw [← HN.out, ← upd_upd _ k (dflt k)]; exact HR2.out.put k hlt _), Lib.hid (HB2.out.setCell hwg _)⟩
                  case measure => simp [intOf]; omega
                | false =>
                  have hcs : cnt (without (takes o) miss) (k + 1) = cnt (without (takes o) miss) k := by rw [cnt_succ, hu]; rfl
                  have HN : Hid (upd (soFar (without (takes o) miss) fs k) k (dflt k) = soFar (without (takes o) miss) fs (k + 1)) := Lib.hid (by
                    rw [← HNX.out]; unfold at'; rw [hu]; rfl)
                  cases htk : takes o k with
                  | false =>
                    rw [htk] at HK
                    clear hneq htk HNX hu
                    go_wp2_with (first
                      | (go_at_call 115; refine (dflt_any k _).mono ?_; rintro e w' ⟨rfl, rfl⟩)
                      | (go_at_call 113; refine (HK.out _).mono ?_; rintro e w2 ⟨rfl, hb2⟩; (have HB2 := Lib.hid (HS1.out.2.trans (hb2.mono HS1.out.2.size))); (have HR2 := Lib.hid (HS1.out.1.below hb2 HS1.out.1.lt))))
                    go_roundw
                    case rel => exact ⟨k + 1, by go_num, by omega, by rw [hcs], Lib.hid (by rw [← HN.out]; exact HR2.out), HB2⟩
                    case measure => simp [intOf]; omega
                  | true =>
                    rw [htk] at HK
                    have hkm' : ((k : Int) != mi) = false := by
                      rw [hneq]
                      unfold without at hu
                      rw [htk] at hu
                      simpa using hu
                    clear hneq htk HNX hu
                    go_wp2_with (first
                      | (go_at_call 115; refine (dflt_any k _).mono ?_; rintro e w' ⟨rfl, rfl⟩)
                      | (go_at_call 113; refine (HK.out _).mono ?_; rintro e w2 ⟨rfl, hb2⟩; (have HB2 := Lib.hid (HS1.out.2.trans (hb2.mono HS1.out.2.size))); (have HR2 := Lib.hid (HS1.out.1.below hb2 HS1.out.1.lt))))
                    go_roundw
                    case rel => exact ⟨k + 1, by go_num, by omega, by rw [hcs], Lib.hid (by rw [← HN.out]; exact HR2.out), HB2⟩
                    case measure => simp [intOf]; omega
              · have hk6 : k = 6 := by omega
                subst hk6
                go_wp2_with fail
                go_ret2
                exact ⟨by rw [HR.out]; exact ⟨g, rfl, hwg, hs0.out.congr fun j hj => by simp [soFar, filled, hj]⟩, hs1.out⟩

end Go.Proofs.YtmnjmhlodbifjaaGreatDoor.FillSpec
