/- impl's CronFields and the law's zzFits2. Conditions: options below 512, up to 64 texts. -/
import Derived.Test.YtjkabibcclegdaaFillNorm
import Derived.Laws.AppendOwnNone
namespace Go.Proofs.Ytjkabibcclegdaa.FillImpl
open Go Go.RowKit Go.Proofs.Ytjkabibcclegdaa.Mem Go.Proofs.Ytjkabibcclegdaa.FillPure Go.Proofs.Ytjkabibcclegdaa.FillA Go.Proofs.Ytjkabibcclegdaa.FillSpec Go.Proofs.Ytjkabibcclegdaa.FillNorm
set_option linter.unusedVariables false

/-- What the options' numbers have in common. -/
structure Opts (o : Int) : Prop where
  s1 : sec (more o) = sec o
  d1 : dow (more o) = dow o
  d2 : dow (opt1 o) = dow o
  ht : ∀ k, k < 6 → hit (more o) k = takes o k
  hs : sec o = true → takes o 0 = true
  hd : dow o = true → takes o 5 = true
  b2 : (Go.bits .and .i64 o 2 != 0) = sec o
  b128 : (Go.bits .and .i64 o 128 != 0) = dow o

theorem opts (n : Nat) (h : n < 512) : Opts (n : Int) := by
  obtain ⟨h1, h2, h3, h4, h5, h6, h7, h8⟩ := opts_facts ⟨n, h⟩
  exact ⟨h4, h5, by unfold opt1; split
                    · exact h8
                    · rfl, fun k hk => h1 ⟨k, hk⟩, h6, h7, h2, h3⟩

/-- Some truth value. -/
def BoolRes (e : Ending) : Prop := ∃ b, e = .returned (.bool b)

theorem fits_any (oa : Option Addr) (cap : Nat) (fs : List ByteArray) (w : World) (hl : fs.length ≤ 9223372036854775807) (hsz : ∀ s ∈ fs, s.size ≤ 9223372036854775807) (ht : Texts w oa fs) :
    Calls Try.prog 10 #[.slice oa fs.length cap] w fun e w' => BoolRes e ∧ w = w' := by
  have HT := Lib.hid ht
  have HS := Lib.hid hsz
  clear ht hsz
  by_cases hbig : 2147483647 < fs.length
  · go_enter Try.func10, Try.ntmps10
    go_wp2
    go_ret
    exact ⟨⟨_, rfl⟩, rfl⟩
  · go_enter Try.func10, Try.ntmps10
    go_wp2
    go_loop [4, 10] (fun _ v => ∃ k : Nat, v = .int .i64 (k : Int) ∧ k ≤ fs.length) (fun _ v => fs.length - (intOf v).toNat)
    case atStart => exact ⟨0, rfl, Nat.zero_le _⟩
    case round =>
      obtain ⟨k, rfl, hk⟩ := hrel
      by_cases hlt : k < fs.length
      · have hget : fs[k]? = some fs[k] := List.getElem?_eq_getElem hlt
        have hsz := HS.out _ (List.getElem_mem hlt)
        obtain ⟨a, rfl, hc⟩ := HT.out _ _ hget
        obtain ⟨x, hx⟩ : ∃ x, fs[k] = x := ⟨_, rfl⟩
        rw [hx] at hc hsz
        clear hget hx
        by_cases hb : 2147483647 < x.size
        · go_wp2
          go_ret
          exact ⟨⟨_, rfl⟩, rfl⟩
        · go_wp2
          go_round
          case rel => exact ⟨k + 1, by go_num, by omega⟩
          case measure => simp [intOf]; omega
      · go_wp2
        go_ret
        exact ⟨⟨_, rfl⟩, rfl⟩

theorem zz_any (o : Int) (B g cap : Nat) (fs : List ByteArray) (w : World) (hm : fs.length ≤ 64) (hown : w.ownsRow B 9 1 (.slice (some ⟨g, 0, none⟩) fs.length cap) fs.length (strs fs)) (hB : B ≤ w.heap.size) (ho : Opts o) :
    Calls Try.prog 19 #[.slice (some ⟨g, 0, none⟩) fs.length cap, .int .i64 o] w fun e w' => NormRes (fillOf o fs) B e w' ∧ Below B w w' := by
  have HN := Lib.hid (norm_any o B g cap fs w hm hown hB ho.s1 ho.d1 ho.d2 ho.ht ho.hs ho.hd)
  clear hown ho
  cases hf : fillOf o fs with
  | none =>
    rw [hf] at HN
    go_enter Try.func19, Try.ntmps19
    go_wp2_with (go_at_call 21; refine HN.out.mono ?_; rintro e w1 ⟨⟨T, p, rfl⟩, hb⟩)
    go_ret2
    exact ⟨⟨_, _, rfl⟩, hb⟩
  | some L =>
    rw [hf] at HN
    go_enter Try.func19, Try.ntmps19
    go_wp2_with (go_at_call 21; refine HN.out.mono ?_; rintro e w1 ⟨⟨g1, rfl, hg1, hr⟩, hb⟩)
    go_ret2
    exact ⟨⟨g1, rfl, hg1, hr⟩, hb⟩

theorem zero_owned (w : World) : (w.alloc (.cells #[] 9)).ownsRow w.heap.size 9 1 (.slice (some ⟨w.heap.size, 0, none⟩) 0 0) 0 [] :=
  ⟨rfl, .inr ⟨_, 0, _, rfl, Nat.le_refl _, heap_alloc_new w _, Nat.le_refl _, Nat.zero_le _, rfl, rfl⟩⟩
theorem texts_cells {w : World} {a : Addr} {fs : List ByteArray} (h : Texts w (some a) fs) {j : Nat} {u : Value} (hu : (strs fs)[j]? = some u) : w.cell? (a.add j) = some u := by
  unfold strs at hu
  rw [List.getElem?_map] at hu
  cases hg : fs[j]? with
  | none => rw [hg] at hu; cases hu
  | some s => rw [hg] at hu; cases hu; exact h.cell hg
theorem shape3 {w3 : World} {B m g n cap : Nat} {v' : Value} {xs : List Value} (h : w3.ownsRow B 9 1 v' (0 + m) ([] ++ xs)) (hnil : v' = .slice none 0 0 ↔ Value.slice (some ⟨g, 0, none⟩) n cap = .slice none 0 0 ∧ m = 0) :
    ∃ g3 cap3, v' = .slice (some ⟨g3, 0, none⟩) m cap3 ∧ w3.ownsRow B 9 1 (.slice (some ⟨g3, 0, none⟩) m cap3) m xs := by
  rw [Nat.zero_add, List.nil_append] at h
  have h' := h
  rcases h.2 with ⟨h0, _⟩ | ⟨g', cap', cur, he, hb, hg, hle, hm, hcur, htake⟩
  · have := (hnil.1 h0).1; cases this
  · subst he; exact ⟨g', cap', rfl, h'⟩

set_option maxHeartbeats 1000000 in
set_option maxRecDepth 100000 in
theorem fields_some (o : Int) (a : Addr) (cap : Nat) (fs : List ByteArray) (w : World) (hm : fs.length ≤ 64) (ht : Texts w (some a) fs) (ho : Opts o) :
    Calls Try.prog 12 #[.slice (some a) fs.length cap, .int .i64 o] w fun e w' => FillRes (fillOf o fs) w.heap.size e w' ∧ Below w.heap.size w w' := by
  obtain ⟨i0, hi, hz0, hz1, hz2⟩ := info_parts infoStr
  have HT := Lib.hid ht
  have HZ := Lib.hid (fun (g cap : Nat) (w' : World) (hown : w'.ownsRow w.heap.size 9 1 (.slice (some ⟨g, 0, none⟩) fs.length cap) fs.length (strs fs)) (hB : w.heap.size ≤ w'.heap.size) => zz_any o w.heap.size g cap fs w' hm hown hB ho)
  clear ht ho
  have HTA := Lib.hid (HT.out.below ((Below.refl w.heap.size w).alloc (Nat.le_refl _) (.cells #[] 9)))
  cases hf : fillOf o fs with
  | none =>
    rw [hf] at HZ
    go_enter Try.func12, Try.ntmps12
    go_wp2_with (first
      | (at_builtin; refine wpList_append_own _ rfl (.tmp 8) (.tmp 9) 31 rfl w.heap.size 9 i0 (.string ⟨#[]⟩) 1 16 Try.underlying31 hi hz0 hz1 hz2 rfl (by decide) _ _ _ rfl (zero_owned w) a fs.length cap (strs fs) rfl (by simp [strs]) (fun j u hu => texts_cells HTA.out hu) (strs_one fs) (by unfold maxLen; omega) (by omega) (by simp) ?_; intro v' w3 hown3 hgrow3 hnil; obtain ⟨g3, cap3, rfl, hown4⟩ := shape3 hown3 hnil; (have hb3 : Below w.heap.size w w3 := ((Below.refl w.heap.size w).alloc (Nat.le_refl _) _).grown hgrow3 (by simp) (fun j hj => ((zero_owned w).lt j hj).1)); (have HZ3 := Lib.hid (HZ.out g3 cap3 w3 hown4 hb3.size)))
      | (go_at_call 19; refine HZ3.out.mono ?_; rintro e w4 ⟨⟨T, p, rfl⟩, hb4⟩))
    go_ret2
    exact ⟨rfl, hb3.trans hb4⟩
  | some L =>
    rw [hf] at HZ
    go_enter Try.func12, Try.ntmps12
    go_wp2_with (first
      | (at_builtin; refine wpList_append_own _ rfl (.tmp 8) (.tmp 9) 31 rfl w.heap.size 9 i0 (.string ⟨#[]⟩) 1 16 Try.underlying31 hi hz0 hz1 hz2 rfl (by decide) _ _ _ rfl (zero_owned w) a fs.length cap (strs fs) rfl (by simp [strs]) (fun j u hu => texts_cells HTA.out hu) (strs_one fs) (by unfold maxLen; omega) (by omega) (by simp) ?_; intro v' w3 hown3 hgrow3 hnil; obtain ⟨g3, cap3, rfl, hown4⟩ := shape3 hown3 hnil; (have hb3 : Below w.heap.size w w3 := ((Below.refl w.heap.size w).alloc (Nat.le_refl _) _).grown hgrow3 (by simp) (fun j hj => ((zero_owned w).lt j hj).1)); (have HZ3 := Lib.hid (HZ.out g3 cap3 w3 hown4 hb3.size)))
      | (go_at_call 19; refine HZ3.out.mono ?_; rintro e w4 ⟨⟨g4, rfl, hg4, hr4⟩, hb4⟩))
    go_ret2
    exact ⟨⟨g4, rfl, hg4, hr4⟩, hb3.trans hb4⟩

set_option maxHeartbeats 1000000 in
set_option maxRecDepth 100000 in
theorem fields_none (o : Int) (w : World) (ho : Opts o) :
    Calls Try.prog 12 #[.slice none 0 0, .int .i64 o] w fun e w' => FillRes (fillOf o []) w.heap.size e w' ∧ Below w.heap.size w w' := by
  obtain ⟨i0, hi, hz0, hz1, hz2⟩ := info_parts infoStr
  have hba : Below w.heap.size w (w.alloc (.cells #[] 9)) := (Below.refl w.heap.size w).alloc (Nat.le_refl _) _
  have HZ := Lib.hid (zz_any o w.heap.size w.heap.size 0 [] _ (Nat.zero_le _) (zero_owned w) hba.size ho)
  clear ho
  cases hf : fillOf o [] with
  | none =>
    rw [hf] at HZ
    go_enter Try.func12, Try.ntmps12
    go_wp2_with (first
      | (at_builtin; refine wpList_append_own_none rfl (.tmp 8) (.tmp 9) 31 rfl w.heap.size 9 i0 1 Try.underlying31 hi _ _ _ rfl (zero_owned w) rfl ?_)
      | (go_at_call 19; refine HZ.out.mono ?_; rintro e w4 ⟨⟨T, p, rfl⟩, hb4⟩))
    go_ret2
    exact ⟨rfl, hba.trans hb4⟩
  | some L =>
    rw [hf] at HZ
    go_enter Try.func12, Try.ntmps12
    go_wp2_with (first
      | (at_builtin; refine wpList_append_own_none rfl (.tmp 8) (.tmp 9) 31 rfl w.heap.size 9 i0 1 Try.underlying31 hi _ _ _ rfl (zero_owned w) rfl ?_)
      | (go_at_call 19; refine HZ.out.mono ?_; rintro e w4 ⟨⟨g4, rfl, hg4, hr4⟩, hb4⟩))
    go_ret2
    exact ⟨⟨g4, rfl, hg4, hr4⟩, hba.trans hb4⟩

end Go.Proofs.Ytjkabibcclegdaa.FillImpl
