/- cron.ZZByTime: the entries' order by their times. Conditions: a row of times of years 1 to 9999 or zero. -/
import Derived.Test.YtjgamgmghelhgaaByCx
import Derived.OwnWalk
import Derived.Laws.AppendOwn
import Derived.Laws.OwnMore
import Derived.Deep.Onto
import Derived.Deep.DeepCutAuto
namespace Go.Proofs.Ytjgamgmghelhgaa.ByZz
open Go Go.RowKit Go.Sort Go.Proofs.Ytjgamgmghelhgaa.SortS Go.Proofs.Ytjgamgmghelhgaa.ByT Go.Proofs.Ytjgamgmghelhgaa.ByPure Go.Proofs.Ytjgamgmghelhgaa.ByLess Go.Proofs.Ytjgamgmghelhgaa.ByCx
set_option linter.unusedVariables false

theorem infoE : (Try.prog.info? 47).map (fun i => (i.zero, i.size, i.bytes)) = some (some (.pointer none), 1, 8) := by kernel_rfl
theorem infoI : (Try.prog.info? 3).map (fun i => (i.zero, i.size, i.bytes)) = some (some (.int .i64 0), 1, 8) := by kernel_rfl
/-- A row of times. -/
def Times (w : World) (pa : Option Addr) (n : Nat) (tn te : Nat → Int) : Prop := ∀ i, i < n → ∃ g, pa = some ⟨g, 0, none⟩ ∧ w.cell? ⟨g, i * 3, none⟩ = some (.int .u64 (tn i)) ∧ w.cell? ⟨g, i * 3 + 1, none⟩ = some (.int .i64 (te i)) ∧ w.cell? ⟨g, i * 3 + 2, none⟩ = some (.pointer none)

def entCells (j : Nat) (n e : Int) : Array Value := #[.int .i64 (j : Int), .nilIface, .int .u64 n, .int .i64 e, .pointer none, .int .u64 0, .int .i64 0, .pointer none, .nilIface, .nilIface]
/-- An entry in memory. -/
def EntB (w : World) (b j : Nat) (n e : Int) : Prop := w.heap[b]? = some (.cells (entCells j n e) 54)
theorem EntB.lt {w : World} {b j : Nat} {n e : Int} (h : EntB w b j n e) : b < w.heap.size := by
  unfold EntB at h
  exact (Array.getElem?_eq_some_iff.1 h).1
theorem EntB.ent {w : World} {b j : Nat} {n e : Int} (h : EntB w b j n e) : Ent w b n e := by
  unfold EntB at h
  refine ⟨?_, ?_, ?_⟩ <;> (unfold World.cell?; simp only [h]; rfl)
theorem EntB.id {w : World} {b j : Nat} {n e : Int} (h : EntB w b j n e) : w.cell? ⟨b, 0, none⟩ = some (.int .i64 (j : Int)) := by
  unfold EntB at h
  unfold World.cell?
  simp only [h]
  rfl
theorem own_ne {w : World} {base E F size n b : Nat} {v : Value} {xs : List Value} {cs : Array Value} (h : w.ownsRow base E size v n xs) (hb : w.heap[b]? = some (.cells cs F)) (hne : E ≠ F) : some b ≠ v.ownBlock := by
  intro e
  rcases h.2 with ⟨rfl, -⟩ | ⟨g, cap, cur, rfl, -, hg, -⟩
  · cases e
  · have : b = g := by simpa [Value.ownBlock] using e
    subst this
    rw [hg] at hb
    simp at hb
    exact hne hb.2
/-- The entries made so far. -/
structure Lp (w wr : World) (v : Value) (k : Nat) (eb : Nat → Nat) (tn te : Nat → Int) : Prop where
  own : wr.ownsRow w.heap.size 47 1 v k ((List.range k).map (encE eb))
  ents : ∀ j, j < k → EntB wr (eb j) j (tn j) (te j)
  below : RowKit.Below w.heap.size w wr
theorem lp_next {w wr w1 : World} {v v' : Value} {k : Nat} {eb : Nat → Nat} {tn te : Nat → Int} {T A : Obj} (h : Lp w wr v k eb tn te)
    (hown : w1.ownsRow w.heap.size 47 1 v' (k + 1) ((List.range k).map (encE eb) ++ [.pointer (some ⟨wr.heap.size + 1, 0, none⟩)]))
    (hg : (((wr.alloc T).alloc (.cells (entCells k (tn k) (te k)) 54)).alloc A).grownBy w1 v.ownBlock) :
    Lp w w1 v' (k + 1) (fun j => if j = k then wr.heap.size + 1 else eb j) tn te := by
  have hW : RowKit.Below w.heap.size w (((wr.alloc T).alloc (.cells (entCells k (tn k) (te k)) 54)).alloc A) :=
    ((h.below.alloc h.below.size _).alloc (by have := h.below.size; simp; omega) _).alloc (by have := h.below.size; simp; omega) _
  have hx : RowKit.Below wr.heap.size wr (((wr.alloc T).alloc (.cells (entCells k (tn k) (te k)) 54)).alloc A) :=
    (((Below.refl _ _).alloc (Nat.le_refl _) _).alloc (by simp) _).alloc (by simp; omega) _
  have hownW : (((wr.alloc T).alloc (.cells (entCells k (tn k) (te k)) 54)).alloc A).ownsRow w.heap.size 47 1 v k ((List.range k).map (encE eb)) := ((h.own.alloc _).alloc _).alloc _
  have hnew : EntB (((wr.alloc T).alloc (.cells (entCells k (tn k) (te k)) 54)).alloc A) (wr.heap.size + 1) k (tn k) (te k) := by
    unfold EntB
    rw [Below.heap_alloc _ _ _ (by simp)]
    have := heap_alloc_new (wr.alloc T) (.cells (entCells k (tn k) (te k)) 54)
    rwa [show (wr.alloc T).heap.size = wr.heap.size + 1 by simp] at this
  refine ⟨?_, fun j hj => ?_, hW.grown hg (by have := h.below.size; simp; omega) (fun j hj => (h.own.lt j hj).1)⟩
  · rw [List.range_succ, List.map_append]
    have e : (List.range k).map (encE fun j => if j = k then wr.heap.size + 1 else eb j) = (List.range k).map (encE eb) := by
      apply List.map_congr_left
      intro j hj
      have : j < k := List.mem_range.1 hj
      show Value.pointer (some ⟨if j = k then wr.heap.size + 1 else eb j, 0, none⟩) = _
      rw [if_neg (by omega)]
      rfl
    rw [e]
    have e2 : List.map (encE fun j => if j = k then wr.heap.size + 1 else eb j) [k] = [.pointer (some ⟨wr.heap.size + 1, 0, none⟩)] := by simp [encE]
    rw [e2]
    exact hown
  · by_cases hjk : j = k
    · subst hjk
      rw [if_pos rfl]
      unfold EntB at hnew ⊢
      rw [hg.block _ (Array.getElem?_eq_some_iff.1 hnew).1 (own_ne hownW hnew (by decide))]
      exact hnew
    · rw [if_neg hjk]
      have he := h.ents j (by omega)
      have heW : EntB (((wr.alloc T).alloc (.cells (entCells k (tn k) (te k)) 54)).alloc A) (eb j) j (tn j) (te j) := by
        unfold EntB at he ⊢
        rw [hx.block _ (Array.getElem?_eq_some_iff.1 he).1]
        exact he
      unfold EntB at heW ⊢
      rw [hg.block _ (Array.getElem?_eq_some_iff.1 heW).1 (own_ne hownW heW (by decide))]
      exact heW
theorem perm_lt {n : Nat} {a : Array Nat} (h : a.toList.Perm (List.range n)) (i : Nat) (hi : i < n) : a[i]! < n := by
  have hs : a.size = n := by simpa using h.length_eq
  rw [getElem!_pos a i (by omega)]
  have : a[i] ∈ a.toList := by simp
  exact List.mem_range.1 (h.mem_iff.1 this)
theorem sorted_congr {n : Nat} {a : Array Nat} {k k' : Nat → Key} (h : a.toList.Perm (List.range n)) (hs : SortedIn (ltOf k) 0 n a) (he : ∀ x, x < n → k x = k' x) : SortedIn (ltOf k') 0 n a := fun i j hi hij hj => by
  have := hs i j hi hij hj
  unfold ltOf at this ⊢
  rwa [he _ (perm_lt h _ hj), he _ (perm_lt h i (by omega))] at this
def cl (n : Nat) (j : Nat) : Nat := if j < n then j else 0
/-- The entries sorted. -/
theorem sort_at {w wr : World} {v : Value} {n : Nat} {eb : Nat → Nat} {tn te : Nat → Int} (hL : Lp w wr v n eb tn te) (h0 : 0 < n) (hn : n ≤ 60) (hN : ∀ j, j < n → Nn (tn j)) :
    ∃ g cap d', v = .slice (some ⟨g, 0, none⟩) n cap ∧ d'.size = n ∧ d'.toList.Perm (List.range n) ∧ SortedIn (ltOf (ByLess.keyOf tn te)) 0 n d' ∧
      Calls Try.prog 13 #[.iface 56 v] wr fun e w' => e = .returned (.tuple #[]) ∧ (∀ i, i < n → w'.cell? ⟨g, i, none⟩ = some (encE eb d'[i]!)) ∧ (∀ j, j < n → w'.cell? ⟨eb j, 0, none⟩ = some (.int .i64 (j : Int))) ∧ RowKit.Below w.heap.size w w' := by
  rcases hL.own.2 with ⟨-, h⟩ | ⟨g, cap, cur, rfl, hb, hg, hcap, hm, hcs, htk⟩
  · omega
  have hglt : g < wr.heap.size := (Array.getElem?_eq_some_iff.1 hg).1
  have hcl : ∀ j, cl n j < n := fun j => by unfold cl; split <;> omega
  have hce : ∀ j, j < n → cl n j = j := fun j h => by unfold cl; rw [if_pos h]
  have hne : ∀ j, j < n → eb j ≠ g := fun j hj e => by
    have h1 := hL.ents j hj
    unfold EntB at h1
    exact own_ne hL.own h1 (by decide) (by rw [e]; rfl)
  obtain ⟨d', h1, h2, h3, h4⟩ := sorted_any g n cap (fun j => eb (cl n j)) (fun j => tn (cl n j)) (fun j => te (cl n j)) wr (by omega) hglt (fun _ j => ⟨(hL.ents _ (hcl j)).ent, hN _ (hcl j), hne _ (hcl j)⟩)
  refine ⟨g, cap, d', rfl, h1, h2, sorted_congr h2 h3 (fun x hx => by unfold ByLess.keyOf; simp only [hce x hx]), ?_⟩
  have hH : Holds (encE fun j => eb (cl n j)) wr g 0 (Array.range n) := fun j hj => by
    have hj' : j < n := by simpa using hj
    refine ⟨?_, ?_⟩
    · rw [Nat.zero_add]
      rw [hL.own.cellAt j (by omega)]
      have e : (Array.range n)[j]! = j := by rw [getElem!_pos _ j hj]; simp
      rw [e]
      show _ = some (Value.pointer (some ⟨eb (cl n j), 0, none⟩))
      rw [hce j hj']
      simp [hj', encE]
    · exact hL.own.frozenAt _
  refine (h4 wr (St.refl _ _) hH).mono ?_
  rintro e w' ⟨rfl, st, hd⟩
  refine ⟨rfl, fun i hi => ?_, fun j hj => ?_, hL.below.trans (st.below hb hL.below.size)⟩
  · have := (hd i (by omega)).1
    rw [Nat.zero_add] at this
    rw [this]
    show some (Value.pointer (some ⟨eb (cl n _), 0, none⟩)) = _
    rw [hce _ (perm_lt h2 i hi)]
    rfl
  · have he := hL.ents j hj
    exact (st.cell (p := ⟨eb j, 0, none⟩) he.lt (hne j hj)).trans he.id
theorem sort_nil (p : Option Addr) (c : Nat) (w : World) : Calls Try.prog 13 #[.iface 56 (.slice p 0 c)] w fun e w' => e = .returned (.tuple #[]) ∧ w' = w := by
  have hmN := SortK.meth_len
  go_enter Try.func13, Try.ntmps13
  go_wp2_with (go_at_call 55; refine (Sort8.len_any _ _ _ _ (by decide)).mono ?_; rintro e w1 ⟨rfl, rfl⟩)
  (try simp only [Exit.inBlock, Exit.then]); refine bodyPost_ret (results_none rfl _ _ _) rfl ?_
  exact ⟨rfl, rfl⟩
theorem sort_all {w wr : World} {v : Value} {n : Nat} {eb : Nat → Nat} {tn te : Nat → Int} (hL : Lp w wr v n eb tn te) (hn : n ≤ 60) (hN : ∀ j, j < n → Nn (tn j)) :
    ∃ p cap d', v = .slice p n cap ∧ d'.toList.Perm (List.range n) ∧ SortedIn (ltOf (ByLess.keyOf tn te)) 0 n d' ∧
      Calls Try.prog 13 #[.iface 56 v] wr fun e w' => e = .returned (.tuple #[]) ∧ (∀ i, i < n → ∃ g, p = some ⟨g, 0, none⟩ ∧ w'.cell? ⟨g, i, none⟩ = some (.pointer (some ⟨eb d'[i]!, 0, none⟩)) ∧ w'.cell? ⟨eb d'[i]!, 0, none⟩ = some (.int .i64 ((d'[i]! : Nat) : Int))) ∧ RowKit.Below w.heap.size w w' := by
  rcases Nat.eq_zero_or_pos n with h0 | h0
  · subst h0
    obtain ⟨p, cap, rfl⟩ : ∃ p cap, v = .slice p 0 cap := by
      rcases hL.own.2 with ⟨rfl, -⟩ | ⟨g, cap, cur, rfl, -⟩
      · exact ⟨_, _, rfl⟩
      · exact ⟨_, _, rfl⟩
    refine ⟨p, cap, #[], rfl, by simp, fun i j hi hij hj => by omega, (sort_nil p cap wr).mono ?_⟩
    rintro e w' ⟨rfl, rfl⟩
    exact ⟨rfl, fun i hi => by omega, hL.below⟩
  · obtain ⟨g, cap, d', hv, h1, h2, h3, h4⟩ := sort_at hL h0 hn hN
    refine ⟨_, cap, d', hv, h2, h3, h4.mono ?_⟩
    rintro e w' ⟨rfl, hc, hi, hb⟩
    exact ⟨rfl, fun i hi' => ⟨g, rfl, hc i hi', hi _ (perm_lt h2 i hi')⟩, hb⟩
def ints (l : List Nat) : List Value := l.map fun (j : Nat) => Value.int .i64 (j : Int)
theorem one_at (w : World) (E : TypeId) (v : Value) (b : Nat) (hb : w.heap.size = b) : ∀ j u, [v][j]? = some u → (w.alloc (.cells #[v] E)).cell? ((⟨b, 0, none⟩ : Addr).add j) = some u := by
  subst hb
  intro j u hu
  cases j with
  | zero =>
    simp at hu
    subst hu
    have hh : (w.alloc (.cells #[v] E)).heap[w.heap.size]? = some (.cells #[v] E) := heap_alloc_new w _
    show (w.alloc (.cells #[v] E)).cell? ⟨w.heap.size, 0, none⟩ = some v
    unfold World.cell?
    simp only [hh]
    rfl
  | succ j => simp at hu
set_option maxHeartbeats 1000000 in
set_option maxRecDepth 100000 in
theorem zz_any (pa : Option Addr) (n c : Nat) (tn te : Nat → Int) (w : World) (ht : Times w pa n tn te) (hn : n ≤ 60) (hN : ∀ j, j < n → Nn (tn j)) :
    Calls Try.prog 10 #[.slice pa n c] w fun e w' => ∃ (v : Value) (d' : Array Nat), e = .returned v ∧ d'.toList.Perm (List.range n) ∧ SortedIn (ltOf (ByLess.keyOf tn te)) 0 n d' ∧ w'.ownsRow w.heap.size 3 1 v n (ints d'.toList) ∧ RowKit.Below w.heap.size w w' := by
  obtain ⟨i0, hi, hz0, hz1, hz2⟩ := info_parts infoE
  obtain ⟨i1, hi1, hy0, hy1, hy2⟩ := info_parts infoI
  have HT := Lib.hid ht
  have HNN := Lib.hid hN
  clear ht hN
  go_enter Try.func10, Try.ntmps10
  go_wp2
  go_loopw [3, 11] (fun v i wr => ∃ k : Nat, i = .int .i64 (k : Int) ∧ k ≤ n ∧ Hid (∃ eb, Lp w wr v k eb tn te)) (fun _ i _ => n - (intOf i).toNat)
  case atStart => exact ⟨0, rfl, Nat.zero_le _, Lib.hid ⟨fun _ => 0, by simpa using World.ownsRow_nil w _ _ _, fun j hj => absurd hj (Nat.not_lt_zero _), Below.refl _ _⟩⟩
  case round =>
    obtain ⟨k, rfl, hk, HL⟩ := hrel
    obtain ⟨eb, hL⟩ := HL.out
    have HL := Lib.hid hL
    have HB := Lib.hid hL.below
    have hsz := hL.below.size
    clear hL
    by_cases hkn : k < n
    · obtain ⟨g, rfl, c0, c1, c2⟩ := HT.out k hkn
      have d0 := (HB.out.cell (World.block_lt_of_cell? w _ c0)).trans c0
      have d1 := (HB.out.cell (World.block_lt_of_cell? w _ c1)).trans c1
      have d2 := (HB.out.cell (World.block_lt_of_cell? w _ c2)).trans c2
      have hki : (k : Int) < (n : Int) := by omega
      clear c0 c1 c2
      go_wp2_with (at_builtin; refine wpList_append_own _ rfl (.tmp 16) (.tmp 21) 46 rfl w.heap.size 47 i0 (.pointer none) 1 8 Try.underlying46 hi hz0 hz1 hz2 rfl (by decide) _ _ _ rfl (((HL.out.own.alloc _).alloc _).alloc _) ⟨wr.heap.size + 1 + 1, 0, none⟩ 1 1 [.pointer (some ⟨wr.heap.size + 1, 0, none⟩)] rfl rfl (one_at _ _ _ _ (by simp)) (by simp [Value.oneCell']) (by unfold maxLen; omega) (by omega) (by simp; omega) ?_; intro v' w1 hown1 hgrow1 _)
      have hr := Lib.hid (lp_next HL.out hown1 hgrow1)
      clear hown1 hgrow1
      go_roundw
      case rel => exact ⟨k + 1, by go_num, by omega, Lib.hid ⟨_, hr.out⟩⟩
      case measure => simp [intOf]; omega
    · obtain rfl : k = n := by omega
      obtain ⟨p, cap, d', rfl, hp, hs, hc⟩ := sort_all HL.out hn HNN.out
      have HP := Lib.hid (And.intro hp hs)
      have HC := Lib.hid hc
      clear hp hs hc
      go_wp2_with (go_at_call 13; refine HC.out.mono ?_; rintro e w2 ⟨rfl, hcells, hb2⟩; have HCE := Lib.hid hcells; have HB2 := Lib.hid hb2; clear hcells hb2)
      have hsz2 := HB2.out.size
      go_loopw [6, 29] (fun v i wr => ∃ m : Nat, i = .int .i64 (m : Int) ∧ m ≤ k ∧ Hid (wr.ownsRow w2.heap.size 3 1 v m (ints (d'.toList.take m)) ∧ RowKit.Below w2.heap.size w2 wr)) (fun _ i _ => k - (intOf i).toNat)
      case atStart => exact ⟨0, rfl, Nat.zero_le _, Lib.hid ⟨by simpa [ints] using World.ownsRow_nil w2 _ _ _, Below.refl _ _⟩⟩
      case round =>
        obtain ⟨m, rfl, hm, HM⟩ := hrel
        have hszm := HM.out.2.size
        by_cases hmk : m < k
        · obtain ⟨g, rfl, c0, c1⟩ := HCE.out m hmk
          have d0 := (HM.out.2.cell (World.block_lt_of_cell? w2 _ c0)).trans c0
          have d1 := (HM.out.2.cell (World.block_lt_of_cell? w2 _ c1)).trans c1
          have hmi : (m : Int) < (k : Int) := by omega
          have hx : Hid (d'.toList.take (m + 1) = d'.toList.take m ++ [d'[m]!]) := Lib.hid (by
            have hs : d'.size = k := by simpa using HP.out.1.length_eq
            rw [List.take_add_one, List.getElem?_eq_getElem (by simpa using (by omega : m < d'.size)), getElem!_pos d' m (by omega)]
            simp)
          clear c0 c1
          obtain ⟨x, hxx⟩ : ∃ x, d'[m]! = x := ⟨_, rfl⟩
          rw [hxx] at d0 d1 hx
          clear hxx
          go_wp2_with (at_builtin; refine wpList_append_own _ rfl (.tmp 33) (.tmp 38) 25 rfl w2.heap.size 3 i1 (.int .i64 0) 1 8 Try.underlying25 hi1 hy0 hy1 hy2 rfl (by decide) _ _ _ rfl (HM.out.1.alloc _) ⟨wr.heap.size, 0, none⟩ 1 1 [.int .i64 (x : Int)] rfl rfl (one_at _ _ _ _ rfl) (by simp [Value.oneCell']) (by unfold maxLen; omega) (by omega) (by simp; omega) ?_; intro v' w1 hown1 hgrow1 _)
          have hb9 : RowKit.Below w2.heap.size w2 w1 := (HM.out.2.alloc hszm _).grown hgrow1 (by simp; omega) (fun j hj => (HM.out.1.lt j hj).1)
          have HR := Lib.hid (And.intro hown1 hb9)
          clear hown1 hb9 hgrow1
          go_roundw
          case rel => exact ⟨m + 1, by go_num, by omega, Lib.hid ⟨by rw [hx.out]; simpa [ints] using HR.out.1, HR.out.2⟩⟩
          case measure => simp [intOf]; omega
        · obtain rfl : m = k := by omega
          have hmi : ¬ (m : Int) < (m : Int) := by omega
          go_wp2_with fail
          go_ret
          have hs : d'.toList.length = m := by simpa using HP.out.1.length_eq
          have ho := HM.out.1
          rw [List.take_of_length_le (by omega)] at ho
          exact ⟨_, rfl, d', HP.out.1, HP.out.2, ho.mono hsz2, HB2.out.trans (HM.out.2.mono hsz2)⟩
end Go.Proofs.Ytjgamgmghelhgaa.ByZz
