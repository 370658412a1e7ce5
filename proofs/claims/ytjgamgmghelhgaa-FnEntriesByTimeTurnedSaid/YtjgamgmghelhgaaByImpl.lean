/- impl.EntriesByTime: the order of the entries. Conditions: at most 60 good instants. -/
import Derived.Test.YtjgamgmghelhgaaByZz
import Derived.Deep.RegionLaw
namespace Go.Proofs.Ytjgamgmghelhgaa.ByImpl
open Go Go.RowKit Go.Sort Go.Proofs.Ytjgamgmghelhgaa.SortS Go.Proofs.Ytjgamgmghelhgaa.ByT Go.Proofs.Ytjgamgmghelhgaa.ByPure Go.Proofs.Ytjgamgmghelhgaa.ByLess Go.Proofs.Ytjgamgmghelhgaa.ByCx Go.Proofs.Ytjgamgmghelhgaa.ByZz
set_option linter.unusedVariables false

theorem infoT : (Try.prog.info? 35).map (fun i => (i.zero, i.size, i.bytes)) = some (some (.agg #[.int .u64 0, .int .i64 0, .pointer none]), 3, 24) := by kernel_rfl
/-- A row of instants; of marks. -/
def Insts (w : World) (pa : Option Addr) (n : Nat) (s m : Nat → Int) : Prop := ∀ i, i < n → ∃ x : Addr, pa = some x ∧ w.cell? (x.add (i * 2)) = some (.int .i64 (s i)) ∧ w.cell? ⟨(x.add (i * 2)).block, (x.add (i * 2)).off + 1, none⟩ = some (.int .i64 (m i))
def Marks (w : World) (pa : Option Addr) (n : Nat) (z : Nat → Bool) : Prop := ∀ i, i < n → ∃ x : Addr, pa = some x ∧ w.cell? (x.add i) = some (.bool (z i))
/-- The times that are sorted. -/
def tn (z : Nat → Bool) (m : Nat → Int) (i : Nat) : Int := if z i then 0 else m i
def te (z : Nat → Bool) (s : Nat → Int) (i : Nat) : Int := if z i then 0 else s i + 62135596800
def tcells (z : Nat → Bool) (s m : Nat → Int) (k : Nat) : List Value := (List.range k).flatMap fun i => [.int .u64 (tn z m i), .int .i64 (te z s i), .pointer none]

/-- append to an owned row, as one step of a region that draws. -/
theorem step_append_own {P : Program} {ops : Array Oper} {o : Oper} {a : Act} {w : World} {K : Act → World → Prop} {Q : Exit → Act → World → Prop} {E : Prop}
    (hg : o.guard = none) (s x : Operand) (t : TypeId) (hop : o.op = Op.call { callee := Callee.builtin Builtin.append, args := #[s, x], argTypes := #[t, t] })
    (base : Nat) (e : TypeId) (i : TypeInfo) (z : Value) (size bytes : Nat) (h1 : P.underlying t = some (.slice e)) (h2 : P.info? e = some i) (h3 : i.zero = some z) (h4 : i.size = size) (h5 : i.bytes = bytes) (h6 : z.cells.size = size) (h7 : 0 < size)
    (v : Value) (n : Nat) (xs : List Value) (hs : a.eval s = v) (hown : w.ownsRow base e size v n xs)
    (ad : Addr) (m c : Nat) (news : List Value) (hx : a.eval x = .slice (some ad) m c) (hl : news.length = m * size) (hnews : ∀ j u, news[j]? = some u → w.cell? (ad.add j) = some u) (h1c : ∀ u ∈ news, u.oneCell' = true)
    (b1 : n + m ≤ maxLen) (b2 : (n + m) * bytes ≤ 140737488355328) (hbase : base ≤ w.heap.size)
    (hK : ∀ v' w', w'.ownsRow base e size v' (n + m) (xs ++ news) → w.grownBy w' v.ownBlock → K (a.put o.dst v') w') :
    if Region.wanted o (yielded ops a.tmps) = true then Oper.wp P o a w K Q else E := by
  have hw : Region.wanted o (yielded ops a.tmps) = true := by simp [Region.wanted, hg]
  rw [if_pos hw]
  obtain ⟨v', w', hrun, r1, r2, _⟩ := run_append_own (P := P) w base t o.type e i z size bytes h1 h2 h3 h4 h5 h6 h7 v n xs hown ad m c news hl hnews h1c b1 b2 hbase
  unfold Oper.wp
  simp [execOp, hop, resolve, invoke, builtin, hs, hx, hrun, Result.andThen]
  exact hK v' w' r1 r2

theorem tcells_succ (z : Nat → Bool) (s m : Nat → Int) (k : Nat) : tcells z s m (k + 1) = tcells z s m k ++ [.int .u64 (tn z m k), .int .i64 (te z s k), .pointer none] := by
  unfold tcells
  rw [List.range_succ, List.flatMap_append]
  simp
theorem tcells_len (z : Nat → Bool) (s m : Nat → Int) (k : Nat) : (tcells z s m k).length = k * 3 := by
  induction k with
  | zero => rfl
  | succ k ih => rw [tcells_succ, List.length_append, ih]; simp; omega
theorem tcells_get (z : Nat → Bool) (s m : Nat → Int) (k i : Nat) (h : i < k) : (tcells z s m k)[i * 3]? = some (.int .u64 (tn z m i)) ∧ (tcells z s m k)[i * 3 + 1]? = some (.int .i64 (te z s i)) ∧ (tcells z s m k)[i * 3 + 2]? = some (.pointer none) := by
  induction k with
  | zero => omega
  | succ k ih =>
    rw [tcells_succ]
    by_cases hk : i < k
    · obtain ⟨a, b, c⟩ := ih hk
      have hl := tcells_len z s m k
      rw [List.getElem?_append_left (by omega), List.getElem?_append_left (by omega), List.getElem?_append_left (by omega)]
      exact ⟨a, b, c⟩
    · obtain rfl : i = k := by omega
      have hl := tcells_len z s m i
      rw [List.getElem?_append_right (by omega), List.getElem?_append_right (by omega), List.getElem?_append_right (by omega), hl, show i * 3 - i * 3 = 0 by omega, show i * 3 + 1 - i * 3 = 1 by omega, show i * 3 + 2 - i * 3 = 2 by omega]
      exact ⟨rfl, rfl, rfl⟩
theorem times_of {w : World} {B n : Nat} {v : Value} {z : Nat → Bool} {s m : Nat → Int} (h : w.ownsRow B 35 3 v n (tcells z s m n)) : ∃ pa c, v = .slice pa n c ∧ Times w pa n (tn z m) (te z s) := by
  rcases h.2 with ⟨rfl, rfl⟩ | ⟨g, cap, cur, rfl, -⟩
  · exact ⟨_, _, rfl, fun i hi => by omega⟩
  · refine ⟨_, _, rfl, fun i hi => ⟨g, rfl, ?_⟩⟩
    obtain ⟨a, b, c⟩ := tcells_get z s m n i hi
    exact ⟨(h.cellAt _ (by omega)).trans a, (h.cellAt _ (by omega)).trans b, (h.cellAt _ (by omega)).trans c⟩
theorem own_below {w w' : World} {base E size n : Nat} {v : Value} {xs : List Value} (h : w.ownsRow base E size v n xs) (hb : RowKit.Below w.heap.size w w') : w'.ownsRow base E size v n xs := by
  refine ⟨h.1, ?_⟩
  rcases h.2 with h | ⟨g, cap, cur, hv, hg, hh, hr⟩
  · exact .inl h
  · exact .inr ⟨g, cap, cur, hv, hg, by rw [hb.block g (Array.getElem?_eq_some_iff.1 hh).1]; exact hh, hr⟩
theorem three_at (w : World) (E : TypeId) (x y v : Value) (b : Nat) (hb : w.heap.size = b) : ∀ j u, [x, y, v][j]? = some u → (w.alloc (.cells #[x, y, v] E)).cell? ((⟨b, 0, none⟩ : Addr).add j) = some u := by
  subst hb
  intro j u hu
  have hh : (w.alloc (.cells #[x, y, v] E)).heap[w.heap.size]? = some (.cells #[x, y, v] E) := heap_alloc_new w _
  match j, hu with
  | 0, h => simp at h; subst h; unfold World.cell?; simp only [Addr.add_lit, hh]; rfl
  | 1, h => simp at h; subst h; unfold World.cell?; simp only [Addr.add_lit, hh]; rfl
  | 2, h => simp at h; subst h; unfold World.cell?; simp only [Addr.add_lit, hh]; rfl
  | n + 3, h => simp at h
set_option maxHeartbeats 1000000 in
set_option maxRecDepth 100000 in
theorem impl_any (pa pz : Option Addr) (n c cz : Nat) (s m : Nat → Int) (z : Nat → Bool) (w : World) (hi : Insts w pa n s m) (hz : Marks w pz n z) (hn : n ≤ 60) (hgood : ∀ j, j < n → 0 ≤ m j ∧ m j < 1000000000 ∧ -62135596800 ≤ s j ∧ s j ≤ 253402300799) :
    Calls Try.prog 5 #[.slice pa n c, .slice pz n cz] w fun e w' => ∃ (v : Value) (d' : Array Nat), e = .returned v ∧ d'.toList.Perm (List.range n) ∧ SortedIn (ltOf (ByLess.keyOf (tn z m) (te z s))) 0 n d' ∧ w'.ownsRow w.heap.size 3 1 v n (ints d'.toList) ∧ RowKit.Below w.heap.size w w' := by
  obtain ⟨i0, hi0, hz0, hz1, hz2⟩ := info_parts infoT
  have HI := Lib.hid hi
  have HZ := Lib.hid hz
  clear hi hz
  go_enter Try.func5, Try.ntmps5
  go_wp2
  go_loopw [5, 10] (fun v i wr => ∃ k : Nat, i = .int .i64 (k : Int) ∧ k ≤ n ∧ Hid (RowKit.Below w.heap.size w wr ∧ wr.ownsRow w.heap.size 35 3 v k (tcells z s m k))) (fun _ i _ => n - (intOf i).toNat)
  case atStart => exact ⟨0, rfl, Nat.zero_le _, Lib.hid ⟨Below.refl _ _, World.ownsRow_nil w _ _ _⟩⟩
  case round =>
    obtain ⟨k, rfl, hk, HL⟩ := hrel
    have hsz := HL.out.1.size
    by_cases hkn : k < n
    · obtain ⟨x, rfl, c0, c1⟩ := HI.out k hkn
      obtain ⟨y, rfl, c2⟩ := HZ.out k hkn
      have d0 := (HL.out.1.cell (World.block_lt_of_cell? w _ c0)).trans c0
      have d1 := (HL.out.1.cell (World.block_lt_of_cell? w _ c1)).trans c1
      have d2 := (HL.out.1.cell (World.block_lt_of_cell? w _ c2)).trans c2
      have hki : (k : Int) < (n : Int) := by omega
      clear c0 c1 c2
      have HB1 : Hid (RowKit.Below wr.heap.size wr (wr.alloc (Obj.cells #[.int .i64 (s k), .int .i64 (m k)] 28))) := Lib.hid ((Below.refl _ _).alloc (Nat.le_refl _) _)
      have d3 := (HB1.out.cell (World.block_lt_of_cell? wr _ d2)).trans d2
      have hown0 := Lib.hid (HL.out.2.alloc (Obj.cells #[.int .i64 (s k), .int .i64 (m k)] 28))
      clear d2
      cases hzk : z k with
      | true =>
        rw [hzk] at d3
        go_wp2_with (at_builtin; refine wpList_append_own _ rfl (.tmp 19) (.tmp 21) 31 rfl w.heap.size 35 i0 (.agg #[.int .u64 0, .int .i64 0, .pointer none]) 3 24 Try.underlying31 hi0 hz0 hz1 hz2 rfl (by decide) _ _ _ rfl (hown0.out.alloc _) ⟨wr.heap.size + 1, 0, none⟩ 1 1 [.int .u64 0, .int .i64 0, .pointer none] rfl rfl (three_at _ _ _ _ _ _ (by simp)) (by simp [Value.oneCell']) (by unfold maxLen; omega) (by omega) (by simp; omega) ?_; intro v' w1 hown1 hgrow1 _)
        have hb9 : RowKit.Below w.heap.size w w1 := ((HL.out.1.alloc hsz _).alloc (by simp; omega) _).grown hgrow1 (by simp; omega) (fun j hj => (HL.out.2.lt j hj).1)
        have HR := Lib.hid (And.intro hb9 hown1)
        clear hb9 hown1 hgrow1
        go_roundw
        case rel => exact ⟨k + 1, by go_num, by omega, Lib.hid ⟨HR.out.1, by rw [tcells_succ]; unfold tn te; rw [hzk]; exact HR.out.2⟩⟩
        case measure => simp [intOf]; omega
      | false =>
        rw [hzk] at d3
        go_upto_region 7 with fail
        have HT7 : Hid (∀ X, RowKit.Below (wr.heap.size + 1) (wr.alloc (Obj.cells #[.int .i64 (s k), .int .i64 (m k)] 28)) X → X.cell? ⟨wr.heap.size, 0, none⟩ = some (.int .i64 (s k)) ∧ X.cell? ⟨wr.heap.size, 1, none⟩ = some (.int .i64 (m k))) := Lib.hid (fun X hX => by
          have hh := heap_alloc_new wr (Obj.cells #[.int .i64 (s k), .int .i64 (m k)] 28)
          have h2 := hX.block wr.heap.size (Nat.lt_succ_self _)
          rw [hh] at h2
          constructor <;> (unfold World.cell?; simp only [h2]; rfl))
        have hs1 : (wr.alloc (Obj.cells #[.int .i64 (s k), .int .i64 (m k)] 28)).heap.size = wr.heap.size + 1 := by simp
        generalize (wr.alloc (Obj.cells #[.int .i64 (s k), .int .i64 (m k)] 28)) = W1 at *
        obtain ⟨l0, l1⟩ := HT7.out W1 (Below.refl _ _)
        have HS1 := Lib.hid hs1
        have HG := Lib.hid (hgood k hkn)
        clear hs1
        go_region_law (first
          | (refine step_append_own rfl (.tmp 23) (.tmp 27) 31 rfl w.heap.size 35 i0 (.agg #[.int .u64 0, .int .i64 0, .pointer none]) 3 24 Try.underlying31 hi0 hz0 hz1 hz2 rfl (by decide) _ _ _ rfl ((own_below hown0.out hbB).alloc _) ⟨X2.heap.size, 0, none⟩ 1 1 [.int .u64 (m k), .int .i64 (s k + 62135596800), .pointer none] rfl rfl (three_at _ _ _ _ _ _ rfl) (by simp [Value.oneCell']) (by unfold maxLen; omega) (by omega) (by have := HS1.out; have := hbB.size; simp; omega) ?_; intro v' w1 hown1 hgrow1)
          | (go_simp; go_at_call 9; refine (utc_any _).mono ?_; rintro e X1 ⟨b, ⟨rfl, hu⟩, hb1⟩; have hbA : RowKit.Below W1.heap.size W1 X1 := (Below.refl _ W1).drew.trans hb1; have hu' := Lib.hid hu; obtain ⟨p0, p1⟩ := HT7.out X1 (hbA.mono (by rw [HS1.out]; exact Nat.le_refl _)); clear hu hb1)
          | (go_simp; go_at_call 8; refine (moment_any (s k) (m k) b _ hu'.out HG.out.1 HG.out.2.1 (by have := HG.out; omega) (by have := HG.out; omega)).mono ?_; rintro e X2 ⟨rfl, hb2⟩; have hbB : RowKit.Below W1.heap.size W1 X2 := hbA.trans (hb2.mono hbA.size); clear hb2))
        all_goals
          have hb9 : RowKit.Below w.heap.size w w1 := ((HL.out.1.trans (HB1.out.mono hsz)).trans (hbB.mono (by have := HS1.out; omega))).alloc (by have := HS1.out; have := hbB.size; omega) _ |>.grown hgrow1 (by have := HS1.out; have := hbB.size; simp; omega) (fun j hj => (HL.out.2.lt j hj).1)
          have HR := Lib.hid (And.intro hb9 hown1)
          clear hb9 hown1 hgrow1 p0 p1 hbA hbB l0 l1
          go_wp2_with fail
          go_roundw
          case rel => exact ⟨k + 1, by go_num, by omega, Lib.hid ⟨HR.out.1, by rw [tcells_succ]; unfold tn te; rw [hzk]; exact HR.out.2⟩⟩
          case measure => simp [intOf]; omega
    · obtain rfl : k = n := by omega
      have hki : ¬ (k : Int) < (k : Int) := by omega
      obtain ⟨qa, cq, rfl, hT⟩ := times_of HL.out.2
      have HZZ := Lib.hid (zz_any qa k cq (tn z m) (te z s) wr hT hn (fun j hj => by
        have := hgood j hj
        unfold tn Nn
        split <;> omega))
      clear hT hgood
      go_wp2_with (go_at_call 10; refine HZZ.out.mono ?_; rintro e w2 ⟨v2, d', rfl, q1, q2, q3, q4⟩)
      go_ret
      exact ⟨_, d', rfl, q1, q2, q3.mono hsz, HL.out.1.trans (q4.mono hsz)⟩
end Go.Proofs.Ytjgamgmghelhgaa.ByImpl
