/- A row of instants, of marks: turned by append. Conditions: none. -/
import Derived.Test.YtjgamgmghelhgaaByGood
namespace Go.Proofs.Ytjgamgmghelhgaa.ByTurn
open Go Go.RowKit Go.Sort Go.Proofs.Ytjgamgmghelhgaa.SortS Go.Proofs.Ytjgamgmghelhgaa.ByT Go.Proofs.Ytjgamgmghelhgaa.ByImpl
set_option linter.unusedVariables false

theorem infoI : (Try.prog.info? 28).map (fun i => (i.zero, i.size, i.bytes)) = some (some (.agg #[.int .i64 0, .int .i64 0]), 2, 16) := by kernel_rfl
theorem infoB : (Try.prog.info? 4).map (fun i => (i.zero, i.size, i.bytes)) = some (some (.bool false), 1, 1) := by kernel_rfl
def icells (s m : Nat → Int) (k : Nat) : List Value := (List.range k).flatMap fun i => [.int .i64 (s i), .int .i64 (m i)]
def bcells (z : Nat → Bool) (k : Nat) : List Value := (List.range k).map fun i => .bool (z i)
theorem icells_succ (s m : Nat → Int) (k : Nat) : icells s m (k + 1) = icells s m k ++ [.int .i64 (s k), .int .i64 (m k)] := by
  unfold icells
  rw [List.range_succ, List.flatMap_append]
  simp
theorem icells_len (s m : Nat → Int) (k : Nat) : (icells s m k).length = k * 2 := by
  induction k with
  | zero => rfl
  | succ k ih => rw [icells_succ, List.length_append, ih]; simp; omega
theorem bcells_len (z : Nat → Bool) (k : Nat) : (bcells z k).length = k * 1 := by unfold bcells; simp
theorem icells_get (s m : Nat → Int) (k i : Nat) (h : i < k) : (icells s m k)[i * 2]? = some (.int .i64 (s i)) ∧ (icells s m k)[i * 2 + 1]? = some (.int .i64 (m i)) := by
  induction k with
  | zero => omega
  | succ k ih =>
    rw [icells_succ]
    by_cases hk : i < k
    · obtain ⟨a, b⟩ := ih hk
      have hl := icells_len s m k
      rw [List.getElem?_append_left (by omega), List.getElem?_append_left (by omega)]
      exact ⟨a, b⟩
    · obtain rfl : i = k := by omega
      have hl := icells_len s m i
      rw [List.getElem?_append_right (by omega), List.getElem?_append_right (by omega), hl, show i * 2 - i * 2 = 0 by omega, show i * 2 + 1 - i * 2 = 1 by omega]
      exact ⟨rfl, rfl⟩
theorem icells_one (s m : Nat → Int) (k : Nat) : ∀ u ∈ icells s m k, u.oneCell' = true := by
  intro u hu
  obtain ⟨i, -, h⟩ := List.mem_flatMap.1 hu
  simp at h
  rcases h with rfl | rfl <;> rfl
theorem bcells_one (z : Nat → Bool) (k : Nat) : ∀ u ∈ bcells z k, u.oneCell' = true := by
  intro u hu
  obtain ⟨i, -, rfl⟩ := List.mem_map.1 hu
  rfl
/-- Where a row's cells lie. -/
theorem insts_at {w : World} {pa : Option Addr} {n : Nat} {s m : Nat → Int} (h : Insts w pa n s m) (hn : 0 < n) : ∃ b o, pa = some ⟨b, o, none⟩ ∧ ∀ i, i < n → w.cell? ⟨b, o + i * 2, none⟩ = some (.int .i64 (s i)) ∧ w.cell? ⟨b, o + (i * 2 + 1), none⟩ = some (.int .i64 (m i)) := by
  obtain ⟨⟨b, o, sp⟩, rfl, h0, -⟩ := h 0 hn
  have hsp : sp = none := by simpa [Addr.add] using World.cell?_spot h0
  subst hsp
  refine ⟨b, o, rfl, fun i hi => ?_⟩
  obtain ⟨x, hx, h0, h1⟩ := h i hi
  cases hx
  rw [Addr.add_lit] at h0 h1
  exact ⟨h0, by simpa [Nat.add_assoc] using h1⟩
theorem marks_at {w : World} {pa : Option Addr} {n : Nat} {z : Nat → Bool} (h : Marks w pa n z) (hn : 0 < n) : ∃ b o, pa = some ⟨b, o, none⟩ ∧ ∀ i, i < n → w.cell? ⟨b, o + i, none⟩ = some (.bool (z i)) := by
  obtain ⟨⟨b, o, sp⟩, rfl, h0⟩ := h 0 hn
  have hsp : sp = none := by simpa [Addr.add] using World.cell?_spot h0
  subst hsp
  refine ⟨b, o, rfl, fun i hi => ?_⟩
  obtain ⟨x, hx, h0⟩ := h i hi
  cases hx
  rw [Addr.add_lit] at h0
  exact h0
/-- The cells behind k elements of a row. -/
theorem insts_tail {w : World} {pa : Option Addr} {n c k : Nat} {s m : Nat → Int} (h : Insts w pa n s m) (hc : n ≤ c) (hk : k ≤ n) (t : Nat) (ht : k + t ≤ n) :
    ∀ ad, (if c = k then pa else pa.map (·.add (k * 2))) = some ad → ∀ j u, (icells (fun i => s (k + i)) (fun i => m (k + i)) t)[j]? = some u → w.cell? (ad.add j) = some u := by
  intro ad had j u hu
  have hj : j < t * 2 := by
    have := (List.getElem?_eq_some_iff.1 hu).1
    rwa [icells_len] at this
  obtain ⟨b, o, rfl, hcell⟩ := insts_at h (by omega)
  rw [if_neg (by omega)] at had
  simp only [Option.map_some, Option.some.injEq, Addr.add_lit] at had
  subst had
  rw [Addr.add_lit]
  obtain ⟨g0, g1⟩ := icells_get (fun i => s (k + i)) (fun i => m (k + i)) t (j / 2) (by omega)
  obtain ⟨c0, c1⟩ := hcell (k + j / 2) (by omega)
  by_cases hp : j % 2 = 0
  · rw [show j / 2 * 2 = j by omega] at g0
    rw [g0] at hu
    rw [← hu, ← c0]
    congr 2
    omega
  · rw [show j / 2 * 2 + 1 = j by omega] at g1
    rw [g1] at hu
    rw [← hu, ← c1]
    congr 2
    omega
theorem marks_tail {w : World} {pa : Option Addr} {n c k : Nat} {z : Nat → Bool} (h : Marks w pa n z) (hc : n ≤ c) (hk : k ≤ n) (t : Nat) (ht : k + t ≤ n) :
    ∀ ad, (if c = k then pa else pa.map (·.add k)) = some ad → ∀ j u, (bcells (fun i => z (k + i)) t)[j]? = some u → w.cell? (ad.add j) = some u := by
  intro ad had j u hu
  have hj : j < t := by
    have := (List.getElem?_eq_some_iff.1 hu).1
    rw [bcells_len] at this
    omega
  obtain ⟨b, o, rfl, hcell⟩ := marks_at h (by omega)
  rw [if_neg (by omega)] at had
  simp only [Option.map_some, Option.some.injEq, Addr.add_lit] at had
  subst had
  rw [Addr.add_lit]
  have c0 := hcell (k + j) (by omega)
  have hu' : Value.bool (z (k + j)) = u := by
    unfold bcells at hu
    rw [List.getElem?_map, List.getElem?_range hj] at hu
    simpa using hu
  rw [← hu', ← c0]
  congr 2
  omega
/-- A row that is owned, as a row of instants. -/
def turnF {α : Type} (f : Nat → α) (n k j : Nat) : α := if j < n - k then f (k + j) else f (j - (n - k))
theorem insts_of {w : World} {B n : Nat} {v : Value} {s m : Nat → Int} {xs : List Value} (h : w.ownsRow B 28 2 v n xs) (hx : ∀ i, i < n → xs[i * 2]? = some (.int .i64 (s i)) ∧ xs[i * 2 + 1]? = some (.int .i64 (m i))) : ∃ pa c, v = .slice pa n c ∧ n ≤ c ∧ Insts w pa n s m := by
  rcases h.2 with ⟨rfl, rfl⟩ | ⟨g, cap, cur, rfl, -, -, hc, -⟩
  · exact ⟨_, _, rfl, Nat.le_refl _, fun i hi => by omega⟩
  · refine ⟨_, _, rfl, hc, fun i hi => ⟨_, rfl, ?_⟩⟩
    obtain ⟨a, b⟩ := hx i hi
    rw [Addr.add_lit]
    exact ⟨(h.cellAt _ (by omega)).trans (by rw [show 0 + i * 2 = i * 2 by omega]; exact a), (h.cellAt (0 + i * 2 + 1) (by omega)).trans (by rw [show 0 + i * 2 + 1 = i * 2 + 1 by omega]; exact b)⟩
theorem marks_of {w : World} {B n : Nat} {v : Value} {z : Nat → Bool} {xs : List Value} (h : w.ownsRow B 4 1 v n xs) (hx : ∀ i, i < n → xs[i]? = some (.bool (z i))) : ∃ pa c, v = .slice pa n c ∧ n ≤ c ∧ Marks w pa n z := by
  rcases h.2 with ⟨rfl, rfl⟩ | ⟨g, cap, cur, rfl, -, -, hc, -⟩
  · exact ⟨_, _, rfl, Nat.le_refl _, fun i hi => by omega⟩
  · refine ⟨_, _, rfl, hc, fun i hi => ⟨_, rfl, ?_⟩⟩
    rw [Addr.add_lit]
    exact (h.cellAt _ (by omega)).trans (by rw [show 0 + i = i by omega]; exact hx i hi)
theorem turned_i (s m : Nat → Int) (n k : Nat) (hk : k ≤ n) (i : Nat) (hi : i < n) : (([] ++ icells (fun i => s (k + i)) (fun i => m (k + i)) (n - k)) ++ icells s m k)[i * 2]? = some (.int .i64 (turnF s n k i)) ∧ (([] ++ icells (fun i => s (k + i)) (fun i => m (k + i)) (n - k)) ++ icells s m k)[i * 2 + 1]? = some (.int .i64 (turnF m n k i)) := by
  rw [List.nil_append]
  have hl := icells_len (fun i => s (k + i)) (fun i => m (k + i)) (n - k)
  unfold turnF
  by_cases h : i < n - k
  · rw [List.getElem?_append_left (by omega), List.getElem?_append_left (by omega), if_pos h, if_pos h]
    exact icells_get _ _ _ _ h
  · rw [List.getElem?_append_right (by omega), List.getElem?_append_right (by omega), if_neg h, if_neg h, hl, show i * 2 - (n - k) * 2 = (i - (n - k)) * 2 by omega, show i * 2 + 1 - (n - k) * 2 = (i - (n - k)) * 2 + 1 by omega]
    exact icells_get _ _ _ _ (by omega)
theorem turned_b (z : Nat → Bool) (n k : Nat) (hk : k ≤ n) (i : Nat) (hi : i < n) : (([] ++ bcells (fun i => z (k + i)) (n - k)) ++ bcells z k)[i]? = some (.bool (turnF z n k i)) := by
  rw [List.nil_append]
  have hl := bcells_len (fun i => z (k + i)) (n - k)
  unfold turnF
  by_cases h : i < n - k
  · rw [List.getElem?_append_left (by omega), if_pos h]
    unfold bcells
    rw [List.getElem?_map, List.getElem?_range h]
    rfl
  · rw [List.getElem?_append_right (by omega), if_neg h, hl]
    unfold bcells
    rw [List.getElem?_map, List.getElem?_range (by omega)]
    simp

theorem sl_none {pa : Option Addr} {n c k : Nat} {f : Addr → Addr} (hp : pa = none → c = 0) (hc : n ≤ c) (hk : k ≤ n) : (if c = k then pa else pa.map f) = none → n - k = 0 ∧ c - k = 0 := by
  intro h
  by_cases hck : c = k
  · omega
  · rw [if_neg hck] at h
    have := hp (by simpa using h)
    omega
theorem sl_none0 {pa : Option Addr} {n c k : Nat} (hp : pa = none → c = 0) (hc : n ≤ c) (hk : k ≤ n) : pa = none → k = 0 ∧ c = 0 := by
  intro h
  have := hp h
  omega
theorem insts_head {w : World} {pa : Option Addr} {n k : Nat} {s m : Nat → Int} (h : Insts w pa n s m) (hk : k ≤ n) : ∀ ad, pa = some ad → ∀ j u, (icells s m k)[j]? = some u → w.cell? (ad.add j) = some u := by
  intro ad had j u hu
  have hj : j < k * 2 := by
    have := (List.getElem?_eq_some_iff.1 hu).1
    rwa [icells_len] at this
  obtain ⟨b, o, rfl, hcell⟩ := insts_at h (by omega)
  cases had
  rw [Addr.add_lit]
  obtain ⟨g0, g1⟩ := icells_get s m k (j / 2) (by omega)
  obtain ⟨c0, c1⟩ := hcell (j / 2) (by omega)
  by_cases hp : j % 2 = 0
  · rw [show j / 2 * 2 = j by omega] at g0 c0
    rw [g0] at hu
    rw [← hu]
    exact c0
  · rw [show j / 2 * 2 + 1 = j by omega] at g1 c1
    rw [g1] at hu
    rw [← hu]
    exact c1
theorem marks_head {w : World} {pa : Option Addr} {n k : Nat} {z : Nat → Bool} (h : Marks w pa n z) (hk : k ≤ n) : ∀ ad, pa = some ad → ∀ j u, (bcells z k)[j]? = some u → w.cell? (ad.add j) = some u := by
  intro ad had j u hu
  have hj : j < k := by
    have := (List.getElem?_eq_some_iff.1 hu).1
    rw [bcells_len] at this
    omega
  obtain ⟨b, o, rfl, hcell⟩ := marks_at h (by omega)
  cases had
  rw [Addr.add_lit]
  have c0 := hcell j (by omega)
  have hu' : Value.bool (z j) = u := by
    unfold bcells at hu
    rw [List.getElem?_map, List.getElem?_range hj] at hu
    simpa using hu
  rw [← hu']
  exact c0
/-- append to an owned row, of a row of any address: as one step of a region that draws. -/
theorem step_append_any {P : Program} {ops : Array Oper} {o : Oper} {a : Act} {w : World} {K : Act → World → Prop} {Q : Exit → Act → World → Prop} {E : Prop}
    (hg : o.guard = none) (s x : Operand) (t : TypeId) (hop : o.op = Op.call { callee := Callee.builtin Builtin.append, args := #[s, x], argTypes := #[t, t] })
    (base : Nat) (e : TypeId) (i : TypeInfo) (z : Value) (size bytes : Nat) (h1 : P.underlying t = some (.slice e)) (h2 : P.info? e = some i) (h3 : i.zero = some z) (h4 : i.size = size) (h5 : i.bytes = bytes) (h6 : z.cells.size = size) (h7 : 0 < size)
    (v : Value) (n : Nat) (xs : List Value) (hs : a.eval s = v) (hown : w.ownsRow base e size v n xs)
    (ao : Option Addr) (m c : Nat) (news : List Value) (hx : a.eval x = .slice ao m c) (hl : news.length = m * size) (hnone : ao = none → m = 0 ∧ c = 0) (hnews : ∀ ad, ao = some ad → ∀ j u, news[j]? = some u → w.cell? (ad.add j) = some u) (h1c : ∀ u ∈ news, u.oneCell' = true)
    (b1 : n + m ≤ maxLen) (b2 : (n + m) * bytes ≤ 140737488355328) (hbase : base ≤ w.heap.size)
    (hK : ∀ v' w', w'.ownsRow base e size v' (n + m) (xs ++ news) → w.grownBy w' v.ownBlock → K (a.put o.dst v') w') :
    if Region.wanted o (yielded ops a.tmps) = true then Oper.wp P o a w K Q else E := by
  cases ao with
  | some ad => exact step_append_own hg s x t hop base e i z size bytes h1 h2 h3 h4 h5 h6 h7 v n xs hs hown ad m c news hx hl (hnews ad rfl) h1c b1 b2 hbase hK
  | none =>
    obtain ⟨rfl, rfl⟩ := hnone rfl
    have hn : news = [] := List.eq_nil_of_length_eq_zero (by simpa using hl)
    subst hn
    have hw : Region.wanted o (yielded ops a.tmps) = true := by simp [Region.wanted, hg]
    rw [if_pos hw]
    have hrun := run_append_owned_none (P := P) w base t o.type e i size h1 h2 v n xs hown
    unfold Oper.wp
    simp [execOp, hop, resolve, invoke, builtin, hs, hx, hrun, Result.andThen]
    exact hK v w (by simpa using hown) (World.grownBy.refl _ _)
theorem own_empty (w : World) (e : TypeId) (size : Nat) : (w.alloc (.cells #[] e)).ownsRow w.heap.size e size (.slice (some ⟨w.heap.size, 0, none⟩) 0 0) 0 [] :=
  ⟨by simp, .inr ⟨w.heap.size, 0, #[], rfl, Nat.le_refl _, heap_alloc_new w _, Nat.le_refl _, Nat.zero_le _, by simp, by simp⟩⟩
/-- A row of numbers. -/
def Nums (w : World) (pa : Option Addr) (n : Nat) (d : Nat → Nat) : Prop := ∀ i, i < n → ∃ x : Addr, pa = some x ∧ w.cell? (x.add i) = some (.int .i64 ((d i : Nat) : Int))
theorem nums_of {w : World} {B n : Nat} {v : Value} {d : Array Nat} (h : w.ownsRow B 3 1 v n (ByZz.ints d.toList)) (hd : d.size = n) : ∃ pa c, v = .slice pa n c ∧ Nums w pa n (fun i => d[i]!) := by
  rcases h.2 with ⟨rfl, rfl⟩ | ⟨g, cap, cur, rfl, -, -, -⟩
  · exact ⟨_, _, rfl, fun i hi => by omega⟩
  · refine ⟨_, _, rfl, fun i hi => ⟨_, rfl, ?_⟩⟩
    rw [Addr.add_lit]
    refine (h.cellAt _ (by omega)).trans ?_
    unfold ByZz.ints
    have hg := getElem!_pos d i (by omega)
    rw [List.getElem?_map, List.getElem?_eq_getElem (by simp; omega)]
    simp [hg]
theorem key_z (z : Nat → Bool) (s m : Nat → Int) (j : Nat) (h : ByGood.okT (s j) (m j)) : (ByLess.keyOf (tn z m) (te z s) j).z = z j := by
  unfold ByLess.keyOf tn te
  cases hz : z j with
  | true => simp
  | false =>
    have h2 := h.2
    simp
    intro h3 h4
    exact absurd ⟨by omega, h3⟩ h2
theorem turn_key (z : Nat → Bool) (s m : Nat → Int) (n k : Nat) : ByLess.keyOf (tn (turnF z n k) (turnF m n k)) (te (turnF z n k) (turnF s n k)) = ByPure.turn (ByLess.keyOf (tn z m) (te z s)) n k := by
  funext j
  unfold ByLess.keyOf ByPure.turn tn te turnF
  split <;> rfl
/-- What stands in both orders at one place. -/
theorem same_at (z : Nat → Bool) (s m : Nat → Int) (n k : Nat) (hk : k ≤ n) (hok : ∀ j, j < n → ByGood.okT (s j) (m j)) (a b : Array Nat) (ha : a.toList.Perm (List.range n)) (hb : b.toList.Perm (List.range n))
    (sa : SortedIn (ByPure.ltOf (ByLess.keyOf (tn z m) (te z s))) 0 n a) (sb : SortedIn (ByPure.ltOf (ByLess.keyOf (tn (turnF z n k) (turnF m n k)) (te (turnF z n k) (turnF s n k)))) 0 n b) (i : Nat) (hi : i < n) :
    a[i]! < n ∧ b[i]! < n ∧ z a[i]! = turnF z n k b[i]! ∧ (z a[i]! = false → s a[i]! = turnF s n k b[i]! ∧ m a[i]! = turnF m n k b[i]!) := by
  have lt : ∀ c : Array Nat, c.toList.Perm (List.range n) → c[i]! < n := fun c hc => by
    have hs : c.size = n := by simpa using hc.length_eq
    have : c[i]! ∈ c.toList := by rw [getElem!_pos c i (by omega)]; exact Array.getElem_mem_toList _
    exact List.mem_range.1 (hc.mem_iff.1 this)
  have la := lt a ha
  have lb := lt b hb
  rw [turn_key] at sb
  have h := ByPure.canon_eq (ByPure.turned _ n k hk a b ha hb sa sb i hi)
  have hkb : ∃ q, q < n ∧ ByPure.turn (ByLess.keyOf (tn z m) (te z s)) n k b[i]! = ByLess.keyOf (tn z m) (te z s) q ∧ turnF z n k b[i]! = z q ∧ turnF s n k b[i]! = s q ∧ turnF m n k b[i]! = m q := by
    by_cases hb : b[i]! < n - k
    · refine ⟨k + b[i]!, by omega, ?_⟩
      unfold ByPure.turn turnF
      rw [if_pos hb, if_pos hb, if_pos hb, if_pos hb]
      exact ⟨rfl, rfl, rfl, rfl⟩
    · refine ⟨b[i]! - (n - k), by omega, ?_⟩
      unfold ByPure.turn turnF
      rw [if_neg hb, if_neg hb, if_neg hb, if_neg hb]
      exact ⟨rfl, rfl, rfl, rfl⟩
  obtain ⟨q, hq, e0, e1, e2, e3⟩ := hkb
  rw [e0] at h
  rw [e1, e2, e3]
  have hz := h.1
  rw [key_z _ _ _ _ (hok _ la), key_z _ _ _ _ (hok _ hq)] at hz
  refine ⟨la, lb, hz, fun hf => ?_⟩
  obtain ⟨h1, h2⟩ := h.2 (by rw [key_z _ _ _ _ (hok _ la)]; exact hf)
  rw [hf] at hz
  unfold ByLess.keyOf tn te at h1 h2
  simp [hf, ← hz] at h1 h2
  exact ⟨h1, h2⟩
end Go.Proofs.Ytjgamgmghelhgaa.ByTurn
