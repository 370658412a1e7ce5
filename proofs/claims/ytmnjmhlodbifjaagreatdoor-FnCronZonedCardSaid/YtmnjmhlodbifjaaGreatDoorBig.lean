/- Laws on memory for walks: a slice that came in, append to an owned row as a step of a region that draws its order. Conditions: none. · Small laws on blocks behind an opaque call. Conditions: none. · Whole structs of many cells: their making, storing and loading as single steps of a walk. Conditions: none. -/
import Derived.WalkKit
import Derived.Below
import Derived.Deep.RegionLaw
import Derived.Deep.RegionLawGrows
import Derived.Laws.OwnMore
import Derived.Laws.BytesArg
import Derived.Test.YtmnjmhlodbifjaaGreatDoorChecked
import Derived.ProofKit
import Derived.OpenShut
import Derived.Lib.Hide
import Derived.WalkSpells
import Derived.WalkSmall
import Derived.Deep.DeepCutAuto
import Derived.Deep.MidRow
import Derived.Laws.Tables
import Derived.Laws.Rows
import Derived.Deep.Upon
import Derived.BigFrame

namespace Go.Proofs.YtmnjmhlodbifjaaGreatDoor.Mem
open Go Go.RowKit

/-- What a walk is told of a slice of integers that came in. -/
def IsRow (k : IntKind) (w : World) (a : Option Addr) (len cap : Nat) (zs : List Int) : Prop :=
  (a = none ∧ len = 0 ∧ cap = 0 ∧ zs = []) ∨
  ∃ x, a = some x ∧ len ≤ cap ∧ cap ≤ maxLen ∧ zs.length = cap ∧ (∀ i, i < zs.length → w.cell? (x.add i) = some (.int k (zs.getD i 0))) ∧ ∀ n ∈ zs, (Lit.int k n).wf = true

theorem IsRow.below {k : IntKind} {w w' : World} {a : Option Addr} {len cap : Nat} {zs : List Int} (h : IsRow k w a len cap zs) (hb : Below w.heap.size w w') : IsRow k w' a len cap zs := by
  rcases h with h | ⟨x, rfl, h1, h2, h3, h4, h5⟩
  · exact .inl h
  · exact .inr ⟨x, rfl, h1, h2, h3, fun i hi => (hb.cell (World.block_lt_of_cell? w _ (h4 i hi))).trans (h4 i hi), h5⟩

/-- append to an owned row, as one step of a region that draws. -/
theorem step_append_own {P : Program} {ops : Array Oper} {o : Oper} {a : Act} {w : World} {K : Act → World → Prop} {Q : Exit → Act → World → Prop} {E : Prop}
    (hg : o.guard = none) (s x : Operand) (t : TypeId) (hop : o.op = Op.call { callee := Callee.builtin Builtin.append, args := #[s, x], argTypes := #[t, t] })
    (base : Nat) (e : TypeId) (i : TypeInfo) (z : Value) (size bytes : Nat) (h1 : P.underlying t = some (.slice e)) (h2 : P.info? e = some i) (h3 : i.zero = some z) (h4 : i.size = size) (h5 : i.bytes = bytes) (h6 : z.cells.size = size) (h7 : 0 < size)
    (v : Value) (n : Nat) (xs : List Value) (hs : a.eval s = v) (hown : w.ownsRow base e size v n xs)
    (ad : Addr) (m c : Nat) (news : List Value) (hx : a.eval x = .slice (some ad) m c) (hl : news.length = m * size) (hnews : ∀ j u, news[j]? = some u → w.cell? (ad.add j) = some u) (h1c : ∀ u ∈ news, u.oneCell' = true)
    (b1 : n + m ≤ maxLen) (b2 : (n + m) * bytes ≤ 140737488355328) (hbase : base ≤ w.heap.size)
    (hK : ∀ v' w', w'.ownsRow base e size v' (n + m) (xs ++ news) → w.grownBy w' v.ownBlock → K (a.put o.dst v') w') :
    if Region.wanted o (yielded ops a.tmps) = true then Oper.wp P o a w K Q else E := by
  have hw : Region.wanted o (yielded ops a.tmps) = true := by simp [Region.wanted, hg]
  rw [if_pos hw]
  obtain ⟨v', w', hrun, r1, r2, _⟩ := run_append_own (P := P) w base t o.type e i z size bytes h1 h2 h3 h4 h5 h6 h7 v n xs hown ad m c news hl hnews h1c b1 b2 hbase
  unfold Oper.wp
  simp [execOp, hop, resolve, invoke, builtin, hs, hx, hrun, Result.andThen]
  exact hK v' w' r1 r2

/-- string(v) of an owned row of bytes. -/
theorem run_convert_own {P : Program} (w : World) (src e dst : TypeId) (hs : P.underlying src = some (.slice e)) (he : P.underlying e = some (.int .u8)) (hd : P.underlying dst = some .string)
    {base e' n : Nat} {v : Value} {xs : List Int} (h : w.ownsRow base e' 1 v n (xs.map (Value.int .u8))) : (convert src dst v).run P w = .ok (.string (strOfNums xs)) w := by
  have hn : xs.length = n := by simpa using h.1
  rcases h.2 with ⟨rfl, rfl⟩ | ⟨g, cap, cur, rfl, hb, hg, hle, hm, hcur, htake⟩
  · obtain rfl : xs = [] := List.eq_nil_of_length_eq_zero hn
    exact run_convert_bytes_nil w src e hs he 0 0 dst hd
  · refine run_convert_bytes_arg w src e hs he g 0 n cap xs hn (fun i hi => ?_) dst hd
    have h2 := World.ownsRow.cells h (g := g) rfl i (.int .u8 (xs.getD i 0)) (by
      rw [List.getElem?_map, List.getElem?_eq_getElem (by omega)]
      simp [List.getD, List.getElem?_eq_getElem (show i < xs.length by omega)])
    rw [← h2]
    congr 1
    unfold Addr.add; split <;> simp_all

/-- Five results. -/
theorem results_tmp5 {fn : Func} {t1 t2 t3 t4 t5 : Tmp} (h : fn.results = #[.tmp t1, .tmp t2, .tmp t3, .tmp t4, .tmp t5]) (tmps : Array Value) (P : Program) (w : World) :
    (results fn tmps).run P w = .ok (.tuple #[tmps.getD t1 undef, tmps.getD t2 undef, tmps.getD t3 undef, tmps.getD t4 undef, tmps.getD t5 undef]) w := by
  simp [results, h]

end Go.Proofs.YtmnjmhlodbifjaaGreatDoor.Mem

namespace Go.Proofs.YtmnjmhlodbifjaaGreatDoor.Aid
open Go Go.RowKit Go.Proofs.YtmnjmhlodbifjaaGreatDoor.Mem
set_option linter.unusedVariables false

theorem name_calls {P : Program} {f : FuncId} {args : Array Value} {w : World} {Q : Ending → World → Prop} (h : ∀ X, X = w → Calls P f args X Q) : Calls P f args w Q := h w rfl
theorem name_world {P : Program} {c : Code} {Q : Exit → Act → World → Prop} {a : Act} {w : World} (h : ∀ X, X = w → c.wp P Q a X) : c.wp P Q a w := h w rfl
/-- A block of cells. -/
def Blk (w : World) (b : Nat) (cs : Array Value) : Prop := ∃ E, w.heap[b]? = some (.cells cs E)
theorem Blk.lt {w : World} {b : Nat} {cs : Array Value} (h : Blk w b cs) : b < w.heap.size := by
  obtain ⟨E, h⟩ := h
  exact (Array.getElem?_eq_some_iff.1 h).1
theorem Blk.cell {w : World} {b : Nat} {cs : Array Value} (h : Blk w b cs) {j : Nat} {v : Value} (hv : cs[j]? = some v) : w.cell? ⟨b, j, none⟩ = some v := by
  obtain ⟨E, h⟩ := h
  unfold World.cell?
  simp only [h]
  exact hv
theorem Blk.free {w : World} {b : Nat} {cs : Array Value} (h : Blk w b cs) (j : Nat) : w.frozen? ⟨b, j, none⟩ = false := by
  obtain ⟨E, h⟩ := h
  exact frozen_of_row _ _ _ _ _ h
theorem Blk.below {w w' : World} {b B : Nat} {cs : Array Value} (h : Blk w b cs) (hb : Below B w w') (hB : b < B) : Blk w' b cs := by
  obtain ⟨E, h⟩ := h
  exact ⟨E, (hb.block b hB).trans h⟩
theorem Blk.after {w w' : World} {b : Nat} {cs : Array Value} (h : Blk w b cs) (hb : Below w.heap.size w w') : Blk w' b cs := h.below hb h.lt
theorem Blk.new (w : World) (cs : Array Value) (E : TypeId) : Blk (w.alloc (.cells cs E)) w.heap.size cs := ⟨E, heap_alloc_new w _⟩
theorem Blk.alloc {w : World} {b : Nat} {cs : Array Value} (h : Blk w b cs) (o : Obj) : Blk (w.alloc o) b cs := by
  have hl := h.lt
  obtain ⟨E, h⟩ := h
  exact ⟨E, (Below.heap_alloc w o b hl).trans h⟩
theorem Blk.set {w : World} {b : Nat} {cs : Array Value} (h : Blk w b cs) (j : Nat) (v : Value) : Blk (w.setCell ⟨b, j, none⟩ v) b (cs.setIfInBounds j v) := by
  obtain ⟨E, h⟩ := h
  exact ⟨E, heap_setCell_same w b j cs E v h⟩
theorem Blk.other {w : World} {b : Nat} {cs : Array Value} (h : Blk w b cs) (p : Addr) (v : Value) (hp : b ≠ p.block) : Blk (w.setCell p v) b cs := by
  obtain ⟨E, h⟩ := h
  exact ⟨E, (heap_setCell_other w p b v hp).trans h⟩
theorem Blk.drew {w : World} {b : Nat} {cs : Array Value} (h : Blk w b cs) : Blk w.drew b cs := h
theorem Blk.drewN {w : World} {b : Nat} {cs : Array Value} (h : Blk w b cs) (n : Nat) : Blk (w.drewN n) b cs := by
  obtain ⟨E, h⟩ := h
  exact ⟨E, by rw [show (w.drewN n).heap = w.heap by simp]; exact h⟩
theorem allocd {W X : World} (h : Below W.heap.size W X) (o : Obj) : Below W.heap.size W (X.alloc o) := h.alloc h.size o
theorem chain {V X Y : World} (h : Below V.heap.size V X) (hb : Below X.heap.size X Y) : Below V.heap.size V Y := h.trans (hb.mono h.size)
theorem drewNd {B : Nat} {W X : World} (h : Below B W X) (n : Nat) : Below B W (X.drewN n) := ⟨h.os, h.tape, h.output, h.size, h.block⟩
theorem one_after {w w1 : World} {a : Array Value} {E : TypeId} (hb : Below (w.alloc (.cells a E)).heap.size (w.alloc (.cells a E)) w1) : Blk w1 w.heap.size a := (Blk.new w a E).after hb
theorem one_afterd {w w1 : World} {a : Array Value} {E : TypeId} (hb : Below (w.alloc (.cells a E)).drew.heap.size (w.alloc (.cells a E)).drew w1) : Blk w1 w.heap.size a := one_after (⟨hb.os, hb.tape, hb.output, hb.size, hb.block⟩ : Below (w.alloc (.cells a E)).heap.size (w.alloc (.cells a E)) w1)
theorem two_after {w w1 : World} {a b : Array Value} {E F : TypeId} (hb : Below ((w.alloc (.cells a E)).alloc (.cells b F)).heap.size ((w.alloc (.cells a E)).alloc (.cells b F)) w1) : Blk w1 w.heap.size a ∧ Blk w1 (w.heap.size + 1) b := by
  refine ⟨((Blk.new w a E).alloc _).after hb, ?_⟩
  have h := (Blk.new (w.alloc (.cells a E)) b F).after hb
  rwa [show (w.alloc (.cells a E)).heap.size = w.heap.size + 1 by simp] at h
end Go.Proofs.YtmnjmhlodbifjaaGreatDoor.Aid

namespace Go.Proofs.YtmnjmhlodbifjaaGreatDoor.Big
open Go Go.RowKit Go.Proofs.YtmnjmhlodbifjaaGreatDoor.Mem Go.Proofs.YtmnjmhlodbifjaaGreatDoor.Aid
set_option linter.unusedVariables false

def allocB (T : TypeId) : Sem Value := Instr.alloc T true (.tuple #[])
def loadB (T : TypeId) (a : Value) : Sem Value := Instr.loadAt T a
def storeB (T : TypeId) (a v : Value) : Sem Unit := Instr.storeAt T a v
def boxB (T : TypeId) (v : Value) : Sem Value := Instr.box T v
section
variable {P : Program} {T E : TypeId} {Z cs old : Array Value} {w : World} {b : Nat}
theorem allocB_run (hz : ∀ w, (zeroValue T).run P w = .ok (.agg Z) w) (w : World) : (allocB T).run P w = .ok (.pointer (some ⟨w.heap.size, 0, none⟩)) (w.alloc (.cells Z T)) := by
  unfold allocB
  simp only [Instr.alloc, Sem.run_bind, hz, Result.andThen_ok, newVar, newRow, Value.cells, run_newObj_alloc, Sem.run_pure]
theorem setRow_alloc (w : World) (Z cs : Array Value) (E : TypeId) : (w.alloc (.cells Z E)).setRow w.heap.size cs = w.alloc (.cells cs E) := by
  unfold World.setRow World.alloc
  congr 1
  apply Array.ext_getElem?
  intro i
  rw [Array.getElem?_modify]
  by_cases h : w.heap.size = i
  · subst h; simp
  · rw [if_neg h]
    rw [Array.getElem?_push, Array.getElem?_push, if_neg (Ne.symm h), if_neg (Ne.symm h)]
theorem storeB_row (hi : (P.info? T).map (·.size) = some cs.size) (ho : old.size = cs.size) (h1 : cs.all (·.oneCell') = true) (h : w.heap[b]? = some (.cells old E)) :
    (storeB T (.pointer (some ⟨b, 0, none⟩)) (.agg cs)).run P w = .ok () (w.setRow b cs) := by
  unfold storeB
  simp only [Instr.storeAt, Instr.sureAddr, Sem.run_bind, Sem.run_pure, Result.andThen_ok, run_storeVar_row w b E T old cs h hi ho h1]
theorem storeB_new (hi : (P.info? T).map (·.size) = some cs.size) (ho : Z.size = cs.size) (h1 : cs.all (·.oneCell') = true) (w : World) (E : TypeId) :
    (storeB T (.pointer (some ⟨w.heap.size, 0, none⟩)) (.agg cs)).run P (w.alloc (.cells Z E)) = .ok () (w.alloc (.cells cs E)) := by
  rw [storeB_row hi ho h1 (heap_alloc_new w _), setRow_alloc]
theorem loadB_row {d : TypeDesc} (hu : P.underlying T = some d) (hd : (match d with | .struct _ | .array _ _ => true | _ => false) = true) (hi : (P.info? T).map (·.size) = some cs.size) (h : w.heap[b]? = some (.cells cs E)) :
    (loadB T (.pointer (some ⟨b, 0, none⟩))).run P w = .ok (.agg cs) w := by
  unfold loadB
  simp only [Instr.loadAt, Instr.sureAddr, Sem.run_bind, Sem.run_pure, Result.andThen_ok, run_loadVar_row w b E T cs (0, 0) d h hu hd hi]
theorem boxB_run (w : World) (cs : Array Value) : (boxB T (.agg cs)).run P w = .ok (.pointer (some ⟨w.heap.size, 0, none⟩)) (w.alloc (.cells cs T)) := by
  unfold boxB
  simp only [Instr.box, Sem.run_bind, newVar, newRow, Value.cells, run_newObj_alloc, Sem.run_pure, Result.andThen_ok]
end
theorem blk_row {w : World} {b : Nat} {cs : Array Value} (h : Blk w b cs) (new : Array Value) : Blk (w.setRow b new) b new := by
  obtain ⟨E, h⟩ := h
  exact ⟨E, setRow_heap w b cs new E (0, 0) h⟩
theorem blk_else {w : World} {b c : Nat} {cs : Array Value} (h : Blk w c cs) (new : Array Value) (hne : c ≠ b) : Blk (w.setRow b new) c cs := by
  obtain ⟨E, h⟩ := h
  exact ⟨E, (setRow_other w b c new hne).trans h⟩
theorem below_row {B : Nat} {w w' : World} {b : Nat} (h : Below B w w') (hb : B ≤ b) (new : Array Value) : Below B w (w'.setRow b new) := by
  refine ⟨h.os, h.tape, h.output, ?_, fun k hk => ?_⟩
  · have := h.size
    simpa [World.setRow] using this
  · rw [setRow_other _ _ _ _ (by omega)]
    exact h.block k hk
section
variable {P : Program} {ops : Array Oper} {rest : List Oper} {o : Oper} {a : Act} {w : World} {Q : Exit → Act → World → Prop}
/-- A struct stored whole. -/
theorem wpList_store_blk (hg : o.guard = none) (T : TypeId) (x y : Operand) (ho : o.op = .store T x y) (b : Nat) (old cs : Array Value) (hi : (P.info? T).map (·.size) = some cs.size) (hold : old.size = cs.size) (h1 : cs.all (·.oneCell') = true)
    (hx : a.eval x = .pointer (some ⟨b, 0, none⟩)) (hy : a.eval y = .agg cs) (hb : Blk w b old)
    (h : wpList P ops Q rest (a.put o.dst undef) (w.setRow b cs)) : wpList P ops Q (o :: rest) a w := by
  obtain ⟨E, hb⟩ := hb
  exact wpList_store_row hg T x y ho b cs hx hy _ old hb hi hold h1 h
/-- A struct loaded whole. -/
theorem wpList_load_blk (hg : o.guard = none) (T : TypeId) (x : Operand) (ho : o.op = .load T x) (b : Nat) (cs : Array Value) {d : TypeDesc} (hu : P.underlying T = some d) (hd : (match d with | .struct _ | .array _ _ => true | _ => false) = true) (hi : (P.info? T).map (·.size) = some cs.size)
    (hx : a.eval x = .pointer (some ⟨b, 0, none⟩)) (hb : Blk w b cs)
    (h : wpList P ops Q rest (a.put o.dst (.agg cs)) w) : wpList P ops Q (o :: rest) a w := by
  obtain ⟨E, hb⟩ := hb
  exact wpList_load_row hg T x ho b hx _ cs (0, 0) _ hb hu hd hi h
end
/-- A struct loaded whole, where the guard says yes. -/
theorem wpList_want_blk {P : Program} {ops : Array Oper} {rest : List Oper} {o : Oper} {a : Act} {w : World} {Q : Exit → Act → World → Prop} (hw : Region.wanted o (yielded ops a.tmps) = true) (T : TypeId) (x : Operand) (ho : o.op = .load T x) (b : Nat) (cs : Array Value) {d : TypeDesc} (hu : P.underlying T = some d) (hd : (match d with | .struct _ | .array _ _ => true | _ => false) = true) (hi : (P.info? T).map (·.size) = some cs.size)
    (hx : a.eval x = .pointer (some ⟨b, 0, none⟩)) (hb : Blk w b cs)
    (h : wpList P ops Q rest (a.put o.dst (.agg cs)) w) : wpList P ops Q (o :: rest) a w := by
  obtain ⟨E, hb⟩ := hb
  exact BigFrame.wpList_want hw fun _ hK => wp_load_row T x ho b hx _ cs (0, 0) _ hb hu hd hi (hK _ _ h)
theorem results_blk_tmp {P : Program} {fn : Func} {p t : Tmp} {T : TypeId} (h : fn.results = #[.cell p T, .tmp t]) (tmps : Array Value) (w : World) (b : Nat) (cs : Array Value) {d : TypeDesc} (hu : P.underlying T = some d) (hd : (match d with | .struct _ | .array _ _ => true | _ => false) = true) (hi : (P.info? T).map (·.size) = some cs.size)
    (hp : tmps.getD p undef = .pointer (some ⟨b, 0, none⟩)) (hb : Blk w b cs) :
    (results fn tmps).run P w = .ok (.tuple #[.agg cs, tmps.getD t undef]) w := by
  have hp' : tmps[p]?.getD undef = .pointer (some ⟨b, 0, none⟩) := by simpa using hp
  obtain ⟨E, hb⟩ := hb
  simp [results, h, hp', asAddr, run_loadVar_row w b _ T cs (0, 0) _ hb hu hd hi]
theorem rowd {W X : World} {b : Nat} (h : Below W.heap.size W X) (hb : W.heap.size ≤ b) (new : Array Value) : Below W.heap.size W (X.setRow b new) := below_row h hb new
theorem blk_cells {w : World} {b c o : Nat} {cs : Array Value} (h : Blk w c cs) (hne : c ≠ b) (vs : List Value) : Blk (w.setCells b o vs) c cs := by
  obtain ⟨E, h⟩ := h
  exact ⟨E, (World.heap_setCells_other w b o vs (Array.getElem?_eq_some_iff.1 h).1 hne).trans h⟩
end Go.Proofs.YtmnjmhlodbifjaaGreatDoor.Big
