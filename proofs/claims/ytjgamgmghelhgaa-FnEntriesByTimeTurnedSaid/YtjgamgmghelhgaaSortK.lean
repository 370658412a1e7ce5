/- The state within a sorting function, and what is asked of byTime's Less and Swap. Conditions: none. -/
import Derived.Test.YtjgamgmghelhgaaSortS
namespace Go.Proofs.Ytjgamgmghelhgaa.SortK
open Go Go.RowKit Go.Sort Go.Proofs.Ytjgamgmghelhgaa.SortS
set_option linter.unusedVariables false

theorem meth_less (v : Value) (w : World) : (method 212 56 v "Less").run Try.prog w = .ok (56, v) w := by kernel_rfl
theorem meth_swap (v : Value) (w : World) : (method 212 56 v "Swap").run Try.prog w = .ok (57, v) w := by kernel_rfl
theorem meth_len (v : Value) (w : World) : (method 212 56 v "Len").run Try.prog w = .ok (55, v) w := by kernel_rfl

section
variable {α : Type} [Inhabited α]
/-- What is asked of the two methods. -/
structure Cx (enc : α → Value) (lt : α → α → Bool) (blk : Nat) (rv : Value) (n : Nat) (w0 : World) : Prop where
  less : ∀ (X : World) (d : Array α), St blk w0 X → Holds enc X blk 0 d → d.size = n → ∀ i j : Nat, i < n → j < n → Calls Try.prog 56 #[rv, .int .i64 (i : Int), .int .i64 (j : Int)] X fun e w' => e = .returned (.bool (lt d[i]! d[j]!)) ∧ Below X.heap.size X w'
  swap : ∀ (X : World) (d : Array α), St blk w0 X → Holds enc X blk 0 d → d.size = n → ∀ i j : Nat, i < n → j < n → Calls Try.prog 57 #[rv, .int .i64 (i : Int), .int .i64 (j : Int)] X fun e w' => e = .returned (.tuple #[]) ∧ St blk X w' ∧ Holds enc w' blk 0 (swp d i j)
  blk : blk < w0.heap.size
  big : n < 4611686018427387904
/-- The state within a call that began at X. -/
structure K (enc : α → Value) (blk n : Nat) (w0 X wr : World) (dk : Array α) : Prop where
  beg : St blk w0 X
  st : St blk X wr
  row : Holds enc wr blk 0 dk
  len : dk.size = n
/-- A function that turns the row d to d'. -/
def Does (enc : α → Value) (blk n : Nat) (w0 : World) (f : FuncId) (args : Array Value) (d d' : Array α) (ret : Value) : Prop :=
  ∀ X, K enc blk n w0 X X d → Calls Try.prog f args X fun e w' => e = .returned ret ∧ K enc blk n w0 X w' d'
variable {enc : α → Value} {lt : α → α → Bool} {blk n : Nat} {rv : Value} {w0 X wr w1 : World} {dk d' : Array α}
theorem K.start (h : St blk w0 X) (hd : Holds enc X blk 0 dk) (hn : dk.size = n) : K enc blk n w0 X X dk := ⟨h, St.refl _ _, hd, hn⟩
theorem K.all (k : K enc blk n w0 X wr dk) : St blk w0 wr := k.beg.trans k.st
theorem K.here (k : K enc blk n w0 X wr dk) : K enc blk n w0 wr wr dk := ⟨k.all, St.refl _ _, k.row, k.len⟩
theorem K.inn (k : K enc blk n w0 X wr dk) (h : blk < w0.heap.size) : blk < wr.heap.size := Nat.lt_of_lt_of_le h k.all.size
theorem K.after (k : K enc blk n w0 X wr dk) (h : blk < w0.heap.size) (hb : Below wr.heap.size wr w1) : K enc blk n w0 X w1 dk := ⟨k.beg, k.st.trans (.of_below hb), holds_below k.row hb (k.inn h), k.len⟩
theorem K.alloc (k : K enc blk n w0 X wr dk) (h : blk < w0.heap.size) (o : Obj) : K enc blk n w0 X (wr.alloc o) dk := k.after h ((Below.refl _ _).alloc (Nat.le_refl _) o)
theorem K.drew (k : K enc blk n w0 X wr dk) : K enc blk n w0 X wr.drew dk := ⟨k.beg, k.st.drew, k.row, k.len⟩
theorem K.set (k : K enc blk n w0 X wr dk) (h : blk < w0.heap.size) {p : Addr} (hp : X.heap.size ≤ p.block) (v : Value) : K enc blk n w0 X (wr.setCell p v) dk :=
  ⟨k.beg, k.st.setCell (.inr hp) v, holds_set k.row (by have := k.beg.size; omega) v, k.len⟩
theorem K.less (cx : Cx enc lt blk rv n w0) (k : K enc blk n w0 X wr dk) (i j : Nat) (hi : i < n) (hj : j < n) :
    Calls Try.prog 56 #[rv, .int .i64 (i : Int), .int .i64 (j : Int)] wr fun e w' => e = .returned (.bool (lt dk[i]! dk[j]!)) ∧ K enc blk n w0 X w' dk ∧ Below wr.heap.size wr w' :=
  (cx.less wr dk k.all k.row k.len i j hi hj).mono fun e w' h => ⟨h.1, k.after cx.blk h.2, h.2⟩
theorem K.swap (cx : Cx enc lt blk rv n w0) (k : K enc blk n w0 X wr dk) (i j : Nat) (hi : i < n) (hj : j < n) :
    Calls Try.prog 57 #[rv, .int .i64 (i : Int), .int .i64 (j : Int)] wr fun e w' => e = .returned (.tuple #[]) ∧ K enc blk n w0 X w' (swp dk i j) :=
  (cx.swap wr dk k.all k.row k.len i j hi hj).mono fun e w' h => ⟨h.1, k.beg, k.st.trans h.2.1, h.2.2, by rw [size_swp]; exact k.len⟩
theorem K.does {f : FuncId} {args : Array Value} {ret : Value} (hf : Does enc blk n w0 f args dk d' ret) (k : K enc blk n w0 X wr dk) :
    Calls Try.prog f args wr fun e w' => e = .returned ret ∧ K enc blk n w0 X w' d' :=
  (hf wr k.here).mono fun e w' h => ⟨h.1, k.beg, k.st.trans h.2.st, h.2.row, h.2.len⟩
/-- A box of the caller's behind such a call. -/
theorem K.cell (k : K enc blk n w0 X wr dk) {p : Addr} (hp : p.block < X.heap.size) (hb : p.block ≠ blk) : wr.cell? p = X.cell? p := k.st.cell hp hb
theorem K.frozen (k : K enc blk n w0 X wr dk) {p : Addr} (hp : p.block < X.heap.size) (hb : p.block ≠ blk) : wr.frozen? p = X.frozen? p := k.st.frozen hp hb
end

end Go.Proofs.Ytjgamgmghelhgaa.SortK
