/- errors.New and the package variables that strconv's errors read. Conditions: none. -/
import Derived.Test.YtjdpmcacnllfpaaDoorChecked
import Derived.Test.YtjdpmcacnllfpaaDoorMem
import Derived.ProofKit
import Derived.OpenShut
import Derived.Lib.Hide
import Derived.WalkSmall
namespace Go.Proofs.YtjdpmcacnllfpaaDoor.Err
open Go.RowKit

/-- An error that is not nil: an errors.errorString. -/
theorem errorsNew_any (s : ByteArray) (w : World) :
    Calls Tryd.prog 43 #[.string s] w fun e w' => (∃ N, e = .returned (.iface 90 (.pointer (some ⟨N, 0, none⟩)))) ∧ Below w.heap.size w w' := by
  go_enter Tryd.func43, Tryd.ntmps43
  go_wp2
  go_ret
  exact ⟨⟨_, rfl⟩, (Below.refl _ _).alloc (Nat.le_refl _) _⟩

/-- The two sentinels that strconv hands on are interface values that hold something. -/
def ErrVars (w : World) : Prop :=
  (∃ tp p, w.var? Tryd.prog "strconv.ErrSyntax" = some #[.iface tp p]) ∧ (∃ tp p, w.var? Tryd.prog "strconv.ErrRange" = some #[.iface tp p])

theorem var_lt {P : Program} {w : World} {n : String} {g : Nat} {cs : Array Value} (hg : P.globalNamed n = some g) (hv : w.var? P n = some cs) : g < w.heap.size := by
  unfold World.var? at hv
  simp only [hg, Option.bind_some] at hv
  rcases Nat.lt_or_ge g w.heap.size with h | h
  · exact h
  · simp [Array.getElem?_eq_none h] at hv

theorem ErrVars.below {w w' : World} (h : ErrVars w) (hb : Below w.heap.size w w') : ErrVars w' := by
  obtain ⟨⟨t1, p1, h1⟩, t2, p2, h2⟩ := h
  have g1 : Tryd.prog.globalNamed "strconv.ErrSyntax" = some 1 := by kernel_rfl
  have g2 : Tryd.prog.globalNamed "strconv.ErrRange" = some 2 := by kernel_rfl
  exact ⟨⟨t1, p1, var?_below hb g1 (var_lt g1 h1) h1⟩, t2, p2, var?_below hb g2 (var_lt g2 h2) h2⟩

end Go.Proofs.YtjdpmcacnllfpaaDoor.Err
