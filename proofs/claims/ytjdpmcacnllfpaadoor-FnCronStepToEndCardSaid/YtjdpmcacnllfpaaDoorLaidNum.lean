/- What the rows' lists of package variables give: strconv's two sentinels and its table of powers of ten. Conditions: the list is met. -/
import Derived.Test.YtjdpmcacnllfpaaDoorRows
import Derived.Test.YtjdpmcacnllfpaaDoorErr
import Derived.Stop.LaidErr
import Derived.Lib.LaidTab
import Derived.MakeChecks
import Derived.LaidLaws
import Derived.LaidMore
namespace Go.Proofs.YtjdpmcacnllfpaaDoor.LaidNum
open Go.RowKit Go.Proofs.YtjdpmcacnllfpaaDoor.Err

def pow10 : List Int := [1, 10, 100, 1000, 10000, 100000, 1000000, 10000000, 100000000, 1000000000, 10000000000, 100000000000, 1000000000000, 10000000000000, 100000000000000, 1000000000000000, 10000000000000000, 100000000000000000, 1000000000000000000, 10000000000000000000]

/-- The list of the rows. -/
def list : List (String × DataW Unit) := [("math/bits.deBruijn32tab", Rows.laid_math_bits_deBruijn32tab), ("math/bits.deBruijn64tab", Rows.laid_math_bits_deBruijn64tab), ("internal/strconv.uint64pow10", Rows.laid_internal_strconv_uint64pow10), ("strconv.ErrRange", Rows.laid_strconv_ErrRange), ("strconv.ErrSyntax", Rows.laid_strconv_ErrSyntax)]

theorem gES : Tryd.prog.globalNamed "strconv.ErrSyntax" = some 1 := by kernel_rfl
theorem gER : Tryd.prog.globalNamed "strconv.ErrRange" = some 2 := by kernel_rfl
theorem gPT : Tryd.prog.globalNamed "internal/strconv.uint64pow10" = some 0 := by kernel_rfl
theorem tES : (Tryd.prog.globals[1]?).map (·.type) = some 51 := by kernel_rfl
theorem tER : (Tryd.prog.globals[2]?).map (·.type) = some 51 := by kernel_rfl
theorem tPT : (Tryd.prog.globals[0]?).map (·.type) = some 97 := by kernel_rfl

/-- The one type of that name. -/
theorem rowErr (u : TypeId) (h : Tryd.prog.typeName? 3 u = some "*errors.errorString") : u = 90 := by
  have h2 : ("*errors.errorString" : String) = "*" ++ "errors.errorString" := by decide
  exact typeName_ptr_named (nm := "errors.errorString") (by rw [← h2]; kernel_rfl) (by kernel_rfl) (by decide) u (by rw [← h2]; exact h)

theorem of_laid {W : World} (h : laidMetH Tryd.prog list W) : ErrVars W ∧ Lib.TabIs Tryd.prog W "internal/strconv.uint64pow10" .u64 pow10 := by
  rw [MakeChecks.laidMetH_plain _ _ _ (by kernel_rfl)] at h
  have h3 := h.tail.tail
  have h4 := h3.tail
  have h5 := h4.tail
  obtain ⟨a1, s1, hv1, -, -, -⟩ := laid_sentinel h4 gER tER Tryd.underlying51 rowErr Tryd.underlying90 Tryd.underlying92 rfl rfl Tryd.underlying9 (by kernel_rfl) (by kernel_rfl)
  obtain ⟨a0, s0, hv0, -, -, -⟩ := laid_sentinel h5 gES tES Tryd.underlying51 rowErr Tryd.underlying90 Tryd.underlying92 rfl rfl Tryd.underlying9 (by kernel_rfl) (by kernel_rfl)
  exact ⟨⟨⟨_, _, hv0⟩, _, _, hv1⟩, Lib.tabIs_of_head (zs := pow10) gPT tPT Tryd.underlying97 Tryd.underlying36 (by kernel_rfl) (by kernel_rfl) h3⟩

/-- The door's own heap meets the list. -/
theorem door_met (os : Os) (args : Array Value) : laidMetH Tryd.prog list ((World.doorLaid Tryd.prog 400 os).forCall (fun _ _ => 0) ⟨#[], args, []⟩).memory :=
  laidMetH_of_parts3 (fuel := 8) (laidMet_of_run' 8 (by kernel_rfl) (by kernel_rfl)) (by kernel_rfl) (by kernel_rfl)

end Go.Proofs.YtjdpmcacnllfpaaDoor.LaidNum
