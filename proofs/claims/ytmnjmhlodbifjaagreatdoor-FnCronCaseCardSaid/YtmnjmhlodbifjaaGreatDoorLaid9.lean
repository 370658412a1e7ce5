/- What the rows' lists of package variables give: strconv's two sentinels. Conditions: the list is met. -/
import Derived.Test.YtmnjmhlodbifjaaGreatDoorRows
import Derived.Test.YtmnjmhlodbifjaaGreatDoorAtoi
import Derived.Stop.LaidErr
import Derived.MakeChecks
import Derived.LaidLaws
import Derived.LaidMore
import Derived.Lay
namespace Go.Proofs.YtmnjmhlodbifjaaGreatDoor.Laid9
open Go.RowKit Go.Proofs.YtmnjmhlodbifjaaGreatDoor.Err

/-- The list of the rows. -/
def list : List (String × DataW Unit) := [("math/bits.deBruijn32tab", Rows.laid_math_bits_deBruijn32tab), ("math/bits.deBruijn64tab", Rows.laid_math_bits_deBruijn64tab), ("internal/strconv.uint64pow10", Rows.laid_internal_strconv_uint64pow10), ("unicode/utf8.acceptRanges", Rows.laid_unicode_utf8_acceptRanges), ("pub-timebook/pub/gotime.errLeadingInt", Rows.laid_pub_timebook_pub_gotime_errLeadingInt), ("pub-timebook/pub/gotime.errLocation", Rows.laid_pub_timebook_pub_gotime_errLocation), ("strconv.ErrRange", Rows.laid_strconv_ErrRange), ("strconv.ErrSyntax", Rows.laid_strconv_ErrSyntax), ("unicode/utf8.first", Rows.laid_unicode_utf8_first)]

theorem gES : Tryz.prog.globalNamed "strconv.ErrSyntax" = some 7 := by kernel_rfl
theorem gER : Tryz.prog.globalNamed "strconv.ErrRange" = some 8 := by kernel_rfl
theorem tES : (Tryz.prog.globals[7]?).map (·.type) = some 80 := by kernel_rfl
theorem tER : (Tryz.prog.globals[8]?).map (·.type) = some 80 := by kernel_rfl

/-- The one type of that name. -/
theorem rowErr (u : TypeId) (h : Tryz.prog.typeName? 3 u = some "*errors.errorString") : u = 147 := by
  have h2 : ("*errors.errorString" : String) = "*" ++ "errors.errorString" := by decide
  exact typeName_ptr_named (nm := "errors.errorString") (by rw [← h2]; kernel_rfl) (by kernel_rfl) (by decide) u (by rw [← h2]; exact h)

theorem of_laid {W : World} (h : laidMetH Tryz.prog list W) : ErrVars W := by
  rw [MakeChecks.laidMetH_plain _ _ _ (by kernel_rfl)] at h
  have h4 := h.tail.tail.tail.tail.tail.tail
  have h5 := h4.tail
  obtain ⟨a1, s1, hv1, -, -, -⟩ := laid_sentinel h4 gER tER Tryz.underlying80 rowErr Tryz.underlying147 Tryz.underlying149 rfl rfl Tryz.underlying9 (by kernel_rfl) (by kernel_rfl)
  obtain ⟨a0, s0, hv0, -, -, -⟩ := laid_sentinel h5 gES tES Tryz.underlying80 rowErr Tryz.underlying147 Tryz.underlying149 rfl rfl Tryz.underlying9 (by kernel_rfl) (by kernel_rfl)
  exact ⟨⟨_, _, hv0⟩, _, _, hv1⟩

/-- A world in which the list is met. -/
noncomputable def start (os : Os) : World := World.laidAll Tryz.prog os list
theorem start_os (os : Os) : (start os).os = os := World.laidAll_os _ _ _
theorem start_shaped (os : Os) : (start os).variablesZipB Tryz.prog = true := by kernel_rfl
theorem start_met (os : Os) (args : Array Value) : laidMetH Tryz.prog list ((start os).forCall (fun _ _ => 0) ⟨#[], args, []⟩).memory := by
  rw [MakeChecks.laidMetH_plain _ _ _ (by kernel_rfl)]
  exact laidMet_laidAll _ (by kernel_rfl) (by kernel_rfl)

end Go.Proofs.YtmnjmhlodbifjaaGreatDoor.Laid9
