/- What the rows' lists of package variables give: strconv's two sentinels. Conditions: the list is met. · What the rows' lists of package variables give: all sentinels and utf8's tables. Conditions: the list is met. -/
import Derived.Test.YtmnjmhlodbifjaaGreatDoorRows
import Derived.Test.YtmnjmhlodbifjaaGreatDoorAtoi
import Derived.Stop.LaidErr
import Derived.MakeChecks
import Derived.LaidLaws
import Derived.LaidMore
import Derived.Lay
import Derived.Test.YtmnjmhlodbifjaaGreatDoorLead
import Derived.Test.YtmnjmhlodbifjaaGreatDoorZoneName
import Derived.Test.YtmnjmhlodbifjaaGreatDoorTrimSpec
import Derived.Lib.LaidU8T
import Derived.PinnedBridge

namespace Go.Proofs.YtmnjmhlodbifjaaGreatDoor.Laid9
open Go.RowKit Go.Proofs.YtmnjmhlodbifjaaGreatDoor.Err

/-- The list of the rows. -/
def list : List (String × DataW Unit) := [("math/bits.deBruijn32tab", Rows.laid_math_bits_deBruijn32tab), ("math/bits.deBruijn64tab", Rows.laid_math_bits_deBruijn64tab), ("internal/strconv.uint64pow10", Rows.laid_internal_strconv_uint64pow10), ("unicode/utf8.acceptRanges", Rows.laid_unicode_utf8_acceptRanges), ("pub-timebook/pub/gotime.errLeadingInt", Rows.laid_pub_timebook_pub_gotime_errLeadingInt), ("pub-timebook/pub/gotime.errLocation", Rows.laid_pub_timebook_pub_gotime_errLocation), ("strconv.ErrRange", Rows.laid_strconv_ErrRange), ("strconv.ErrSyntax", Rows.laid_strconv_ErrSyntax), ("unicode/utf8.first", Rows.laid_unicode_utf8_first)]

theorem gES : Tryz.prog.globalNamed "strconv.ErrSyntax" = some 7 := by kernel_rfl
theorem gER : Tryz.prog.globalNamed "strconv.ErrRange" = some 8 := by kernel_rfl
theorem tES : (Tryz.prog.globals[7]?).map (·.type) = some 80 := by kernel_rfl
theorem tER : (Tryz.prog.globals[8]?).map (·.type) = some 80 := by kernel_rfl

/-- The one type of that name. -/
theorem rowErr (u : TypeId) (h : Tryz.prog.typeName? 3 u = some "*errors.errorString") : u = 147 := by
  have h2 : ("*errors.errorString" : String) = "*" ++ "errors.errorString" := by decide
  exact typeName_ptr_named (nm := "errors.errorString") (by rw [← h2]; kernel_rfl) (by kernel_rfl) (by decide) u (by rw [← h2]; exact h)

theorem of_laid {W : World} (h : laidMetH Tryz.prog list W) : ErrVars W := by
  rw [MakeChecks.laidMetH_plain _ _ _ (by kernel_rfl)] at h
  have h4 := h.tail.tail.tail.tail.tail.tail
  have h5 := h4.tail
  obtain ⟨a1, s1, hv1, -, -, -⟩ := laid_sentinel h4 gER tER Tryz.underlying80 rowErr Tryz.underlying147 Tryz.underlying149 rfl rfl Tryz.underlying9 (by kernel_rfl) (by kernel_rfl)
  obtain ⟨a0, s0, hv0, -, -, -⟩ := laid_sentinel h5 gES tES Tryz.underlying80 rowErr Tryz.underlying147 Tryz.underlying149 rfl rfl Tryz.underlying9 (by kernel_rfl) (by kernel_rfl)
  exact ⟨⟨_, _, hv0⟩, _, _, hv1⟩

/-- A world in which the list is met. -/
noncomputable def start (os : Os) : World := World.laidAll Tryz.prog os list
theorem start_os (os : Os) : (start os).os = os := World.laidAll_os _ _ _
theorem start_shaped (os : Os) : (start os).variablesZipB Tryz.prog = true := by kernel_rfl
theorem start_met (os : Os) (args : Array Value) : laidMetH Tryz.prog list ((start os).forCall (fun _ _ => 0) ⟨#[], args, []⟩).memory := by
  rw [MakeChecks.laidMetH_plain _ _ _ (by kernel_rfl)]
  exact laidMet_laidAll _ (by kernel_rfl) (by kernel_rfl)

end Go.Proofs.YtmnjmhlodbifjaaGreatDoor.Laid9

namespace Go.Proofs.YtmnjmhlodbifjaaGreatDoor.LaidZ
open Go Go.RowKit Go.Lib Go.Proofs Go.Proofs.YtmnjmhlodbifjaaGreatDoor.Err Go.Proofs.YtmnjmhlodbifjaaGreatDoor.Lead Go.Proofs.YtmnjmhlodbifjaaGreatDoor.ZoneName Go.Proofs.YtmnjmhlodbifjaaGreatDoor.Laid9

/-- All that the walks ask of the package variables. -/
def Sents (w : World) : Prop := ErrVars w ∧ LeadErr w ∧ LocErr w ∧ Lib.Utf8Tabs 2 3 w
theorem Sents.below {w w' : World} (h : Sents w) (hb : Below w.heap.size w w') : Sents w' := ⟨h.1.below hb, h.2.1.below hb, h.2.2.1.below hb, Go.Proofs.Utf8Tabs_below h.2.2.2 hb⟩
theorem gEL : Tryz.prog.globalNamed "pub-timebook/pub/gotime.errLeadingInt" = some 4 := by kernel_rfl
theorem gEO : Tryz.prog.globalNamed "pub-timebook/pub/gotime.errLocation" = some 0 := by kernel_rfl
theorem tEL : (Tryz.prog.globals[4]?).map (·.type) = some 80 := by kernel_rfl
theorem tEO : (Tryz.prog.globals[0]?).map (·.type) = some 80 := by kernel_rfl
theorem accept_eq : Rows.laid_unicode_utf8_acceptRanges = acceptData := by kernel_rfl
theorem first_eq : Rows.laid_unicode_utf8_first = firstData := Go.Pinned.utf8First_eq

theorem of_laidZ {W : World} (h : laidMetH Tryz.prog list W) : Sents W := by
  have he := of_laid h
  rw [MakeChecks.laidMetH_plain _ _ _ (by kernel_rfl)] at h
  have h1 := h.tail.tail.tail.tail
  obtain ⟨a1, s1, hv1, -, -, -⟩ := laid_sentinel h1 gEL tEL Tryz.underlying80 rowErr Tryz.underlying147 Tryz.underlying149 rfl rfl Tryz.underlying9 (by kernel_rfl) (by kernel_rfl)
  have h2 := h1.tail
  obtain ⟨a2, s2, hv2, -, -, -⟩ := laid_sentinel h2 gEO tEO Tryz.underlying80 rowErr Tryz.underlying147 Tryz.underlying149 rfl rfl Tryz.underlying9 (by kernel_rfl) (by kernel_rfl)
  have r3 : VarReads Tryz.prog W "unicode/utf8.first" firstData := by
    rw [← first_eq]
    exact Lib.laidMet.reads h (.tail _ (.tail _ (.tail _ (.tail _ (.tail _ (.tail _ (.tail _ (.tail _ (.head _)))))))))
  have r4 : VarReads Tryz.prog W "unicode/utf8.acceptRanges" acceptData := by
    rw [← accept_eq]
    exact Lib.laidMet.reads h (.tail _ (.tail _ (.tail _ (.head _))))
  have hT := utf8Tabs_of_readsT (ρ := Tryz.lays197_ren) { Tryz.lays197 with } ⟨by kernel_rfl, by kernel_rfl, by kernel_rfl, by kernel_rfl, by kernel_rfl, by kernel_rfl, by kernel_rfl⟩ r3 r4
  exact ⟨he, ⟨_, _, World.var?_cell gEL hv1 0⟩, ⟨_, _, World.var?_cell gEO hv2 0⟩, hT⟩

end Go.Proofs.YtmnjmhlodbifjaaGreatDoor.LaidZ
