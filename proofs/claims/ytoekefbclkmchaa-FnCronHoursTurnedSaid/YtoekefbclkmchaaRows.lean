/-
  No cell of these rows narrows 'for every input' (looked for: loops, veiled, ifaces, maps, wideKeys, modest, calm, conditions, laid).
  DERIVED. THE GIVEN ROWS OF THIS SEAT. 7 by the template 'for every input the law returns true; each argument reads behind the call as it read before'; 0 by the template 'total and deterministic' (their statements: YtoekefbclkmchaaTotals.lean).
  GIVEN WITH THE SEED: the statements are not yours to turn. If you find one false, say at which input.
  Laid BY PROGRAM, IN A SANDBOX (cutbox-rows.mjs): the forced cells as the released guide's own fill.sh prints them over the translation 02345fe809d11ae4… (all of the seat's roots in one cut). By AI agents, Wed Nov 11 2026. No macro, syntax, notation, axiom, sorry.
-/
import Derived.Test.YtoekefbclkmchaaChecked
import GoSem.Claim
import GoSem.ClaimJoined
import GoSem.ClaimMapViews
import Derived.JoinedTies
import Derived.KernelRfl
namespace Go.Proofs.Ytoekefbclkmchaa
/- THE CELL 'sum', in the pinned program and in every row, IS THE sha256 OF THE DUMP (.gsa) THAT YtoekefbclkmchaaProg.lean LOADS. Nothing in Lean hashes anything: it is a label: what it is worth is what the hold of that sum in a sandbox is worth. -/
noncomputable def Try.pinned : Pinned := { name := "ytoekefbclkmchaa", sum := "02345fe809d11ae440a26f0ab9ac6d866a7529c1cc5797b946299afd4af2b4d2", checked := Try.checked }
namespace Rows
def none {H : Type} : Left H := { results := [], args := [] }

/-- 'laws.FnCronDayMatches': WHATEVER THE INPUT: true; the input reads as it did. -/
def fnCronDayMatchesSpec : ChangeSpec := { name := "fnCronDayMatches", fn := fun _ => fun
  | [d1, d2, d3, d4] => { results := [.lit (.bool true)], args := [d1, d2, d3, d4] }
  | _ => none }
def fnCronDayMatchesRow : OpenClaim := { program := "ytoekefbclkmchaa", sum := "02345fe809d11ae440a26f0ab9ac6d866a7529c1cc5797b946299afd4af2b4d2", func := "pub-timebook/laws.FnCronDayMatches", spec := "fnCronDayMatches", apart := false }
def FnCronDayMatchesSaid : Prop := fnCronDayMatchesRow.holds Try.pinned (OpenSpec.ofChange fnCronDayMatchesSpec)

/-- ITS FALSE NEIGHBOUR: 'it returns false'. Refute it at one input. -/
def fnCronDayMatchesWrong : ChangeSpec := { name := "fnCronDayMatches", fn := fun _ => fun
  | [d1, d2, d3, d4] => { results := [.lit (.bool false)], args := [d1, d2, d3, d4] }
  | _ => none }
def FnCronDayMatchesWrongFalsely : Prop := fnCronDayMatchesRow.holds Try.pinned (OpenSpec.ofChange fnCronDayMatchesWrong)

/-- 'laws.FnCronDaysOfMonth': WHATEVER THE INPUT: true; the input reads as it did. -/
def fnCronDaysOfMonthSpec : ChangeSpec := { name := "fnCronDaysOfMonth", fn := fun _ => fun
  | [d1, d2, d3, d4] => { results := [.lit (.bool true)], args := [d1, d2, d3, d4] }
  | _ => none }
def fnCronDaysOfMonthRow : OpenClaim := { program := "ytoekefbclkmchaa", sum := "02345fe809d11ae440a26f0ab9ac6d866a7529c1cc5797b946299afd4af2b4d2", func := "pub-timebook/laws.FnCronDaysOfMonth", spec := "fnCronDaysOfMonth", apart := false }
def FnCronDaysOfMonthSaid : Prop := fnCronDaysOfMonthRow.holds Try.pinned (OpenSpec.ofChange fnCronDaysOfMonthSpec)

/-- ITS FALSE NEIGHBOUR: 'it returns false'. Refute it at one input. -/
def fnCronDaysOfMonthWrong : ChangeSpec := { name := "fnCronDaysOfMonth", fn := fun _ => fun
  | [d1, d2, d3, d4] => { results := [.lit (.bool false)], args := [d1, d2, d3, d4] }
  | _ => none }
def FnCronDaysOfMonthWrongFalsely : Prop := fnCronDaysOfMonthRow.holds Try.pinned (OpenSpec.ofChange fnCronDaysOfMonthWrong)

/-- 'laws.FnCronNextNano': WHATEVER THE INPUT: true; the input reads as it did. -/
def fnCronNextNanoSpec : ChangeSpec := { name := "fnCronNextNano", fn := fun _ => fun
  | [d1, d2] => { results := [.lit (.bool true)], args := [d1, d2] }
  | _ => none }
def fnCronNextNanoRow : OpenClaim := { program := "ytoekefbclkmchaa", sum := "02345fe809d11ae440a26f0ab9ac6d866a7529c1cc5797b946299afd4af2b4d2", func := "pub-timebook/laws.FnCronNextNano", spec := "fnCronNextNano", unfollowed := true, recurses := true, apart := false }
def FnCronNextNanoSaid : Prop := fnCronNextNanoRow.holds Try.pinned (OpenSpec.ofChange fnCronNextNanoSpec)

/-- ITS FALSE NEIGHBOUR: 'it returns false'. Refute it at one input. -/
def fnCronNextNanoWrong : ChangeSpec := { name := "fnCronNextNano", fn := fun _ => fun
  | [d1, d2] => { results := [.lit (.bool false)], args := [d1, d2] }
  | _ => none }
def FnCronNextNanoWrongFalsely : Prop := fnCronNextNanoRow.holds Try.pinned (OpenSpec.ofChange fnCronNextNanoWrong)

/-- 'laws.FnCronNextQuiet': WHATEVER THE INPUT: true; the input reads as it did. -/
def fnCronNextQuietSpec : ChangeSpec := { name := "fnCronNextQuiet", fn := fun _ => fun
  | [d1, d2, d3] => { results := [.lit (.bool true)], args := [d1, d2, d3] }
  | _ => none }
def fnCronNextQuietRow : OpenClaim := { program := "ytoekefbclkmchaa", sum := "02345fe809d11ae440a26f0ab9ac6d866a7529c1cc5797b946299afd4af2b4d2", func := "pub-timebook/laws.FnCronNextQuiet", spec := "fnCronNextQuiet", unfollowed := true, recurses := true, apart := false }
def FnCronNextQuietSaid : Prop := fnCronNextQuietRow.holds Try.pinned (OpenSpec.ofChange fnCronNextQuietSpec)

/-- ITS FALSE NEIGHBOUR: 'it returns false'. Refute it at one input. -/
def fnCronNextQuietWrong : ChangeSpec := { name := "fnCronNextQuiet", fn := fun _ => fun
  | [d1, d2, d3] => { results := [.lit (.bool false)], args := [d1, d2, d3] }
  | _ => none }
def FnCronNextQuietWrongFalsely : Prop := fnCronNextQuietRow.holds Try.pinned (OpenSpec.ofChange fnCronNextQuietWrong)

/-- 'laws.FnCronNextZone': WHATEVER THE INPUT: true; the input reads as it did. -/
def fnCronNextZoneSpec : ChangeSpec := { name := "fnCronNextZone", fn := fun _ => fun
  | [d1, d2, d3] => { results := [.lit (.bool true)], args := [d1, d2, d3] }
  | _ => none }
def fnCronNextZoneRow : OpenClaim := { program := "ytoekefbclkmchaa", sum := "02345fe809d11ae440a26f0ab9ac6d866a7529c1cc5797b946299afd4af2b4d2", func := "pub-timebook/laws.FnCronNextZone", spec := "fnCronNextZone", unfollowed := true, recurses := true, apart := false }
def FnCronNextZoneSaid : Prop := fnCronNextZoneRow.holds Try.pinned (OpenSpec.ofChange fnCronNextZoneSpec)

/-- ITS FALSE NEIGHBOUR: 'it returns false'. Refute it at one input. -/
def fnCronNextZoneWrong : ChangeSpec := { name := "fnCronNextZone", fn := fun _ => fun
  | [d1, d2, d3] => { results := [.lit (.bool false)], args := [d1, d2, d3] }
  | _ => none }
def FnCronNextZoneWrongFalsely : Prop := fnCronNextZoneRow.holds Try.pinned (OpenSpec.ofChange fnCronNextZoneWrong)

/-- 'laws.FnCronHoursTurned': WHATEVER THE INPUT: true; the input reads as it did. -/
def fnCronHoursTurnedSpec : ChangeSpec := { name := "fnCronHoursTurned", fn := fun _ => fun
  | [d1, d2, d3] => { results := [.lit (.bool true)], args := [d1, d2, d3] }
  | _ => none }
def fnCronHoursTurnedRow : OpenClaim := { program := "ytoekefbclkmchaa", sum := "02345fe809d11ae440a26f0ab9ac6d866a7529c1cc5797b946299afd4af2b4d2", func := "pub-timebook/laws.FnCronHoursTurned", spec := "fnCronHoursTurned", unfollowed := true, recurses := true, apart := false }
def FnCronHoursTurnedSaid : Prop := fnCronHoursTurnedRow.holds Try.pinned (OpenSpec.ofChange fnCronHoursTurnedSpec)

/-- ITS FALSE NEIGHBOUR: 'it returns false'. Refute it at one input. -/
def fnCronHoursTurnedWrong : ChangeSpec := { name := "fnCronHoursTurned", fn := fun _ => fun
  | [d1, d2, d3] => { results := [.lit (.bool false)], args := [d1, d2, d3] }
  | _ => none }
def FnCronHoursTurnedWrongFalsely : Prop := fnCronHoursTurnedRow.holds Try.pinned (OpenSpec.ofChange fnCronHoursTurnedWrong)

/-- 'laws.FnEntriesByTimeTurned': WHATEVER THE INPUT: true; the input reads as it did. -/
def fnEntriesByTimeTurnedSpec : ChangeSpec := { name := "fnEntriesByTimeTurned", fn := fun _ => fun
  | [d1, d2, d3] => { results := [.lit (.bool true)], args := [d1, d2, d3] }
  | _ => none }
def fnEntriesByTimeTurnedRow : OpenClaim := { program := "ytoekefbclkmchaa", sum := "02345fe809d11ae440a26f0ab9ac6d866a7529c1cc5797b946299afd4af2b4d2", func := "pub-timebook/laws.FnEntriesByTimeTurned", spec := "fnEntriesByTimeTurned", unfollowed := true, recurses := true, apart := false }
def FnEntriesByTimeTurnedSaid : Prop := fnEntriesByTimeTurnedRow.holds Try.pinned (OpenSpec.ofChange fnEntriesByTimeTurnedSpec)

/-- ITS FALSE NEIGHBOUR: 'it returns false'. Refute it at one input. -/
def fnEntriesByTimeTurnedWrong : ChangeSpec := { name := "fnEntriesByTimeTurned", fn := fun _ => fun
  | [d1, d2, d3] => { results := [.lit (.bool false)], args := [d1, d2, d3] }
  | _ => none }
def FnEntriesByTimeTurnedWrongFalsely : Prop := fnEntriesByTimeTurnedRow.holds Try.pinned (OpenSpec.ofChange fnEntriesByTimeTurnedWrong)

/- THE SECOND FORM. 'bulk': how many values and letters a reading holds, each counted each time it is reached (what is shared counts as often as it is met; a slice's spare places count too). A statement '..UptoSaid' is the law's where the arguments, and the package variables that the reading takes, are together of bulk at most 1048576: NARROWER than '..Said'. Prove '..Said' where nothing that the law and all that it calls make is longer than what came in: it says more and counts as full. Else prove '..UptoSaid'. A law counts once. -/
mutual
def uptoBulk {H : Type} : DataW H → Nat
  | .lit (.string bytes) => bytes.length + 1
  | .lit _ => 1
  | .nil => 1
  | .ptr d => uptoBulk d + 1
  | .slice elems spare => uptoBulkAll elems + uptoBulkAll spare + 1
  | .agg parts => uptoBulkAll parts + 1
  | .iface _ d => uptoBulk d + 1
  | .map entries => uptoBulkEntries entries + 1
  | .held _ => 1
def uptoBulkAll {H : Type} : List (DataW H) → Nat
  | [] => 0
  | d :: r => uptoBulk d + uptoBulkAll r
def uptoBulkEntries {H : Type} : List (Lit × DataW H) → Nat
  | [] => 0
  | x :: r => uptoBulkEntry x + uptoBulkEntries r
def uptoBulkEntry {H : Type} : Lit × DataW H → Nat
  | (.string bytes, d) => bytes.length + uptoBulk d + 1
  | (_, d) => uptoBulk d + 1
 end
def uptoSmall : (H : Type) → List (DataW H) → Bool := fun _ ds => decide (uptoBulkAll ds ≤ 1048576)
def OpenSpec.upto (s : _root_.Go.ChangeSpec) : _root_.Go.OpenSpec := { _root_.Go.OpenSpec.ofChange s with cond := some uptoSmall }

/-- 'laws.FnCronDayMatches', WHERE WHAT IT READS IS OF BULK AT MOST 1048576: true; the input reads as it did. -/
def fnCronDayMatchesUptoRow : OpenClaim := { program := "ytoekefbclkmchaa", sum := "02345fe809d11ae440a26f0ab9ac6d866a7529c1cc5797b946299afd4af2b4d2", func := "pub-timebook/laws.FnCronDayMatches", spec := "fnCronDayMatches", apart := false, narrowed := true }
def FnCronDayMatchesUptoSaid : Prop := fnCronDayMatchesUptoRow.holds Try.pinned (OpenSpec.upto fnCronDayMatchesSpec)

/-- 'laws.FnCronDaysOfMonth', WHERE WHAT IT READS IS OF BULK AT MOST 1048576: true; the input reads as it did. -/
def fnCronDaysOfMonthUptoRow : OpenClaim := { program := "ytoekefbclkmchaa", sum := "02345fe809d11ae440a26f0ab9ac6d866a7529c1cc5797b946299afd4af2b4d2", func := "pub-timebook/laws.FnCronDaysOfMonth", spec := "fnCronDaysOfMonth", apart := false, narrowed := true }
def FnCronDaysOfMonthUptoSaid : Prop := fnCronDaysOfMonthUptoRow.holds Try.pinned (OpenSpec.upto fnCronDaysOfMonthSpec)

/-- 'laws.FnCronNextNano', WHERE WHAT IT READS IS OF BULK AT MOST 1048576: true; the input reads as it did. -/
def fnCronNextNanoUptoRow : OpenClaim := { program := "ytoekefbclkmchaa", sum := "02345fe809d11ae440a26f0ab9ac6d866a7529c1cc5797b946299afd4af2b4d2", func := "pub-timebook/laws.FnCronNextNano", spec := "fnCronNextNano", unfollowed := true, recurses := true, apart := false, narrowed := true }
def FnCronNextNanoUptoSaid : Prop := fnCronNextNanoUptoRow.holds Try.pinned (OpenSpec.upto fnCronNextNanoSpec)

/-- 'laws.FnCronNextQuiet', WHERE WHAT IT READS IS OF BULK AT MOST 1048576: true; the input reads as it did. -/
def fnCronNextQuietUptoRow : OpenClaim := { program := "ytoekefbclkmchaa", sum := "02345fe809d11ae440a26f0ab9ac6d866a7529c1cc5797b946299afd4af2b4d2", func := "pub-timebook/laws.FnCronNextQuiet", spec := "fnCronNextQuiet", unfollowed := true, recurses := true, apart := false, narrowed := true }
def FnCronNextQuietUptoSaid : Prop := fnCronNextQuietUptoRow.holds Try.pinned (OpenSpec.upto fnCronNextQuietSpec)

/-- 'laws.FnCronNextZone', WHERE WHAT IT READS IS OF BULK AT MOST 1048576: true; the input reads as it did. -/
def fnCronNextZoneUptoRow : OpenClaim := { program := "ytoekefbclkmchaa", sum := "02345fe809d11ae440a26f0ab9ac6d866a7529c1cc5797b946299afd4af2b4d2", func := "pub-timebook/laws.FnCronNextZone", spec := "fnCronNextZone", unfollowed := true, recurses := true, apart := false, narrowed := true }
def FnCronNextZoneUptoSaid : Prop := fnCronNextZoneUptoRow.holds Try.pinned (OpenSpec.upto fnCronNextZoneSpec)

/-- 'laws.FnCronHoursTurned', WHERE WHAT IT READS IS OF BULK AT MOST 1048576: true; the input reads as it did. -/
def fnCronHoursTurnedUptoRow : OpenClaim := { program := "ytoekefbclkmchaa", sum := "02345fe809d11ae440a26f0ab9ac6d866a7529c1cc5797b946299afd4af2b4d2", func := "pub-timebook/laws.FnCronHoursTurned", spec := "fnCronHoursTurned", unfollowed := true, recurses := true, apart := false, narrowed := true }
def FnCronHoursTurnedUptoSaid : Prop := fnCronHoursTurnedUptoRow.holds Try.pinned (OpenSpec.upto fnCronHoursTurnedSpec)

/-- 'laws.FnEntriesByTimeTurned', WHERE WHAT IT READS IS OF BULK AT MOST 1048576: true; the input reads as it did. -/
def fnEntriesByTimeTurnedUptoRow : OpenClaim := { program := "ytoekefbclkmchaa", sum := "02345fe809d11ae440a26f0ab9ac6d866a7529c1cc5797b946299afd4af2b4d2", func := "pub-timebook/laws.FnEntriesByTimeTurned", spec := "fnEntriesByTimeTurned", unfollowed := true, recurses := true, apart := false, narrowed := true }
def FnEntriesByTimeTurnedUptoSaid : Prop := fnEntriesByTimeTurnedUptoRow.holds Try.pinned (OpenSpec.upto fnEntriesByTimeTurnedSpec)

end Rows
end Go.Proofs.Ytoekefbclkmchaa
