/-
  No cell of these rows narrows 'for every input' (looked for: loops, veiled, ifaces, maps, wideKeys, modest, calm, conditions, laid).
  DERIVED. THE GIVEN ROWS OF THIS SEAT. 3 by the template 'for every input the law returns true; each argument reads behind the call as it read before'; 0 by the template 'total and deterministic' (their statements: YtjkabibcclegdaaTotals.lean).
  GIVEN WITH THE SEED: the statements are not yours to turn. If you find one false, say at which input.
  Laid BY PROGRAM, IN A SANDBOX (cutbox-rows.mjs): the forced cells as the released guide's own fill.sh prints them over the translation cd20bb305b563bbb… (all of the seat's roots in one cut). By AI agents, Wed Nov 11 2026. No macro, syntax, notation, axiom, sorry.
-/
import Derived.Test.YtjkabibcclegdaaChecked
import GoSem.Claim
import GoSem.ClaimJoined
import GoSem.ClaimMapViews
import Derived.JoinedTies
import Derived.KernelRfl
namespace Go.Proofs.Ytjkabibcclegdaa
/- THE CELL 'sum', in the pinned program and in every row, IS THE sha256 OF THE DUMP (.gsa) THAT YtjkabibcclegdaaProg.lean LOADS. Nothing in Lean hashes anything: it is a label: what it is worth is what the hold of that sum in a sandbox is worth. -/
noncomputable def Try.pinned : Pinned := { name := "ytjkabibcclegdaa", sum := "cd20bb305b563bbb7fccfd68862c0e2f81dc52e3ab735f4af8d0396d1a24d3cd", checked := Try.checked }
namespace Rows
def none {H : Type} : Left H := { results := [], args := [] }

/-- 'laws.FnDigestEncode': WHATEVER THE INPUT: true; the input reads as it did. -/
def fnDigestEncodeSpec : ChangeSpec := { name := "fnDigestEncode", fn := fun _ => fun
  | [d1, d2] => { results := [.lit (.bool true)], args := [d1, d2] }
  | _ => none }
def fnDigestEncodeRow : OpenClaim := { program := "ytjkabibcclegdaa", sum := "cd20bb305b563bbb7fccfd68862c0e2f81dc52e3ab735f4af8d0396d1a24d3cd", func := "pub-timebook/laws.FnDigestEncode", spec := "fnDigestEncode", apart := false }
def FnDigestEncodeSaid : Prop := fnDigestEncodeRow.holds Try.pinned (OpenSpec.ofChange fnDigestEncodeSpec)

/-- ITS FALSE NEIGHBOUR: 'it returns false'. Refute it at one input. -/
def fnDigestEncodeWrong : ChangeSpec := { name := "fnDigestEncode", fn := fun _ => fun
  | [d1, d2] => { results := [.lit (.bool false)], args := [d1, d2] }
  | _ => none }
def FnDigestEncodeWrongFalsely : Prop := fnDigestEncodeRow.holds Try.pinned (OpenSpec.ofChange fnDigestEncodeWrong)

/-- 'laws.FnCronBitsMet': WHATEVER THE INPUT: true; the input reads as it did. -/
def fnCronBitsMetSpec : ChangeSpec := { name := "fnCronBitsMet", fn := fun _ => fun
  | [d1, d2, d3, d4] => { results := [.lit (.bool true)], args := [d1, d2, d3, d4] }
  | _ => none }
def fnCronBitsMetRow : OpenClaim := { program := "ytjkabibcclegdaa", sum := "cd20bb305b563bbb7fccfd68862c0e2f81dc52e3ab735f4af8d0396d1a24d3cd", func := "pub-timebook/laws.FnCronBitsMet", spec := "fnCronBitsMet", apart := false }
def FnCronBitsMetSaid : Prop := fnCronBitsMetRow.holds Try.pinned (OpenSpec.ofChange fnCronBitsMetSpec)

/-- ITS FALSE NEIGHBOUR: 'it returns false'. Refute it at one input. -/
def fnCronBitsMetWrong : ChangeSpec := { name := "fnCronBitsMet", fn := fun _ => fun
  | [d1, d2, d3, d4] => { results := [.lit (.bool false)], args := [d1, d2, d3, d4] }
  | _ => none }
def FnCronBitsMetWrongFalsely : Prop := fnCronBitsMetRow.holds Try.pinned (OpenSpec.ofChange fnCronBitsMetWrong)

/-- 'laws.FnCronFill': WHATEVER THE INPUT: true; the input reads as it did. -/
def fnCronFillSpec : ChangeSpec := { name := "fnCronFill", fn := fun _ => fun
  | [d1, d2] => { results := [.lit (.bool true)], args := [d1, d2] }
  | _ => none }
def fnCronFillRow : OpenClaim := { program := "ytjkabibcclegdaa", sum := "cd20bb305b563bbb7fccfd68862c0e2f81dc52e3ab735f4af8d0396d1a24d3cd", func := "pub-timebook/laws.FnCronFill", spec := "fnCronFill", apart := false }
def FnCronFillSaid : Prop := fnCronFillRow.holds Try.pinned (OpenSpec.ofChange fnCronFillSpec)

/-- ITS FALSE NEIGHBOUR: 'it returns false'. Refute it at one input. -/
def fnCronFillWrong : ChangeSpec := { name := "fnCronFill", fn := fun _ => fun
  | [d1, d2] => { results := [.lit (.bool false)], args := [d1, d2] }
  | _ => none }
def FnCronFillWrongFalsely : Prop := fnCronFillRow.holds Try.pinned (OpenSpec.ofChange fnCronFillWrong)

/- THE SECOND FORM. 'bulk': how many values and letters a reading holds, each counted each time it is reached (what is shared counts as often as it is met; a slice's spare places count too). A statement '..UptoSaid' is the law's where the arguments, and the package variables that the reading takes, are together of bulk at most 1048576: NARROWER than '..Said'. Prove '..Said' where nothing that the law and all that it calls make is longer than what came in: it says more and counts as full. Else prove '..UptoSaid'. A law counts once. -/
mutual
def uptoBulk {H : Type} : DataW H → Nat
  | .lit (.string bytes) => bytes.length + 1
  | .lit _ => 1
  | .nil => 1
  | .ptr d => uptoBulk d + 1
  | .slice elems spare => uptoBulkAll elems + uptoBulkAll spare + 1
  | .agg parts => uptoBulkAll parts + 1
  | .iface _ d => uptoBulk d + 1
  | .map entries => uptoBulkEntries entries + 1
  | .held _ => 1
def uptoBulkAll {H : Type} : List (DataW H) → Nat
  | [] => 0
  | d :: r => uptoBulk d + uptoBulkAll r
def uptoBulkEntries {H : Type} : List (Lit × DataW H) → Nat
  | [] => 0
  | x :: r => uptoBulkEntry x + uptoBulkEntries r
def uptoBulkEntry {H : Type} : Lit × DataW H → Nat
  | (.string bytes, d) => bytes.length + uptoBulk d + 1
  | (_, d) => uptoBulk d + 1
 end
def uptoSmall : (H : Type) → List (DataW H) → Bool := fun _ ds => decide (uptoBulkAll ds ≤ 1048576)
def OpenSpec.upto (s : _root_.Go.ChangeSpec) : _root_.Go.OpenSpec := { _root_.Go.OpenSpec.ofChange s with cond := some uptoSmall }

/-- 'laws.FnDigestEncode', WHERE WHAT IT READS IS OF BULK AT MOST 1048576: true; the input reads as it did. -/
def fnDigestEncodeUptoRow : OpenClaim := { program := "ytjkabibcclegdaa", sum := "cd20bb305b563bbb7fccfd68862c0e2f81dc52e3ab735f4af8d0396d1a24d3cd", func := "pub-timebook/laws.FnDigestEncode", spec := "fnDigestEncode", apart := false, narrowed := true }
def FnDigestEncodeUptoSaid : Prop := fnDigestEncodeUptoRow.holds Try.pinned (OpenSpec.upto fnDigestEncodeSpec)

/-- 'laws.FnCronBitsMet', WHERE WHAT IT READS IS OF BULK AT MOST 1048576: true; the input reads as it did. -/
def fnCronBitsMetUptoRow : OpenClaim := { program := "ytjkabibcclegdaa", sum := "cd20bb305b563bbb7fccfd68862c0e2f81dc52e3ab735f4af8d0396d1a24d3cd", func := "pub-timebook/laws.FnCronBitsMet", spec := "fnCronBitsMet", apart := false, narrowed := true }
def FnCronBitsMetUptoSaid : Prop := fnCronBitsMetUptoRow.holds Try.pinned (OpenSpec.upto fnCronBitsMetSpec)

/-- 'laws.FnCronFill', WHERE WHAT IT READS IS OF BULK AT MOST 1048576: true; the input reads as it did. -/
def fnCronFillUptoRow : OpenClaim := { program := "ytjkabibcclegdaa", sum := "cd20bb305b563bbb7fccfd68862c0e2f81dc52e3ab735f4af8d0396d1a24d3cd", func := "pub-timebook/laws.FnCronFill", spec := "fnCronFill", apart := false, narrowed := true }
def FnCronFillUptoSaid : Prop := fnCronFillUptoRow.holds Try.pinned (OpenSpec.upto fnCronFillSpec)

end Rows
end Go.Proofs.Ytjkabibcclegdaa
