/- The arguments of kinds impl.Instant and impl.Zone, opened. -/
import Derived.Test.YtoekefbclkmchaaZone
import Derived.Lib.SmallJoins
import Derived.Deep.Grids
import Derived.ChangeSlices
import Derived.WalkKit
import Derived.ProofKit
import Derived.OpenShut
namespace Go.Proofs.Ytoekefbclkmchaa.Open
open Go Go.Joins Go.ChangeShapes Go.WideShapes Go.RowKit Go.Deep Go.Proofs.Ytoekefbclkmchaa.Zone
set_option linter.unusedVariables false
variable {H : Type} {enc : TypeId × Value → H} {w : World} {base : Nat} {held : Bool}

theorem u64_of {n : Int} (h : (Lit.int .u64 n).wf = true) : 0 ≤ n ∧ n ≤ 18446744073709551615 := by
  have h1 : IntKind.u64.min = 0 := rfl
  have h2 : IntKind.u64.max = 18446744073709551615 := rfl
  simp [Lit.wf, h1, h2] at h
  omega
theorem i64_of {n : Int} (h : (Lit.int .i64 n).wf = true) : -9223372036854775808 ≤ n ∧ n ≤ 9223372036854775807 := by
  have h1 : IntKind.i64.min = -9223372036854775808 := rfl
  have h2 : IntKind.i64.max = 9223372036854775807 := rfl
  simp [Lit.wf, h1, h2] at h
  omega

set_option maxRecDepth 100000 in
theorem open_instant {r : Reach} {b0 : Nat} {v : Value} {d : DataW H} {p : List MemPlace} (hv : Value.okWide Try.prog w r b0 24 v)
    (h : DataW.Trod enc Try.prog w base (fun _ => true) held 24 v d p) :
    ∃ s n : Int, v = .agg #[.int .i64 s, .int .i64 n] ∧ (-9223372036854775808 ≤ s ∧ s ≤ 9223372036854775807) ∧ (-9223372036854775808 ≤ n ∧ n ≤ 9223372036854775807) := by
  obtain ⟨v0, v1, y0, y1, n, rfl, -, -, h0, h1⟩ := open_agg2 Try.underlying24 (by kernel_rfl) (by kernel_rfl) hv h
  obtain ⟨s, hs, -, ws⟩ := DataW.trod_int (k := .i64) (by kernel_rfl) h0
  obtain ⟨m, hm, -, wm⟩ := DataW.trod_int (k := .i64) (by kernel_rfl) h1
  cases hs; cases hm
  exact ⟨s, m, rfl, i64_of ws, i64_of wm⟩

theorem row_ints {t e : TypeId} {fuel : Nat} {v : Value} {x : DataW H × List MemPlace} (ht : Try.prog.underlying t = some (.slice e)) (he : Try.prog.underlying e = some (.int .i64)) (hc : Try.prog.cellsOf e = 1)
    (h : DataW.trod enc Try.prog w base (fun _ => true) held fuel t [v] = some x) :
    ∃ (a : Option Addr) (n c : Nat) (f : Nat → Int), v = .slice a n c ∧ Row w a n (fun k => .int .i64 (f k)) ∧ ∀ k, k < n → -9223372036854775808 ≤ f k ∧ f k ≤ 9223372036854775807 := by
  rcases open_ints ht he hc h with ⟨hcs, -⟩ | ⟨a, len, cap, zs, hcs, -, hl, -, hz, -, hcell, hwf⟩
  · cases hcs
    exact ⟨none, 0, 0, fun _ => 0, rfl, fun k hk => by omega, fun k hk => by omega⟩
  · cases hcs
    simp only [if_true] at hz
    refine ⟨some a, len, cap, fun k => zs.getD k 0, rfl, fun k hk => ⟨a, rfl, hcell k (by omega)⟩, fun k hk => ?_⟩
    have hk' : k < zs.length := by omega
    have := hwf (zs.getD k 0) (by simp [List.getElem?_eq_getElem hk'])
    exact i64_of this

theorem row_bools {t e : TypeId} {fuel : Nat} {v : Value} {x : DataW H × List MemPlace} (ht : Try.prog.underlying t = some (.slice e)) (he : Try.prog.underlying e = some .bool) (hc : Try.prog.cellsOf e = 1)
    (h : DataW.trod enc Try.prog w base (fun _ => true) held fuel t [v] = some x) :
    ∃ (a : Option Addr) (n c : Nat) (f : Nat → Bool), v = .slice a n c ∧ Row w a n (fun k => .bool (f k)) := by
  rcases open_bools ht he hc h with ⟨hcs, -⟩ | ⟨a, len, cap, B, hcs, -, hl, -, -, hcell⟩
  · cases hcs
    exact ⟨none, 0, 0, fun _ => false, rfl, fun k hk => by omega⟩
  · cases hcs
    exact ⟨some a, len, cap, B, rfl, fun k hk => ⟨a, rfl, hcell k (by omega)⟩⟩

set_option maxRecDepth 100000 in
theorem open_zone {r : Reach} {b0 : Nat} {v : Value} {d : DataW H} {p : List MemPlace} (hv : Value.okWide Try.prog w r b0 29 v)
    (h : DataW.Trod enc Try.prog w base (fun _ => true) held 29 v d p) :
    ∃ (z : Raw) (co cd cw ci : Nat), v = .agg #[.slice z.ao z.no co, .slice z.ad z.nd cd, .slice z.aw z.nw cw, .slice z.ai z.ni ci] ∧
      (z.no ≤ 2147483647 ∧ z.nd ≤ 2147483647 ∧ z.nw ≤ 2147483647 ∧ z.ni ≤ 2147483647 → z.At w) := by
  obtain ⟨v0, v1, v2, v3, y0, y1, y2, y3, n, rfl, -, -, h0, h1, h2, h3⟩ := open_agg4 Try.underlying29 (by kernel_rfl) (by kernel_rfl) hv h
  obtain ⟨ao, no, co, fo, rfl, ro, bo⟩ := row_ints (e := 3) (by kernel_rfl) (by kernel_rfl) (by kernel_rfl) h0
  obtain ⟨ad, nd, cd, fd, rfl, rd⟩ := row_bools (e := 4) (by kernel_rfl) (by kernel_rfl) (by kernel_rfl) h1
  obtain ⟨aw, nw, cw, fw, rfl, rw', bw⟩ := row_ints (e := 2) (by kernel_rfl) (by kernel_rfl) (by kernel_rfl) h2
  obtain ⟨ai, ni, ci, fi, rfl, ri, bi⟩ := row_ints (e := 3) (by kernel_rfl) (by kernel_rfl) (by kernel_rfl) h3
  exact ⟨⟨ao, ad, aw, ai, no, nd, nw, ni, fo, fd, fw, fi⟩, co, cd, cw, ci, rfl, fun h => ⟨ro, rd, rw', ri, h.1, h.2.1, h.2.2.1, h.2.2.2, bo, bw, bi⟩⟩

end Go.Proofs.Ytoekefbclkmchaa.Open
