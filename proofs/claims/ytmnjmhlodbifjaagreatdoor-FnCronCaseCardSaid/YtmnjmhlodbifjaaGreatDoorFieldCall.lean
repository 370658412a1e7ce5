/- The function value in cron's Parse that reads one field. Conditions: bounds within 0 to 62, texts of at most 65536 bytes, strconv's sentinels hold something. -/
import Derived.Test.YtmnjmhlodbifjaaGreatDoorAid
import Derived.Test.YtmnjmhlodbifjaaGreatDoorField
namespace Go.Proofs.YtmnjmhlodbifjaaGreatDoor.FieldCall
open Go Go.RowKit Go.Proofs.YtmnjmhlodbifjaaGreatDoor.Mem Go.Proofs.YtmnjmhlodbifjaaGreatDoor.Aid Go.Proofs.YtmnjmhlodbifjaaGreatDoor.Err Go.Proofs.YtmnjmhlodbifjaaGreatDoor.NumPure Go.Proofs.YtmnjmhlodbifjaaGreatDoor.Range Go.Proofs.YtmnjmhlodbifjaaGreatDoor.FieldPure Go.Proofs.YtmnjmhlodbifjaaGreatDoor.Field
set_option linter.unusedVariables false

/-- An error or none. -/
def ErrVal (ev : Value) : Prop := ev = .nilIface ∨ ∃ T p, ev = .iface T p
/-- What is left behind a field's reading: the number, and the variable of the error at ge; all blocks but that are as they were. -/
def Read (r : Option Int) (ge : Nat) (w : World) (e : Ending) (w' : World) : Prop :=
  ∃ x ev, e = .returned (.int .u64 x) ∧ Blk w' ge #[ev] ∧ (∀ B, B ≤ w.heap.size → B ≤ ge → Below B w w') ∧ (∀ b, b < w.heap.size → b ≠ ge → w'.heap[b]? = w.heap[b]?) ∧
    match r with
    | some v => x = v ∧ ev = .nilIface
    | none => ∃ T p, ev = .iface T p

theorem call_bad (ge : Nat) (s : ByteArray) (bd : Array Value) (a b c : Value) (hbd : bd = #[a, b, c]) (T : TypeId) (p : Value) (w : World) (hE : Blk w ge #[.iface T p]) :
    Calls Tryz.prog 61 #[.string s, .agg bd, .pointer (some ⟨ge, 0, none⟩)] w fun e w' => Read none ge w e w' := by
  subst hbd
  have hl := hE.lt
  have c1 := hE.cell (j := 0) (v := .iface T p) rfl
  have hne : ¬ ge = w.heap.size := by omega
  have HR : Hid (Read none ge w (.returned (.int .u64 0)) (w.alloc (.cells #[a, b, c] 121))) := Lib.hid ⟨0, _, rfl, hE.alloc _, fun B hB _ => ((Below.refl B w).alloc hB _), fun k hk _ => Below.heap_alloc w _ k hk, T, p, rfl⟩
  clear hE
  go_enter Tryz.func61, Tryz.ntmps61
  go_wp2
  go_ret
  exact HR.out

theorem call_good (ge : Nat) (s : ByteArray) (lo hi : Nat) (m : Value) (val : List UInt8 → Option Nat) (w : World) (hE : Blk w ge #[.nilIface]) (hlo : lo ≤ hi) (hhi : hi ≤ 62) (hs : s.size ≤ 65536) (hv : ErrVars w) (hn : NamesAt w m val) :
    Calls Tryz.prog 61 #[.string s, .agg #[.int .u64 (lo : Int), .int .u64 (hi : Int), m], .pointer (some ⟨ge, 0, none⟩)] w fun e w' => Read (orOf lo hi val (full s.data.toList) 0) ge w e w' := by
  have hl := hE.lt
  have c1 := hE.cell (j := 0) (v := .nilIface) rfl
  have hne : ¬ ge = w.heap.size := by omega
  have hA : Below w.heap.size w (w.alloc (.cells #[.int .u64 (lo : Int), .int .u64 (hi : Int), m] 121)) := (Below.refl _ w).alloc (Nat.le_refl _) _
  have HF := Lib.hid (field_any s lo hi m val _ hlo hhi hs (hv.below hA) (hn.below hA))
  have HA := Lib.hid hA
  have HE := Lib.hid (hE.alloc (.cells #[.int .u64 (lo : Int), .int .u64 (hi : Int), m] 121))
  obtain ⟨r, hr⟩ : ∃ r, orOf lo hi val (full s.data.toList) 0 = r := ⟨_, rfl⟩
  rw [hr] at HF ⊢
  have HW := Lib.hid (fun b (hb : b < w.heap.size) => Below.heap_alloc w (.cells #[.int .u64 (lo : Int), .int .u64 (hi : Int), m] 121) b hb)
  clear hr hE hn hv hA
  cases r with
  | some v =>
    go_enter Tryz.func61, Tryz.ntmps61
    go_wp2_with (go_at_call 62; refine HF.out.mono ?_; rintro e w1 ⟨he, hb1⟩; obtain rfl := he; have g1 := HE.out.after hb1; have c2 := g1.cell (j := 0) (v := .nilIface) rfl; have c3 := g1.free 0)
    go_ret
    exact ⟨v, .nilIface, rfl, g1.set 0 _, fun B hB hB2 => (((Below.refl B w).alloc hB _).trans (hb1.mono (by simp; omega))).setCell hB2 _, fun b hl hb => (heap_setCell_other _ _ b _ hb).trans ((hb1.block b (by simp; omega)).trans (HW.out b hl)), rfl, rfl⟩
  | none =>
    go_enter Tryz.func61, Tryz.ntmps61
    go_wp2_with (go_at_call 62; refine HF.out.mono ?_; rintro e w1 ⟨he, hb1⟩; obtain ⟨x, T, p, rfl⟩ := he; have g1 := HE.out.after hb1; have c2 := g1.cell (j := 0) (v := .nilIface) rfl; have c3 := g1.free 0)
    go_ret
    exact ⟨x, .iface T p, rfl, g1.set 0 _, fun B hB hB2 => (((Below.refl B w).alloc hB _).trans (hb1.mono (by simp; omega))).setCell hB2 _, fun b hl hb => (heap_setCell_other _ _ b _ hb).trans ((hb1.block b (by simp; omega)).trans (HW.out b hl)), T, p, rfl⟩

end Go.Proofs.YtmnjmhlodbifjaaGreatDoor.FieldCall
