/- Two sortings of one row of times, the second row turned: the same times in the same order. Conditions: none. -/
import Derived.Sort.AssemblyPlain
namespace Go.Proofs.Ytjgamgmghelhgaa.ByPure
open Go.Sort
set_option linter.unusedVariables false

/-- A time that an entry is sorted by: the zero time (true), or seconds and nanoseconds. -/
structure Key where
  z : Bool
  s : Int
  n : Int
def ltK (a b : Key) : Bool := !a.z && (b.z || decide (a.s < b.s) || (decide (a.s = b.s) && decide (a.n < b.n)))
def ltOf (key : Nat → Key) (x y : Nat) : Bool := ltK (key x) (key y)
theorem swo_key (key : Nat → Key) : SWO (ltOf key) where
  irrefl x := by unfold ltOf ltK; cases (key x).z <;> simp
  trans x y z := by
    unfold ltOf ltK
    cases (key x).z <;> cases (key y).z <;> cases (key z).z <;> simp
    intro h1 h2
    omega
  ntrans x y z := by
    unfold ltOf ltK
    cases (key x).z <;> cases (key y).z <;> cases (key z).z <;> simp
    intro h1 h2 h3 h4
    omega
/-- What is left of a key: nothing behind the zero time. -/
def canon (a : Key) : Key := if a.z then ⟨true, 0, 0⟩ else a
theorem canon_eq {a b : Key} (h : canon a = canon b) : a.z = b.z ∧ (a.z = false → a.s = b.s ∧ a.n = b.n) := by
  obtain ⟨z, s, n⟩ := a
  obtain ⟨z', s', n'⟩ := b
  unfold canon at h
  cases z <;> cases z' <;> simp at h
  · exact ⟨rfl, fun _ => h⟩
  · exact ⟨rfl, fun h => by cases h⟩
theorem canon_le {a b : Key} (h1 : ltK a b = false) (h2 : ltK b a = false) : canon a = canon b := by
  obtain ⟨z, s, n⟩ := a
  obtain ⟨z', s', n'⟩ := b
  unfold ltK at h1 h2
  unfold canon
  cases z <;> cases z' <;> simp at h1 h2 ⊢
  omega
theorem ltK_canon (a b : Key) : ltK (canon a) (canon b) = ltK a b := by
  obtain ⟨z, s, n⟩ := a
  obtain ⟨z', s', n'⟩ := b
  unfold ltK canon
  cases z <;> cases z' <;> simp
/-- The keys of the turned row. -/
def turn (key : Nat → Key) (n k j : Nat) : Key := if j < n - k then key (k + j) else key (j - (n - k))

theorem row_perm (key : Nat → Key) (n k : Nat) (hk : k ≤ n) : ((List.range n).map (turn key n k)).Perm ((List.range n).map key) := by
  have h1 : (List.range n).map (turn key n k) = ((List.range n).map key).drop k ++ ((List.range n).map key).take k := by
    apply List.ext_getElem
    · simp; omega
    · intro i h1 h2
      simp at h1
      rw [List.getElem_map, List.getElem_range]
      unfold turn
      by_cases hi : i < n - k
      · rw [if_pos hi, List.getElem_append_left (by simp; omega)]
        simp
      · rw [if_neg hi, List.getElem_append_right (by simp; omega)]
        simp
  rw [h1]
  exact List.perm_append_comm.trans (by rw [List.take_append_drop])
theorem keys_sorted {key : Nat → Key} {n : Nat} {a : Array Nat} (hn : a.size = n) (hs : SortedIn (ltOf key) 0 n a) : (a.toList.map fun i => canon (key i)).Pairwise fun x y => ltK y x = false := by
  rw [List.pairwise_map, List.pairwise_iff_getElem]
  intro i j hi hj hij
  simp only [Array.length_toList] at hi hj
  have := hs i j (Nat.zero_le _) hij (by omega)
  rw [getElem!_pos a i hi, getElem!_pos a j hj] at this
  rw [ltK_canon]
  simpa [ltOf] using this
/-- Both orders show the same times. -/
theorem turned (key : Nat → Key) (n k : Nat) (hk : k ≤ n) (a b : Array Nat) (ha : a.toList.Perm (List.range n)) (hb : b.toList.Perm (List.range n)) (sa : SortedIn (ltOf key) 0 n a) (sb : SortedIn (ltOf (turn key n k)) 0 n b) (i : Nat) (hi : i < n) :
    canon (key a[i]!) = canon (turn key n k b[i]!) := by
  have na : a.size = n := by simpa using ha.length_eq
  have nb : b.size = n := by simpa using hb.length_eq
  have hp : (a.toList.map fun i => canon (key i)).Perm (b.toList.map fun i => canon (turn key n k i)) := by
    have h1 := ha.map fun i => canon (key i)
    have h2 := hb.map fun i => canon (turn key n k i)
    have h3 := (row_perm key n k hk).map canon
    rw [List.map_map, List.map_map] at h3
    exact h1.trans (h3.symm.trans h2.symm)
  have he := List.Perm.eq_of_pairwise (le := fun x y => ltK y x = false) (fun x y hx hy h1 h2 => by
    obtain ⟨p, -, rfl⟩ := List.mem_map.1 hx
    obtain ⟨q, -, rfl⟩ := List.mem_map.1 hy
    rw [ltK_canon] at h1 h2
    exact canon_le h2 h1) (keys_sorted na sa) (keys_sorted nb sb) hp
  have h4 : (a.toList.map fun i => canon (key i))[i]? = (b.toList.map fun i => canon (turn key n k i))[i]? := by rw [he]
  rw [List.getElem?_map, List.getElem?_map, List.getElem?_eq_getElem (by simp; omega), List.getElem?_eq_getElem (by simp; omega)] at h4
  simp only [Option.map_some, Option.some.injEq, Array.getElem_toList] at h4
  rw [getElem!_pos a i (by omega), getElem!_pos b i (by omega)]
  exact h4

end Go.Proofs.Ytjgamgmghelhgaa.ByPure
