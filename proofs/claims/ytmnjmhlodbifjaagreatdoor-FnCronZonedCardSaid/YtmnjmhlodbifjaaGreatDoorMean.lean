/- What a cron text means, as a plain law: the sets or the delay, and how the code's reading goes with the reference's. Conditions: none. -/
import Derived.Test.YtmnjmhlodbifjaaGreatDoorParseCron
import Derived.Test.YtmnjmhlodbifjaaGreatDoorDurPure
import Derived.Test.YtmnjmhlodbifjaaGreatDoorTrimSpec
import Derived.Test.YtmnjmhlodbifjaaGreatDoorZoneName
namespace Go.Proofs.YtmnjmhlodbifjaaGreatDoor.Mean
open Go Go.RowKit Go.Proofs.YtmnjmhlodbifjaaGreatDoor.Mem Go.Proofs.YtmnjmhlodbifjaaGreatDoor.Aid Go.Proofs.YtmnjmhlodbifjaaGreatDoor.NumPure Go.Proofs.YtmnjmhlodbifjaaGreatDoor.SplitPure Go.Proofs.YtmnjmhlodbifjaaGreatDoor.FillPure Go.Proofs.YtmnjmhlodbifjaaGreatDoor.PlainPure Go.Proofs.YtmnjmhlodbifjaaGreatDoor.NameRel Go.Proofs.YtmnjmhlodbifjaaGreatDoor.SpecSix Go.Proofs.YtmnjmhlodbifjaaGreatDoor.SpecPlain Go.Proofs.YtmnjmhlodbifjaaGreatDoor.Meaning Go.Proofs.YtmnjmhlodbifjaaGreatDoor.Fields Go.Proofs.YtmnjmhlodbifjaaGreatDoor.Head Go.Proofs.YtmnjmhlodbifjaaGreatDoor.ZoneHead Go.Proofs.YtmnjmhlodbifjaaGreatDoor.ZoneName Go.Proofs.YtmnjmhlodbifjaaGreatDoor.TrimSpec Go.Proofs.YtmnjmhlodbifjaaGreatDoor.ParseP Go.Proofs.YtmnjmhlodbifjaaGreatDoor.ParseCron Go.Proofs.YtmnjmhlodbifjaaGreatDoor.Trim Go.Proofs.YtmnjmhlodbifjaaGreatDoor.DurPure
set_option linter.unusedVariables false

def yearlyB : List UInt8 := [64, 121, 101, 97, 114, 108, 121]
def annuallyB : List UInt8 := [64, 97, 110, 110, 117, 97, 108, 108, 121]
def monthlyB : List UInt8 := [64, 109, 111, 110, 116, 104, 108, 121]
def weeklyB : List UInt8 := [64, 119, 101, 101, 107, 108, 121]
def dailyB : List UInt8 := [64, 100, 97, 105, 108, 121]
def midnightB : List UInt8 := [64, 109, 105, 100, 110, 105, 103, 104, 116]
def hourlyB : List UInt8 := [64, 104, 111, 117, 114, 108, 121]
def everyB : List UInt8 := [64, 101, 118, 101, 114, 121, 32]
def y5 : List UInt8 := [48, 32, 48, 32, 49, 32, 49, 32, 42]
def m5 : List UInt8 := [48, 32, 48, 32, 49, 32, 42, 32, 42]
def w5 : List UInt8 := [48, 32, 48, 32, 42, 32, 42, 32, 48]
def d5 : List UInt8 := [48, 32, 48, 32, 42, 32, 42, 32, 42]
def h5 : List UInt8 := [48, 32, 42, 32, 42, 32, 42, 32, 42]
/-- The text of five fields of a descriptor. -/
def fiveOf (l : List UInt8) : List UInt8 :=
  if l = yearlyB ∨ l = annuallyB then y5 else if l = monthlyB then m5 else if l = weeklyB then w5 else if l = dailyB ∨ l = midnightB then d5 else if l = hourlyB then h5 else []
/-- A meaning: six texts, or a delay. -/
inductive MV where
  | sets (LL : List (List UInt8))
  | every (d : Int)
def delayOf (d : Int) : Int := if d < 1000000000 then 1000000000 else d / 1000000000 * 1000000000
/-- A text of fields: none: bad; some none: left open. -/
def mvPlain (o : Int) (l : List UInt8) : Option (Option MV) :=
  if foreign l then some none else
  match fillOf o ((words l).map ofL) with
  | none => none
  | some L => if words l = [] then some none else if sixV (L.map fun s => s.data.toList) 6 = 1 then some (some (.sets (L.map fun s => s.data.toList))) else if sixV (L.map fun s => s.data.toList) 6 = 0 then none else some none
def lone (l : List UInt8) : Bool := foreign l || (decide ((words l).length = 1) && decide (((words l).getD 0 []).length < l.length))
def mvDur (r : Option (Option Int)) : Option (Option MV) :=
  match r with
  | none => none
  | some none => some none
  | some (some x) => some (some (.every (delayOf x)))
def mvDesc (l : List UInt8) : Option (Option MV) :=
  if fiveOf l ≠ [] then mvPlain 380 (fiveOf l)
  else if starts everyB l then mvDur (dur (l.drop 7))
  else if lone l then some none else none
def takesAt (o : Int) : Bool := !(Go.bits .and .i64 o 256 == 0)
/-- A text without zone. -/
def mvAll (o : Int) (l : List UInt8) : Option (Option MV) := if starts [64] l then (if takesAt o then mvDesc l else none) else mvPlain o l
def nameOf (l : List UInt8) : List UInt8 := (l.drop (zoneHead l)).takeWhile fun c => c != 32
def restOf (l : List UInt8) : List UInt8 := (l.drop (zoneHead l)).dropWhile fun c => c != 32
/-- What stands behind a zone. -/
def restM (o : Int) (l : List UInt8) : Option (Option MV) := if foreign (trimL (restOf l)) then some none else mvAll o (trimL (restOf l))
def zoned : Option Bool → Option (Option MV) → Option (Option MV)
  | none, _ => none
  | some _, r => r
/-- Any text. -/
def mean (o : Int) (l : List UInt8) : Option (Option MV) :=
  if zoneHead l = 0 then (if l = [] then none else mvAll o l)
  else if noAnswer l then some none
  else zoned (zname (nameOf l)) (restM o l)
/-- Whether UTC is a schedule's own zone. -/
def utcOf (l : List UInt8) : Bool := if zoneHead l = 0 then false else zname (nameOf l) == some true

/-- What the reference hands back. -/
def SRes (r : Option (Option MV)) (ut : Bool) (e : Ending) : Prop :=
  ∃ (ev : Bool) (d : Int) (cs : Array Value) (u : Bool) (v : Nat), e = .returned (.tuple #[.agg (meanArr ev d cs u), .int .i64 (v : Int)]) ∧ cs.size = 384 ∧ cs.all (·.oneCell') = true ∧ v ≤ 2 ∧ (v = 0 → r = none) ∧
    (v = 1 → (∃ LL, r = some (some (.sets LL)) ∧ ev = false ∧ d = 0 ∧ cs = fldArr (stL LL 6) (fLs LL 6) ∧ u = ut) ∨ (∃ x, r = some (some (.every x)) ∧ ev = true ∧ d = x ∧ cs = noFields ∧ u = false))

theorem six_bad {o : Int} {l : List UInt8} (h : mvPlain o l = none) : foreign l = false ∧ ofWords o (words l) = none := by
  unfold mvPlain at h
  cases hf : foreign l with
  | true => rw [hf] at h; simp at h
  | false =>
    rw [hf] at h
    simp only [Bool.false_eq_true, if_false] at h
    refine ⟨rfl, ?_⟩
    unfold ofWords
    cases hfo : fillOf o ((words l).map ofL) with
    | none => rfl
    | some L =>
      rw [hfo] at h
      dsimp only at h ⊢
      split at h
      · cases h
      · split at h
        · cases h
        · split at h
          · rename_i h6
            exact sixV_bad _ 6 (Nat.le_refl _) h6
          · cases h
theorem six_fine {o : Int} {l : List UInt8} {m : MV} (h : mvPlain o l = some (some m)) : foreign l = false ∧ ∃ LL, m = .sets LL ∧ sixV LL 6 = 1 ∧ ofWords o (words l) = some (numsOf LL 6) := by
  unfold mvPlain at h
  cases hf : foreign l with
  | true => rw [hf] at h; simp at h
  | false =>
    rw [hf] at h
    simp only [Bool.false_eq_true, if_false] at h
    refine ⟨rfl, ?_⟩
    unfold ofWords
    cases hfo : fillOf o ((words l).map ofL) with
    | none => rw [hfo] at h; cases h
    | some L =>
      rw [hfo] at h
      dsimp only at h ⊢
      split at h
      · cases h
      · split at h
        · rename_i h6
          cases h
          exact ⟨_, rfl, h6, (sixV_fine _ 6 (Nat.le_refl _) h6).1⟩
        · split at h
          · cases h
          · cases h
theorem plainM_one' (o : Int) (l : List UInt8) : (plainM o l).1.all (·.oneCell') = true := SpecParse0.plainM_one o l
/-- The reference's plain reading, as a meaning. -/
theorem plain_res {o : Int} {l : List UInt8} {e : Ending} (h : MeanRes (plainM o l) e) : SRes (mvPlain o l) false e := by
  refine ⟨false, 0, (plainM o l).1, false, (plainM o l).2, h, plainM_size o l, plainM_one' o l, ?_, ?_, ?_⟩
  · unfold plainM
    split
    · exact Nat.le_refl _
    · split
      · exact Nat.zero_le _
      · split
        · exact Nat.le_refl _
        · unfold sixM
          split
          · dsimp only; decide
          · dsimp only; exact sixV_le _ 6 (Nat.le_refl _)
  · unfold plainM mvPlain
    split
    · intro h; cases h
    · cases hfo : fillOf o ((words l).map ofL) with
      | none => intro _; rfl
      | some L =>
        dsimp only
        split
        · intro h; cases h
        · unfold sixM
          split
          · intro h; cases h
          · rename_i h1
            intro h0
            dsimp only at h0
            rw [if_pos h0]
  · unfold plainM mvPlain
    split
    · intro h; cases h
    · cases hfo : fillOf o ((words l).map ofL) with
      | none => intro h; cases h
      | some L =>
        dsimp only
        split
        · intro h; cases h
        · unfold sixM
          split
          · intro _; exact .inl ⟨_, rfl, rfl, rfl, by dsimp only, rfl⟩
          · rename_i h1
            intro h0
            exact absurd h0 h1
/-- No foreign letter within: none in the whole. -/
theorem trim_foreign {l : List UInt8} (h : foreign (trimL l) = false) : ∀ b ∈ l, b.toNat < 128 := by
  have hsp : ∀ b : UInt8, isSp b = true → b.toNat < 128 := by
    intro b hb
    unfold isSp at hb
    simp only [Bool.or_eq_true, Bool.and_eq_true, beq_iff_eq, decide_eq_true_eq] at hb
    rcases hb with rfl | ⟨h1, h2⟩
    · decide
    · omega
  have key : ∀ (l : List UInt8), (∀ b ∈ l.dropWhile isSp, b.toNat < 128) → ∀ b ∈ l, b.toNat < 128 := by
    intro l
    induction l with
    | nil => intro _ b hb; cases hb
    | cons c r ih =>
      intro h b hb
      by_cases hc : isSp c = true
      · simp only [List.dropWhile, hc] at h
        rcases List.mem_cons.1 hb with rfl | hb
        · exact hsp _ hc
        · exact ih h b hb
      · have hc : isSp c = false := by simpa using hc
        simp only [List.dropWhile, hc] at h
        exact h b hb
  have h2 := foreign_not h
  refine key l fun b hb => ?_
  refine key (l.dropWhile isSp).reverse (fun c hc => h2 c ?_) b (List.mem_reverse.2 hb)
  unfold trimL
  exact List.mem_reverse.2 hc

end Go.Proofs.YtmnjmhlodbifjaaGreatDoor.Mean
