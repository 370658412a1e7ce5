/- cron's zzFields and the reference's CronWords: the words of a text of ASCII. Conditions: texts of at most 65536 bytes. · The reference's CronWords. Conditions: texts of at most 65536 bytes. · cron's zzFields and the reference's CronWords, whole. Conditions: texts of ASCII of at most 65536 bytes. · cron's zzSpace at every rune and zzFields at every text. Conditions: texts of at most 65536 bytes. -/
import Derived.Test.YtmnjmhlodbifjaaGreatDoorR11
import Derived.Test.YtmnjmhlodbifjaaGreatDoorR12
import Derived.Laws.RangeAny

namespace Go.Proofs.YtmnjmhlodbifjaaGreatDoor.Words
open Go Go.RowKit Go.Proofs.YtmnjmhlodbifjaaGreatDoor.Mem Go.Proofs.YtmnjmhlodbifjaaGreatDoor.Split Go.Proofs.YtmnjmhlodbifjaaGreatDoor.SplitPure Go.Proofs.YtmnjmhlodbifjaaGreatDoor.FieldPure Go.Proofs.YtmnjmhlodbifjaaGreatDoor.PlainPure
set_option linter.unusedVariables false
theorem wg_next (l : List UInt8) (k : Nat) (st : Option Nat) (h : k < l.length) : wordsGo l (l.length - k) k st =
    if isSp (l.getD k 0) then
      match st with
      | none => wordsGo l (l.length - (k + 1)) (k + 1) none
      | some f => (l.drop f).take (k - f) :: wordsGo l (l.length - (k + 1)) (k + 1) none
    else
      match st with
      | none => wordsGo l (l.length - (k + 1)) (k + 1) (some k)
      | some f => wordsGo l (l.length - (k + 1)) (k + 1) (some f) := by
  rw [show l.length - k = (l.length - (k + 1)) + 1 by omega]
  rfl
theorem wg_end (l : List UInt8) (st : Option Nat) : wordsGo l (l.length - l.length) l.length st = match st with | none => [] | some f => [l.drop f] := by
  rw [Nat.sub_self]
  cases st with
  | none => rfl
  | some f =>
    unfold wordsGo
    simp only
    rw [List.take_of_length_le (by simp)]
def fromV : Option Nat → Value
  | none => .int .i64 (-1)
  | some f => .int .i64 (f : Int)
def Rel (s : ByteArray) (B C : Nat) (w0 : World) (v fr : Value) (k : Nat) (wr : World) : Prop :=
  ∃ (st : Option Nat) (done : List (List UInt8)), fr = fromV st ∧ (∀ f, st = some f → f ≤ k) ∧ k ≤ s.size ∧ done.length ≤ k ∧
    done ++ wordsGo s.data.toList (s.data.toList.length - k) k st = words s.data.toList ∧
    wr.ownsRow B 9 1 v done.length (strs done) ∧ (done = [] → v = .slice none 0 0) ∧ Below C w0 wr
theorem getD_at (s : ByteArray) (k : Nat) (h : k < s.size) : s.data.toList.getD k 0 = s[k] := by
  rw [List.getD_eq_getElem?_getD, List.getElem?_eq_getElem (by simpa using h)]; rfl
theorem rel_skip {s : ByteArray} {B C k : Nat} {w0 wr wr2 : World} {v : Value} (h : Rel s B C w0 v (fromV none) k wr) (hk : k < s.size) (hb : isSp s[k] = true) (ho : ∀ n xs, wr.ownsRow B 9 1 v n xs → wr2.ownsRow B 9 1 v n xs) (hB : Below C w0 wr2) :
    Rel s B C w0 v (fromV none) (k + 1) wr2 := by
  obtain ⟨st, done, h1, h2, h3, h4, h5, h6, h7, h8⟩ := h
  cases st with
  | some f => exact absurd h1 (by simp [fromV] <;> omega)
  | none =>
    rw [wg_next _ _ _ (by simpa using hk), getD_at s k hk, hb] at h5
    exact ⟨none, done, rfl, fun f hf => (by cases hf), hk, by omega, h5, ho _ _ h6, h7, hB⟩
theorem rel_begin {s : ByteArray} {B C k : Nat} {w0 wr wr2 : World} {v : Value} (h : Rel s B C w0 v (fromV none) k wr) (hk : k < s.size) (hb : isSp s[k] = false) (ho : ∀ n xs, wr.ownsRow B 9 1 v n xs → wr2.ownsRow B 9 1 v n xs) (hB : Below C w0 wr2) :
    Rel s B C w0 v (.int .i64 (k : Int)) (k + 1) wr2 := by
  obtain ⟨st, done, h1, h2, h3, h4, h5, h6, h7, h8⟩ := h
  cases st with
  | some f => exact absurd h1 (by simp [fromV] <;> omega)
  | none =>
    rw [wg_next _ _ _ (by simpa using hk), getD_at s k hk, hb] at h5
    exact ⟨some k, done, rfl, fun f hf => (by cases hf; omega), hk, by omega, h5, ho _ _ h6, h7, hB⟩
theorem rel_on {s : ByteArray} {B C k f : Nat} {w0 wr wr2 : World} {v : Value} (h : Rel s B C w0 v (.int .i64 (f : Int)) k wr) (hk : k < s.size) (hb : isSp s[k] = false) (ho : ∀ n xs, wr.ownsRow B 9 1 v n xs → wr2.ownsRow B 9 1 v n xs) (hB : Below C w0 wr2) :
    Rel s B C w0 v (.int .i64 (f : Int)) (k + 1) wr2 := by
  obtain ⟨st, done, h1, h2, h3, h4, h5, h6, h7, h8⟩ := h
  cases st with
  | none => exact absurd h1 (by simp [fromV] <;> omega)
  | some f' =>
    simp [fromV] at h1
    have h1 : f = f' := by omega
    subst h1
    rw [wg_next _ _ _ (by simpa using hk), getD_at s k hk, hb] at h5
    exact ⟨some f, done, rfl, fun g hg => (by cases hg; have := h2 f rfl; omega), hk, by omega, h5, ho _ _ h6, h7, hB⟩
theorem rel_under {s : ByteArray} {B C k f : Nat} {w0 wr : World} {v : Value} (h : Rel s B C w0 v (.int .i64 (f : Int)) k wr) :
    ∃ done : List (List UInt8), f ≤ k ∧ done.length ≤ k ∧ done ++ wordsGo s.data.toList (s.data.toList.length - k) k (some f) = words s.data.toList ∧ wr.ownsRow B 9 1 v done.length (strs done) := by
  obtain ⟨st, done, h1, h2, h3, h4, h5, h6, h7, h8⟩ := h
  cases st with
  | none => exact absurd h1 (by simp [fromV] <;> omega)
  | some f' =>
    simp [fromV] at h1
    have h1 : f = f' := by omega
    subst h1
    exact ⟨done, h2 f rfl, h4, h5, h6⟩
theorem rel_word {s : ByteArray} {B C k f : Nat} {w0 wr2 : World} {v' : Value} {done : List (List UInt8)} (h4 : done.length ≤ k) (h5 : done ++ wordsGo s.data.toList (s.data.toList.length - k) k (some f) = words s.data.toList) (hk : k < s.size) (hb : isSp s[k] = true)
    (ho : wr2.ownsRow B 9 1 v' (done.length + 1) (strs done ++ [.string (s.extract f k)])) (hB : Below C w0 wr2) :
    Rel s B C w0 v' (.int .i64 (-1)) (k + 1) wr2 := by
  rw [wg_next _ _ _ (by simpa using hk), getD_at s k hk, hb] at h5
  refine ⟨none, done ++ [(s.data.toList.drop f).take (k - f)], rfl, fun g hg => (by cases hg), hk, by simp; omega, by rw [← h5]; simp, ?_, fun e => by simp at e, hB⟩
  rw [extract_sub] at ho
  rw [strs_append, List.length_append]
  simpa [strs] using ho
def WordsRes (s : ByteArray) (B : Nat) (e : Ending) (w' : World) : Prop :=
  ∃ v, e = .returned v ∧ w'.ownsRow B 9 1 v (words s.data.toList).length (strs (words s.data.toList)) ∧ (words s.data.toList = [] → v = .slice none 0 0)
theorem rel_none {s : ByteArray} {B C : Nat} {w0 wr : World} {v : Value} (h : Rel s B C w0 v (fromV none) s.size wr) : WordsRes s B (.returned v) wr ∧ Below C w0 wr := by
  obtain ⟨st, done, h1, h2, h3, h4, h5, h6, h7, h8⟩ := h
  cases st with
  | some f => exact absurd h1 (by simp [fromV] <;> omega)
  | none =>
    rw [show s.size = s.data.toList.length by simp, wg_end] at h5
    simp only [List.append_nil] at h5
    exact ⟨⟨v, rfl, by rw [← h5]; exact h6, fun e => h7 (by rw [h5, e])⟩, h8⟩
theorem rel_last {s : ByteArray} {B C f : Nat} {w0 wr2 : World} {v' : Value} {done : List (List UInt8)} (h5 : done ++ wordsGo s.data.toList (s.data.toList.length - s.size) s.size (some f) = words s.data.toList)
    (ho : wr2.ownsRow B 9 1 v' (done.length + 1) (strs done ++ [.string (s.extract f s.size)])) (hB : Below C w0 wr2) : WordsRes s B (.returned v') wr2 ∧ Below C w0 wr2 := by
  rw [show s.size = s.data.toList.length by simp, wg_end] at h5
  refine ⟨⟨v', rfl, ?_, fun e => ?_⟩, hB⟩
  · have hx := Lib.extract_to_end s f
    rw [eq_ofL hx] at ho
    rw [← h5, strs_append, List.length_append]
    simpa [strs] using ho
  · rw [← h5] at e
    simp at e
theorem space_any (b : UInt8) (w : World) (hb : b.toNat < 128) :
    Calls Tryz.prog 92 #[.int .i32 (b.toNat : Int)] w fun e w' => e = .returned (.bool (isSp b)) ∧ w = w' := by
  obtain ⟨n, hn⟩ : ∃ n, b.toNat = n := ⟨_, rfl⟩
  have hbl : isSp b = (n == 32 || (decide (9 ≤ n) && decide (n ≤ 13))) := by
    unfold isSp
    rw [hn]
    congr 1
    rw [Bool.eq_iff_iff, beq_iff_eq, beq_iff_eq, ← UInt8.toNat_inj, hn]
    rfl
  rw [hbl, hn]
  rw [hn] at hb
  clear hbl hn
  by_cases h9 : n = 9
  · subst h9; go_enter Tryz.func92, Tryz.ntmps92; go_wp2; go_ret; exact ⟨rfl, rfl⟩
  by_cases h10 : n = 10
  · subst h10; go_enter Tryz.func92, Tryz.ntmps92; go_wp2; go_ret; exact ⟨rfl, rfl⟩
  by_cases h11 : n = 11
  · subst h11; go_enter Tryz.func92, Tryz.ntmps92; go_wp2; go_ret; exact ⟨rfl, rfl⟩
  by_cases h12 : n = 12
  · subst h12; go_enter Tryz.func92, Tryz.ntmps92; go_wp2; go_ret; exact ⟨rfl, rfl⟩
  by_cases h13 : n = 13
  · subst h13; go_enter Tryz.func92, Tryz.ntmps92; go_wp2; go_ret; exact ⟨rfl, rfl⟩
  by_cases h32 : n = 32
  · subst h32; go_enter Tryz.func92, Tryz.ntmps92; go_wp2; go_ret; exact ⟨rfl, rfl⟩
  have HR : Hid ((n == 32 || (decide (9 ≤ n) && decide (n ≤ 13))) = false) := Lib.hid (by
    rw [Bool.or_eq_false_iff, Bool.and_eq_false_iff, beq_eq_false_iff_ne, decide_eq_false_iff_not, decide_eq_false_iff_not]
    omega)
  have key : ∀ k : Int, (k = 9 ∨ k = 10 ∨ k = 11 ∨ k = 12 ∨ k = 13 ∨ k = 32 ∨ 128 ≤ k) → ((n : Int) == k) = false := fun k hk => by
    rw [beq_eq_false_iff_ne]; omega
  have q1 := key 9 (by omega)
  have q2 := key 10 (by omega)
  have q3 := key 11 (by omega)
  have q4 := key 12 (by omega)
  have q5 := key 13 (by omega)
  have q6 := key 32 (by omega)
  have q7 := key 133 (by omega)
  have q8 := key 160 (by omega)
  have q9 := key 5760 (by omega)
  have q10 := key 8232 (by omega)
  have q11 := key 8233 (by omega)
  have q12 := key 8239 (by omega)
  have q13 := key 8287 (by omega)
  have q14 := key 12288 (by omega)
  have q15 : ¬ (8192 ≤ (n : Int)) := by omega
  clear key h9 h10 h11 h12 h13 h32
  go_enter Tryz.func92, Tryz.ntmps92
  go_wp2
  go_ret
  exact ⟨by rw [HR.out]; simp, rfl⟩
end Go.Proofs.YtmnjmhlodbifjaaGreatDoor.Words
namespace Go.Proofs.YtmnjmhlodbifjaaGreatDoor.SpecWords
open Go Go.RowKit Go.Proofs.YtmnjmhlodbifjaaGreatDoor.Mem Go.Proofs.YtmnjmhlodbifjaaGreatDoor.Split Go.Proofs.YtmnjmhlodbifjaaGreatDoor.SplitPure Go.Proofs.YtmnjmhlodbifjaaGreatDoor.PlainPure Go.Proofs.YtmnjmhlodbifjaaGreatDoor.Words
set_option linter.unusedVariables false
end Go.Proofs.YtmnjmhlodbifjaaGreatDoor.SpecWords
namespace Go.Proofs.YtmnjmhlodbifjaaGreatDoor.Words2
open Go Go.RowKit Go.Proofs.YtmnjmhlodbifjaaGreatDoor.Mem Go.Proofs.YtmnjmhlodbifjaaGreatDoor.Split Go.Proofs.YtmnjmhlodbifjaaGreatDoor.SplitPure Go.Proofs.YtmnjmhlodbifjaaGreatDoor.FieldPure Go.Proofs.YtmnjmhlodbifjaaGreatDoor.Lower Go.Proofs.YtmnjmhlodbifjaaGreatDoor.PlainPure Go.Proofs.YtmnjmhlodbifjaaGreatDoor.Words
set_option linter.unusedVariables false
theorem own_iter {w : World} {B k pos : Nat} {v : Value} {s : ByteArray} (hk : k < B) : ∀ n xs, w.ownsRow B 9 1 v n xs → (w.iterAt k s pos).ownsRow B 9 1 v n xs := by
  intro n xs h
  refine ⟨h.1, ?_⟩
  rcases h.2 with h0 | ⟨g, cap, cur, he, hb, hg, hle, hm, hcur, htake⟩
  · exact .inl h0
  · refine .inr ⟨g, cap, cur, he, hb, ?_, hle, hm, hcur, htake⟩
    have hne : g ≠ k := by omega
    rw [Lib.iterAt_other _ _ _ _ _ hne]
    exact hg
set_option maxHeartbeats 1000000 in
set_option maxRecDepth 100000 in
theorem fields_any (s : ByteArray) (w : World) (hs : s.size ≤ 65536) (ha : Ascii s.data.toList) :
    Calls Tryz.prog 59 #[.string s] w fun e w' => WordsRes s (w.heap.size + 1) e w' ∧ Below w.heap.size w w' := by
  obtain ⟨i0, hi, hz0, hz1, hz2⟩ := info_parts Tryz.info9
  have HA := Lib.hid ha
  clear ha
  go_enter Tryz.func59, Tryz.ntmps59
  go_wp2
  go_loopw [3, 4] (fun v fr wr => ∃ k : Nat, Hid (Rel s (w.heap.size + 1) w.heap.size w v fr k wr ∧ wr.heap[w.heap.size]? = some (.stringIter s k)) ∧ k ≤ s.size ∧ (fr = .int .i64 (-1) ∨ ∃ f : Nat, fr = .int .i64 (f : Int) ∧ f ≤ k)) (fun _ _ wr => s.size - wr.iterPos w.heap.size)
  case atStart =>
    exact ⟨0, Lib.hid ⟨⟨none, [], rfl, fun f h => (by cases h), Nat.zero_le _, Nat.zero_le _, rfl, World.ownsRow_nil _ _ _ _, fun _ => rfl, (Below.refl _ w).alloc (Nat.le_refl _) _⟩, World.iter_heap w s 0⟩, Nat.zero_le _, .inl rfl⟩
  case round =>
    obtain ⟨k, HR, hk, hfr⟩ := hrel
    have hit := HR.out.2
    have hkz : w.heap.size < wr.heap.size := (Array.getElem?_eq_some_iff.1 hit).1
    have hrp : wr.iterPos w.heap.size = k := by simp only [World.iterPos, hit]
    by_cases hlt : k < s.size
    · have hb : (s[k]).toNat < 128 := HA.out _ (by
        have h2 := List.getElem_mem (l := s.data.toList) (n := k) (by simpa using hlt)
        exact h2)
      have hd : Utf8.decode s k = ((s[k]).toNat, 1) := decode_ascii s k hlt hb
      have hnx : ∀ ty, (Instr.next (.pointer (some ⟨w.heap.size, 0, none⟩)) true ty).run Tryz.prog wr = _ := fun ty => Lib.run_next_any_at wr w.heap.size s k ty hit hlt
      simp only [hd] at hnx
      have hO := own_iter (v := u3) (w := wr) (B := w.heap.size + 1) (k := w.heap.size) (pos := k + 1) (s := s) (by omega)
      have hit2 := Lib.iterAt_heap wr w.heap.size s k (k + 1) hit
      obtain ⟨st0, done0, -, -, -, -, -, -, -, hbel⟩ := HR.out.1
      have hbel2 := Lib.below_iterAt hbel (k := w.heap.size) (by omega) s (k + 1)
      obtain ⟨b, hbe⟩ : ∃ b, s[k] = b := ⟨_, rfl⟩
      have HBE := Lib.hid hbe
      rw [hbe] at hnx hb
      have HSP := Lib.hid (fun w1 => space_any b w1 hb)
      have HIT2 := Lib.hid hit2
      have HBEL2 := Lib.hid hbel2
      have HO := Lib.hid hO
      have hsz2 : w.heap.size + 1 ≤ (wr.iterAt w.heap.size s (k + 1)).heap.size := by rw [Lib.iterAt_size]; omega
      clear hd hbe hit2 hbel hbel2 hO
      cases hsp : isSp b with
      | true =>
        have HS : Hid (isSp s[k] = true) := Lib.hid (by rw [HBE.out]; exact hsp)
        rcases hfr with rfl | ⟨f, rfl, hf⟩
        · go_wp2_with (go_at_call 92; refine (HSP.out _).mono ?_; rintro e w1 ⟨rfl, rfl⟩)
          go_roundw
          case rel => exact ⟨k + 1, Lib.hid ⟨rel_skip HR.out.1 hlt HS.out HO.out HBEL2.out, HIT2.out⟩, by omega, .inl rfl⟩
          case measure => simp only [World.iterPos, HIT2.out, hit]; omega
        · have hfk : (f : Int) ≤ (k : Int) := by omega
          have hks : (k : Int) ≤ (s.size : Int) := by omega
          obtain ⟨done, hf2, hmk, h5, hown⟩ := rel_under HR.out.1
          have H5 := Lib.hid h5
          have HOWN := Lib.hid (HO.out _ _ hown)
          clear h5 hown
          go_wp2_with (first
            | (go_at_call 92; refine (HSP.out _).mono ?_; rintro e w1 ⟨rfl, rfl⟩)
            | (at_builtin; refine wpList_append_own _ rfl (.tmp 17) (.tmp 22) 114 rfl (w.heap.size + 1) 9 i0 (.string ⟨#[]⟩) 1 16 Tryz.underlying114 hi hz0 hz1 hz2 rfl (by decide) _ _ _ rfl (HOWN.out.alloc _) ⟨_, 0, none⟩ 1 1 [.string (s.extract f k)] rfl rfl (one_cell _ _ _) (by simp [Value.oneCell']) (by unfold maxLen; omega) (by omega) (by simp; omega) ?_; intro v' w3 hown3 hgrow3 _))
          have hgB : Below (w.heap.size + 1) (wr.iterAt w.heap.size s (k + 1)) w3 := ((Below.refl (w.heap.size + 1) _).alloc hsz2 _).grown hgrow3 (by simp; omega) (fun j hj => (HOWN.out.lt j hj).1)
          have hit3 := (hgB.block w.heap.size (by omega)).trans HIT2.out
          refine ⟨⟨k + 1, Lib.hid ⟨rel_word hmk H5.out hlt HS.out hown3 (HBEL2.out.trans (hgB.mono (by omega))), hit3⟩, by omega, .inl rfl⟩, ?_⟩
          simp only [World.iterPos, hit3, hit]
          omega
      | false =>
        have HS : Hid (isSp s[k] = false) := Lib.hid (by rw [HBE.out]; exact hsp)
        rcases hfr with rfl | ⟨f, rfl, hf⟩
        · go_wp2_with (go_at_call 92; refine (HSP.out _).mono ?_; rintro e w1 ⟨rfl, rfl⟩)
          go_roundw
          case rel => exact ⟨k + 1, Lib.hid ⟨rel_begin HR.out.1 hlt HS.out HO.out HBEL2.out, HIT2.out⟩, by omega, .inr ⟨k, rfl, by omega⟩⟩
          case measure => simp only [World.iterPos, HIT2.out, hit]; omega
        · go_wp2_with (go_at_call 92; refine (HSP.out _).mono ?_; rintro e w1 ⟨rfl, rfl⟩)
          go_roundw
          case rel => exact ⟨k + 1, Lib.hid ⟨rel_on HR.out.1 hlt HS.out HO.out HBEL2.out, HIT2.out⟩, by omega, .inr ⟨f, rfl, by omega⟩⟩
          case measure => simp only [World.iterPos, HIT2.out, hit]; omega
    · have hnx : ∀ ty, (Instr.next (.pointer (some ⟨w.heap.size, 0, none⟩)) true ty).run Tryz.prog wr = _ := fun ty => Lib.run_next_end_at wr w.heap.size s k ty hit hlt
      have hks : k = s.size := by omega
      subst hks
      have HBEL := Lib.hid (show Below w.heap.size w wr by obtain ⟨st0, done0, -, -, -, -, -, -, -, hbel⟩ := HR.out.1; exact hbel)
      rcases hfr with rfl | ⟨f, rfl, hf⟩
      · go_wp2
        go_ret
        exact rel_none HR.out.1
      · obtain ⟨done, hf2, hmk, h5, hown⟩ := rel_under HR.out.1
        have H5 := Lib.hid h5
        have HOWN := Lib.hid hown
        clear h5 hown
        have hfs : (f : Int) ≤ (s.size : Int) := by omega
        go_wp2_with (at_builtin; refine wpList_append_own _ rfl (.tmp 29) (.tmp 33) 114 rfl (w.heap.size + 1) 9 i0 (.string ⟨#[]⟩) 1 16 Tryz.underlying114 hi hz0 hz1 hz2 rfl (by decide) _ _ _ rfl (HOWN.out.alloc _) ⟨_, 0, none⟩ 1 1 [.string (s.extract f s.size)] rfl rfl (one_cell _ _ _) (by simp [Value.oneCell']) (by unfold maxLen; omega) (by omega) (by simp; omega) ?_; intro v' w3 hown3 hgrow3 _)
        have hgB : Below (w.heap.size + 1) wr w3 := ((Below.refl (w.heap.size + 1) _).alloc (by omega) _).grown hgrow3 (by simp; omega) (fun j hj => (HOWN.out.lt j hj).1)
        go_ret
        exact rel_last H5.out hown3 (HBEL.out.trans (hgB.mono (by omega)))
end Go.Proofs.YtmnjmhlodbifjaaGreatDoor.Words2
namespace Go.Proofs.YtmnjmhlodbifjaaGreatDoor.WordsU
open Go Go.RowKit Go.Proofs.YtmnjmhlodbifjaaGreatDoor.Mem Go.Proofs.YtmnjmhlodbifjaaGreatDoor.Split Go.Proofs.YtmnjmhlodbifjaaGreatDoor.SplitPure Go.Proofs.YtmnjmhlodbifjaaGreatDoor.FieldPure Go.Proofs.YtmnjmhlodbifjaaGreatDoor.Lower Go.Proofs.YtmnjmhlodbifjaaGreatDoor.PlainPure Go.Proofs.YtmnjmhlodbifjaaGreatDoor.Words Go.Proofs.YtmnjmhlodbifjaaGreatDoor.Words2
set_option linter.unusedVariables false
def spaces : List Nat := [9, 10, 11, 12, 13, 32, 133, 160, 5760, 8232, 8233, 8239, 8287, 12288]
def spaceR (r : Nat) : Bool := spaces.contains r || (decide (8192 ≤ r) && decide (r ≤ 8202))
theorem space_ascii : ∀ b : UInt8, b.toNat < 128 → spaceR b.toNat = isSp b := fun b => all8 (P := fun b => b.toNat < 128 → spaceR b.toNat = isSp b) (by decide +kernel) b
set_option maxHeartbeats 1000000 in
theorem space_all (r : Nat) (w : World) (hr : r ≤ 2147483647) :
    Calls Tryz.prog 92 #[.int .i32 (r : Int)] w fun e w' => e = .returned (.bool (spaceR r)) ∧ w = w' := by
  by_cases h9 : r = 9
  · subst h9
    have hs : spaceR 9 = true := by decide
    rw [hs]
    clear hs
    go_enter Tryz.func92, Tryz.ntmps92; go_wp2; go_ret; exact ⟨rfl, rfl⟩
  by_cases h10 : r = 10
  · subst h10
    have hs : spaceR 10 = true := by decide
    rw [hs]
    clear hs
    go_enter Tryz.func92, Tryz.ntmps92; go_wp2; go_ret; exact ⟨rfl, rfl⟩
  by_cases h11 : r = 11
  · subst h11
    have hs : spaceR 11 = true := by decide
    rw [hs]
    clear hs
    go_enter Tryz.func92, Tryz.ntmps92; go_wp2; go_ret; exact ⟨rfl, rfl⟩
  by_cases h12 : r = 12
  · subst h12
    have hs : spaceR 12 = true := by decide
    rw [hs]
    clear hs
    go_enter Tryz.func92, Tryz.ntmps92; go_wp2; go_ret; exact ⟨rfl, rfl⟩
  by_cases h13 : r = 13
  · subst h13
    have hs : spaceR 13 = true := by decide
    rw [hs]
    clear hs
    go_enter Tryz.func92, Tryz.ntmps92; go_wp2; go_ret; exact ⟨rfl, rfl⟩
  by_cases h32 : r = 32
  · subst h32
    have hs : spaceR 32 = true := by decide
    rw [hs]
    clear hs
    go_enter Tryz.func92, Tryz.ntmps92; go_wp2; go_ret; exact ⟨rfl, rfl⟩
  by_cases h133 : r = 133
  · subst h133
    have hs : spaceR 133 = true := by decide
    rw [hs]
    clear hs
    go_enter Tryz.func92, Tryz.ntmps92; go_wp2; go_ret; exact ⟨rfl, rfl⟩
  by_cases h160 : r = 160
  · subst h160
    have hs : spaceR 160 = true := by decide
    rw [hs]
    clear hs
    go_enter Tryz.func92, Tryz.ntmps92; go_wp2; go_ret; exact ⟨rfl, rfl⟩
  by_cases h5760 : r = 5760
  · subst h5760
    have hs : spaceR 5760 = true := by decide
    rw [hs]
    clear hs
    go_enter Tryz.func92, Tryz.ntmps92; go_wp2; go_ret; exact ⟨rfl, rfl⟩
  by_cases h8232 : r = 8232
  · subst h8232
    have hs : spaceR 8232 = true := by decide
    rw [hs]
    clear hs
    go_enter Tryz.func92, Tryz.ntmps92; go_wp2; go_ret; exact ⟨rfl, rfl⟩
  by_cases h8233 : r = 8233
  · subst h8233
    have hs : spaceR 8233 = true := by decide
    rw [hs]
    clear hs
    go_enter Tryz.func92, Tryz.ntmps92; go_wp2; go_ret; exact ⟨rfl, rfl⟩
  by_cases h8239 : r = 8239
  · subst h8239
    have hs : spaceR 8239 = true := by decide
    rw [hs]
    clear hs
    go_enter Tryz.func92, Tryz.ntmps92; go_wp2; go_ret; exact ⟨rfl, rfl⟩
  by_cases h8287 : r = 8287
  · subst h8287
    have hs : spaceR 8287 = true := by decide
    rw [hs]
    clear hs
    go_enter Tryz.func92, Tryz.ntmps92; go_wp2; go_ret; exact ⟨rfl, rfl⟩
  by_cases h12288 : r = 12288
  · subst h12288
    have hs : spaceR 12288 = true := by decide
    rw [hs]
    clear hs
    go_enter Tryz.func92, Tryz.ntmps92; go_wp2; go_ret; exact ⟨rfl, rfl⟩
  have hs : spaceR r = (decide (8192 ≤ r) && decide (r ≤ 8202)) := by
    unfold spaceR spaces
    simp [h9, h10, h11, h12, h13, h32, h133, h160, h5760, h8232, h8233, h8239, h8287, h12288]
  rw [hs]
  clear hs
  have q9 : ((r : Int) == 9) = false := beq_eq_false_iff_ne.2 (by omega)
  have q10 : ((r : Int) == 10) = false := beq_eq_false_iff_ne.2 (by omega)
  have q11 : ((r : Int) == 11) = false := beq_eq_false_iff_ne.2 (by omega)
  have q12 : ((r : Int) == 12) = false := beq_eq_false_iff_ne.2 (by omega)
  have q13 : ((r : Int) == 13) = false := beq_eq_false_iff_ne.2 (by omega)
  have q32 : ((r : Int) == 32) = false := beq_eq_false_iff_ne.2 (by omega)
  have q133 : ((r : Int) == 133) = false := beq_eq_false_iff_ne.2 (by omega)
  have q160 : ((r : Int) == 160) = false := beq_eq_false_iff_ne.2 (by omega)
  have q5760 : ((r : Int) == 5760) = false := beq_eq_false_iff_ne.2 (by omega)
  have q8232 : ((r : Int) == 8232) = false := beq_eq_false_iff_ne.2 (by omega)
  have q8233 : ((r : Int) == 8233) = false := beq_eq_false_iff_ne.2 (by omega)
  have q8239 : ((r : Int) == 8239) = false := beq_eq_false_iff_ne.2 (by omega)
  have q8287 : ((r : Int) == 8287) = false := beq_eq_false_iff_ne.2 (by omega)
  have q12288 : ((r : Int) == 12288) = false := beq_eq_false_iff_ne.2 (by omega)
  clear h9 h10 h11 h12 h13 h32 h133 h160 h5760 h8232 h8233 h8239 h8287 h12288
  by_cases h1 : 8192 ≤ r
  · have h1i : (8192 : Int) ≤ (r : Int) := by omega
    by_cases h2 : r ≤ 8202
    · have h2i : (r : Int) ≤ 8202 := by omega
      have hd : (decide (8192 ≤ r) && decide (r ≤ 8202)) = true := by rw [decide_eq_true h1, decide_eq_true h2]; rfl
      rw [hd]
      clear hd
      go_enter Tryz.func92, Tryz.ntmps92; go_wp2; go_ret; exact ⟨rfl, rfl⟩
    · have hd : (decide (8192 ≤ r) && decide (r ≤ 8202)) = false := by rw [decide_eq_false h2]; simp
      have h2d : decide ((r : Int) ≤ 8202) = false := decide_eq_false (by omega)
      rw [hd]
      clear hd
      go_enter Tryz.func92, Tryz.ntmps92; go_wp2; go_ret; exact ⟨rfl, rfl⟩
  · have hd : (decide (8192 ≤ r) && decide (r ≤ 8202)) = false := by rw [decide_eq_false h1]; simp
    have h1d : decide ((8192 : Int) ≤ (r : Int)) = false := decide_eq_false (by omega)
    rw [hd]
    clear hd
    go_enter Tryz.func92, Tryz.ntmps92; go_wp2; go_ret; exact ⟨rfl, rfl⟩
def wgU (s : ByteArray) : Nat → Nat → Option Nat → List (List UInt8)
  | 0, _, none => []
  | 0, _, some f => [s.data.toList.drop f]
  | n + 1, pos, st =>
    if pos < s.size then
      if spaceR (Utf8.decode s pos).1 then
        match st with
        | none => wgU s n (pos + (Utf8.decode s pos).2) none
        | some f => (s.data.toList.drop f).take (pos - f) :: wgU s n (pos + (Utf8.decode s pos).2) none
      else
        match st with
        | none => wgU s n (pos + (Utf8.decode s pos).2) (some pos)
        | some f => wgU s n (pos + (Utf8.decode s pos).2) (some f)
    else
      match st with
      | none => []
      | some f => [s.data.toList.drop f]
def wordsU (s : ByteArray) : List (List UInt8) := wgU s s.size 0 none
theorem wgU_end (s : ByteArray) (n pos : Nat) (st : Option Nat) (h : ¬ pos < s.size) : wgU s n pos st = match st with | none => [] | some f => [s.data.toList.drop f] := by
  cases n with
  | zero => cases st <;> rfl
  | succ n => unfold wgU; rw [if_neg h]
theorem wgU_len (s : ByteArray) : ∀ n pos st, s.size ≤ n + pos → (wgU s n pos st).length ≤ n + (if st.isSome then 1 else 0) := by
  intro n
  induction n with
  | zero => intro pos st _; cases st <;> simp [wgU]
  | succ n ih =>
    intro pos st h
    unfold wgU
    split
    · rename_i hp
      have hw := Lib.decode_width_pos s pos hp
      split
      · cases st with
        | none => have := ih (pos + (Utf8.decode s pos).2) none (by omega); simp at this ⊢; omega
        | some f => have := ih (pos + (Utf8.decode s pos).2) none (by omega); simp at this ⊢; omega
      · cases st with
        | none => have := ih (pos + (Utf8.decode s pos).2) (some pos) (by omega); simp at this ⊢; omega
        | some f => have := ih (pos + (Utf8.decode s pos).2) (some f) (by omega); simp at this ⊢; omega
    · cases st <;> simp
theorem wordsU_count (s : ByteArray) : (wordsU s).length ≤ s.size := by simpa [wordsU] using wgU_len s s.size 0 none (by omega)
theorem wgU_size (s : ByteArray) : ∀ n pos st, ∀ p ∈ wgU s n pos st, p.length ≤ s.size := by
  intro n
  induction n with
  | zero =>
    intro pos st p hp
    cases st with
    | none => simp [wgU] at hp
    | some f => simp [wgU] at hp; subst hp; simp
  | succ n ih =>
    intro pos st p hp
    unfold wgU at hp
    split at hp
    · split at hp
      · cases st with
        | none => exact ih _ _ p hp
        | some f =>
          rcases List.mem_cons.1 hp with rfl | hp
          · simp; omega
          · exact ih _ _ p hp
      · cases st with
        | none => exact ih _ _ p hp
        | some f => exact ih _ _ p hp
    · cases st with
      | none => simp at hp
      | some f => simp at hp; subst hp; simp
theorem wordsU_size {s : ByteArray} {p : List UInt8} (h : p ∈ wordsU s) : p.length ≤ s.size := wgU_size s _ _ _ p h
def RelU (s : ByteArray) (B C : Nat) (w0 : World) (v fr : Value) (k : Nat) (wr : World) : Prop :=
  ∃ (st : Option Nat) (done : List (List UInt8)) (n : Nat), fr = fromV st ∧ (∀ f, st = some f → f ≤ k ∧ f ≤ s.size) ∧ done.length ≤ k ∧ s.size ≤ n + k ∧
    done ++ wgU s n k st = wordsU s ∧
    wr.ownsRow B 9 1 v done.length (strs done) ∧ (done = [] → v = .slice none 0 0) ∧ Below C w0 wr
theorem fuel {n k size : Nat} (h : size ≤ n + k) (hk : k < size) : ∃ m, n = m + 1 ∧ size ≤ m + (k + 1) := ⟨n - 1, by omega, by omega⟩
section
variable {s : ByteArray} {B C k : Nat} {w0 wr wr2 : World} {v : Value}
theorem relU_none (h : RelU s B C w0 v (fromV none) k wr) : ∃ (done : List (List UInt8)) (n : Nat), done.length ≤ k ∧ s.size ≤ n + k ∧ done ++ wgU s n k none = wordsU s ∧ wr.ownsRow B 9 1 v done.length (strs done) ∧ (done = [] → v = .slice none 0 0) ∧ Below C w0 wr := by
  obtain ⟨st, done, n, h1, h2, h3, h4, h5, h6, h7, h8⟩ := h
  cases st with
  | some f => exact absurd h1 (by simp [fromV] <;> omega)
  | none => exact ⟨done, n, h3, h4, h5, h6, h7, h8⟩
theorem relU_some {f : Nat} (h : RelU s B C w0 v (.int .i64 (f : Int)) k wr) : ∃ (done : List (List UInt8)) (n : Nat), f ≤ k ∧ f ≤ s.size ∧ done.length ≤ k ∧ s.size ≤ n + k ∧ done ++ wgU s n k (some f) = wordsU s ∧ wr.ownsRow B 9 1 v done.length (strs done) ∧ (done = [] → v = .slice none 0 0) ∧ Below C w0 wr := by
  obtain ⟨st, done, n, h1, h2, h3, h4, h5, h6, h7, h8⟩ := h
  cases st with
  | none => exact absurd h1 (by simp [fromV] <;> omega)
  | some f' =>
    simp [fromV] at h1
    have h1 : f = f' := by omega
    subst h1
    exact ⟨done, n, (h2 f rfl).1, (h2 f rfl).2, h3, h4, h5, h6, h7, h8⟩
theorem relU_skip (h : RelU s B C w0 v (fromV none) k wr) (hk : k < s.size) (hb : spaceR (Utf8.decode s k).1 = true) (ho : ∀ n xs, wr.ownsRow B 9 1 v n xs → wr2.ownsRow B 9 1 v n xs) (hB : Below C w0 wr2) :
    RelU s B C w0 v (fromV none) (k + (Utf8.decode s k).2) wr2 := by
  obtain ⟨done, n, h3, h4, h5, h6, h7, h8⟩ := relU_none h
  have hw := Lib.decode_width_pos s k hk
  obtain ⟨m, rfl, hm⟩ := fuel h4 hk
  unfold wgU at h5
  rw [if_pos hk, hb] at h5
  exact ⟨none, done, m, rfl, fun f hf => (by cases hf), by omega, by omega, h5, ho _ _ h6, h7, hB⟩
theorem relU_begin (h : RelU s B C w0 v (fromV none) k wr) (hk : k < s.size) (hb : spaceR (Utf8.decode s k).1 = false) (ho : ∀ n xs, wr.ownsRow B 9 1 v n xs → wr2.ownsRow B 9 1 v n xs) (hB : Below C w0 wr2) :
    RelU s B C w0 v (.int .i64 (k : Int)) (k + (Utf8.decode s k).2) wr2 := by
  obtain ⟨done, n, h3, h4, h5, h6, h7, h8⟩ := relU_none h
  have hw := Lib.decode_width_pos s k hk
  obtain ⟨m, rfl, hm⟩ := fuel h4 hk
  unfold wgU at h5
  rw [if_pos hk, hb] at h5
  exact ⟨some k, done, m, rfl, fun f hf => (by cases hf; omega), by omega, by omega, h5, ho _ _ h6, h7, hB⟩
theorem relU_on {f : Nat} (h : RelU s B C w0 v (.int .i64 (f : Int)) k wr) (hk : k < s.size) (hb : spaceR (Utf8.decode s k).1 = false) (ho : ∀ n xs, wr.ownsRow B 9 1 v n xs → wr2.ownsRow B 9 1 v n xs) (hB : Below C w0 wr2) :
    RelU s B C w0 v (.int .i64 (f : Int)) (k + (Utf8.decode s k).2) wr2 := by
  obtain ⟨done, n, h1, h2, h3, h4, h5, h6, h7, h8⟩ := relU_some h
  have hw := Lib.decode_width_pos s k hk
  obtain ⟨m, rfl, hm⟩ := fuel h4 hk
  unfold wgU at h5
  rw [if_pos hk, hb] at h5
  exact ⟨some f, done, m, rfl, fun g hg => (by cases hg; omega), by omega, by omega, h5, ho _ _ h6, h7, hB⟩
theorem relU_word {f n : Nat} {v' : Value} {done : List (List UInt8)} (h4 : done.length ≤ k) (hn : s.size ≤ n + k) (h5 : done ++ wgU s n k (some f) = wordsU s) (hk : k < s.size) (hb : spaceR (Utf8.decode s k).1 = true)
    (ho : wr2.ownsRow B 9 1 v' (done.length + 1) (strs done ++ [.string (s.extract f k)])) (hB : Below C w0 wr2) :
    RelU s B C w0 v' (.int .i64 (-1)) (k + (Utf8.decode s k).2) wr2 := by
  have hw := Lib.decode_width_pos s k hk
  obtain ⟨m, rfl, hm⟩ := fuel hn hk
  unfold wgU at h5
  rw [if_pos hk, hb] at h5
  refine ⟨none, done ++ [(s.data.toList.drop f).take (k - f)], m, rfl, fun g hg => (by cases hg), by simp; omega, by omega, by rw [← h5]; simp, ?_, fun e => by simp at e, hB⟩
  rw [extract_sub] at ho
  rw [strs_append, List.length_append]
  simpa [strs] using ho
end
def WordsAre (ws : List (List UInt8)) (B : Nat) (e : Ending) (w' : World) : Prop :=
  ∃ v, e = .returned v ∧ w'.ownsRow B 9 1 v ws.length (strs ws) ∧ (ws = [] → v = .slice none 0 0)
theorem relU_end {s : ByteArray} {B C k : Nat} {w0 wr : World} {v : Value} (h : RelU s B C w0 v (fromV none) k wr) (hk : ¬ k < s.size) : WordsAre (wordsU s) B (.returned v) wr ∧ Below C w0 wr := by
  obtain ⟨done, n, h3, h4, h5, h6, h7, h8⟩ := relU_none h
  rw [wgU_end _ _ _ _ hk] at h5
  simp only [List.append_nil] at h5
  exact ⟨⟨v, rfl, by rw [← h5]; exact h6, fun e => h7 (by rw [h5, e])⟩, h8⟩
theorem relU_last {s : ByteArray} {B C f n k : Nat} {w0 wr2 : World} {v' : Value} {done : List (List UInt8)} (h5 : done ++ wgU s n k (some f) = wordsU s) (hk : ¬ k < s.size)
    (ho : wr2.ownsRow B 9 1 v' (done.length + 1) (strs done ++ [.string (s.extract f s.size)])) (hB : Below C w0 wr2) : WordsAre (wordsU s) B (.returned v') wr2 ∧ Below C w0 wr2 := by
  rw [wgU_end _ _ _ _ hk] at h5
  refine ⟨⟨v', rfl, ?_, fun e => ?_⟩, hB⟩
  · have hx := Lib.extract_to_end s f
    rw [eq_ofL hx] at ho
    rw [← h5, strs_append, List.length_append]
    simpa [strs] using ho
  · rw [← h5] at e
    simp at e
set_option maxHeartbeats 1000000 in
set_option maxRecDepth 100000 in
theorem fieldsU_any (s : ByteArray) (w : World) (hs : s.size ≤ 65536) :
    Calls Tryz.prog 59 #[.string s] w fun e w' => WordsAre (wordsU s) (w.heap.size + 1) e w' ∧ Below w.heap.size w w' := by
  obtain ⟨i0, hi, hz0, hz1, hz2⟩ := info_parts Tryz.info9
  go_enter Tryz.func59, Tryz.ntmps59
  go_wp2
  go_loopw [3, 4] (fun v fr wr => ∃ k : Nat, Hid (RelU s (w.heap.size + 1) w.heap.size w v fr k wr ∧ wr.heap[w.heap.size]? = some (.stringIter s k)) ∧ (fr = .int .i64 (-1) ∨ ∃ f : Nat, fr = .int .i64 (f : Int) ∧ f ≤ k ∧ f ≤ s.size)) (fun _ _ wr => s.size - wr.iterPos w.heap.size)
  case atStart =>
    exact ⟨0, Lib.hid ⟨⟨none, [], s.size, rfl, fun f h => (by cases h), Nat.zero_le _, by omega, rfl, World.ownsRow_nil _ _ _ _, fun _ => rfl, (Below.refl _ w).alloc (Nat.le_refl _) _⟩, World.iter_heap w s 0⟩, .inl rfl⟩
  case round =>
    obtain ⟨k, HR, hfr⟩ := hrel
    have hit := HR.out.2
    have hkz : w.heap.size < wr.heap.size := (Array.getElem?_eq_some_iff.1 hit).1
    have hrp : wr.iterPos w.heap.size = k := by simp only [World.iterPos, hit]
    by_cases hlt : k < s.size
    · have hwd := Lib.decode_width_pos s k hlt
      have hrl := decode_le s k
      have hnx : ∀ ty, (Instr.next (.pointer (some ⟨w.heap.size, 0, none⟩)) true ty).run Tryz.prog wr = _ := fun ty => Lib.run_next_any_at wr w.heap.size s k ty hit hlt
      have hO := own_iter (v := u3) (w := wr) (B := w.heap.size + 1) (k := w.heap.size) (pos := k + (Utf8.decode s k).2) (s := s) (by omega)
      have hit2 := Lib.iterAt_heap wr w.heap.size s k (k + (Utf8.decode s k).2) hit
      have hbel : Below w.heap.size w wr := by obtain ⟨_, _, _, -, -, -, -, -, -, -, hb⟩ := HR.out.1; exact hb
      have hbel2 := Lib.below_iterAt hbel (k := w.heap.size) (by omega) s (k + (Utf8.decode s k).2)
      have HSP := Lib.hid (fun w1 => space_all (Utf8.decode s k).1 w1 hrl)
      have hsz2 : w.heap.size + 1 ≤ (wr.iterAt w.heap.size s (k + (Utf8.decode s k).2)).heap.size := by rw [Lib.iterAt_size]; omega
      have HSKIP : Hid (∀ v' wr2, spaceR (Utf8.decode s k).1 = true → RelU s (w.heap.size + 1) w.heap.size w v' (fromV none) k wr → (∀ n xs, wr.ownsRow (w.heap.size + 1) 9 1 v' n xs → wr2.ownsRow (w.heap.size + 1) 9 1 v' n xs) → Below w.heap.size w wr2 → RelU s (w.heap.size + 1) w.heap.size w v' (fromV none) (k + (Utf8.decode s k).2) wr2) := Lib.hid (fun v' wr2 hb h ho hB => relU_skip h hlt hb ho hB)
      have HBEGIN : Hid (∀ v' wr2, spaceR (Utf8.decode s k).1 = false → RelU s (w.heap.size + 1) w.heap.size w v' (fromV none) k wr → (∀ n xs, wr.ownsRow (w.heap.size + 1) 9 1 v' n xs → wr2.ownsRow (w.heap.size + 1) 9 1 v' n xs) → Below w.heap.size w wr2 → RelU s (w.heap.size + 1) w.heap.size w v' (.int .i64 (k : Int)) (k + (Utf8.decode s k).2) wr2) := Lib.hid (fun v' wr2 hb h ho hB => relU_begin h hlt hb ho hB)
      have HON : Hid (∀ v' f wr2, spaceR (Utf8.decode s k).1 = false → RelU s (w.heap.size + 1) w.heap.size w v' (.int .i64 ((f : Nat) : Int)) k wr → (∀ n xs, wr.ownsRow (w.heap.size + 1) 9 1 v' n xs → wr2.ownsRow (w.heap.size + 1) 9 1 v' n xs) → Below w.heap.size w wr2 → RelU s (w.heap.size + 1) w.heap.size w v' (.int .i64 (f : Int)) (k + (Utf8.decode s k).2) wr2) := Lib.hid (fun v' f wr2 hb h ho hB => relU_on h hlt hb ho hB)
      have HWORD : Hid (∀ (v' : Value) (f n : Nat) (done : List (List UInt8)) (wr2 : World), spaceR (Utf8.decode s k).1 = true → done.length ≤ k → s.size ≤ n + k → done ++ wgU s n k (some f) = wordsU s → wr2.ownsRow (w.heap.size + 1) 9 1 v' (done.length + 1) (strs done ++ [.string (s.extract f k)]) → Below w.heap.size w wr2 → RelU s (w.heap.size + 1) w.heap.size w v' (.int .i64 (-1)) (k + (Utf8.decode s k).2) wr2) := Lib.hid (fun v' f n done wr2 hb h4 hn h5 ho hB => relU_word h4 hn h5 hlt hb ho hB)
      obtain ⟨d, hd⟩ : ∃ d, Utf8.decode s k = d := ⟨_, rfl⟩
      obtain ⟨r, wd⟩ := d
      rw [hd] at hwd hrl hnx hO hit2 hbel2 HSP hsz2 HSKIP HBEGIN HON HWORD
      dsimp only at hwd hrl hnx hO hit2 hbel2 HSP hsz2 HSKIP HBEGIN HON HWORD
      have HIT2 := Lib.hid hit2
      have HBEL2 := Lib.hid hbel2
      have HO := Lib.hid hO
      clear hd hit2 hbel hbel2 hO
      cases hsp : spaceR r with
      | true =>
        have HS := Lib.hid hsp
        rw [hsp] at HSP
        clear hsp
        rcases hfr with rfl | ⟨f, rfl, hf, hfs⟩
        · go_wp2_with (go_at_call 92; refine (HSP.out _).mono ?_; rintro e w1 ⟨rfl, rfl⟩)
          go_roundw
          case rel => exact ⟨k + wd, Lib.hid ⟨HSKIP.out _ _ HS.out HR.out.1 HO.out HBEL2.out, HIT2.out⟩, .inl rfl⟩
          case measure => simp only [World.iterPos, HIT2.out, hit]; omega
        · have hfk : (f : Int) ≤ (k : Int) := by omega
          have hks : (k : Int) ≤ (s.size : Int) := by omega
          obtain ⟨done, n, -, -, hmk, hn, h5, hown, -, -⟩ := relU_some HR.out.1
          have H5 := Lib.hid h5
          have HOWN := Lib.hid (HO.out _ _ hown)
          clear h5 hown
          go_wp2_with (first
            | (go_at_call 92; refine (HSP.out _).mono ?_; rintro e w1 ⟨rfl, rfl⟩)
            | (at_builtin; refine wpList_append_own _ rfl (.tmp 17) (.tmp 22) 114 rfl (w.heap.size + 1) 9 i0 (.string ⟨#[]⟩) 1 16 Tryz.underlying114 hi hz0 hz1 hz2 rfl (by decide) _ _ _ rfl (HOWN.out.alloc _) ⟨_, 0, none⟩ 1 1 [.string (s.extract f k)] rfl rfl (one_cell _ _ _) (by simp [Value.oneCell']) (by unfold maxLen; omega) (by omega) (by simp; omega) ?_; intro v' w3 hown3 hgrow3 _))
          have hgB : Below (w.heap.size + 1) (wr.iterAt w.heap.size s (k + wd)) w3 := ((Below.refl (w.heap.size + 1) _).alloc hsz2 _).grown hgrow3 (by simp; omega) (fun j hj => (HOWN.out.lt j hj).1)
          have hit3 := (hgB.block w.heap.size (by omega)).trans HIT2.out
          refine ⟨⟨k + wd, Lib.hid ⟨HWORD.out _ _ _ _ _ HS.out hmk hn H5.out hown3 (HBEL2.out.trans (hgB.mono (by omega))), hit3⟩, .inl rfl⟩, ?_⟩
          simp only [World.iterPos, hit3, hit]
          omega
      | false =>
        have HS := Lib.hid hsp
        rw [hsp] at HSP
        clear hsp
        rcases hfr with rfl | ⟨f, rfl, hf, hfs⟩
        · go_wp2_with (go_at_call 92; refine (HSP.out _).mono ?_; rintro e w1 ⟨rfl, rfl⟩)
          go_roundw
          case rel => exact ⟨k + wd, Lib.hid ⟨HBEGIN.out _ _ HS.out HR.out.1 HO.out HBEL2.out, HIT2.out⟩, .inr ⟨k, rfl, by omega, by omega⟩⟩
          case measure => simp only [World.iterPos, HIT2.out, hit]; omega
        · go_wp2_with (go_at_call 92; refine (HSP.out _).mono ?_; rintro e w1 ⟨rfl, rfl⟩)
          go_roundw
          case rel => exact ⟨k + wd, Lib.hid ⟨HON.out _ _ _ HS.out HR.out.1 HO.out HBEL2.out, HIT2.out⟩, .inr ⟨f, rfl, by omega, hfs⟩⟩
          case measure => simp only [World.iterPos, HIT2.out, hit]; omega
    · have hnx : ∀ ty, (Instr.next (.pointer (some ⟨w.heap.size, 0, none⟩)) true ty).run Tryz.prog wr = _ := fun ty => Lib.run_next_end_at wr w.heap.size s k ty hit hlt
      have HLT := Lib.hid hlt
      have hbel : Below w.heap.size w wr := by obtain ⟨_, _, _, -, -, -, -, -, -, -, hb⟩ := HR.out.1; exact hb
      have HBEL := Lib.hid hbel
      clear hbel hlt
      rcases hfr with rfl | ⟨f, rfl, hf, hfs⟩
      · go_wp2
        go_ret
        exact relU_end HR.out.1 HLT.out
      · obtain ⟨done, n, -, -, hmk, hn, h5, hown, -, -⟩ := relU_some HR.out.1
        have H5 := Lib.hid h5
        have HOWN := Lib.hid hown
        have hdl : done.length ≤ s.size := by
          have h6 := wordsU_count s
          rw [← h5, List.length_append] at h6
          omega
        clear h5 hown
        have hfs2 : (f : Int) ≤ (s.size : Int) := by omega
        go_wp2_with (at_builtin; refine wpList_append_own _ rfl (.tmp 29) (.tmp 33) 114 rfl (w.heap.size + 1) 9 i0 (.string ⟨#[]⟩) 1 16 Tryz.underlying114 hi hz0 hz1 hz2 rfl (by decide) _ _ _ rfl (HOWN.out.alloc _) ⟨_, 0, none⟩ 1 1 [.string (s.extract f s.size)] rfl rfl (one_cell _ _ _) (by simp [Value.oneCell']) (by unfold maxLen; omega) (by omega) (by simp; omega) ?_; intro v' w3 hown3 hgrow3 _)
        have hgB : Below (w.heap.size + 1) wr w3 := ((Below.refl (w.heap.size + 1) _).alloc (by omega) _).grown hgrow3 (by simp; omega) (fun j hj => (HOWN.out.lt j hj).1)
        go_ret
        exact relU_last H5.out HLT.out hown3 (HBEL.out.trans (hgB.mono (by omega)))
end Go.Proofs.YtmnjmhlodbifjaaGreatDoor.WordsU
