/- Plain lemmas: clocks by their offsets: what a plain zone's clocks show from second to second, and the second that the program takes for what clocks show. Conditions: a plain zone in the window. -/
import Derived.IntWalk
namespace Go.Proofs.Ytoekefbclkmchaa.Off

/-- A zone's clocks, by their offset at each second, go as those of most zones do from second A to second B. -/
structure Plain (off : Int → Int) (A B : Int) : Prop where
  bd : ∀ s, -86400 ≤ off s ∧ off s ≤ 86400
  m60 : ∀ s, A ≤ s → s ≤ B → off s % 60 = 0
  far : ∀ v w, A < v → v < w → w ≤ B → off (v - 1) ≠ off v → off (w - 1) ≠ off w → 345600 ≤ w - v
  ch : ∀ w, A < w → w ≤ B → off (w - 1) ≠ off w → (w + off (w - 1)) % 3600 = 0 ∧ (w + off w) % 3600 = 0 ∧ off (w - 1) - 3600 ≤ off w ∧ (w + off (w - 1)) / 86400 = (w + off w) / 86400 ∧ 3600 ≤ (w + off (w - 1)) % 86400 ∧ 3600 ≤ (w + off w) % 86400

/-- What the clocks show. -/
def lo (off : Int → Int) (s : Int) : Int := s + off s
def day (off : Int → Int) (s : Int) : Int := lo off s / 86400
def tod (off : Int → Int) (s : Int) : Int := lo off s % 86400

variable {off : Int → Int} {A B : Int}

theorem const (a : Int) (n : Nat) (h : ∀ w, a < w → w ≤ a + n → off (w - 1) = off w) : off (a + n) = off a := by
  induction n with
  | zero => simp
  | succ n ih =>
    have h1 := ih (fun w h1 h2 => h w h1 (by omega))
    have h2 := h (a + (n + 1 : Nat)) (by omega) (by omega)
    rw [← h2, show a + ((n + 1 : Nat) : Int) - 1 = a + n by omega, h1]
theorem const' {a b : Int} (hab : a ≤ b) (h : ∀ w, a < w → w ≤ b → off (w - 1) = off w) : off b = off a := by
  have := const (off := off) a (b - a).toNat (fun w h1 h2 => h w h1 (by omega))
  rwa [show a + ((b - a).toNat : Int) = b by omega] at this

/-- What may happen at a change. -/
structure Ch (w p q : Int) : Prop where
  hp : (w + p) % 3600 = 0
  hq : (w + q) % 3600 = 0
  back : p - 3600 ≤ q
  same : (w + p) / 86400 = (w + q) / 86400
  ep : 3600 ≤ (w + p) % 86400
  eq : 3600 ≤ (w + q) % 86400
  ne : p ≠ q

/-- At most one change within four days. -/
theorem near (hP : Plain off A B) {a b : Int} (hA : A ≤ a) (hab : a ≤ b) (hB : b ≤ B) (hd : b - a < 345600) :
    (∀ x, a ≤ x → x ≤ b → off x = off a) ∨ ∃ w, a < w ∧ w ≤ b ∧ (∀ x, a ≤ x → x < w → off x = off a) ∧ (∀ x, w ≤ x → x ≤ b → off x = off w) ∧ Ch w (off a) (off w) := by
  by_cases hc : ∃ w, a < w ∧ w ≤ b ∧ off (w - 1) ≠ off w
  · obtain ⟨w, h1, h2, h3⟩ := hc
    right
    have e1 : ∀ x, a ≤ x → x < w → off x = off a := fun x hx1 hx2 => const' hx1 fun v v1 v2 => by
      by_cases hv : off (v - 1) = off v
      · exact hv
      · have := hP.far v w (by omega) (by omega) (by omega) hv h3; omega
    have e2 : ∀ x, w ≤ x → x ≤ b → off x = off w := fun x hx1 hx2 => const' hx1 fun v v1 v2 => by
      by_cases hv : off (v - 1) = off v
      · exact hv
      · have := hP.far w v (by omega) (by omega) (by omega) h3 hv; omega
    obtain ⟨c1, c2, c3, c4, c5, c6⟩ := hP.ch w (by omega) (by omega) h3
    rw [e1 (w - 1) (by omega) (by omega)] at c1 c3 c4 c5 h3
    exact ⟨w, h1, h2, e1, e2, c1, c2, c3, c4, c5, c6, h3⟩
  · left
    exact fun x hx1 hx2 => const' hx1 fun v v1 v2 => by
      by_cases hv : off (v - 1) = off v
      · exact hv
      · exact absurd ⟨v, by omega, by omega, hv⟩ hc

/-- The days never go back. -/
theorem day_mono_near (hP : Plain off A B) {a b : Int} (hA : A ≤ a) (hab : a ≤ b) (hB : b ≤ B) (hd : b - a < 345600) : day off a ≤ day off b := by
  unfold day lo
  rcases near hP hA hab hB hd with h | ⟨w, h1, h2, h3, h4, c⟩
  · rw [h b hab (Int.le_refl _)]; omega
  · obtain ⟨c1, c2, c3, c4, c5, c6, c7⟩ := c
    rw [h4 b h2 (Int.le_refl _)]; omega
theorem day_mono (hP : Plain off A B) {a b : Int} (hA : A ≤ a) (hab : a ≤ b) (hB : b ≤ B) : day off a ≤ day off b := by
  have key : ∀ n : Nat, a + n ≤ B → day off a ≤ day off (a + n) := by
    intro n
    induction n with
    | zero => intro _; simp
    | succ n ih =>
      intro hn
      have h1 := ih (by omega)
      have h2 := day_mono_near hP (a := a + n) (b := a + (n + 1 : Nat)) (by omega) (by omega) hn (by omega)
      omega
  have := key (b - a).toNat (by omega)
  rwa [show a + ((b - a).toNat : Int) = b by omega] at this

/-- A stretch up to the next full hour, minute or second: no change within. -/
theorem unit_step (hP : Plain off A B) (d : Int) (hd : d = 1 ∨ d = 60 ∨ d = 3600) {t : Int} (hA : A ≤ t) (hB : t + d ≤ B) (h0 : lo off t % d = 0) :
    (∀ y, t ≤ y → y < t + d → lo off y = lo off t + (y - t)) ∧
    (lo off (t + d) = lo off t + d ∨ (lo off (t + d) % 3600 = 0 ∧ (lo off t + d) % 3600 = 0 ∧ day off (t + d) = day off t ∧ 3600 ≤ tod off (t + d) ∧ (lo off t + d) % 86400 ≠ 0)) := by
  unfold lo day tod lo at *
  rcases near hP hA (show t ≤ t + d by omega) hB (by omega) with h | ⟨w, h1, h2, h3, h4, c⟩
  · refine ⟨fun y y1 y2 => by rw [h y y1 (by omega)]; omega, .inl ?_⟩
    rw [h (t + d) (by omega) (Int.le_refl _)]; omega
  · obtain ⟨c1, c2, c3, c4, c5, c6, c7⟩ := c
    have hw : w = t + d := by rcases hd with rfl | rfl | rfl <;> omega
    subst hw
    refine ⟨fun y y1 y2 => by rw [h3 y y1 y2]; omega, .inr ?_⟩
    rcases hd with rfl | rfl | rfl <;> omega

/-- Back to the beginning of the minute. -/
theorem minute_back (hP : Plain off A B) {s : Int} (hA : A + 60 ≤ s) (hB : s ≤ B) :
    ∀ y, s - lo off s % 60 ≤ y → y ≤ s → lo off y = lo off s - (s - y) := by
  unfold lo
  intro y y1 y2
  rcases near hP (show A ≤ y by omega) y2 hB (by omega) with h | ⟨w, h1, h2, h3, h4, c⟩
  · rw [h s y2 (Int.le_refl _)]; omega
  · obtain ⟨c1, c2, c3, c4, c5, c6, c7⟩ := c
    rw [h4 s h2 (Int.le_refl _)] at *
    omega
/-- The beginning of the hour. -/
theorem hour_back (hP : Plain off A B) {s : Int} (hA : A + 3600 ≤ s) (hB : s ≤ B) :
    ∀ y, s - lo off s % 3600 ≤ y → y ≤ s → lo off y = lo off s - (s - y) := by
  unfold lo
  intro y y1 y2
  rcases near hP (show A ≤ y by omega) y2 hB (by omega) with h | ⟨w, h1, h2, h3, h4, c⟩
  · rw [h s y2 (Int.le_refl _)]; omega
  · obtain ⟨c1, c2, c3, c4, c5, c6, c7⟩ := c
    rw [h4 s h2 (Int.le_refl _)] at *
    omega
/-- The beginning of the day. -/
theorem day_back (hP : Plain off A B) {s : Int} (hA : A + 172800 ≤ s) (hB : s ≤ B) :
    ∃ x, s - 89999 ≤ x ∧ x ≤ s ∧ lo off x = 86400 * day off s ∧ ∀ y, x ≤ y → y ≤ s → day off y = day off s := by
  have hb := hP.bd
  unfold day lo
  rcases near hP (show A ≤ s - 172800 by omega) (show s - 172800 ≤ s by omega) hB (by omega) with h | ⟨w, h1, h2, h3, h4, c⟩
  · have e := h s (by omega) (Int.le_refl _)
    refine ⟨s - (s + off s) % 86400, by omega, by omega, ?_, fun y y1 y2 => ?_⟩
    · rw [h (s - (s + off s) % 86400) (by omega) (by omega)]; omega
    · rw [h y (by omega) y2]; omega
  · obtain ⟨c1, c2, c3, c4, c5, c6, c7⟩ := c
    have e := h4 s h2 (Int.le_refl _)
    by_cases hw : w ≤ s - (s + off s) % 86400
    · refine ⟨s - (s + off s) % 86400, by omega, by omega, ?_, fun y y1 y2 => ?_⟩
      · rw [h4 _ hw (by omega)]; omega
      · rw [h4 y (by omega) y2]; omega
    · generalize off (s - 172800) = oa at *
      have hx1 : s - 89999 ≤ w - (w + oa) % 86400 := by omega
      refine ⟨w - (w + oa) % 86400, hx1, by omega, ?_, fun y y1 y2 => ?_⟩
      · rw [h3 _ (by omega) (by omega)]; omega
      · by_cases hy : y < w
        · rw [h3 y (by omega) hy]; omega
        · rw [h4 y (by omega) y2]; omega

/-- The beginning of the next day. -/
theorem day_next (hP : Plain off A B) {t N : Int} (hA : A ≤ t) (hB : t + 172800 ≤ B) (h0 : lo off t = 86400 * N) :
    ∃ x, t < x ∧ x ≤ t + 90000 ∧ lo off x = 86400 * (N + 1) ∧ ∀ y, t ≤ y → y < x → day off y = N := by
  have hb := hP.bd
  unfold day lo at *
  rcases near hP hA (show t ≤ t + 172800 by omega) hB (by omega) with h | ⟨w, h1, h2, h3, h4, c⟩
  · refine ⟨t + 86400, by omega, by omega, ?_, fun y y1 y2 => ?_⟩
    · rw [h _ (by omega) (by omega)]; omega
    · rw [h y (by omega) (by omega)]; omega
  · obtain ⟨c1, c2, c3, c4, c5, c6, c7⟩ := c
    by_cases hw : t + 86400 < w
    · refine ⟨t + 86400, by omega, by omega, ?_, fun y y1 y2 => ?_⟩
      · rw [h3 _ (by omega) (by omega)]; omega
      · rw [h3 y (by omega) (by omega)]; omega
    · generalize off w = ob at *
      refine ⟨w + (86400 - (w + ob) % 86400), by omega, by omega, ?_, fun y y1 y2 => ?_⟩
      · rw [h4 _ (by omega) (by omega)]; omega
      · by_cases hy : y < w
        · rw [h3 y (by omega) hy]; omega
        · rw [h4 y (by omega) (by omega)]; omega

/-- The second that the program takes for what clocks show. -/
def resolve (off : Int → Int) (u : Int) : Int := u - off (u - off u)

theorem resolve_shows (hP : Plain off A B) {x : Int} (hA : A + 172800 ≤ x) (hB : x + 172800 ≤ B) (h6 : lo off x % 3600 = 0) :
    lo off (resolve off (lo off x)) = lo off x ∧ (resolve off (lo off x) = x ∨
      (resolve off (lo off x) = x + 3600 ∧ (∀ y, x ≤ y → y < x + 3600 → lo off y = lo off x + (y - x)) ∧ 3600 ≤ tod off x) ∨
      (resolve off (lo off x) = x - 3600 ∧ (∀ y, x - 3600 ≤ y → y < x → lo off y = lo off x + (y - (x - 3600))) ∧ 3600 ≤ tod off x)) := by
  have hb := hP.bd
  have hx := hb x
  have hu := hb (x + off x)
  have hr := hb (x + off x - off (x + off x))
  unfold resolve tod lo at *
  -- all of it within a day of x + off x
  by_cases e1 : off (x + off x) = off x
  · have e3 : x + off x - off (x + off x - off (x + off x)) = x := by rw [e1, show x + off x - off x = x by omega]; omega
    rw [e3]
    exact ⟨rfl, .inl rfl⟩
  · by_cases e2 : off (x + off x - off (x + off x)) = off x
    · rw [e2, show x + off x - off x = x by omega]
      exact ⟨rfl, .inl rfl⟩
    · rcases near hP (show A ≤ x + off x - 86400 by omega) (show x + off x - 86400 ≤ x + off x + 86400 by omega) (by omega) (by omega) with h | ⟨w, h1, h2, h3, h4, c⟩
      · have a1 := h x (by omega) (by omega)
        have a2 := h (x + off x) (by omega) (by omega)
        omega
      · generalize hu' : x + off x = u at *
        generalize hoa : off (u - 86400) = oa at *
        generalize hob : off w = ob at *
        have val : ∀ z, u - 86400 ≤ z → z ≤ u + 86400 → (z < w ∧ off z = oa) ∨ (w ≤ z ∧ off z = ob) := fun z z1 z2 => by
          by_cases hz : z < w
          · exact .inl ⟨hz, h3 z z1 hz⟩
          · exact .inr ⟨by omega, h4 z (by omega) z2⟩
        have vx := val x (by omega) (by omega)
        have vu := val u (by omega) (by omega)
        have vr := val (u - off u) (by omega) (by omega)
        obtain ⟨c1, c2, c3, c4, c5, c6, c7⟩ := c
        rcases vx with ⟨x1, x2⟩ | ⟨x1, x2⟩
        · have g1 : off u = ob := by omega
          have g2 : off (u - off u) = ob := by omega
          have g3 : w = x + 3600 := by omega
          rw [g2]
          refine ⟨?_, .inr (.inl ⟨by omega, fun y y1 y2 => ?_, by omega⟩)⟩
          · rw [g1] at g2; rw [g2]; omega
          · rw [h3 y (by omega) (by omega)]; omega
        · have g1 : off u = oa := by omega
          have g2 : off (u - off u) = oa := by omega
          have g3 : w = x := by omega
          rw [g2]
          refine ⟨?_, .inr (.inr ⟨by omega, fun y y1 y2 => ?_, by omega⟩)⟩
          · rw [g1] at g2; rw [g2]; omega
          · rw [h3 y (by omega) (by omega)]; omega

end Go.Proofs.Ytoekefbclkmchaa.Off
