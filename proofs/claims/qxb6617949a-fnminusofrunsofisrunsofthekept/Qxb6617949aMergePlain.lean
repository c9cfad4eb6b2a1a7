/- A MERGE SORT FROM BELOW: THE PLAIN LAWS: rows as functions of the place; no Go in sight. -/
namespace Go.Proofs.Qxb6617949a.Merge
set_option linter.unusedSimpArgs false
set_option linter.unusedVariables false

/-- Ascending between lo and hi. -/
def Asc (A : Nat → Int) (lo hi : Nat) : Prop := ∀ s t, lo ≤ s → s ≤ t → t < hi → A s ≤ A t
/-- x stands between lo and hi. -/
def Img (A : Nat → Int) (lo hi : Nat) (x : Int) : Prop := ∃ t, lo ≤ t ∧ t < hi ∧ A t = x
/-- The row with place k turned. -/
def upd (B : Nat → Int) (k : Nat) (z : Int) : Nat → Int := fun t => if t = k then z else B t

theorem img_split {A : Nat → Int} {lo mid hi : Nat} (h1 : lo ≤ mid) (h2 : mid ≤ hi) (x : Int) : Img A lo hi x ↔ Img A lo mid x ∨ Img A mid hi x := by
  constructor
  · rintro ⟨t, a, b, c⟩
    by_cases h : t < mid
    · exact .inl ⟨t, a, h, c⟩
    · exact .inr ⟨t, by omega, b, c⟩
  · rintro (⟨t, a, b, c⟩ | ⟨t, a, b, c⟩)
    · exact ⟨t, a, by omega, c⟩
    · exact ⟨t, by omega, b, c⟩

theorem img_one {A : Nat → Int} {k : Nat} {x : Int} : Img A k (k + 1) x ↔ A k = x := by
  constructor
  · rintro ⟨t, a, b, c⟩
    obtain rfl : t = k := by omega
    exact c
  · intro h; exact ⟨k, Nat.le_refl _, by omega, h⟩

theorem img_none {A : Nat → Int} {k : Nat} {x : Int} : ¬ Img A k k x := by rintro ⟨t, a, b, _⟩; omega

theorem img_congr {A B : Nat → Int} {lo hi : Nat} (h : ∀ t, lo ≤ t → t < hi → A t = B t) (x : Int) : Img A lo hi x ↔ Img B lo hi x := by
  constructor
  · rintro ⟨t, a, b, c⟩; exact ⟨t, a, b, by rw [← h t a b]; exact c⟩
  · rintro ⟨t, a, b, c⟩; exact ⟨t, a, b, by rw [h t a b]; exact c⟩

theorem asc_congr {A B : Nat → Int} {lo hi : Nat} (h : ∀ t, lo ≤ t → t < hi → A t = B t) (ha : Asc A lo hi) : Asc B lo hi := fun s t a b c => by
  rw [← h s a (by omega), ← h t (by omega) c]; exact ha s t a b c

/-- Where the merging of [lo, mid) and [mid, hi) of A into B stands. -/
structure Mg (A B0 : Nat → Int) (lo mid hi : Nat) (B : Nat → Int) (i j k : Nat) : Prop where
  li : lo ≤ i
  im : i ≤ mid
  mj : mid ≤ j
  jh : j ≤ hi
  ke : k + mid = i + j
  asc : Asc B lo k
  lei : ∀ s t, lo ≤ s → s < k → i ≤ t → t < mid → B s ≤ A t
  lej : ∀ s t, lo ≤ s → s < k → j ≤ t → t < hi → B s ≤ A t
  img : ∀ x, Img B lo k x ↔ Img A lo i x ∨ Img A mid j x
  old : ∀ t, t < lo → B t = B0 t

theorem Mg.start {A B : Nat → Int} {lo mid hi : Nat} (h1 : lo ≤ mid) (h2 : mid ≤ hi) : Mg A B lo mid hi B lo mid lo :=
  ⟨Nat.le_refl _, h1, Nat.le_refl _, h2, by omega, fun s t a b c => by omega, fun s t a b => by omega, fun s t a b => by omega,
    fun x => ⟨fun h => absurd h img_none, fun h => h.elim (fun h => absurd h img_none) (fun h => absurd h img_none)⟩, fun t _ => rfl⟩

theorem upd_same (B : Nat → Int) (k : Nat) (z : Int) : upd B k z k = z := by simp [upd]
theorem upd_other (B : Nat → Int) (k t : Nat) (z : Int) (h : t ≠ k) : upd B k z t = B t := by simp [upd, h]

theorem img_upd {B : Nat → Int} {lo k : Nat} {z : Int} (h : lo ≤ k) (x : Int) : Img (upd B k z) lo (k + 1) x ↔ Img B lo k x ∨ z = x := by
  rw [img_split h (by omega) x, img_one, upd_same]
  rw [img_congr (A := upd B k z) (B := B) (lo := lo) (hi := k) (fun t _ h2 => upd_other B k t z (by omega)) x]

theorem asc_upd {B : Nat → Int} {lo k : Nat} {z : Int} (h : Asc B lo k) (hz : ∀ s, lo ≤ s → s < k → B s ≤ z) : Asc (upd B k z) lo (k + 1) := by
  intro s t a b c
  by_cases ht : t = k
  · subst ht
    rw [upd_same]
    by_cases hs : s = t
    · subst hs; rw [upd_same]; exact Int.le_refl _
    · rw [upd_other _ _ _ _ hs]; exact hz s a (by omega)
  · rw [upd_other _ _ _ _ ht, upd_other _ _ _ _ (by omega)]
    exact h s t a b (by omega)

theorem Mg.takeI {A B0 B : Nat → Int} {lo mid hi i j k : Nat} (h : Mg A B0 lo mid hi B i j k) (ha : Asc A lo mid) (hi' : i < mid) (hj : ∀ t, j ≤ t → t < hi → A i ≤ A t) : Mg A B0 lo mid hi (upd B k (A i)) (i + 1) j (k + 1) := by
  have e := h.ke
  have h1 := h.li
  have h2 := h.mj
  refine ⟨by omega, by omega, h.mj, h.jh, by omega, asc_upd h.asc (fun s a b => h.lei s i a b (Nat.le_refl _) hi'), ?_, ?_, ?_, ?_⟩
  · intro s t a b c d
    by_cases hs : s = k
    · subst hs; rw [upd_same]; exact ha i t h1 (by omega) d
    · rw [upd_other _ _ _ _ hs]; exact h.lei s t a (by omega) (by omega) d
  · intro s t a b c d
    by_cases hs : s = k
    · subst hs; rw [upd_same]; exact hj t c d
    · rw [upd_other _ _ _ _ hs]; exact h.lej s t a (by omega) c d
  · intro x
    rw [img_upd (by omega) x, h.img x, img_split (A := A) (lo := lo) (mid := i) (hi := i + 1) h1 (by omega) x, img_one]
    constructor
    · rintro ((h3 | h3) | h3)
      · exact .inl (.inl h3)
      · exact .inr h3
      · exact .inl (.inr h3)
    · rintro ((h3 | h3) | h3)
      · exact .inl (.inl h3)
      · exact .inr h3
      · exact .inl (.inr h3)
  · intro t ht; rw [upd_other _ _ _ _ (by omega)]; exact h.old t ht

theorem Mg.takeJ {A B0 B : Nat → Int} {lo mid hi i j k : Nat} (h : Mg A B0 lo mid hi B i j k) (ha : Asc A mid hi) (hj' : j < hi) (hii : ∀ t, i ≤ t → t < mid → A j ≤ A t) : Mg A B0 lo mid hi (upd B k (A j)) i (j + 1) (k + 1) := by
  have e := h.ke
  have h1 := h.li
  have h2 := h.mj
  refine ⟨h.li, h.im, by omega, by omega, by omega, asc_upd h.asc (fun s a b => h.lej s j a b (Nat.le_refl _) hj'), ?_, ?_, ?_, ?_⟩
  · intro s t a b c d
    by_cases hs : s = k
    · subst hs; rw [upd_same]; exact hii t c d
    · rw [upd_other _ _ _ _ hs]; exact h.lei s t a (by omega) c d
  · intro s t a b c d
    by_cases hs : s = k
    · subst hs; rw [upd_same]; exact ha j t h2 (by omega) d
    · rw [upd_other _ _ _ _ hs]; exact h.lej s t a (by omega) (by omega) d
  · intro x
    rw [img_upd (by omega) x, h.img x, img_split (A := A) (lo := mid) (mid := j) (hi := j + 1) h2 (by omega) x, img_one]
    constructor
    · rintro ((h3 | h3) | h3)
      · exact .inl h3
      · exact .inr (.inl h3)
      · exact .inr (.inr h3)
    · rintro (h3 | (h3 | h3))
      · exact .inl (.inl h3)
      · exact .inl (.inr h3)
      · exact .inr h3
  · intro t ht; rw [upd_other _ _ _ _ (by omega)]; exact h.old t ht

theorem Mg.done {A B0 B : Nat → Int} {lo mid hi k : Nat} (h : Mg A B0 lo mid hi B mid hi k) : k = hi ∧ Asc B lo hi ∧ (∀ x, Img B lo hi x ↔ Img A lo hi x) ∧ ∀ t, t < lo → B t = B0 t := by
  have e := h.ke
  obtain rfl : k = hi := by omega
  exact ⟨rfl, h.asc, fun x => by rw [h.img x, img_split h.li h.mj x], h.old⟩

/-- Each stretch of wd places, from a multiple of wd on, is ascending. -/
def Blk (A : Nat → Int) (n wd : Nat) : Prop := ∀ q, Asc A (q * wd) (min (q * wd + wd) n)

/-- Where a pass stands: the places below lo are done. -/
structure Pass (A : Nat → Int) (n wd : Nat) (B : Nat → Int) (q : Nat) : Prop where
  asc : ∀ p, p < q → Asc B (p * (2 * wd)) (min (p * (2 * wd) + 2 * wd) n)
  img : ∀ x, Img B 0 (min (q * (2 * wd)) n) x ↔ Img A 0 (min (q * (2 * wd)) n) x

theorem Pass.start (A : Nat → Int) (n wd : Nat) (B : Nat → Int) : Pass A n wd B 0 := by
  refine ⟨fun p hp => by omega, fun x => ?_⟩
  rw [show min (0 * (2 * wd)) n = 0 from by simp]
  exact ⟨fun h => absurd h img_none, fun h => absurd h img_none⟩

theorem Pass.next {A B B' : Nat → Int} {n wd q hi : Nat} (h : Pass A n wd B q) (hlo : q * (2 * wd) ≤ n) (hhi : hi = min (q * (2 * wd) + 2 * wd) n) (ha : Asc B' (q * (2 * wd)) hi) (him : ∀ x, Img B' (q * (2 * wd)) hi x ↔ Img A (q * (2 * wd)) hi x) (ho : ∀ t, t < q * (2 * wd) → B' t = B t) : Pass A n wd B' (q + 1) := by
  have e : (q + 1) * (2 * wd) = q * (2 * wd) + 2 * wd := by rw [Nat.add_mul, Nat.one_mul]
  refine ⟨fun p hp => ?_, fun x => ?_⟩
  · by_cases hpq : p < q
    · have hle : p * (2 * wd) + 2 * wd ≤ q * (2 * wd) := by
        have : (p + 1) * (2 * wd) ≤ q * (2 * wd) := Nat.mul_le_mul_right _ (by omega)
        rwa [Nat.add_mul, Nat.one_mul] at this
      exact asc_congr (fun t _ h2 => (ho t (by omega)).symm) (h.asc p hpq)
    · obtain rfl : p = q := by omega
      rw [← hhi]; exact ha
  · rw [e, ← hhi]
    have h1 := h.img x
    rw [show min (q * (2 * wd)) n = q * (2 * wd) from by omega] at h1
    rw [img_split (A := B') (lo := 0) (mid := q * (2 * wd)) (hi := hi) (by omega) (by omega) x, img_split (A := A) (lo := 0) (mid := q * (2 * wd)) (hi := hi) (by omega) (by omega) x, him x, ← h1,
      img_congr (A := B') (B := B) (fun t _ h2 => ho t h2) x]

theorem Pass.done {A B : Nat → Int} {n wd q : Nat} (h : Pass A n wd B q) (hq : n ≤ q * (2 * wd)) : Blk B n (2 * wd) ∧ ∀ x, Img B 0 n x ↔ Img A 0 n x := by
  refine ⟨fun p => ?_, fun x => ?_⟩
  · by_cases hp : p < q
    · exact h.asc p hp
    · have hle : q * (2 * wd) ≤ p * (2 * wd) := Nat.mul_le_mul_right _ (by omega)
      intro s t a b c
      omega
  · have := h.img x
    rwa [show min (q * (2 * wd)) n = n from by omega] at this

theorem blk_one (A : Nat → Int) (n : Nat) : Blk A n 1 := by
  intro q s t a b c
  obtain rfl : s = t := by omega
  exact Int.le_refl _

/-- The two halves that are merged are ascending. -/
theorem Blk.halves {A : Nat → Int} {n wd q : Nat} (h : Blk A n wd) : Asc A (q * (2 * wd)) (min (q * (2 * wd) + wd) n) ∧ Asc A (min (q * (2 * wd) + wd) n) (min (q * (2 * wd) + 2 * wd) n) := by
  have h1 := h (2 * q)
  have h2 := h (2 * q + 1)
  have e1 : 2 * q * wd = q * (2 * wd) := by rw [Nat.mul_comm 2 q, Nat.mul_assoc]
  have e2 : (2 * q + 1) * wd = q * (2 * wd) + wd := by rw [Nat.add_mul, Nat.one_mul, e1]
  rw [e1] at h1
  rw [e2] at h2
  refine ⟨h1, ?_⟩
  intro s t a b c
  by_cases hn : q * (2 * wd) + wd ≤ n
  · exact h2 s t (by omega) b (by omega)
  · omega

theorem Blk.whole {A : Nat → Int} {n wd : Nat} (h : Blk A n wd) (hw : n ≤ wd) : Asc A 0 n := by
  have := h 0
  rw [show 0 * wd = 0 from by simp] at this
  intro s t a b c
  exact this s t a b (by omega)

end Go.Proofs.Qxb6617949a.Merge
