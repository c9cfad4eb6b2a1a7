/- THE PLAIN LAW BEHIND 'splitRanges': no Go in sight. -/
namespace Go.Proofs.Qxb6617903a.SplitPlain
set_option linter.unusedSimpArgs false
set_option linter.unusedVariables false

/-- The k-th range. -/
def at' (ps : List (Int × Int)) (k : Nat) : Int × Int := ps.getD k (0, 0)
/-- Its units. -/
def sz (ps : List (Int × Int)) (k : Nat) : Int := (at' ps k).2 - (at' ps k).1 + 1
/-- The units of the first k ranges. -/
def S (ps : List (Int × Int)) : Nat → Int
  | 0 => 0
  | k + 1 => S ps k + sz ps k

/-- Each range is valid: its numbers are int64's, its first unit is not behind its last, its size fits an int64. -/
def Valid (ps : List (Int × Int)) : Prop := ∀ k, k < ps.length → -9223372036854775808 ≤ (at' ps k).1 ∧ (at' ps k).1 ≤ (at' ps k).2 ∧ (at' ps k).2 ≤ 9223372036854775807 ∧ (at' ps k).2 - (at' ps k).1 < 9223372036854775807

theorem sz_pos {ps : List (Int × Int)} (h : Valid ps) {k : Nat} (hk : k < ps.length) : 1 ≤ sz ps k ∧ sz ps k ≤ 9223372036854775807 := by
  have := h k hk; unfold sz; omega

theorem S_nonneg {ps : List (Int × Int)} (h : Valid ps) : ∀ k, k ≤ ps.length → 0 ≤ S ps k := by
  intro k
  induction k with
  | zero => intro _; exact Int.le_refl _
  | succ k ih => intro hk; have := ih (by omega); have := (sz_pos h (k := k) (by omega)).1; simp only [S]; omega

/-- The first k ranges go whole into the low part. -/
def Eats (ps : List (Int × Int)) (m : Int) (k : Nat) : Prop := ∀ j, j < k → sz ps j ≤ m - S ps j

theorem Eats.succ {ps : List (Int × Int)} {m : Int} {k : Nat} (h : Eats ps m k) (hk : sz ps k ≤ m - S ps k) : Eats ps m (k + 1) := by
  intro j hj
  by_cases e : j < k
  · exact h j e
  · obtain rfl : j = k := by omega
    exact hk

theorem Eats.le {ps : List (Int × Int)} {m : Int} {k : Nat} (h : Eats ps m k) : k = 0 ∨ S ps k ≤ m := by
  cases k with
  | zero => exact .inl rfl
  | succ k => right; have := h k (by omega); simp only [S]; omega

/-- What the two lists are. -/
def Split (ps : List (Int × Int)) (m : Int) (low high : List (Int × Int)) : Prop :=
  (low = ps ∧ high = [] ∧ Eats ps m ps.length) ∨
  ∃ k, k < ps.length ∧ Eats ps m k ∧ m - S ps k < sz ps k ∧
    ((0 < m - S ps k ∧ low = ps.take k ++ [((at' ps k).1, (at' ps k).1 + (m - S ps k) - 1)] ∧ high = ((at' ps k).1 + (m - S ps k), (at' ps k).2) :: ps.drop (k + 1)) ∨
     (m - S ps k ≤ 0 ∧ low = ps.take k ∧ high = at' ps k :: ps.drop (k + 1)))

theorem Split.lens {ps : List (Int × Int)} {m : Int} {low high : List (Int × Int)} (h : Split ps m low high) : low.length ≤ ps.length ∧ high.length ≤ ps.length := by
  rcases h with ⟨rfl, rfl, _⟩ | ⟨k, hk, _, _, ⟨_, rfl, rfl⟩ | ⟨_, rfl, rfl⟩⟩
  · simp
  · simp; omega
  · simp; omega

theorem at_map_fst (l : List (Int × Int)) (i : Nat) (h : i < l.length) : (l.map Prod.fst).getD i 0 = (at' l i).1 := by
  simp [at', List.getD, h]
theorem at_map_snd (l : List (Int × Int)) (i : Nat) (h : i < l.length) : (l.map Prod.snd).getD i 0 = (at' l i).2 := by
  simp [at', List.getD, h]

theorem at_take (l : List (Int × Int)) (k i : Nat) (h : i < k) : at' (l.take k) i = at' l i := by
  simp [at', List.getD, List.getElem?_take, h]
theorem at_app_lt (l r : List (Int × Int)) (i : Nat) (h : i < l.length) : at' (l ++ r) i = at' l i := by
  simp [at', List.getD, List.getElem?_append, h]
theorem at_app_eq (l : List (Int × Int)) (x : Int × Int) (i : Nat) (h : i = l.length) : at' (l ++ [x]) i = x := by
  subst h; simp [at', List.getD]
theorem at_cons_drop (x : Int × Int) (l : List (Int × Int)) (k i : Nat) (h : k < i) : at' (x :: l.drop (k + 1)) (i - k) = at' l i := by
  have e : i - k = (i - k - 1) + 1 := by omega
  rw [e]
  simp only [at', List.getD, List.getElem?_cons_succ, List.getElem?_drop]
  congr 2; omega

/-- All that the law's last loop asks of the two lists. -/
theorem Split.facts {ps : List (Int × Int)} {m : Int} {low high : List (Int × Int)} (h : Split ps m low high) :
    ∃ k c : Nat, k ≤ ps.length ∧ c ≤ 1 ∧ Eats ps m k ∧ low.length = k + c ∧ high.length = ps.length - k ∧ (∀ i, i < k → at' low i = at' ps i) ∧ (∀ i, k < i → i < ps.length → at' high (i - k) = at' ps i) ∧
      (k < ps.length → m - S ps k < sz ps k ∧ ((c = 1 ∧ 0 < m - S ps k ∧ at' low k = ((at' ps k).1, (at' ps k).1 + (m - S ps k) - 1) ∧ at' high 0 = ((at' ps k).1 + (m - S ps k), (at' ps k).2)) ∨ (c = 0 ∧ m - S ps k ≤ 0 ∧ at' high 0 = at' ps k))) ∧ (k = ps.length → c = 0) := by
  rcases h with ⟨rfl, rfl, he⟩ | ⟨k, hk, he, hlt, ⟨hp, rfl, rfl⟩ | ⟨hp, rfl, rfl⟩⟩
  · exact ⟨low.length, 0, Nat.le_refl _, by omega, he, by simp, by simp, fun _ _ => rfl, fun i h1 h2 => by omega, fun h => by omega, fun _ => rfl⟩
  · refine ⟨k, 1, by omega, by omega, he, by simp; omega, by simp; omega, fun i hi => ?_, fun i h1 h2 => at_cons_drop _ _ _ _ h1, fun _ => ⟨hlt, .inl ⟨rfl, hp, ?_, by simp [at', List.getD]⟩⟩, fun h => by omega⟩
    · rw [at_app_lt _ _ _ (by simp; omega), at_take _ _ _ hi]
    · exact at_app_eq _ _ _ (by simp; omega)
  · refine ⟨k, 0, by omega, by omega, he, by simp; omega, by simp; omega, fun i hi => at_take _ _ _ hi, fun i h1 h2 => at_cons_drop _ _ _ _ h1, fun _ => ⟨hlt, .inr ⟨rfl, hp, by simp [at', List.getD]⟩⟩, fun h => by omega⟩

/-- The greatest int64. -/
def Max : Int := 9223372036854775807
/-- The saturated sum. -/
def sat (a b : Int) : Int := if a + b ≤ 9223372036854775807 then a + b else 9223372036854775807
/-- max(n, 0). -/
def wantOf (m : Int) : Int := if m < 0 then 0 else m
/-- The clamp to at least 0; the clamp to at most the size. -/
def lowC (x : Int) : Int := if x < 0 then 0 else x
def upC (x z : Int) : Int := if z < x then z else x

/-- Where the law's last loop stands at round i. -/
def St (ps : List (Int × Int)) (m : Int) (k c i li hj : Nat) (bf : Int) : Prop :=
  (i ≤ k ∧ li = i ∧ hj = 0 ∧ bf = S ps i) ∨ (k < i ∧ li = k + c ∧ hj = i - k ∧ wantOf m ≤ bf ∧ bf ≤ 9223372036854775807)

theorem S_le_want {ps : List (Int × Int)} {m : Int} {k : Nat} (he : Eats ps m k) (hv : Valid ps) (hm : m ≤ 9223372036854775807) {i : Nat} (hi : i ≤ k) (hk : k ≤ ps.length) : 0 ≤ S ps i ∧ S ps i ≤ wantOf m ∧ wantOf m ≤ 9223372036854775807 := by
  have h0 := S_nonneg hv i (by omega)
  have h1 : Eats ps m i := fun j hj => he j (by omega)
  rcases h1.le with rfl | h
  · simp only [S, wantOf]; split <;> omega
  · simp only [wantOf]; split <;> omega

/-- ONE ROUND OF THE LAW's LAST LOOP. -/
theorem St.step {ps : List (Int × Int)} {m : Int} {low high : List (Int × Int)} {k c i li hj : Nat} {bf : Int} (hv : Valid ps) (hm : m ≤ 9223372036854775807)
    (hk : k ≤ ps.length) (hc : c ≤ 1) (he : Eats ps m k) (hll : low.length = k + c) (hhl : high.length = ps.length - k) (hlo : ∀ i, i < k → at' low i = at' ps i) (hhi : ∀ i, k < i → i < ps.length → at' high (i - k) = at' ps i)
    (hkk : k < ps.length → m - S ps k < sz ps k ∧ ((c = 1 ∧ 0 < m - S ps k ∧ at' low k = ((at' ps k).1, (at' ps k).1 + (m - S ps k) - 1) ∧ at' high 0 = ((at' ps k).1 + (m - S ps k), (at' ps k).2)) ∨ (c = 0 ∧ m - S ps k ≤ 0 ∧ at' high 0 = at' ps k)))
    (hs : St ps m k c i li hj bf) (hi : i < ps.length) :
    0 ≤ bf ∧ bf ≤ 9223372036854775807 ∧
    (0 < upC (lowC (wantOf m - bf)) (sz ps i) → li < low.length ∧ at' low li = ((at' ps i).1, (at' ps i).1 + upC (lowC (wantOf m - bf)) (sz ps i) - 1)) ∧
    (upC (lowC (wantOf m - bf)) (sz ps i) < sz ps i → hj < high.length ∧ at' high hj = ((at' ps i).1 + upC (lowC (wantOf m - bf)) (sz ps i), (at' ps i).2)) ∧
    St ps m k c (i + 1) (if 0 < upC (lowC (wantOf m - bf)) (sz ps i) then li + 1 else li) (if upC (lowC (wantOf m - bf)) (sz ps i) < sz ps i then hj + 1 else hj) (sat bf (sz ps i)) := by
  have hz := sz_pos hv hi
  rcases hs with ⟨h1, rfl, rfl, rfl⟩ | ⟨h1, rfl, rfl, h4, h5⟩
  · have hw := S_le_want he hv hm h1 hk
    by_cases hik : li < k
    · have hei := he li hik
      have hmw : wantOf m = m := by unfold wantOf; split <;> omega
      have eT : upC (lowC (wantOf m - S ps li)) (sz ps li) = sz ps li := by rw [hmw]; unfold upC lowC; split <;> split <;> omega
      rw [eT]
      refine ⟨hw.1, by omega, fun _ => ⟨by omega, ?_⟩, fun h => by omega, ?_⟩
      · rw [hlo li hik]; unfold sz
        exact Prod.ext rfl (by show _ = _; omega)
      · rw [if_pos (by omega), if_neg (by omega)]
        have hw2 := S_le_want he hv hm (i := li + 1) (by omega) hk
        left
        refine ⟨by omega, rfl, rfl, ?_⟩
        simp only [S] at hw2
        simp only [S, sat]
        rw [if_pos (by omega)]
    · obtain rfl : k = li := by omega
      obtain ⟨hlt, hcase⟩ := hkk hi
      have hw3 : wantOf m ≤ sat (S ps k) (sz ps k) ∧ sat (S ps k) (sz ps k) ≤ 9223372036854775807 := by
        have : wantOf m ≤ S ps k + sz ps k := by unfold wantOf; split <;> omega
        unfold sat; split <;> omega
      rcases hcase with ⟨rfl, hp, e1, e2⟩ | ⟨rfl, hp, e2⟩
      · have hmw : wantOf m = m := by unfold wantOf; split <;> omega
        have eT : upC (lowC (wantOf m - S ps k)) (sz ps k) = m - S ps k := by rw [hmw]; unfold upC lowC; split <;> split <;> omega
        rw [eT]
        refine ⟨hw.1, by omega, fun _ => ⟨by omega, e1⟩, fun _ => ⟨by omega, e2⟩, ?_⟩
        rw [if_pos hp, if_pos hlt]
        exact .inr ⟨by omega, rfl, by omega, hw3⟩
      · have eT : upC (lowC (wantOf m - S ps k)) (sz ps k) = 0 := by
          have : wantOf m - S ps k ≤ 0 := by
            rcases he.le with rfl | h
            · unfold wantOf; simp only [S] at hp hw ⊢; split <;> omega
            · unfold wantOf at hw ⊢; split <;> omega
          unfold upC lowC; split <;> split <;> omega
        rw [eT]
        refine ⟨hw.1, by omega, fun h => by omega, fun _ => ⟨by omega, ?_⟩, ?_⟩
        · rw [e2]; simp
        · rw [if_neg (by omega), if_pos (by omega)]
          exact .inr ⟨by omega, rfl, by omega, hw3⟩
  · have h0 : 0 ≤ bf := by have : 0 ≤ wantOf m := by { unfold wantOf; split <;> omega }
                           omega
    have eT : upC (lowC (wantOf m - bf)) (sz ps i) = 0 := by unfold upC lowC; split <;> split <;> omega
    rw [eT]
    refine ⟨h0, h5, fun h => by omega, fun _ => ⟨by omega, ?_⟩, ?_⟩
    · rw [hhi i h1 hi]; simp
    · rw [if_neg (by omega), if_pos (by omega)]
      refine .inr ⟨by omega, rfl, by omega, ?_, ?_⟩
      · unfold sat; split <;> omega
      · unfold sat; split <;> omega

end Go.Proofs.Qxb6617903a.SplitPlain
