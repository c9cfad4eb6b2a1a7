/- THE PLAIN LAW BEHIND 'rank': no Go in sight. -/
namespace Go.Proofs.Qxb6617903a.RankPlain
set_option linter.unusedSimpArgs false
set_option linter.unusedVariables false

/-- How many of the numbers are at most p. -/
def cnt (zs : List Int) (p : Int) : Nat := zs.countP (fun z => decide (z ≤ p))

/-- Strictly ascending, by places. -/
def Asc (zs : List Int) : Prop := ∀ i, i + 1 < zs.length → zs.getD i 0 < zs.getD (i + 1) 0

theorem asc_le {zs : List Int} (h : Asc zs) : ∀ d i, i + d < zs.length → zs.getD i 0 ≤ zs.getD (i + d) 0 := by
  intro d
  induction d with
  | zero => intro i _; exact Int.le_refl _
  | succ d ih =>
    intro i hi
    have h1 := ih i (by omega)
    have h2 := h (i + d) (by omega)
    have e : i + (d + 1) = i + d + 1 := by omega
    rw [e]; omega

theorem asc_mono {zs : List Int} (h : Asc zs) {i j : Nat} (hij : i ≤ j) (hj : j < zs.length) : zs.getD i 0 ≤ zs.getD j 0 := by
  have := asc_le h (j - i) i (by omega)
  rwa [show i + (j - i) = j from by omega] at this

theorem getD_take (zs : List Int) (k i : Nat) (h : i < k) : (zs.take k).getD i 0 = zs.getD i 0 := by
  simp [List.getD, List.getElem?_take, h]

theorem getD_drop (zs : List Int) (k i : Nat) : (zs.drop k).getD i 0 = zs.getD (k + i) 0 := by
  simp [List.getD, List.getElem?_drop]

theorem asc_take {zs : List Int} (h : Asc zs) (k : Nat) : Asc (zs.take k) := by
  intro i hi
  simp at hi
  rw [getD_take _ _ _ (by omega), getD_take _ _ _ (by omega)]
  exact h i (by omega)

theorem asc_drop {zs : List Int} (h : Asc zs) (k : Nat) : Asc (zs.drop k) := by
  intro i hi
  simp at hi
  rw [getD_drop, getD_drop]
  exact h (k + i) (by omega)

theorem cnt_le (zs : List Int) (p : Int) : cnt zs p ≤ zs.length := List.countP_le_length

theorem cnt_split (zs : List Int) (p : Int) (k : Nat) : cnt (zs.take k) p + cnt (zs.drop k) p = cnt zs p := by
  unfold cnt
  rw [← List.countP_append, List.take_append_drop]

theorem cnt_all (zs : List Int) (p : Int) (h : ∀ i, i < zs.length → zs.getD i 0 ≤ p) : cnt zs p = zs.length := by
  unfold cnt
  rw [List.countP_eq_length]
  intro z hz
  obtain ⟨i, hi, rfl⟩ := List.getElem_of_mem hz
  have := h i hi
  simp [List.getD, hi] at this
  simpa using this

theorem cnt_none (zs : List Int) (p : Int) (h : ∀ i, i < zs.length → p < zs.getD i 0) : cnt zs p = 0 := by
  unfold cnt
  rw [List.countP_eq_zero]
  intro z hz
  obtain ⟨i, hi, rfl⟩ := List.getElem_of_mem hz
  have := h i hi
  simp [List.getD, hi] at this
  simpa using this

/-- Where all below place k are at most p and none from k on is, k is the count. -/
theorem cnt_at (zs : List Int) (p : Int) (k : Nat) (hk : k ≤ zs.length) (h1 : ∀ i, i < k → zs.getD i 0 ≤ p) (h2 : ∀ i, k ≤ i → i < zs.length → p < zs.getD i 0) : cnt zs p = k := by
  rw [← cnt_split zs p k, cnt_all, cnt_none]
  · simp; omega
  · intro i hi
    simp at hi
    rw [getD_drop]
    exact h2 _ (by omega) (by omega)
  · intro i hi
    simp at hi
    rw [getD_take _ _ _ (by omega)]
    exact h1 _ (by omega)

/-- One element more. -/
theorem cnt_step (zs : List Int) (p : Int) (k : Nat) (hk : k < zs.length) : cnt (zs.take (k + 1)) p = cnt (zs.take k) p + if zs.getD k 0 ≤ p then 1 else 0 := by
  unfold cnt
  rw [List.take_succ_eq_append_getElem hk, List.countP_append]
  simp [List.getD, hk, List.countP_cons]

end Go.Proofs.Qxb6617903a.RankPlain
