/- THE RUNS OF AN ASCENDING LIST: THE PLAIN LAWS: no Go in sight. -/
import Derived.Test.Qxb6617949aPlain
namespace Go.Proofs.Qxb6617949a.Plain
set_option linter.unusedSimpArgs false
set_option linter.unusedVariables false

/-- Each number is an index. -/
def Idx (zs : List Int) : Prop := ∀ z ∈ zs, 0 ≤ z ∧ z ≤ 9223372036854775807

/-- What runsOf gives: a valid set of just these. -/
def RunsIs (zs : List Int) (o : List (Int × Int)) : Prop := Val o ∧ ∀ x, Mem o x ↔ x ∈ zs

theorem runs_ext {xs ys : List Int} {o p : List (Int × Int)} (h : RunsIs xs o) (k : RunsIs ys p) (e : ∀ x, x ∈ xs ↔ x ∈ ys) : o = p :=
  val_ext h.1 k.1 (fun x => by rw [h.2 x, k.2 x]; exact e x)

def srt (zs : List Int) : List Int := zs.mergeSort fun x y => decide (x ≤ y)

theorem mem_srt {zs : List Int} {x : Int} : x ∈ srt zs ↔ x ∈ zs := by unfold srt; exact List.mem_mergeSort
theorem srt_length (zs : List Int) : (srt zs).length = zs.length := by unfold srt; exact List.length_mergeSort _
theorem srt_le (zs : List Int) : ∀ i, i + 1 < (srt zs).length → (srt zs).getD i 0 ≤ (srt zs).getD (i + 1) 0 := by
  intro i hi
  have h : (srt zs).Pairwise (fun x y => decide (x ≤ y) = true) := by
    unfold srt
    exact List.pairwise_mergeSort (fun a b c h1 h2 => by simp at *; omega) (fun a b => by simp; omega) zs
  have := (List.pairwise_iff_getElem.1 h) i (i + 1) (by omega) hi (by omega)
  simpa [List.getD, hi, show i < (srt zs).length by omega] using this

/-- Behind k elements. -/
structure RInv (ts : List Int) (k : Nat) (out : List (Int × Int)) : Prop where
  v : Val out
  m : ∀ x, Mem out x ↔ x ∈ ts.take k
  l : 0 < k → ∃ ini l, out = ini ++ [l] ∧ l.2 = ts.getD (k - 1) 0
  n : out.length ≤ k

theorem RInv.start (ts : List Int) : RInv ts 0 [] := ⟨val_nil, fun x => by simp [Mem], fun h => by omega, Nat.le_refl _⟩

theorem take_snoc (ts : List Int) (k : Nat) (h : k < ts.length) : ts.take (k + 1) = ts.take k ++ [ts.getD k 0] := by
  rw [List.take_succ_eq_append_getElem h]; simp [List.getD, h]

theorem RInv.fresh {ts : List Int} {k : Nat} {out : List (Int × Int)} (h : RInv ts k out) (hk : k < ts.length) (hi : Idx ts) (hn : 0 < k → ts.getD (k - 1) 0 < ts.getD k 0 - 1) : RInv ts (k + 1) (out ++ [(ts.getD k 0, ts.getD k 0)]) := by
  have ht : 0 ≤ ts.getD k 0 ∧ ts.getD k 0 ≤ 9223372036854775807 := by have := hi ts[k] (List.getElem_mem hk); simpa [List.getD, hk] using this
  refine ⟨val_snoc.2 ⟨h.v, ⟨ht.1, Int.le_refl _, ht.2⟩, ?_⟩, fun x => ?_, fun _ => ⟨out, _, rfl, by simp⟩, by have := h.n; simp; omega⟩
  · intro q hq
    by_cases h0 : 0 < k
    · obtain ⟨ini, l, rfl, e⟩ := h.l h0
      have hlt := hn h0
      rcases List.mem_append.1 hq with hq | hq
      · have := (val_snoc.1 h.v).2.2 q hq
        have := (val_snoc.1 h.v).2.1.2.1
        show q.2 + 1 < ts.getD k 0
        omega
      · simp at hq; subst hq
        show q.2 + 1 < ts.getD k 0
        omega
    · have := h.n
      have : out = [] := List.eq_nil_of_length_eq_zero (by omega)
      subst this
      simp at hq
  · rw [mem_snoc, h.m x, take_snoc ts k hk, List.mem_append]
    constructor
    · rintro (h1 | h1)
      · exact .inl h1
      · right
        have h2 : ts.getD k 0 ≤ x ∧ x ≤ ts.getD k 0 := h1
        simp only [List.mem_singleton]; omega
    · rintro (h1 | h1)
      · exact .inl h1
      · right
        simp only [List.mem_singleton] at h1
        subst h1
        exact ⟨Int.le_refl _, Int.le_refl _⟩

theorem RInv.longer {ts : List Int} {k : Nat} {ini : List (Int × Int)} {l : Int × Int} (h : RInv ts k (ini ++ [l])) (hk : k < ts.length) (hi : Idx ts) (h0 : 0 < k) (hs : ts.getD (k - 1) 0 ≤ ts.getD k 0) (hn : ts.getD k 0 - 1 ≤ ts.getD (k - 1) 0) : RInv ts (k + 1) (ini ++ [(l.1, ts.getD k 0)]) := by
  have ht : 0 ≤ ts.getD k 0 ∧ ts.getD k 0 ≤ 9223372036854775807 := by have := hi ts[k] (List.getElem_mem hk); simpa [List.getD, hk] using this
  obtain ⟨ini', l', e, e2⟩ := h.l h0
  have e3 : ini = ini' ∧ l = l' := by
    have h1 := List.append_inj_left' e rfl
    have h2 := List.append_inj_right' e rfl
    simp at h2
    exact ⟨h1, h2⟩
  obtain ⟨rfl, rfl⟩ := e3
  obtain ⟨v1, v2, v3⟩ := val_snoc.1 h.v
  refine ⟨val_snoc.2 ⟨v1, ⟨v2.1, ?_, ht.2⟩, v3⟩, fun x => ?_, fun _ => ⟨ini, _, rfl, by simp⟩, by have := h.n; simp at this ⊢; omega⟩
  · show l.1 ≤ ts.getD k 0
    have := v2.2.1; omega
  · have hm := h.m x
    rw [mem_snoc] at hm
    rw [mem_snoc, take_snoc ts k hk, List.mem_append, ← hm]
    constructor
    · rintro (h1 | h1)
      · exact .inl (.inl h1)
      · have h2 : l.1 ≤ x ∧ x ≤ ts.getD k 0 := h1
        by_cases hx : x ≤ l.2
        · exact .inl (.inr ⟨h2.1, hx⟩)
        · right; simp only [List.mem_singleton]; omega
    · rintro ((h1 | h1) | h1)
      · exact .inl h1
      · exact .inr ⟨h1.1, by show x ≤ ts.getD k 0; omega⟩
      · simp only [List.mem_singleton] at h1
        subst h1
        exact .inr ⟨by show l.1 ≤ ts.getD k 0; have := v2.2.1; omega, Int.le_refl _⟩

theorem RInv.done {zs : List Int} {out : List (Int × Int)} (h : RInv (srt zs) (srt zs).length out) : RunsIs zs out :=
  ⟨h.v, fun x => by rw [h.m x, List.take_length]; exact mem_srt⟩

end Go.Proofs.Qxb6617949a.Plain
