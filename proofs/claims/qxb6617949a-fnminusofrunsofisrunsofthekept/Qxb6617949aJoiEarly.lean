/- THE LAW 'FnUnionOfRunsOfIsRunsOfTheJoin' WHERE IT ANSWERS EARLY BY A LENGTH; small laws that the two laws over runsOf share. -/
import Derived.Test.Qxb6617949aRunsOf
import Derived.Test.Qxb6617949aZZ
namespace Go.Proofs.Qxb6617949a
open Go.RowKit Plain
set_option linter.unusedSimpArgs false
set_option linter.unusedVariables false

theorem own_below {w w' : World} {base : Nat} {e : TypeId} {sz : Nat} {v : Value} {n : Nat} {xs : List Value} (h : w.ownsRow base e sz v n xs) (hb : Below w.heap.size w w') : w'.ownsRow base e sz v n xs :=
  h.kept (row := none) ⟨hb.os, hb.tape, hb.output, hb.size, fun k hk _ => hb.block k hk⟩ (by cases v.ownBlock <;> simp)

theorem Rd.kept {w w' : World} {g off : Nat} {zs : List Int} {row : Option Nat} (h : Rd w (some ⟨g, off, none⟩) zs) (hg : w.grownBy w' row) (hne : some g ≠ row) : Rd w' (some ⟨g, off, none⟩) zs := by
  intro i hi
  obtain ⟨b, o, e, hc⟩ := h i hi
  simp at e
  obtain ⟨rfl, rfl⟩ := e
  exact ⟨g, off, rfl, hg.cell hc hne⟩

theorem Two.kept {w w' : World} {g1 g2 : Nat} {ps : List (Int × Int)} {row : Option Nat} (h : Two w (some ⟨g1, 0, none⟩) (some ⟨g2, 0, none⟩) ps) (hg : w.grownBy w' row) (h1 : some g1 ≠ row) (h2 : some g2 ≠ row) : Two w' (some ⟨g1, 0, none⟩) (some ⟨g2, 0, none⟩) ps :=
  ⟨h.f.kept hg h1, h.l.kept hg h2⟩

/-- ZZRunsOf of a clone, as the laws call it. -/
theorem below_of_grown {w0 w1 w2 : World} {e : TypeId} {sz : Nat} {v : Value} {n : Nat} {xs : List Value} (h1 : Below w0.heap.size w0 w1) (hown : w1.ownsRow w0.heap.size e sz v n xs) (hg : w1.grownBy w2 v.ownBlock) : Below w0.heap.size w0 w2 :=
  h1.grown hg h1.size (fun k hk => (hown.lt k hk).1)

theorem memB_true {o : List (Int × Int)} {x : Int} (h : Mem o x) : memB o x = true := memB_iff.2 h
theorem memB_false {o : List (Int × Int)} {x : Int} (h : ¬ Mem o x) : memB o x = false := by
  cases hm : memB o x with
  | false => rfl
  | true => exact absurd (memB_iff.1 hm) h

theorem getD_mem {zs : List Int} {k : Nat} (h : k < zs.length) : zs.getD k 0 ∈ zs := by simp [List.getD, h]

theorem idx_of {zs : List Int} (h : ∀ j, j < zs.length → 0 ≤ zs.getD j 0) (hw : ∀ z ∈ zs, (Lit.int .i64 z).wf = true) : Idx zs := by
  intro z hz
  obtain ⟨k, hk, rfl⟩ := List.getElem_of_mem hz
  have := h k hk
  simp [List.getD, hk] at this
  exact ⟨this, (bounds_i64 (hw _ hz)).2⟩

theorem Joi_bytes (a0 a1 : Option Addr) (n0 n1 c0 c1 : Nat) (w : World) (h0 : n0 ≤ 65536) (h1 : n1 ≤ 65536) :
    Calls Try.prog 12 #[.slice a0 n0 c0, .slice a1 n1 c1] w fun e w' => e = .returned (.bool true) ∧ w' = w := by
  go_enter Try.func12, Try.ntmps12
  go_wp2
  go_ret
  exact ⟨rfl, rfl⟩

set_option maxRecDepth 100000 in
set_option maxHeartbeats 1600000 in
theorem Joi_long (a0 a1 : Option Addr) (n0 n1 c0 c1 : Nat) (w : World) (m0 : n0 ≤ maxLen) (m1 : n1 ≤ maxLen) (h : 65536 < n0 ∨ 65536 < n1) :
    Calls Try.prog 4 #[.slice a0 n0 c0, .slice a1 n1 c1] w fun e w' => e = .returned (.bool true) ∧ Below w.heap.size w w' := by
  unfold maxLen at m0 m1
  by_cases e0 : 1048576 < n0
  · go_enter Try.func4, Try.ntmps4
    go_wp2
    go_ret
    exact ⟨rfl, Below.refl _ _⟩
  by_cases e1 : 1048576 < n1
  · go_enter Try.func4, Try.ntmps4
    go_wp2
    go_ret
    exact ⟨rfl, Below.refl _ _⟩
  by_cases e2 : 1048576 < n0 + n1
  · go_enter Try.func4, Try.ntmps4
    go_wp2
    go_ret
    exact ⟨rfl, Below.refl _ _⟩
  by_cases e3 : 65536 < n0
  · go_enter Try.func4, Try.ntmps4
    go_wp2
    go_ret
    exact ⟨rfl, Below.refl _ _⟩
  have e4 : 65536 < n1 := by omega
  go_enter Try.func4, Try.ntmps4
  go_wp2
  go_ret
  exact ⟨rfl, Below.refl _ _⟩
end Go.Proofs.Qxb6617949a
