/- THE LAW 'FnMinusOfRunsOfIsRunsOfTheKept' WHERE IT ANSWERS EARLY BY A LENGTH; what is kept, in plain words. -/
import Derived.Test.Qxb6617949aJoiEarly
import Derived.Test.Qxb6617949aZZMinus
import Derived.Test.Qxb6617949aHas
namespace Go.Proofs.Qxb6617949a
open Go.RowKit Plain Merge
set_option linter.unusedSimpArgs false
set_option linter.unusedVariables false

/-- What is kept of zs beside ys. -/
def kp (ys zs : List Int) : List Int := zs.filter fun z => decide (z ∉ ys)
theorem mem_kp {ys zs : List Int} {x : Int} : x ∈ kp ys zs ↔ x ∈ zs ∧ x ∉ ys := by simp [kp]
theorem kp_in {ys zs : List Int} {x : Int} (h : x ∈ ys) : kp ys (zs ++ [x]) = kp ys zs := by simp [kp, h]
theorem kp_out {ys zs : List Int} {x : Int} (h : x ∉ ys) : kp ys (zs ++ [x]) = kp ys zs ++ [x] := by simp [kp, h]
theorem kp_len (ys zs : List Int) : (kp ys zs).length ≤ zs.length := List.length_filter_le _ _

theorem Kep_bytes (a0 a1 : Option Addr) (n0 n1 c0 c1 : Nat) (w : World) (h0 : n0 ≤ 65536) (h1 : n1 ≤ 65536) :
    Calls Try.prog 20 #[.slice a0 n0 c0, .slice a1 n1 c1] w fun e w' => e = .returned (.bool true) ∧ w' = w := by
  go_enter Try.func20, Try.ntmps20
  go_wp2
  go_ret
  exact ⟨rfl, rfl⟩

set_option maxRecDepth 100000 in
set_option maxHeartbeats 1600000 in
theorem Kep_long (a0 a1 : Option Addr) (n0 n1 c0 c1 : Nat) (w : World) (m0 : n0 ≤ maxLen) (m1 : n1 ≤ maxLen) (h : 65536 < n0 ∨ 65536 < n1) :
    Calls Try.prog 7 #[.slice a0 n0 c0, .slice a1 n1 c1] w fun e w' => e = .returned (.bool true) ∧ Below w.heap.size w w' := by
  unfold maxLen at m0 m1
  by_cases e0 : 1048576 < n0
  · go_enter Try.func7, Try.ntmps7
    go_wp2
    go_ret
    exact ⟨rfl, Below.refl _ _⟩
  by_cases e1 : 1048576 < n1
  · go_enter Try.func7, Try.ntmps7
    go_wp2
    go_ret
    exact ⟨rfl, Below.refl _ _⟩
  by_cases e2 : 1048576 < n0 + n1
  · go_enter Try.func7, Try.ntmps7
    go_wp2
    go_ret
    exact ⟨rfl, Below.refl _ _⟩
  by_cases e3 : 65536 < n0
  · go_enter Try.func7, Try.ntmps7
    go_wp2
    go_ret
    exact ⟨rfl, Below.refl _ _⟩
  have e4 : 65536 < n1 := by omega
  go_enter Try.func7, Try.ntmps7
  go_wp2
  go_ret
  exact ⟨rfl, Below.refl _ _⟩
end Go.Proofs.Qxb6617949a
