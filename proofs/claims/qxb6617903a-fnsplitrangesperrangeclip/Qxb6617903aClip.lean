/- THE SMALL CALLEES OF THE LAW ('zzValidRange', 'zzSatAdd', 'zzBytes_..'), AND THE PLAIN REASONING OF ITS LAST LOOP. -/
import Derived.Test.Qxb6617903aZZSplit
namespace Go.Proofs.Qxb6617903a
open Go.RowKit SplitPlain
set_option linter.unusedSimpArgs false
set_option linter.unusedVariables false

def vrB (f l : Int) : Bool := decide (f ≤ l ∧ l - f < 9223372036854775807)

theorem u64_sub (f l : Int) (h1 : -9223372036854775808 ≤ f) (h2 : f ≤ l) (h3 : l ≤ 9223372036854775807) : IntKind.u64.wrap (IntKind.u64.wrap l - IntKind.u64.wrap f) = l - f := by
  simp only [IntKind.wrap_u64]; omega

theorem valid_yes (f l : Int) (w : World) (h1 : -9223372036854775808 ≤ f) (h2 : f ≤ l) (h3 : l ≤ 9223372036854775807) (h4 : l - f < 9223372036854775807) :
    Calls Try.prog 7 #[.int .i64 f, .int .i64 l] w fun e w' => e = .returned (.bool true) ∧ w' = w := by
  have hsub := u64_sub f l h1 h2 h3
  go_enter Try.func7, Try.ntmps7
  go_wp2
  go_ret
  exact ⟨rfl, rfl⟩

theorem valid_any (f l : Int) (w : World) (h1 : -9223372036854775808 ≤ f) (h1' : f ≤ 9223372036854775807) (h2 : -9223372036854775808 ≤ l) (h3 : l ≤ 9223372036854775807) :
    Calls Try.prog 7 #[.int .i64 f, .int .i64 l] w fun e w' => e = .returned (.bool (vrB f l)) ∧ w' = w := by
  by_cases ha : f ≤ l
  · by_cases hb : l - f < 9223372036854775807
    · have e : vrB f l = true := by unfold vrB; exact decide_eq_true ⟨ha, hb⟩
      rw [e]
      exact valid_yes f l w h1 ha h3 hb
    · have e : vrB f l = false := by unfold vrB; exact decide_eq_false (fun h => hb h.2)
      rw [e]
      have hsub := u64_sub f l h1 ha h3
      go_enter Try.func7, Try.ntmps7
      go_wp2
      go_ret
      exact ⟨rfl, rfl⟩
  · have e : vrB f l = false := by unfold vrB; exact decide_eq_false (fun h => ha h.1)
    rw [e]
    go_enter Try.func7, Try.ntmps7
    go_wp2
    go_ret
    exact ⟨rfl, rfl⟩

theorem sat_low (a b : Int) (w : World) (h1 : 0 ≤ a) (h2 : 1 ≤ b) (h3 : b ≤ 9223372036854775807) (h4 : a + b ≤ 9223372036854775807) :
    Calls Try.prog 9 #[.int .i64 a, .int .i64 b] w fun e w' => e = .returned (.int .i64 (a + b)) ∧ w' = w := by
  go_enter Try.func9, Try.ntmps9
  go_wp2
  go_ret
  exact ⟨rfl, rfl⟩

theorem sat_high (a b : Int) (w : World) (h1 : 0 ≤ a) (h2 : 1 ≤ b) (h3 : b ≤ 9223372036854775807) (h4 : a ≤ 9223372036854775807) (h5 : 9223372036854775807 < a + b) :
    Calls Try.prog 9 #[.int .i64 a, .int .i64 b] w fun e w' => e = .returned (.int .i64 9223372036854775807) ∧ w' = w := by
  go_enter Try.func9, Try.ntmps9
  go_wp2
  go_ret
  exact ⟨rfl, rfl⟩

theorem sat_any (a b : Int) (w : World) (h1 : 0 ≤ a) (h2 : 1 ≤ b) (h3 : b ≤ 9223372036854775807) (h4 : a ≤ 9223372036854775807) :
    Calls Try.prog 9 #[.int .i64 a, .int .i64 b] w fun e w' => e = .returned (.int .i64 (sat a b)) ∧ w' = w := by
  unfold sat
  split
  · exact sat_low a b w h1 h2 h3 (by omega)
  · exact sat_high a b w h1 h2 h3 h4 (by omega)

end Go.Proofs.Qxb6617903a
