/- THE WALK OF 'zzAgree'. -/
import Derived.Test.Qxb6617949aIn
namespace Go.Proofs.Qxb6617949a
open Go.RowKit Plain
set_option linter.unusedSimpArgs false
set_option linter.unusedVariables false

/-- What 'zzAgree' wants of a point. -/
def wantB (u A B : Bool) : Bool := if u then A || B else A && !B

set_option maxRecDepth 100000 in
set_option maxHeartbeats 1600000 in
theorem agree_any (aF aL bF bL oF oL pF pL : Option Addr) (na nb no np c1 c2 c3 c4 c5 c6 c7 c8 : Nat) (a b o p : List (Int × Int)) (u : Bool) (w : World)
    (hna : na ≤ 1048576) (hnb : nb ≤ 1048576) (hno : no ≤ 1048576) (hnp : np ≤ 1048576) (hla : a.length = na) (hlb : b.length = nb) (hlo : o.length = no) (hlp : p.length = np)
    (hva : Val a) (hvb : Val b) (hvo : Val o) (ta : Two w aF aL a) (tb : Two w bF bL b) (tt : Two w oF oL o) (tp : Two w pF pL p)
    (hag : ∀ x, memB o x = wantB u (memB a x) (memB b x)) :
    Calls Try.prog 11 #[.slice aF na c1, .slice aL na c2, .slice bF nb c3, .slice bL nb c4, .slice oF no c5, .slice oL no c6, .slice pF np c7, .slice pL np c8, .bool u] w fun e w' => e = .returned (.bool true) ∧ Below w.heap.size w w' := by
  have HAG := hide hag
  clear hag
  go_enter Try.func11, Try.ntmps11
  go_wp2
  go_loopw [19] (fun i wr => ∃ k : Nat, k ≤ np ∧ i = .int .i64 k ∧ Below w.heap.size w wr) (fun i _ => np - (intOf i).toNat)
  case atStart => exact ⟨0, by omega, rfl, Below.refl _ _⟩
  case round =>
    obtain ⟨k, hk, rfl, hbr⟩ := hrel
    by_cases hlt : k < np
    · obtain ⟨bp, op, bq, oq, rfl, rfl, hc⟩ := (tp.below hbr).at (by omega)
      have h1 := (hc k (by omega)).1
      have h2 := (hc k (by omega)).2
      have hk0 : (0 : Int) ≤ (k : Int) := by omega
      have hk1 : (k : Int) < (np : Int) := by omega
      clear hc
      have hbp := World.block_lt_of_cell? _ _ h1
      have hbq := World.block_lt_of_cell? _ _ h2
      simp only at hbp hbq
      generalize (at' p k).1 = F at *
      generalize (at' p k).2 = L at *
      go_upto_region 4 with fail
      go_region
      go_wp2
      have hbW : Below w.heap.size w (wr.alloc (.cells #[.int .i64 (wrap64 (F - 1)), .int .i64 F, .int .i64 L, .int .i64 (wrap64 (L + 1))] 37)).drew := (hbr.alloc hbr.size _).drew
      have HX : Hid (∀ j : Nat, j < 4 → ∃ Y, (wr.alloc (.cells #[.int .i64 (wrap64 (F - 1)), .int .i64 F, .int .i64 L, .int .i64 (wrap64 (L + 1))] 37)).cell? ⟨wr.heap.size, j, none⟩ = some (.int .i64 Y)) := by
        intro j hj
        match j, hj with
        | 0, _ => exact ⟨wrap64 (F - 1), by simp⟩
        | 1, _ => exact ⟨F, by simp⟩
        | 2, _ => exact ⟨L, by simp⟩
        | 3, _ => exact ⟨wrap64 (L + 1), by simp⟩
      generalize wrap64 (F - 1) = X0 at *
      generalize wrap64 (L + 1) = X3 at *
      have HIN : Hid (∀ x, (Calls Try.prog 16 #[.slice aF na c1, .slice aL na c2, .int .i64 x] (wr.alloc (.cells #[.int .i64 X0, .int .i64 F, .int .i64 L, .int .i64 X3] 37)).drew fun e w' => e = .returned (.bool (memB a x)) ∧ w' = (wr.alloc (.cells #[.int .i64 X0, .int .i64 F, .int .i64 L, .int .i64 X3] 37)).drew) ∧
          (Calls Try.prog 16 #[.slice bF nb c3, .slice bL nb c4, .int .i64 x] (wr.alloc (.cells #[.int .i64 X0, .int .i64 F, .int .i64 L, .int .i64 X3] 37)).drew fun e w' => e = .returned (.bool (memB b x)) ∧ w' = (wr.alloc (.cells #[.int .i64 X0, .int .i64 F, .int .i64 L, .int .i64 X3] 37)).drew) ∧
          (Calls Try.prog 16 #[.slice oF no c5, .slice oL no c6, .int .i64 x] (wr.alloc (.cells #[.int .i64 X0, .int .i64 F, .int .i64 L, .int .i64 X3] 37)).drew fun e w' => e = .returned (.bool (memB o x)) ∧ w' = (wr.alloc (.cells #[.int .i64 X0, .int .i64 F, .int .i64 L, .int .i64 X3] 37)).drew)) :=
        fun x => ⟨in_any aF aL na c1 c2 a x _ hna hla hva (ta.below hbW), in_any bF bL nb c3 c4 b x _ hnb hlb hvb (tb.below hbW), in_any oF oL no c5 c6 o x _ hno hlo hvo (tt.below hbW)⟩
      clear h1 h2 ta tb tt hbp hbq
      go_loop [21] (fun s => ∃ j : Nat, j ≤ 4 ∧ s = .int .i64 j) (fun s => 4 - (intOf s).toNat)
      case atStart => exact ⟨0, by omega, rfl⟩
      case round =>
        obtain ⟨j, hj, rfl⟩ := hrel
        by_cases hj4 : j < 4
        · obtain ⟨Y, hY⟩ := unhide HX j hj4
          obtain ⟨ca, cb, co⟩ := unhide HIN Y
          have hw := unhide HAG Y
          have CA := hide ca
          have CB := hide cb
          have CO := hide co
          clear ca cb co
          have hj0 : (0 : Int) ≤ (j : Int) := by omega
          have hj1 : (j : Int) < 4 := by omega
          generalize memB a Y = A at *
          generalize memB b Y = B at *
          generalize memB o Y = O at *
          subst hw
          go_wp2_with fail
          refine (unhide CA).mono ?_
          rintro e w1 ⟨rfl, rfl⟩
          go_wp2_with fail
          refine (unhide CB).mono ?_
          rintro e w1 ⟨rfl, rfl⟩
          clear CA CB
          cases u <;> cases A <;> cases B <;> simp only [wantB] at CO
          all_goals
            go_wp2_with fail
            refine (unhide CO).mono ?_
            rintro e w1 ⟨rfl, rfl⟩
            go_wp2
            go_round
            case rel => exact ⟨j + 1, by omega, by go_num⟩
            case measure => simp [intOf]; omega
        · go_wp2
          go_roundw
          case rel => exact ⟨k + 1, by omega, by go_num, hbW⟩
          case measure => simp [intOf]; omega
    · go_wp2
      go_ret
      exact ⟨rfl, hbr⟩
end Go.Proofs.Qxb6617949a
