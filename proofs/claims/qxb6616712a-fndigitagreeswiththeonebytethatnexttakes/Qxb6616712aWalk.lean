/- THE WALK OF THE LAW 'FnDigitAgreesWithTheOneByteThatNextTakes'. -/
import Derived.Test.Qxb6616712aNext
namespace Go.Proofs.Qxb6616712a
open Go.RowKit Go.PlainAid
set_option linter.unusedSimpArgs false
set_option linter.unusedVariables false

theorem bytes_any (s : ByteArray) (p d : Int) (w : World) (hs : s.size ≤ 65536) :
    Calls Try.prog 4 #[.string s, .int .i64 p, .int .i64 d] w fun e w' => e = .returned (.bool true) ∧ w' = w := by
  go_enter Try.func4, Try.ntmps4
  go_wp2
  go_ret
  exact ⟨rfl, rfl⟩

set_option maxRecDepth 100000 in
set_option maxHeartbeats 1600000 in
theorem long (s : ByteArray) (p d : Int) (w : World) (hm : s.size ≤ maxLen) (hs : 65536 < s.size) :
    Calls Try.prog 3 #[.string s, .int .i64 p, .int .i64 d] w fun e w' => e = .returned (.bool true) ∧ Grown w w' := by
  unfold maxLen at hm
  by_cases h : 1048576 < s.size
  · go_enter Try.func3, Try.ntmps3
    go_wp2
    go_ret
    exact ⟨rfl, Grown.refl _⟩
  · go_enter Try.func3, Try.ntmps3
    go_wp2
    go_ret
    exact ⟨rfl, Grown.refl _⟩

set_option maxRecDepth 100000 in
set_option maxHeartbeats 1600000 in
theorem negative (s : ByteArray) (p d : Int) (w : World) (hs : s.size ≤ 65536) (hp : p < 0) :
    Calls Try.prog 3 #[.string s, .int .i64 p, .int .i64 d] w fun e w' => e = .returned (.bool true) ∧ Grown w w' := by
  go_enter Try.func3, Try.ntmps3
  go_wp2
  go_ret
  exact ⟨rfl, Grown.refl _⟩

set_option maxRecDepth 100000 in
set_option maxHeartbeats 1600000 in
theorem at_end (s : ByteArray) (p d : Int) (w : World) (hs : s.size ≤ 65536) (hp0 : 0 ≤ p) (hp1 : p ≤ 9223372036854775807) (hp : (s.size : Int) ≤ p) :
    Calls Try.prog 3 #[.string s, .int .i64 p, .int .i64 d] w fun e w' => e = .returned (.bool true) ∧ Grown w w' := by
  have hN : ∀ (k : Int) (wx : World), Calls Try.prog 5 #[.string s, .int .i64 p, .int .i64 d, .int .u8 k] wx fun e w' => e = .returned (.tuple #[.int .i64 p, .bool false]) ∧ Grown wx w' := fun k wx => by
    have := zznext_any s p d k wx hs hp0
    rwa [show hit s p k = false from by simp [hit]; omega] at this
  have hD : ∀ wx : World, Calls Try.prog 6 #[.string s, .int .i64 p, .int .i64 d] wx fun e w' => e = .returned (.bool false) ∧ Grown wx w' := fun wx => by
    have := zzdigit_any s p d wx hs hp0
    rwa [show dig s p = false from by simp [dig]; omega] at this
  go_enter Try.func3, Try.ntmps3
  go_wp2_with (go_at_call 4; refine (bytes_any s _ d _ hs).mono ?_; rintro e w' ⟨rfl, rfl⟩)
  go_loopw [7, 8, 9] (fun acc dt ci wr => ∃ k : Nat, k ≤ 256 ∧ acc = .int .i64 0 ∧ dt = .bool false ∧ ci = .int .i64 k ∧ Grown w' wr) (fun _ _ ci _ => 256 - (intOf ci).toNat)
  case atStart => exact ⟨0, by omega, rfl, rfl, rfl, Grown.refl _⟩
  case round =>
    obtain ⟨k, hk, rfl, rfl, rfl, hg⟩ := hrel
    by_cases hlt : k < 256
    · have hw : IntKind.u8.wrap (k : Int) = k := by simp only [IntKind.wrap_u8]; omega
      go_wp2_with (go_at_call 5; refine (hN _ _).mono ?_; rintro e w2 ⟨rfl, hg2⟩)
      go_roundw
      case rel => exact ⟨k + 1, by omega, rfl, rfl, by go_num, Grown.trans hg hg2⟩
      case measure => simp [intOf]; omega
    · go_wp2_with (go_at_call 6; refine (hD _).mono ?_; rintro e w2 ⟨rfl, hg2⟩)
      go_ret
      exact ⟨rfl, Grown.trans hg hg2⟩

/-- Taken once, when the byte's own number has gone by. -/
def one (b : Bool) : Int := if b then 1 else 0

set_option maxRecDepth 100000 in
set_option maxHeartbeats 1600000 in
theorem inside (s : ByteArray) (n : Nat) (d : Int) (w : World) (hs : s.size ≤ 65536) (hp : n < s.size) :
    Calls Try.prog 3 #[.string s, .int .i64 n, .int .i64 d] w fun e w' => e = .returned (.bool true) ∧ Grown w w' := by
  obtain ⟨T, hT⟩ : ∃ T : Nat, bt s n = T := ⟨(bt s n).toNat, by have := bt_nonneg s n; omega⟩
  have hT2 : T < 256 := by have := bt_le s n; omega
  have hN : ∀ (k : Int) (wx : World), k ≠ T → Calls Try.prog 5 #[.string s, .int .i64 n, .int .i64 d, .int .u8 k] wx fun e w' => e = .returned (.tuple #[.int .i64 n, .bool false]) ∧ Grown wx w' := fun k wx hk => by
    have := zznext_any s n d k wx hs (by omega)
    rwa [show hit s n k = false from by simp [hit, hp, hT]; omega] at this
  have hY : ∀ (wx : World), Calls Try.prog 5 #[.string s, .int .i64 n, .int .i64 d, .int .u8 T] wx fun e w' => e = .returned (.tuple #[.int .i64 (n + 1), .bool true]) ∧ Grown wx w' := fun wx => by
    have := zznext_any s n d T wx hs (by omega)
    rwa [show hit s n T = true from by simp [hit, hp, hT]] at this
  have hD : ∀ wx : World, Calls Try.prog 6 #[.string s, .int .i64 n, .int .i64 d] wx fun e w' => e = .returned (.bool (decide (48 ≤ (T : Int)) && decide ((T : Int) ≤ 57))) ∧ Grown wx w' := fun wx => by
    have := zzdigit_any s n d wx hs (by omega)
    rwa [show dig s n = (decide (48 ≤ (T : Int)) && decide ((T : Int) ≤ 57)) from by simp [dig, hp, hT]] at this
  clear hT
  go_enter Try.func3, Try.ntmps3
  go_wp2_with (go_at_call 4; refine (bytes_any s _ d _ hs).mono ?_; rintro e w' ⟨rfl, rfl⟩)
  go_loopw [7, 8, 9] (fun acc dt ci wr => ∃ k : Nat, k ≤ 256 ∧ acc = .int .i64 (one (decide (T < k))) ∧ dt = .bool (decide (T < k) && (decide (48 ≤ (T : Int)) && decide ((T : Int) ≤ 57))) ∧ ci = .int .i64 k ∧ Grown w' wr) (fun _ _ ci _ => 256 - (intOf ci).toNat)
  case atStart => exact ⟨0, by omega, by simp [one], by simp, rfl, Grown.refl _⟩
  case round =>
    obtain ⟨k, hk, rfl, rfl, rfl, hg⟩ := hrel
    by_cases hlt : k < 256
    · have hw : IntKind.u8.wrap (k : Int) = k := by simp only [IntKind.wrap_u8]; omega
      by_cases hkT : k = T
      · subst hkT
        have e0 : decide (k < k) = false := by simp
        have e1 : decide (k < k + 1) = true := by simp
        rw [e0]
        simp only [one, Bool.false_and, if_false, Bool.false_eq_true]
        by_cases c1 : 48 ≤ k
        · by_cases c2 : k ≤ 57
          · go_wp2_with (go_at_call 5; refine (hY _).mono ?_; rintro e w2 ⟨rfl, hg2⟩)
            go_roundw
            case rel => exact ⟨k + 1, by omega, by simp [one], congrArg Value.bool (by simp; omega), by go_num, Grown.trans hg hg2⟩
            case measure => simp [intOf]; omega
          · go_wp2_with (go_at_call 5; refine (hY _).mono ?_; rintro e w2 ⟨rfl, hg2⟩)
            go_roundw
            case rel => exact ⟨k + 1, by omega, by simp [one], congrArg Value.bool (by simp; omega), by go_num, Grown.trans hg hg2⟩
            case measure => simp [intOf]; omega
        · go_wp2_with (go_at_call 5; refine (hY _).mono ?_; rintro e w2 ⟨rfl, hg2⟩)
          go_roundw
          case rel => exact ⟨k + 1, by omega, by simp [one], congrArg Value.bool (by simp; omega), by go_num, Grown.trans hg hg2⟩
          case measure => simp [intOf]; omega
      · have e1 : decide (T < k + 1) = decide (T < k) := by rw [decide_eq_decide]; omega
        go_wp2_with (go_at_call 5; refine (hN _ _ (by omega)).mono ?_; rintro e w2 ⟨rfl, hg2⟩)
        go_roundw
        case rel => exact ⟨k + 1, by omega, by rw [e1], by rw [e1], by go_num, Grown.trans hg hg2⟩
        case measure => simp [intOf]; omega
    · have e1 : decide (T < k) = true := by simp; omega
      rw [e1]
      simp only [one, Bool.true_and, if_true]
      generalize (decide (48 ≤ (T : Int)) && decide ((T : Int) ≤ 57)) = D at *
      go_wp2_with (go_at_call 6; refine (hD _).mono ?_; rintro e w2 ⟨rfl, hg2⟩)
      go_ret
      exact ⟨by simp, Grown.trans hg hg2⟩

theorem law_any (s : ByteArray) (p d : Int) (w : World) (hm : s.size ≤ maxLen) (hp1 : p ≤ 9223372036854775807) :
    Calls Try.prog 3 #[.string s, .int .i64 p, .int .i64 d] w fun e w' => e = .returned (.bool true) ∧ Grown w w' := by
  by_cases h1 : 65536 < s.size
  · exact long s p d w hm h1
  by_cases h2 : p < 0
  · exact negative s p d w (by omega) h2
  by_cases h3 : (s.size : Int) ≤ p
  · exact at_end s p d w (by omega) (by omega) hp1 h3
  · obtain ⟨n, rfl⟩ : ∃ n : Nat, p = n := ⟨p.toNat, by omega⟩
    exact inside s n d w (by omega) (by omega)
end Go.Proofs.Qxb6616712a
