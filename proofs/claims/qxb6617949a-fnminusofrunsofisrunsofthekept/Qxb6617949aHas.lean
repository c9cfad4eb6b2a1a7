/- THE WALK OF 'zzHas': binary search on an ascending row. -/
import Derived.Test.Qxb6617949aSorted
namespace Go.Proofs.Qxb6617949a
open Go.RowKit Plain Merge
set_option linter.unusedSimpArgs false
set_option linter.unusedVariables false

set_option maxRecDepth 100000 in
set_option maxHeartbeats 800000 in
theorem has_any (g n c : Nat) (A : Nat → Int) (x : Int) (w : World) (hn : n ≤ 1048576) (ha : Asc A 0 n) (hr : RowF w g n A) (r : Bool) (hrr : r = true ↔ Img A 0 n x) :
    Calls Try.prog 22 #[.slice (some ⟨g, 0, none⟩) n c, .int .i64 x] w fun e w' => e = .returned (.bool r) ∧ w' = w := by
  have HA := hide ha
  have HR := hide hrr
  clear ha hrr
  go_enter Try.func22, Try.ntmps22
  go_wp2
  go_loop [5, 6] (fun lo hi => ∃ l h : Nat, l ≤ h ∧ h ≤ n ∧ lo = .int .i64 l ∧ hi = .int .i64 h ∧ (∀ i, i < l → A i < x) ∧ (∀ i, h ≤ i → i < n → x ≤ A i))
    (fun lo hi => (intOf hi).toNat - (intOf lo).toNat)
  case atStart => exact ⟨0, n, Nat.zero_le _, Nat.le_refl _, rfl, rfl, fun i hi => by omega, fun i h1 h2 => by omega⟩
  case round =>
    obtain ⟨l, h, hlh, hh, rfl, rfl, h1, h2⟩ := hrel
    have HL := hide h1
    have HG := hide h2
    clear h1 h2
    by_cases hlt : l < h
    · have hcell := hr.cell (i := l + (h - l) / 2) (by omega)
      by_cases hq : A (l + (h - l) / 2) < x
      · have HN : Hid (∀ i, i < l + (h - l) / 2 + 1 → A i < x) := fun i hi => Int.lt_of_le_of_lt (unhide HA i (l + (h - l) / 2) (Nat.zero_le _) (by omega) (by omega)) hq
        go_wp2
        go_round
        case rel => exact ⟨l + (h - l) / 2 + 1, h, by omega, by omega, by go_num, rfl, unhide HN, unhide HG⟩
        case measure => simp only [intOf]; omega
      · have HN : Hid (∀ i, l + (h - l) / 2 ≤ i → i < n → x ≤ A i) := fun i h1 h2 => Int.le_trans (by omega) (unhide HA (l + (h - l) / 2) i (Nat.zero_le _) h1 h2)
        go_wp2
        go_round
        case rel => exact ⟨l, l + (h - l) / 2, by omega, by omega, rfl, by go_num, unhide HL, unhide HN⟩
        case measure => simp only [intOf]; omega
    · by_cases hln : l < n
      · have hcell := hr.cell hln
        have HE : Hid (r = (A l == x)) := by
          show _ = _
          rw [Bool.eq_iff_iff, unhide HR]
          constructor
          · rintro ⟨t, _, h2, h3⟩
            have b1 : ¬ t < l := fun h4 => by have := unhide HL t h4; omega
            have b2 := unhide HA l t (Nat.zero_le _) (by omega) h2
            have b3 := unhide HG l (by omega) hln
            have : A l = x := by omega
            simp [this]
          · intro h3
            exact ⟨l, Nat.zero_le _, hln, by simpa using h3⟩
        go_wp2
        go_ret
        exact ⟨ret_bool (by rw [HE.out]), rfl⟩
      · have HE : Hid (r = false) := by
          show _ = _
          rw [← Bool.not_eq_true, unhide HR]
          rintro ⟨t, _, h2, h3⟩
          have := unhide HL t (by omega)
          omega
        go_wp2
        go_ret
        exact ⟨ret_bool (by rw [HE.out]), rfl⟩
end Go.Proofs.Qxb6617949a
