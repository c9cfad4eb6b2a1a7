/- THE WALKS OF 'rank', 'ZZRank'. -/
import Derived.Test.Qxb6617903aRows
import Derived.Test.Qxb6617903aRankPlain
import Derived.Test.Qxb6617903aBase
import Derived.WalkKit
import Derived.Below
import Derived.RegionTactic
import Derived.ChangeAlike
import Derived.BigRegion
import Derived.Deep.QuietTactic
import Derived.BigQuiet
import Derived.WalkSmall
namespace Go.Proofs.Qxb6617903a
open Go.RowKit RankPlain
set_option linter.unusedSimpArgs false
set_option linter.unusedVariables false

set_option maxHeartbeats 400000 in
theorem rank_some (pb po b off n c : Nat) (zs : List Int) (p : Int) (w : World) (hn : n ≤ 131072) (hz : zs.length = n) (hasc : Asc zs)
    (hp : w.cell? ⟨pb, po, none⟩ = some (.slice (some ⟨b, off, none⟩) n c)) (hc : ∀ i, i < n → w.cell? ⟨b, off + i, none⟩ = some (.int .i64 (zs.getD i 0))) :
    Calls Try.prog 15 #[.pointer (some ⟨pb, po, none⟩), .int .i64 p] w fun e w' => e = .returned (.int .i64 (cnt zs p : Nat)) ∧ Below w.heap.size w w' := by
  go_enter Try.func15, Try.ntmps15
  go_wp2
  go_quiet (fail)
  go_wp2
  go_loop [5, 6] (fun lo hi => ∃ l h : Nat, l ≤ h ∧ h ≤ n ∧ lo = .int .i64 l ∧ hi = .int .i64 h ∧ (∀ i, i < l → zs.getD i 0 ≤ p) ∧ (∀ i, h ≤ i → i < zs.length → p < zs.getD i 0))
    (fun lo hi => (intOf hi).toNat - (intOf lo).toNat)
  case atStart => exact ⟨0, n, Nat.zero_le _, Nat.le_refl _, rfl, rfl, fun i hi => by omega, fun i h1 h2 => by omega⟩
  case round =>
    obtain ⟨l, h, hlh, hh, rfl, rfl, hl, hg⟩ := hrel
    have HL : Hid (∀ i, i < l → zs.getD i 0 ≤ p) := hl
    have HG : Hid (∀ i, h ≤ i → i < zs.length → p < zs.getD i 0) := hg
    clear hl hg
    by_cases hlt : l < h
    · have hcell : w.cell? ⟨b, off + (l + h) / 2, none⟩ = some (.int .i64 (zs.getD ((l + h) / 2) 0)) := hc _ (by omega)
      go_wp2
      · have hq : zs[(l + h) / 2]?.getD 0 ≤ p := by assumption
        go_round
        case rel => exact ⟨(l + h) / 2 + 1, h, by omega, by omega, by go_num, rfl, fun i hi => Int.le_trans (asc_mono (j := (l + h) / 2) hasc (by omega) (by omega)) (by simpa [List.getD] using hq), HG.out⟩
        case measure => simp only [intOf]; omega
      · have hq : p < zs[(l + h) / 2]?.getD 0 := by assumption
        go_round
        case rel => exact ⟨l, (l + h) / 2, by omega, by omega, rfl, by go_num, HL.out, fun i h1 h2 => Int.lt_of_lt_of_le (by simpa [List.getD] using hq) (asc_mono hasc h1 h2)⟩
        case measure => simp only [intOf]; omega
    · go_wp2
      go_ret
      have e : cnt zs p = l := cnt_at zs p l (by omega) HL.out (fun i h1 h2 => HG.out i (by omega) h2)
      exact ⟨ret_int (by rw [e]), below_drewN (Below.refl _ _) _⟩

set_option maxHeartbeats 400000 in
theorem rank_none (pb po c : Nat) (a : Option Addr) (p : Int) (w : World) (hp : w.cell? ⟨pb, po, none⟩ = some (.slice a 0 c)) :
    Calls Try.prog 15 #[.pointer (some ⟨pb, po, none⟩), .int .i64 p] w fun e w' => e = .returned (.int .i64 (0 : Nat)) ∧ Below w.heap.size w w' := by
  go_enter Try.func15, Try.ntmps15
  go_wp2
  go_quiet (fail)
  go_wp2
  go_loop [5, 6] (fun lo hi => lo = .int .i64 0 ∧ hi = .int .i64 0) (fun lo hi => 0)
  case atStart => exact ⟨rfl, rfl⟩
  case round =>
    obtain ⟨rfl, rfl⟩ := hrel
    go_wp2
    go_ret
    exact ⟨rfl, below_drewN (Below.refl _ _) _⟩

theorem rank_any (pb po n c : Nat) (a : Option Addr) (zs : List Int) (p : Int) (w : World) (hn : n ≤ 131072) (hz : zs.length = n) (hasc : Asc zs)
    (hp : w.cell? ⟨pb, po, none⟩ = some (.slice a n c)) (hc : Rd w a zs) :
    Calls Try.prog 15 #[.pointer (some ⟨pb, po, none⟩), .int .i64 p] w fun e w' => e = .returned (.int .i64 (cnt zs p : Nat)) ∧ Below w.heap.size w w' := by
  by_cases h0 : 0 < zs.length
  · obtain ⟨b, off, rfl, hc'⟩ := hc.at h0
    exact rank_some pb po b off n c zs p w hn hz hasc hp (fun i hi => hc' i (by omega))
  · obtain rfl : zs = [] := List.eq_nil_of_length_eq_zero (by omega)
    obtain rfl : n = 0 := by simpa using hz.symm
    exact rank_none pb po c a p w hp

set_option maxHeartbeats 400000 in
theorem zzrank_any (n c : Nat) (a : Option Addr) (zs : List Int) (p : Int) (w : World) (hn : n ≤ 131072) (hz : zs.length = n) (hasc : Asc zs) (hc : Rd w a zs) :
    Calls Try.prog 11 #[.slice a n c, .int .i64 p] w fun e w' => e = .returned (.int .i64 (cnt zs p : Nat)) ∧ Below w.heap.size w w' := by
  go_enter Try.func11, Try.ntmps11
  go_wp2_with fail
  refine (rank_any w.heap.size 0 n c a zs p _ hn hz hasc (by simp [World.cell?_alloc_at]) (hc.below (((Below.refl _ _).alloc (Nat.le_refl _) _)))).mono ?_
  rintro e w1 ⟨rfl, hb⟩
  go_wp2
  go_ret
  exact ⟨rfl, ((Below.refl _ _).alloc (Nat.le_refl _) _).trans (hb.mono (by simp))⟩
end Go.Proofs.Qxb6617903a
