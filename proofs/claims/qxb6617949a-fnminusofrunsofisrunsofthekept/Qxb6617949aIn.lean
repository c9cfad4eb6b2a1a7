/- THE WALKS OF 'zzIn', 'zzValid', 'zzEqual'. -/
import Derived.Test.Qxb6617949aRows
import Derived.Test.Qxb6617949aPlain
import Derived.Test.Qxb6617949aPairs
import Derived.Deep.QuietTactic
import Derived.BigQuiet
import Derived.Deep.RegionWith
import Derived.Deep.DeepCutAuto
import Derived.WalkSpells
namespace Go.Proofs.Qxb6617949a
open Go.RowKit Plain
set_option linter.unusedSimpArgs false
set_option linter.unusedVariables false

/-- Two slices, the firsts and the lasts, read as these runs. -/
structure Two (w : World) (af al : Option Addr) (ps : List (Int × Int)) : Prop where
  f : Rd w af (ps.map Prod.fst)
  l : Rd w al (ps.map Prod.snd)

theorem Two.below {w w' : World} {af al : Option Addr} {ps : List (Int × Int)} (h : Two w af al ps) (hb : Below w.heap.size w w') : Two w' af al ps := ⟨h.f.below hb, h.l.below hb⟩

theorem at_fst (l : List (Int × Int)) (i : Nat) (h : i < l.length) : (l.map Prod.fst).getD i 0 = (at' l i).1 := by
  simp [at', List.getD, h]
theorem at_snd (l : List (Int × Int)) (i : Nat) (h : i < l.length) : (l.map Prod.snd).getD i 0 = (at' l i).2 := by
  simp [at', List.getD, h]

theorem Two.at {w : World} {af al : Option Addr} {ps : List (Int × Int)} (h : Two w af al ps) (h0 : 0 < ps.length) :
    ∃ bf of bl ol, af = some ⟨bf, of, none⟩ ∧ al = some ⟨bl, ol, none⟩ ∧ ∀ i, i < ps.length → w.cell? ⟨bf, of + i, none⟩ = some (.int .i64 (at' ps i).1) ∧ w.cell? ⟨bl, ol + i, none⟩ = some (.int .i64 (at' ps i).2) := by
  obtain ⟨bf, of, rfl, hf⟩ := h.f.at (by simpa using h0)
  obtain ⟨bl, ol, rfl, hl⟩ := h.l.at (by simpa using h0)
  refine ⟨bf, of, bl, ol, rfl, rfl, fun i hi => ⟨?_, ?_⟩⟩
  · rw [hf i (by simpa using hi), at_fst _ _ hi]
  · rw [hl i (by simpa using hi), at_snd _ _ hi]

set_option maxHeartbeats 400000 in
theorem in_none (af al : Option Addr) (cf cl : Nat) (x : Int) (w : World) :
    Calls Try.prog 16 #[.slice af 0 cf, .slice al 0 cl, .int .i64 x] w fun e w' => e = .returned (.bool false) ∧ w' = w := by
  go_enter Try.func16, Try.ntmps16
  go_wp2
  go_loop [8, 9] (fun lo hi => lo = .int .i64 0 ∧ hi = .int .i64 0) (fun lo hi => 0)
  case atStart => exact ⟨rfl, rfl⟩
  case round =>
    obtain ⟨rfl, rfl⟩ := hrel
    go_wp2
    go_ret
    exact ⟨rfl, rfl⟩

set_option maxHeartbeats 800000 in
theorem in_some (bf of bl ol n cf cl : Nat) (ps : List (Int × Int)) (x : Int) (w : World) (hn : n ≤ 1048576) (hl : ps.length = n) (hv : Val ps)
    (hc : ∀ i, i < n → w.cell? ⟨bf, of + i, none⟩ = some (.int .i64 (at' ps i).1) ∧ w.cell? ⟨bl, ol + i, none⟩ = some (.int .i64 (at' ps i).2)) :
    Calls Try.prog 16 #[.slice (some ⟨bf, of, none⟩) n cf, .slice (some ⟨bl, ol, none⟩) n cl, .int .i64 x] w fun e w' => e = .returned (.bool (memB ps x)) ∧ w' = w := by
  have HC := hide hc
  clear hc
  go_enter Try.func16, Try.ntmps16
  go_wp2
  go_loop [8, 9] (fun lo hi => ∃ l h : Nat, l ≤ h ∧ h ≤ n ∧ lo = .int .i64 l ∧ hi = .int .i64 h ∧ (∀ i, i < l → (at' ps i).1 ≤ x) ∧ (∀ i, h ≤ i → i < ps.length → x < (at' ps i).1))
    (fun lo hi => (intOf hi).toNat - (intOf lo).toNat)
  case atStart => exact ⟨0, n, Nat.zero_le _, Nat.le_refl _, rfl, rfl, fun i hi => by omega, fun i h1 h2 => by omega⟩
  case round =>
    obtain ⟨l, h, hlh, hh, rfl, rfl, h1, h2⟩ := hrel
    have HL := hide h1
    have HG := hide h2
    clear h1 h2
    by_cases hlt : l < h
    · have hcell : w.cell? ⟨bf, of + (l + (h - l) / 2), none⟩ = some (.int .i64 (at' ps (l + (h - l) / 2)).1) := (unhide HC _ (by omega)).1
      go_wp2
      · have hq : (at' ps (l + (h - l) / 2)).1 ≤ x := by assumption
        go_round
        case rel => exact ⟨l + (h - l) / 2 + 1, h, by omega, by omega, by go_num, rfl, fun i hi => Int.le_trans (fst_mono hv (j := l + (h - l) / 2) (by omega) (by omega)) hq, unhide HG⟩
        case measure => simp only [intOf]; omega
      · have hq : x < (at' ps (l + (h - l) / 2)).1 := by assumption
        go_round
        case rel => exact ⟨l, l + (h - l) / 2, by omega, by omega, rfl, by go_num, unhide HL, fun i h1 h2 => Int.lt_of_lt_of_le hq (fst_mono hv h1 h2)⟩
        case measure => simp only [intOf]; omega
    · have hm := memB_found hv (x := x) (k := l) (by omega) (unhide HL) (fun i h1 h2 => unhide HG i (by omega) h2)
      have HM := hide hm
      clear hm
      by_cases h0 : 0 < l
      · have hcell : w.cell? ⟨bl, ol + (l - 1), none⟩ = some (.int .i64 (at' ps (l - 1)).2) := (unhide HC _ (by omega)).2
        go_wp2
        go_ret
        exact ⟨ret_bool (by rw [unhide HM]; simp [h0]), rfl⟩
      · go_wp2
        go_ret
        exact ⟨ret_bool (by rw [unhide HM]; simp [h0]), rfl⟩

theorem in_any (af al : Option Addr) (n cf cl : Nat) (ps : List (Int × Int)) (x : Int) (w : World) (hn : n ≤ 1048576) (hl : ps.length = n) (hv : Val ps) (hr : Two w af al ps) :
    Calls Try.prog 16 #[.slice af n cf, .slice al n cl, .int .i64 x] w fun e w' => e = .returned (.bool (memB ps x)) ∧ w' = w := by
  by_cases h0 : 0 < ps.length
  · obtain ⟨bf, of, bl, ol, rfl, rfl, hc⟩ := hr.at h0
    exact in_some bf of bl ol n cf cl ps x w hn hl hv (fun i hi => hc i (by omega))
  · obtain rfl : ps = [] := List.eq_nil_of_length_eq_zero (by omega)
    obtain rfl : n = 0 := by simpa using hl.symm
    exact in_none af al cf cl x w

theorem vali_succ {ps : List (Int × Int)} {k : Nat} (h : ValI ps k) (h1 : 0 ≤ (at' ps k).1) (h2 : (at' ps k).1 ≤ (at' ps k).2) (h3 : 0 < k → (at' ps (k - 1)).2 < (at' ps k).1 - 1) : ValI ps (k + 1) := by
  intro i hi
  by_cases e : i < k
  · exact h i e
  · obtain rfl : i = k := by omega
    exact ⟨h1, h2, h3⟩

set_option maxHeartbeats 800000 in
theorem valid_even (af al : Option Addr) (n cf cl : Nat) (ps : List (Int × Int)) (w : World) (hn : n ≤ 1048576) (hl : ps.length = n) (hr : Two w af al ps) (hb : ∀ i, i < n → -9223372036854775808 ≤ (at' ps i).1 ∧ (at' ps i).1 ≤ 9223372036854775807) :
    Calls Try.prog 9 #[.slice af n cf, .slice al n cl] w fun e w' => ∃ b : Bool, e = .returned (.bool b) ∧ (b = true ↔ ValI ps n) ∧ Below w.heap.size w w' := by
  have HB := hide hb
  clear hb
  go_enter Try.func9, Try.ntmps9
  go_wp2
  go_loopw [5] (fun i wr => ∃ k : Nat, k ≤ n ∧ i = .int .i64 k ∧ ValI ps k ∧ Below w.heap.size w wr) (fun i _ => n - (intOf i).toNat)
  case atStart => exact ⟨0, by omega, rfl, fun i hi => by omega, Below.refl _ _⟩
  case round =>
    obtain ⟨k, hk, rfl, hval, hbr⟩ := hrel
    have HV := hide hval
    clear hval
    by_cases hlt : k < n
    · obtain ⟨bf, of, bl, ol, rfl, rfl, hc⟩ := (hr.below hbr).at (by omega)
      have h1 : wr.cell? ⟨bf, of + k, none⟩ = some (.int .i64 (at' ps k).1) := (hc k (by omega)).1
      have h2 : wr.cell? ⟨bl, ol + k, none⟩ = some (.int .i64 (at' ps k).2) := (hc k (by omega)).2
      have h3 : 0 < k → wr.cell? ⟨bl, ol + (k - 1), none⟩ = some (.int .i64 (at' ps (k - 1)).2) := fun _ => (hc (k - 1) (by omega)).2
      have hbd := unhide HB k hlt
      have hk0 : (0 : Int) ≤ (k : Int) := by omega
      have hk1 : (k : Int) < (n : Int) := by omega
      clear hc
      have HN : Hid (¬ (0 ≤ (at' ps k).1 ∧ (at' ps k).1 ≤ (at' ps k).2 ∧ (0 < k → (at' ps (k - 1)).2 < (at' ps k).1 - 1)) → ¬ ValI ps n) := fun h1 h2 => h1 (h2 k hlt)
      have HY : Hid (0 ≤ (at' ps k).1 → (at' ps k).1 ≤ (at' ps k).2 → (0 < k → (at' ps (k - 1)).2 < (at' ps k).1 - 1) → ValI ps (k + 1)) := vali_succ (unhide HV)
      generalize (at' ps k).1 = F at *
      generalize (at' ps k).2 = L at *
      by_cases c1 : F < 0
      · have d1 : decide (F < 0) = true := decide_eq_true c1
        go_wp2
        go_quiet (fail)
        go_wp2
        go_ret
        exact ⟨false, rfl, ⟨fun h => (by cases h), fun h => absurd h (unhide HN (fun h => by omega))⟩, below_drewN hbr _⟩
      · have d1 : decide (F < 0) = false := decide_eq_false c1
        by_cases c2 : L < F
        · go_wp2
          go_quiet (fail)
          go_wp2
          go_ret
          exact ⟨false, rfl, ⟨fun h => (by cases h), fun h => absurd h (unhide HN (fun h => by omega))⟩, below_drewN hbr _⟩
        · by_cases c3 : 0 < k
          · have h3' := h3 c3
            clear h3
            generalize (at' ps (k - 1)).2 = L' at *
            have hw : IntKind.i64.wrap (F - 1) = F - 1 := IntWalk.i64_in _ (by omega)
            have hwk : IntKind.i64.wrap ((k : Int) - 1) = (k : Int) - 1 := IntWalk.i64_in _ (by omega)
            have hk2 : (0 : Int) ≤ (k : Int) - 1 := by omega
            have hk3 : (k : Int) - 1 < (n : Int) := by omega
            have hk4 : ((k : Int) - 1).toNat = k - 1 := by omega
            have d3 : decide ((0 : Int) < (k : Int)) = true := decide_eq_true (by omega)
            by_cases c4 : F - 1 ≤ L'
            · go_wp2
              go_quiet (fail)
              go_wp2
              go_quiet (fail)
              go_wp2
              go_ret
              exact ⟨false, rfl, ⟨fun h => (by cases h), fun h => absurd h (unhide HN (fun h => by have := h.2.2 c3; omega))⟩, below_drewN (below_drewN hbr _) _⟩
            · go_wp2
              go_quiet (fail)
              go_wp2
              go_quiet (fail)
              go_wp2
              go_roundw
              case rel => exact ⟨k + 1, by omega, by go_num, unhide HY (by omega) (by omega) (fun _ => by omega), below_drewN hbr _⟩
              case measure => simp [intOf]; omega
          · have d3 : decide ((0 : Int) < (k : Int)) = false := decide_eq_false (by omega)
            go_wp2
            go_quiet (fail)
            go_wp2
            go_quiet (fail)
            go_wp2
            go_roundw
            case rel => exact ⟨k + 1, by omega, by go_num, unhide HY (by omega) (by omega) (fun h => by omega), below_drewN hbr _⟩
            case measure => simp [intOf]; omega
    · go_wp2
      go_ret
      refine ⟨true, rfl, ⟨fun _ => ?_, fun _ => rfl⟩, hbr⟩
      rw [show n = k by omega]
      exact unhide HV

set_option maxHeartbeats 400000 in
theorem valid_uneven (af al : Option Addr) (n0 n1 cf cl : Nat) (w : World) (hn0 : n0 ≤ 1048576) (hn1 : n1 ≤ 1048576) (h : n0 ≠ n1) :
    Calls Try.prog 9 #[.slice af n0 cf, .slice al n1 cl] w fun e w' => e = .returned (.bool false) ∧ w' = w := by
  have hb : ((n0 : Int) != (n1 : Int)) = true := by simp; omega
  go_enter Try.func9, Try.ntmps9
  go_wp2
  go_ret
  exact ⟨rfl, rfl⟩

/-- 'zzEqual' of one list with itself. -/
theorem equal_same (a b : Option Addr) (n ca cb : Nat) (zs : List Int) (w : World) (hn : n ≤ 1048576) (hl : zs.length = n) (ha : Rd w a zs) (hb : Rd w b zs) :
    Calls Try.prog 15 #[.slice a n ca, .slice b n cb] w fun e w' => e = .returned (.bool true) ∧ Below w.heap.size w w' := by
  go_enter Try.func15, Try.ntmps15
  go_wp2
  go_loopw [5] (fun i wr => ∃ k : Nat, k ≤ n ∧ i = .int .i64 k ∧ Below w.heap.size w wr) (fun i _ => n - (intOf i).toNat)
  case atStart => exact ⟨0, by omega, rfl, Below.refl _ _⟩
  case round =>
    obtain ⟨k, hk, rfl, hbr⟩ := hrel
    by_cases hlt : k < n
    · obtain ⟨b1, o1, rfl, h1⟩ := (ha.below hbr).at (by omega)
      obtain ⟨b2, o2, rfl, h2⟩ := (hb.below hbr).at (by omega)
      have h1' := h1 k (by omega)
      have h2' := h2 k (by omega)
      have hk0 : (0 : Int) ≤ (k : Int) := by omega
      have hk1 : (k : Int) < (n : Int) := by omega
      clear h1 h2
      generalize zs.getD k 0 = Z at *
      go_wp2
      go_quiet (fail)
      go_wp2
      go_roundw
      case rel => exact ⟨k + 1, by omega, by go_num, below_drewN hbr _⟩
      case measure => simp [intOf]; omega
    · go_wp2
      go_ret
      exact ⟨rfl, hbr⟩
end Go.Proofs.Qxb6617949a
