/- THE WALK OF THE LAW 'FnRankCountsAtMostEveryCut'. -/
import Derived.Test.Qxb6617903aRank
import Derived.Deep.RegionWith
import Derived.Deep.DeepCutAuto
import Derived.WalkSpells
import Derived.Deep.Light
namespace Go.Proofs.Qxb6617903a
open Go.RowKit RankPlain
set_option linter.unusedSimpArgs false
set_option linter.unusedVariables false

theorem Try.info2 : (Try.prog.info? 2).map (fun i => (i.zero, i.size, i.bytes)) = some (some (.int .i64 0), 1, 8) := by kernel_rfl
theorem Try.size2 : (Try.prog.info? 2).map (·.size) = some 1 := by kernel_rfl

set_option maxHeartbeats 400000 in
theorem law_long (a0 : Option Addr) (len0 cap0 : Nat) (p : Int) (w : World) (h1 : 131072 < len0) (hm : len0 ≤ maxLen) :
    Calls Try.prog 4 #[.slice a0 len0 cap0, .int .i64 p] w fun e w' => e = .returned (.bool true) ∧ Below w.heap.size w w' := by
  unfold maxLen at hm
  by_cases h2 : 1048576 < len0
  · go_enter Try.func4, Try.ntmps4
    go_wp2
    go_ret
    exact ⟨rfl, Below.refl _ _⟩
  · go_enter Try.func4, Try.ntmps4
    go_wp2
    go_ret
    exact ⟨rfl, Below.refl _ _⟩

set_option maxHeartbeats 800000 in
theorem law_nil (p : Int) (w : World) :
    Calls Try.prog 4 #[.slice none 0 0, .int .i64 p] w fun e w' => e = .returned (.bool true) ∧ Below w.heap.size w w' := by
  have hnil := fun wx => run_neq_slice_nil_any (P := Try.prog) wx 22 2 none 0 0 0 0 Try.underlying22
  have HPA : Hid (∀ wx, Below w.heap.size w wx → Calls Try.prog 11 #[.slice none 0 0, .int .i64 p] wx fun e w' => e = .returned (.int .i64 0) ∧ Below w.heap.size w w') :=
    fun wx hx => (zzrank_any 0 0 none [] p wx (by omega) rfl (fun i hi => by simp at hi) (Rd.nil _ _)).mono fun e w' h => ⟨h.1, hx.trans (h.2.mono hx.size)⟩
  go_enter Try.func4, Try.ntmps4
  go_wp2
  refine wp_loop_rounds 1 ?_; rw [rounds_succ]
  go_wp2
  refine wp_loop_rounds 1 ?_; rw [rounds_succ]
  go_wp2_with fail
  refine (HPA.out _ (Below.refl _ _)).mono ?_
  rintro e w1 ⟨rfl, hb1⟩
  go_wp2
  refine wp_loop_rounds 2 ?_; rw [rounds_succ]
  go_wp2
  go_region_with (go_at_call 11; refine (HPA.out _ ?_).mono ?_; (first | assumption | exact hb1.drew); rintro e w2 ⟨rfl, hb2⟩)
  go_wp2
  rw [rounds_succ]
  go_wp2
  go_ret
  exact ⟨rfl, by assumption⟩

set_option maxHeartbeats 1600000 in
theorem law_some (x : Addr) (n cap0 : Nat) (zs : List Int) (p : Int) (w : World) (h1 : n ≤ 131072) (hz : zs.length = n) (hr : Rd w (some x) zs) :
    Calls Try.prog 4 #[.slice (some x) n cap0, .int .i64 p] w fun e w' => e = .returned (.bool true) ∧ Below w.heap.size w w' := by
  have hnil := fun wx => run_neq_slice_nil_any (P := Try.prog) wx 22 2 (some x) n cap0 0 0 Try.underlying22
  obtain ⟨i0, hi, hz0, hz1, hz2⟩ := info_parts Try.info2
  go_enter Try.func4, Try.ntmps4
  go_wp2_with (first | go_in | (at_make; refine wpList_make_full _ rfl (.tmp 21) (.tmp 21) 22 rfl w.heap.size 2 i0 (.int .i64 0) 1 Try.underlying22 hi hz0 hz1 _ _ _ _ n rfl rfl rfl rfl ?b2 ?b3 ?b4 ?_))
  case b2 => rw [hz2]; omega
  case b3 => unfold maxLen; omega
  case b4 => exact Nat.le_refl _
  intro w1 hown hgrow
  have hb1 := below_grown hgrow
  clear hgrow
  go_wp2_with (refine wpList_copy_first rfl (.tmp 23) (.tmp 24) 22 rfl 2 Try.underlying22 Try.size2 w n cap0 x rfl rfl zs hz hr _ hown hb1 ?_)
  intro w2 hr2 hb2
  clear hown hb1 hr hi hz0 hz1 hz2 hnil
  obtain ⟨g, Hg⟩ : ∃ g, Hid (g = w.heap.size) := ⟨_, rfl⟩
  rw [← Hg.out] at hr2 ⊢
  have hc2 : ∀ wx, Rd wx (some ⟨g, 0, none⟩) zs → ∀ i, i < n → wx.cell? ⟨g, i, none⟩ = some (.int .i64 (zs.getD i 0)) := by
    intro wx hx i hi
    obtain ⟨b, off, e, hc⟩ := hx i (by omega)
    simp at e
    obtain ⟨rfl, rfl⟩ := e
    simpa using hc
  have HC : Hid (∀ wx, Rd wx (some ⟨g, 0, none⟩) zs → ∀ i, i < n → wx.cell? ⟨g, i, none⟩ = some (.int .i64 (zs.getD i 0))) := hc2
  clear hc2
  go_wp2
  go_loopw [6] (fun i wr => ∃ k : Nat, 1 ≤ k ∧ k ≤ n + 1 ∧ i = .int .i64 k ∧ (∀ j, j + 1 < k → j + 1 < zs.length → zs.getD j 0 < zs.getD (j + 1) 0) ∧ Rd wr (some ⟨g, 0, none⟩) zs ∧ Below w.heap.size w wr) (fun i _ => n + 1 - (intOf i).toNat)
  case atStart => exact ⟨1, by omega, by omega, rfl, fun j h => by omega, hr2, hb2⟩
  case round =>
    obtain ⟨k, hk1, hk, rfl, hasc, hrr, hbr⟩ := hrel
    have HA : Hid (∀ j, j + 1 < k → j + 1 < zs.length → zs.getD j 0 < zs.getD (j + 1) 0) := hasc
    clear hasc hr2 hb2
    by_cases hlt : k < n
    · have hc1 : wr.cell? ⟨g, k - 1, none⟩ = some (.int .i64 (zs.getD (k - 1) 0)) := HC.out _ hrr _ (by omega)
      have hc2 : wr.cell? ⟨g, k, none⟩ = some (.int .i64 (zs.getD k 0)) := HC.out _ hrr _ (by omega)
      go_wp2
      go_quiet (fail)
      go_wp2
      · go_ret
        exact ⟨rfl, below_drewN hbr _⟩
      · have hq : zs[k - 1]?.getD 0 < zs[k] := by assumption
        go_roundw
        case rel =>
          refine ⟨k + 1, by omega, by omega, by go_num, ?_, hrr.below (below_drewN (Below.refl _ _) _), below_drewN hbr _⟩
          intro j hj hjz
          by_cases hjk : j + 1 < k
          · exact HA.out j hjk hjz
          · obtain rfl : j = k - 1 := by omega
            have e : k - 1 + 1 = k := by omega
            rw [e]
            simpa [List.getD, show k < zs.length by omega] using hq
        case measure => simp [intOf]; omega
    · have hasc : Asc zs := fun j hj => HA.out j (by omega) hj
      clear HA
      go_wp2
      go_loop [7, 8] (fun v i => ∃ m : Nat, m ≤ n ∧ i = .int .i64 m ∧ v = .int .i64 (cnt (zs.take m) p : Nat)) (fun _ i => n - (intOf i).toNat)
      case atStart => exact ⟨0, by omega, rfl, rfl⟩
      case round =>
        obtain ⟨m, hm, rfl, rfl⟩ := hrel
        have hle := cnt_le (zs.take m) p
        have hlt2 : (zs.take m).length ≤ m := List.length_take_le _ _
        by_cases hmn : m < n
        · have hc1 : wr.cell? ⟨g, m, none⟩ = some (.int .i64 (zs.getD m 0)) := HC.out _ hrr _ (by omega)
          have HS : Hid (cnt (zs.take (m + 1)) p = cnt (zs.take m) p + if zs.getD m 0 ≤ p then 1 else 0) := cnt_step zs p m (by omega)
          go_wp2
          · have hq : zs[m] ≤ p := by assumption
            go_round
            case rel => exact ⟨m + 1, by omega, by go_num, congrArg (Value.int .i64) (by rw [HS.out, if_pos (by simpa [List.getD, show m < zs.length by omega] using hq)]; omega)⟩
            case measure => simp [intOf]; omega
          · have hq : p < zs[m] := by assumption
            go_round
            case rel => exact ⟨m + 1, by omega, by go_num, congrArg (Value.int .i64) (by rw [HS.out, if_neg (by simp [List.getD, show m < zs.length by omega]; omega)]; omega)⟩
            case measure => simp [intOf]; omega
        · have et : zs.take m = zs := List.take_of_length_le (by omega)
          rw [et]
          rw [et] at hle
          clear et hlt2
          go_wp2_with fail
          refine (zzrank_any n n (some ⟨g, 0, none⟩) zs p wr h1 hz hasc hrr).mono ?_
          rintro e w1 ⟨rfl, hb1⟩
          have hr1 := hrr.below hb1
          have hbel1 : Below w.heap.size w w1 := hbr.trans (hb1.mono hbr.size)
          clear hb1 hrr hbr
          obtain ⟨cz, Hcz⟩ : ∃ cz, Hid (cz = cnt zs p) := ⟨_, rfl⟩
          rw [← Hcz.out] at hle ⊢
          go_wp2
          go_loopw [10] (fun i wx => ∃ j : Nat, j ≤ n + 1 ∧ i = .int .i64 j ∧ Rd wx (some ⟨g, 0, none⟩) zs ∧ Below w.heap.size w wx) (fun i _ => n + 1 - (intOf i).toNat)
          case atStart => exact ⟨0, by omega, rfl, hr1, hbel1⟩
          case round =>
            obtain ⟨j, hj, rfl, hrr, hbr⟩ := hrel
            clear hr1 hbel1
            by_cases hjn : j ≤ n
            · have hla := cnt_le (zs.take j) p
              have hlb := cnt_le (zs.drop j) p
              have hla2 : (zs.take j).length ≤ j := List.length_take_le _ _
              have hlb2 : (zs.drop j).length ≤ zs.length := by simp
              have HPA : Hid (∀ wx, Below wr.heap.size wr wx → Calls Try.prog 11 #[.slice (some ⟨g, 0, none⟩) j n, .int .i64 p] wx fun e w' => e = .returned (.int .i64 (cnt (zs.take j) p : Nat)) ∧ Below wr.heap.size wr w') :=
                fun wx hx => (zzrank_any j n (some ⟨g, 0, none⟩) (zs.take j) p wx (by omega) (by simp; omega) (asc_take hasc j) ((hrr.below hx).take j)).mono fun e w' h => ⟨h.1, hx.trans (h.2.mono hx.size)⟩
              have HPB : Hid (∀ (a2 : Option Addr) wx, (j < n → a2 = some ⟨g, j, none⟩) → Below wr.heap.size wr wx → Calls Try.prog 11 #[.slice a2 (n - j) (n - j), .int .i64 p] wx fun e w' => e = .returned (.int .i64 (cnt (zs.drop j) p : Nat)) ∧ Below wr.heap.size wr w') :=
                fun a2 wx h2 hx => (zzrank_any (n - j) (n - j) a2 (zs.drop j) p wx (by omega) (by simp; omega) (asc_drop hasc j) ((hrr.below hx).drop j (fun h => by simpa using h2 (by omega)))).mono fun e w' h => ⟨h.1, hx.trans (h.2.mono hx.size)⟩
              have hne : (IntKind.i64.wrap (((cnt (zs.take j) p : Nat) : Int) + ((cnt (zs.drop j) p : Nat) : Int)) != (cz : Int)) = false := by have := cnt_split zs p j; rw [Hcz.out, IntKind.wrap_i64]; simp; omega
              have hs1 : cnt (zs.take j) p + cnt (zs.drop j) p ≤ cz := by have := cnt_split zs p j; rw [Hcz.out]; omega
              have hs2 : cz ≤ cnt (zs.take j) p + cnt (zs.drop j) p := by have := cnt_split zs p j; rw [Hcz.out]; omega
              generalize cnt (zs.take j) p = ca at *
              generalize cnt (zs.drop j) p = cb at *
              by_cases hjc : j < n
              · have hnj : ¬ n = j := by omega
                have HPC : Hid (∀ wx, Below wr.heap.size wr wx → Calls Try.prog 11 #[.slice (some ⟨g, j, none⟩) (n - j) (n - j), .int .i64 p] wx fun e w' => e = .returned (.int .i64 (cb : Nat)) ∧ Below wr.heap.size wr w') := fun wx hx => HPB.out (some ⟨g, j, none⟩) wx (fun h => rfl) hx
                clear HPB
                go_wp2
                go_region_with (first | (go_at_call_of 11 (Value.slice (some ⟨g, 0, none⟩) j n); refine (HPA.out _ ?_).mono ?_; (first | assumption | exact (Below.refl _ _).drew); rintro e w1 ⟨rfl, hb1⟩) | (go_at_call 11; refine (HPC.out _ ?_).mono ?_; (first | assumption | exact (Below.refl _ _).drew); rintro e w2 ⟨rfl, hb2⟩))
                go_wp2
                go_roundw
                case rel => exact ⟨j + 1, by omega, by go_num, hrr.below (by assumption), hbr.trans (Below.mono (by assumption) hbr.size)⟩
                case measure => simp [intOf]; omega
              · obtain rfl : j = n := by omega
                have HPC : Hid (∀ wx, Below wr.heap.size wr wx → Calls Try.prog 11 #[.slice (some ⟨g, 0, none⟩) 0 0, .int .i64 p] wx fun e w' => e = .returned (.int .i64 (cb : Nat)) ∧ Below wr.heap.size wr w') := fun wx hx => by
                  have := HPB.out (some ⟨g, 0, none⟩) wx (fun h => by omega) hx
                  rwa [Nat.sub_self] at this
                clear HPB
                go_wp2
                go_region_with (first | (go_at_call_of 11 (Value.slice (some ⟨g, 0, none⟩) j j); refine (HPA.out _ ?_).mono ?_; (first | assumption | exact (Below.refl _ _).drew); rintro e w1 ⟨rfl, hb1⟩) | (go_at_call 11; refine (HPC.out _ ?_).mono ?_; (first | assumption | exact (Below.refl _ _).drew); rintro e w2 ⟨rfl, hb2⟩))
                go_wp2
                go_roundw
                case rel => exact ⟨j + 1, by omega, by go_num, hrr.below (by assumption), hbr.trans (Below.mono (by assumption) hbr.size)⟩
                case measure => simp [intOf]
            · go_wp2
              go_ret
              exact ⟨rfl, hbr⟩

theorem law_any (a0 : Option Addr) (n cap0 : Nat) (zs : List Int) (p : Int) (w : World) (hm : n ≤ maxLen) (hz : zs.length = n) (hr : Rd w a0 zs) (hnone : a0 = none → n = 0 ∧ cap0 = 0) :
    Calls Try.prog 4 #[.slice a0 n cap0, .int .i64 p] w fun e w' => e = .returned (.bool true) ∧ Below w.heap.size w w' := by
  by_cases h1 : n ≤ 131072
  · cases a0 with
    | none =>
      obtain ⟨rfl, rfl⟩ := hnone rfl
      exact law_nil p w
    | some x => exact law_some x n cap0 zs p w h1 hz hr
  · exact law_long a0 n cap0 p w (by omega) hm
end Go.Proofs.Qxb6617903a
