/- THE WALK OF THE LAW 'FnMinusOfRunsOfIsRunsOfTheKept'. -/
import Derived.Test.Qxb6617949aKepEarly
namespace Go.Proofs.Qxb6617949a
open Go.RowKit Plain Merge
set_option linter.unusedSimpArgs false
set_option linter.unusedVariables false

set_option maxRecDepth 100000 in
set_option maxHeartbeats 4000000 in
theorem Kep_short (a0 a1 : Option Addr) (n0 n1 c0 c1 : Nat) (zx zy : List Int) (w : World) (h0 : n0 ≤ 65536) (h1 : n1 ≤ 65536) (l0 : zx.length = n0) (l1 : zy.length = n1) (r0 : Rd w a0 zx) (r1 : Rd w a1 zy)
    (e0 : a0 = none → n0 = 0 ∧ c0 = 0) (e1 : a1 = none → n1 = 0 ∧ c1 = 0) (f0 : ∀ z ∈ zx, (Lit.int .i64 z).wf = true) (f1 : ∀ z ∈ zy, (Lit.int .i64 z).wf = true) :
    Calls Try.prog 7 #[.slice a0 n0 c0, .slice a1 n1 c1] w fun e w' => e = .returned (.bool true) ∧ Below w.heap.size w w' := by
  obtain ⟨i0, hi, hz0, hz1, hz2⟩ := info_parts Try.info3
  have E0 := hide e0
  have E1 := hide e1
  have F0 := hide f0
  have F1 := hide f1
  clear e0 e1 f0 f1
  go_enter Try.func7, Try.ntmps7
  go_wp2_with fail
  refine (Kep_bytes a0 a1 n0 n1 c0 c1 w h0 h1).mono ?_
  rintro e w' ⟨rfl, rfl⟩
  go_wp2
  go_loop [5] (fun i => ∃ k : Nat, k ≤ n0 ∧ i = .int .i64 k ∧ ∀ j, j < k → 0 ≤ zx.getD j 0) (fun i => n0 - (intOf i).toNat)
  case atStart => exact ⟨0, by omega, rfl, fun j hj => by omega⟩
  case round =>
    obtain ⟨k, hk, rfl, hpos⟩ := hrel
    have HP := hide hpos
    clear hpos
    by_cases hkn : k < n0
    · obtain ⟨b, off, rfl, hc⟩ := r0.at (by omega)
      have hck := hc k (by omega)
      clear hc
      have HS : Hid (0 ≤ zx.getD k 0 → ∀ j, j < k + 1 → 0 ≤ zx.getD j 0) := fun h j hj => by
        by_cases hjk : j < k
        · exact unhide HP j hjk
        · obtain rfl : j = k := by omega
          exact h
      generalize zx.getD k 0 = T at *
      by_cases hT : T < 0
      · go_wp2
        go_ret
        exact ⟨rfl, Below.refl _ _⟩
      · go_wp2
        go_round
        case rel => exact ⟨k + 1, by omega, by go_num, unhide HS (by omega)⟩
        case measure => simp [intOf]; omega
    · have hix : Idx zx := idx_of (fun j hj => unhide HP j (by omega)) (unhide F0)
      clear HP F0
      go_wp2
      go_loop [6] (fun i => ∃ k : Nat, k ≤ n1 ∧ i = .int .i64 k ∧ ∀ j, j < k → 0 ≤ zy.getD j 0) (fun i => n1 - (intOf i).toNat)
      case atStart => exact ⟨0, by omega, rfl, fun j hj => by omega⟩
      case round =>
        obtain ⟨k2, hk2, rfl, hpos⟩ := hrel
        have HP := hide hpos
        clear hpos
        by_cases hkn2 : k2 < n1
        · obtain ⟨b, off, rfl, hc⟩ := r1.at (by omega)
          have hck := hc k2 (by omega)
          clear hc
          have HS : Hid (0 ≤ zy.getD k2 0 → ∀ j, j < k2 + 1 → 0 ≤ zy.getD j 0) := fun h j hj => by
            by_cases hjk : j < k2
            · exact unhide HP j hjk
            · obtain rfl : j = k2 := by omega
              exact h
          generalize zy.getD k2 0 = T at *
          by_cases hT : T < 0
          · go_wp2
            go_ret
            exact ⟨rfl, Below.refl _ _⟩
          · go_wp2
            go_round
            case rel => exact ⟨k2 + 1, by omega, by go_num, unhide HS (by omega)⟩
            case measure => simp [intOf]; omega
        · have hiy : Idx zy := idx_of (fun j hj => unhide HP j (by omega)) (unhide F1)
          clear HP F1
          go_wp2_with fail
          refine (sorted_any a1 n1 c1 zy w' h1 l1 r1).mono ?_
          rintro e w1 ⟨gs, A, rfl, hasc, himg, hrs, hbs1⟩
          have HASC := hide hasc
          have HIMG := hide himg
          clear hasc himg
          have r0' := r0.below hbs1
          have r1' := r1.below hbs1
          have hgs := hrs.lt
          go_wp2_with (at_make; refine wpList_make_own _ rfl _ _ 22 rfl w1.heap.size 3 i0 (.int .i64 0) 1 Try.underlying22 hi hz0 hz1 _ _ _ n0 rfl rfl (by omega) (by rw [hz2]; omega) (by unfold maxLen; omega) (Nat.le_refl _) ?_)
          intro w2 hown1 hgr1
          have hb1 := below_grown hgr1
          clear hgr1
          obtain ⟨v0, hv0⟩ : ∃ v0, v0 = Value.slice (some ⟨w1.heap.size, 0, none⟩) 0 n0 := ⟨_, rfl⟩
          rw [← hv0] at hown1 ⊢
          clear hv0
          go_wp2
          go_loopw [8, 9] (fun v i wr => ∃ (k : Nat) (xs : List Int), k ≤ n0 ∧ i = .int .i64 k ∧ xs = kp zy (zx.take k) ∧ xs.length ≤ k ∧ wr.ownsRow w1.heap.size 3 1 v xs.length (xs.map (Value.int .i64)) ∧ Below w1.heap.size w1 wr) (fun _ i _ => n0 - (intOf i).toNat)
          case atStart => exact ⟨0, [], by omega, rfl, by simp [kp], by simp, by simpa using hown1, hb1⟩
          case round =>
            obtain ⟨k3, xs, hk3, rfl, hxs, hxl, hown2, hbr⟩ := hrel
            clear hown1 hb1
            have hbs := hbr.size
            have HXS := hide hxs
            clear hxs
            by_cases hk3n : k3 < n0
            · obtain ⟨b, off, rfl, hc⟩ := (r0'.below hbr).at (by omega)
              have hck := hc k3 (by omega)
              clear hc
              have HTS := hide (take_snoc zx k3 (by omega))
              generalize zx.getD k3 0 = T at *
              by_cases hT : T ∈ zy
              · have HIN := hide (has_any gs n1 n1 A T wr (by omega) (unhide HASC) (hrs.of_block (hbr.block gs hgs)) true (by rw [unhide HIMG T]; simp [hT]))
                have HE : Hid (xs = kp zy (zx.take (k3 + 1))) := by show _ = _; rw [unhide HTS, kp_in hT]; exact unhide HXS
                clear hT
                go_wp2_with (go_at_call 22; refine (unhide HIN).mono ?_; rintro e w12 ⟨rfl, rfl⟩)
                go_roundw
                case rel => exact ⟨k3 + 1, xs, by omega, by go_num, unhide HE, by omega, hown2, hbr⟩
                case measure => simp [intOf]; omega
              · have HIN := hide (has_any gs n1 n1 A T wr (by omega) (unhide HASC) (hrs.of_block (hbr.block gs hgs)) false (by rw [unhide HIMG T]; simp [hT]))
                have HE : Hid (xs ++ [T] = kp zy (zx.take (k3 + 1))) := by show _ = _; rw [unhide HTS, kp_out hT, ← unhide HXS]
                clear hT
                obtain ⟨us, hus⟩ : ∃ us, us = xs.map (Value.int .i64) := ⟨_, rfl⟩
                rw [← hus] at hown2
                have HUS := hide hus
                clear hus
                go_wp2_with (first | (go_at_call 22; refine (unhide HIN).mono ?_; rintro e w12 ⟨rfl, rfl⟩) | (at_builtin; refine wpList_append_own _ rfl (.tmp 72) (.tmp 77) 22 rfl w1.heap.size 3 i0 (.int .i64 0) 1 8 Try.underlying22 hi hz0 hz1 hz2 rfl (by decide) _ _ _ rfl (hown2.alloc _) ⟨_, 0, none⟩ 1 1 [.int .i64 T] rfl rfl (one_new _ _ _ _ rfl) (ints_oneCell .i64 [T]) (by unfold maxLen; omega) (by omega) (by simp; omega) ?_))
                intro v' w4 hown4 hgr4 _
                have hb4 : Below w1.heap.size w1 w4 := (hbr.alloc hbs _).grown hgr4 (by simp; omega) (fun x hx => (hown2.lt x hx).1)
                clear hgr4 hown2
                go_wp2
                go_roundw
                case rel => exact ⟨k3 + 1, xs ++ [T], by omega, by go_num, unhide HE, by simp; omega, by rw [List.map_append, ← unhide HUS, List.length_append]; exact hown4, hb4⟩
                case measure => simp [intOf]; omega
            · obtain rfl : k3 = n0 := by omega
              have HK : Hid (∀ x, x ∈ xs ↔ x ∈ zx ∧ x ∉ zy) := fun x => by
                have e := unhide HXS
                rw [List.take_of_length_le (by omega)] at e
                rw [e]; exact mem_kp
              have hik : Idx xs := fun z hz => hix z ((unhide HK z).1 hz).1
              clear HXS hi hz0 hz1 hz2
              obtain ⟨w3, hw3⟩ : ∃ w3 : World, w3 = wr := ⟨_, rfl⟩
              rw [← hw3] at hown2 hbr hbs ⊢
              clear hw3
              obtain ⟨ak, ck, ek, rk, hlk, hnk⟩ := own_ints hown2
              subst ek
              have HNK : Hid (ak = none → xs.length = 0 ∧ ck = 0) := fun h => by have := hnk h; omega
              clear hown2 hnk
              have rx := r0'.below hbr
              have ry := r1'.below hbr
              have hbw3 := hbs1.trans (hbr.mono hbs1.size)
              clear r0' r1' hbr hbs1
              go_wp2_with fail
              refine (zzclone_any a0 k3 c0 zx w3 (by omega) l0 rx (unhide E0)).mono ?_
              rintro e w4 ⟨v1, rfl, ov1, hb4⟩
              go_wp2_with fail
              refine (zzrunsof_any w3.heap.size v1 k3 zx w4 (by omega) l0 hix ov1).mono ?_
              rintro e w5 ⟨g1, g2, oa, rfl, ta, hra, hla, hg1, hg2, hgr5⟩
              have hb5 := below_of_grown hb4 ov1 hgr5
              have rk5 := rk.below hb5
              have ry5 := ry.below hb5
              have hbw5 := hbw3.trans (hb5.mono hbw3.size)
              have HRA := hide hra
              clear hb4 ov1 hgr5 hg1 hg2 hra hb5 rk ry rx hbw3
              go_wp2_with fail
              refine (zzclone_any a1 n1 c1 zy w5 (by omega) l1 ry5 (unhide E1)).mono ?_
              rintro e w6 ⟨v2, rfl, ov2, hb6⟩
              go_wp2_with fail
              refine (zzrunsof_any w5.heap.size v2 n1 zy w6 (by omega) l1 hiy ov2).mono ?_
              rintro e w7 ⟨g3, g4, ob, rfl, tb, hrb, hlb, hg3, hg4, hgr7⟩
              have hb7 := below_of_grown hb6 ov2 hgr7
              have rk7 := rk5.below hb7
              have ta7 := ta.below hb7
              have hbw7 := hbw5.trans (hb7.mono hbw5.size)
              have HRB := hide hrb
              clear hb6 ov2 hgr7 hg3 hg4 hrb hb7 ta ry5 rk5 hbw5
              go_wp2_with fail
              refine (zzclone_any ak xs.length ck xs w7 (by omega) rfl rk7 (unhide HNK)).mono ?_
              rintro e w8 ⟨v3, rfl, ov3, hb8⟩
              go_wp2_with fail
              refine (zzrunsof_any w7.heap.size v3 xs.length xs w8 (by omega) rfl hik ov3).mono ?_
              rintro e w9 ⟨g5, g6, oj, rfl, tj, hrj, hlj, hg5, hg6, hgr9⟩
              have hb9 := below_of_grown hb8 ov3 hgr9
              have rk9 := rk7.below hb9
              have ta9 := ta7.below hb9
              have tb9 := tb.below hb9
              have hbw9 := hbw7.trans (hb9.mono hbw7.size)
              have HRJ := hide hrj
              clear hb8 ov3 hgr9 hg5 hg6 hrj hb9 ta7 tb rk7 hbw7
              go_wp2_with fail
              refine (zzminus_any (some ⟨g1, 0, none⟩) (some ⟨g2, 0, none⟩) (some ⟨g3, 0, none⟩) (some ⟨g4, 0, none⟩) oa.length ob.length oa.length oa.length ob.length ob.length oa ob w9 (by omega) (by omega) rfl rfl (unhide HRA).1 (unhide HRB).1 ta9 tb9).mono ?_
              rintro e w10 ⟨g7, g8, ou, rfl, tu, hvu, hmu, hlu, hb10⟩
              have eu : ou = oj := val_ext hvu (unhide HRJ).1 (fun x => by rw [hmu x, (unhide HRA).2 x, (unhide HRB).2 x, (unhide HRJ).2 x, unhide HK x])
              subst eu
              have tj10 := tj.below hb10
              have rk10 := rk9.below hb10
              have hbw10 := hbw9.trans (hb10.mono hbw9.size)
              clear hmu hb10 ta9 tb9 tj hbw9 hlu HRA HRB rk9
              go_wp2_with fail
              refine (equal_same (some ⟨g7, 0, none⟩) (some ⟨g5, 0, none⟩) ou.length ou.length ou.length (ou.map Prod.fst) w10 (by omega) (by simp) tu.f tj10.f).mono ?_
              rintro e w11 ⟨rfl, hb11⟩
              have tu11 := tu.below hb11
              have tj11 := tj10.below hb11
              have rk11 := rk10.below hb11
              have hbw11 := hbw10.trans (hb11.mono hbw10.size)
              clear hb11 tu tj10 hbw10 rk10
              go_wp2_with fail
              refine (equal_same (some ⟨g8, 0, none⟩) (some ⟨g6, 0, none⟩) ou.length ou.length ou.length (ou.map Prod.snd) w11 (by omega) (by simp) tu11.l tj11.l).mono ?_
              rintro e w12 ⟨rfl, hb12⟩
              have tu12 := tu11.below hb12
              have rk12 := rk11.below hb12
              have hbw12 := hbw11.trans (hb12.mono hbw11.size)
              have ry := r1.below hbw12
              clear hb12 tu11 tj11 hbw11 r0 r1 rk11
              go_wp2
              go_loopw [18] (fun i wr => ∃ k : Nat, k ≤ xs.length ∧ i = .int .i64 k ∧ w12 = wr) (fun i _ => xs.length - (intOf i).toNat)
              case atStart => exact ⟨0, by omega, rfl, rfl⟩
              case round =>
                obtain ⟨k5, hk5, rfl, rfl⟩ := hrel
                by_cases hk5n : k5 < xs.length
                · obtain ⟨b, off, rfl, hc⟩ := rk12.at (by omega)
                  have hck := hc k5 (by omega)
                  clear hc
                  have hin := in_any (some ⟨g7, 0, none⟩) (some ⟨g8, 0, none⟩) ou.length ou.length ou.length ou (xs.getD k5 0) w12 (by omega) rfl hvu tu12
                  rw [memB_true (((unhide HRJ).2 _).2 (getD_mem hk5n))] at hin
                  have HIN := hide hin
                  clear hin
                  generalize xs.getD k5 0 = T at *
                  go_wp2_with (go_at_call 16; refine (unhide HIN).mono ?_; rintro e w13 ⟨rfl, rfl⟩)
                  go_roundw
                  case rel => exact ⟨k5 + 1, by omega, by go_num, trivial⟩
                  case measure => simp [intOf]; omega
                · go_wp2
                  go_loopw [19] (fun i wr => ∃ k : Nat, k ≤ n1 ∧ i = .int .i64 k ∧ w12 = wr) (fun i _ => n1 - (intOf i).toNat)
                  case atStart => exact ⟨0, by omega, rfl, rfl⟩
                  case round =>
                    obtain ⟨k6, hk6, rfl, rfl⟩ := hrel
                    by_cases hk6n : k6 < n1
                    · obtain ⟨b, off, rfl, hc⟩ := ry.at (by omega)
                      have hck := hc k6 (by omega)
                      clear hc
                      have hin := in_any (some ⟨g7, 0, none⟩) (some ⟨g8, 0, none⟩) ou.length ou.length ou.length ou (zy.getD k6 0) w12 (by omega) rfl hvu tu12
                      rw [memB_false (fun h => ((unhide HK _).1 (((unhide HRJ).2 _).1 h)).2 (getD_mem (by omega)))] at hin
                      have HIN := hide hin
                      clear hin
                      generalize zy.getD k6 0 = T at *
                      go_wp2_with (go_at_call 16; refine (unhide HIN).mono ?_; rintro e w13 ⟨rfl, rfl⟩)
                      go_roundw
                      case rel => exact ⟨k6 + 1, by omega, by go_num, trivial⟩
                      case measure => simp [intOf]; omega
                    · go_wp2
                      go_ret
                      exact ⟨rfl, hbw12⟩

theorem Kep_any (a0 a1 : Option Addr) (n0 n1 c0 c1 : Nat) (zx zy : List Int) (w : World) (m0 : n0 ≤ maxLen) (m1 : n1 ≤ maxLen) (l0 : zx.length = n0) (l1 : zy.length = n1) (r0 : Rd w a0 zx) (r1 : Rd w a1 zy)
    (e0 : a0 = none → n0 = 0 ∧ c0 = 0) (e1 : a1 = none → n1 = 0 ∧ c1 = 0) (f0 : ∀ z ∈ zx, (Lit.int .i64 z).wf = true) (f1 : ∀ z ∈ zy, (Lit.int .i64 z).wf = true) :
    Calls Try.prog 7 #[.slice a0 n0 c0, .slice a1 n1 c1] w fun e w' => e = .returned (.bool true) ∧ Below w.heap.size w w' := by
  by_cases h : 65536 < n0 ∨ 65536 < n1
  · exact Kep_long a0 a1 n0 n1 c0 c1 w m0 m1 h
  · exact Kep_short a0 a1 n0 n1 c0 c1 zx zy w (by omega) (by omega) l0 l1 r0 r1 e0 e1 f0 f1
end Go.Proofs.Qxb6617949a
