/- THE WALK OF THE LAW 'FnUnionOfRunsOfIsRunsOfTheJoin'. -/
import Derived.Test.Qxb6617949aJoiEarly
namespace Go.Proofs.Qxb6617949a
open Go.RowKit Plain
set_option linter.unusedSimpArgs false
set_option linter.unusedVariables false

set_option maxRecDepth 100000 in
set_option maxHeartbeats 4000000 in
theorem Joi_short (a0 a1 : Option Addr) (n0 n1 c0 c1 : Nat) (zx zy : List Int) (w : World) (h0 : n0 ≤ 65536) (h1 : n1 ≤ 65536) (l0 : zx.length = n0) (l1 : zy.length = n1) (r0 : Rd w a0 zx) (r1 : Rd w a1 zy)
    (e0 : a0 = none → n0 = 0 ∧ c0 = 0) (e1 : a1 = none → n1 = 0 ∧ c1 = 0) (f0 : ∀ z ∈ zx, (Lit.int .i64 z).wf = true) (f1 : ∀ z ∈ zy, (Lit.int .i64 z).wf = true) :
    Calls Try.prog 4 #[.slice a0 n0 c0, .slice a1 n1 c1] w fun e w' => e = .returned (.bool true) ∧ Below w.heap.size w w' := by
  obtain ⟨i0, hi, hz0, hz1, hz2⟩ := info_parts Try.info3
  have E0 := hide e0
  have E1 := hide e1
  have F0 := hide f0
  have F1 := hide f1
  clear e0 e1 f0 f1
  go_enter Try.func4, Try.ntmps4
  go_wp2_with fail
  refine (Joi_bytes a0 a1 n0 n1 c0 c1 w h0 h1).mono ?_
  rintro e w' ⟨rfl, rfl⟩
  go_wp2
  go_loop [5] (fun i => ∃ k : Nat, k ≤ n0 ∧ i = .int .i64 k ∧ ∀ j, j < k → 0 ≤ zx.getD j 0) (fun i => n0 - (intOf i).toNat)
  case atStart => exact ⟨0, by omega, rfl, fun j hj => by omega⟩
  case round =>
    obtain ⟨k, hk, rfl, hpos⟩ := hrel
    have HP := hide hpos
    clear hpos
    by_cases hkn : k < n0
    · obtain ⟨b, off, rfl, hc⟩ := r0.at (by omega)
      have hck := hc k (by omega)
      clear hc
      have HS : Hid (0 ≤ zx.getD k 0 → ∀ j, j < k + 1 → 0 ≤ zx.getD j 0) := fun h j hj => by
        by_cases hjk : j < k
        · exact unhide HP j hjk
        · obtain rfl : j = k := by omega
          exact h
      generalize zx.getD k 0 = T at *
      by_cases hT : T < 0
      · go_wp2
        go_ret
        exact ⟨rfl, Below.refl _ _⟩
      · go_wp2
        go_round
        case rel => exact ⟨k + 1, by omega, by go_num, unhide HS (by omega)⟩
        case measure => simp [intOf]; omega
    · have hix : Idx zx := idx_of (fun j hj => unhide HP j (by omega)) (unhide F0)
      clear HP F0
      go_wp2
      go_loop [6] (fun i => ∃ k : Nat, k ≤ n1 ∧ i = .int .i64 k ∧ ∀ j, j < k → 0 ≤ zy.getD j 0) (fun i => n1 - (intOf i).toNat)
      case atStart => exact ⟨0, by omega, rfl, fun j hj => by omega⟩
      case round =>
        obtain ⟨k2, hk2, rfl, hpos⟩ := hrel
        have HP := hide hpos
        clear hpos
        by_cases hkn2 : k2 < n1
        · obtain ⟨b, off, rfl, hc⟩ := r1.at (by omega)
          have hck := hc k2 (by omega)
          clear hc
          have HS : Hid (0 ≤ zy.getD k2 0 → ∀ j, j < k2 + 1 → 0 ≤ zy.getD j 0) := fun h j hj => by
            by_cases hjk : j < k2
            · exact unhide HP j hjk
            · obtain rfl : j = k2 := by omega
              exact h
          generalize zy.getD k2 0 = T at *
          by_cases hT : T < 0
          · go_wp2
            go_ret
            exact ⟨rfl, Below.refl _ _⟩
          · go_wp2
            go_round
            case rel => exact ⟨k2 + 1, by omega, by go_num, unhide HS (by omega)⟩
            case measure => simp [intOf]; omega
        · have hiy : Idx zy := idx_of (fun j hj => unhide HP j (by omega)) (unhide F1)
          clear HP F1
          go_wp2_with (at_make; refine wpList_make_own _ rfl _ _ 22 rfl w'.heap.size 3 i0 (.int .i64 0) 1 Try.underlying22 hi hz0 hz1 _ _ _ (n0 + n1) rfl rfl (by omega) (by rw [hz2]; omega) (by unfold maxLen; omega) (Nat.le_refl _) ?_)
          intro w1 hown1 hgr1
          have hb1 := below_grown hgr1
          clear hgr1
          obtain ⟨v0, hv0⟩ : ∃ v0, v0 = Value.slice (some ⟨w'.heap.size, 0, none⟩) 0 (n0 + n1) := ⟨_, rfl⟩
          rw [← hv0] at hown1 ⊢
          clear hv0
          go_wp2
          go_loopw [7, 8] (fun v i wr => ∃ k : Nat, k ≤ n0 ∧ i = .int .i64 k ∧ wr.ownsRow w'.heap.size 3 1 v k ((zx.take k).map (Value.int .i64)) ∧ Below w'.heap.size w' wr) (fun _ i _ => n0 - (intOf i).toNat)
          case atStart => exact ⟨0, by omega, rfl, by simpa using hown1, hb1⟩
          case round =>
            obtain ⟨k3, hk3, rfl, hown2, hbr⟩ := hrel
            clear hown1 hb1
            have hbs := hbr.size
            by_cases hk3n : k3 < n0
            · obtain ⟨b, off, rfl, hc⟩ := (r0.below hbr).at (by omega)
              have hck := hc k3 (by omega)
              clear hc
              have HTS := hide (take_snoc zx k3 (by omega))
              generalize zx.getD k3 0 = T at *
              obtain ⟨xs, hxs⟩ : ∃ xs, xs = (zx.take k3).map (Value.int .i64) := ⟨_, rfl⟩
              rw [← hxs] at hown2
              have HXS := hide hxs
              clear hxs
              go_wp2_with (at_builtin; refine wpList_append_own _ rfl (.tmp 66) (.tmp 71) 22 rfl w'.heap.size 3 i0 (.int .i64 0) 1 8 Try.underlying22 hi hz0 hz1 hz2 rfl (by decide) _ _ _ rfl (hown2.alloc _) ⟨wr.heap.size, 0, none⟩ 1 1 [.int .i64 T] rfl rfl (one_new _ _ _ _ rfl) (ints_oneCell .i64 [T]) (by unfold maxLen; omega) (by omega) (by simp; omega) ?_)
              intro v' w4 hown4 hgr4 _
              have hb4 : Below w'.heap.size w' w4 := (hbr.alloc hbs _).grown hgr4 (by simp; omega) (fun x hx => (hown2.lt x hx).1)
              clear hgr4 hown2
              go_wp2
              go_roundw
              case rel => exact ⟨k3 + 1, by omega, by go_num, by rw [unhide HTS, List.map_append, ← unhide HXS]; exact hown4, hb4⟩
              case measure => simp [intOf]; omega
            · obtain rfl : k3 = n0 := by omega
              rw [List.take_of_length_le (by omega)] at hown2
              go_wp2
              obtain ⟨wo, hwo⟩ : ∃ wo : World, wo = wr := ⟨_, rfl⟩
              rw [← hwo] at hown2 hbr hbs ⊢
              clear hwo
              go_loopw [7, 9] (fun v i wr => ∃ k : Nat, k ≤ n1 ∧ i = .int .i64 k ∧ wr.ownsRow w'.heap.size 3 1 v (k3 + k) ((zx ++ zy.take k).map (Value.int .i64)) ∧ Below w'.heap.size w' wr) (fun _ i _ => n1 - (intOf i).toNat)
              case atStart => exact ⟨0, by omega, rfl, by simpa using hown2, hbr⟩
              case round =>
                obtain ⟨k4, hk4, rfl, hown3, hbr4⟩ := hrel
                clear hown2 hbr hbs
                have hbs := hbr4.size
                by_cases hk4n : k4 < n1
                · obtain ⟨b, off, rfl, hc⟩ := (r1.below hbr4).at (by omega)
                  have hck := hc k4 (by omega)
                  clear hc
                  have HTS := hide (take_snoc zy k4 (by omega))
                  generalize zy.getD k4 0 = T at *
                  obtain ⟨xs, hxs⟩ : ∃ xs, xs = (zx ++ zy.take k4).map (Value.int .i64) := ⟨_, rfl⟩
                  rw [← hxs] at hown3
                  have HXS := hide hxs
                  clear hxs
                  go_wp2_with (at_builtin; refine wpList_append_own _ rfl (.tmp 79) (.tmp 84) 22 rfl w'.heap.size 3 i0 (.int .i64 0) 1 8 Try.underlying22 hi hz0 hz1 hz2 rfl (by decide) _ _ _ rfl (hown3.alloc _) ⟨wr.heap.size, 0, none⟩ 1 1 [.int .i64 T] rfl rfl (one_new _ _ _ _ rfl) (ints_oneCell .i64 [T]) (by unfold maxLen; omega) (by omega) (by simp; omega) ?_)
                  intro v' w4 hown4 hgr4 _
                  have hb4 : Below w'.heap.size w' w4 := (hbr4.alloc hbs _).grown hgr4 (by simp; omega) (fun x hx => (hown3.lt x hx).1)
                  clear hgr4 hown3
                  go_wp2
                  go_roundw
                  case rel => exact ⟨k4 + 1, by omega, by go_num, by rw [unhide HTS, ← List.append_assoc, List.map_append, ← unhide HXS]; exact hown4, hb4⟩
                  case measure => simp [intOf]; omega
                · obtain rfl : k4 = n1 := by omega
                  rw [List.take_of_length_le (by omega)] at hown3
                  clear hi hz0 hz1 hz2
                  obtain ⟨w3, hw3⟩ : ∃ w3 : World, w3 = wr := ⟨_, rfl⟩
                  rw [← hw3] at hown3 hbr4 hbs ⊢
                  clear hw3
                  have HLT := hide hown3.lt
                  have rx := r0.below hbr4
                  have ry := r1.below hbr4
                  go_wp2_with fail
                  refine (zzclone_any a0 k3 c0 zx w3 (by omega) l0 rx (unhide E0)).mono ?_
                  rintro e w4 ⟨v1, rfl, ov1, hb4⟩
                  go_wp2_with fail
                  refine (zzrunsof_any w3.heap.size v1 k3 zx w4 (by omega) l0 hix ov1).mono ?_
                  rintro e w5 ⟨g1, g2, oa, rfl, ta, hra, hla, hg1, hg2, hgr5⟩
                  have hb5 := below_of_grown hb4 ov1 hgr5
                  have hxy5 := own_below hown3 hb5
                  have ry5 := ry.below hb5
                  have hs5 := hb5.size
                  have hg1' : w3.heap.size ≤ g1 := Nat.le_trans hb4.size hg1
                  have hg2' : w3.heap.size ≤ g2 := Nat.le_trans hb4.size hg2
                  have HRA := hide hra
                  clear hb4 ov1 hgr5 hown3 hg1 hg2 hra
                  go_wp2_with fail
                  refine (zzclone_any a1 k4 c1 zy w5 (by omega) l1 ry5 (unhide E1)).mono ?_
                  rintro e w6 ⟨v2, rfl, ov2, hb6⟩
                  go_wp2_with fail
                  refine (zzrunsof_any w5.heap.size v2 k4 zy w6 (by omega) l1 hiy ov2).mono ?_
                  rintro e w7 ⟨g3, g4, ob, rfl, tb, hrb, hlb, hg3, hg4, hgr7⟩
                  have hb7 := below_of_grown hb6 ov2 hgr7
                  have hxy7 := own_below hxy5 hb7
                  have ta7 := ta.below hb7
                  have hg3' : w3.heap.size ≤ g3 := by have := hb6.size; omega
                  have hg4' : w3.heap.size ≤ g4 := by have := hb6.size; omega
                  have hb37 := hb5.trans (hb7.mono hb5.size)
                  have HRB := hide hrb
                  clear hb6 ov2 hgr7 hxy5 hg3 hg4 hrb hb5 hb7 ta ry5 hs5
                  have hbw7 := hbr4.trans (hb37.mono hbr4.size)
                  have hixy : Idx (zx ++ zy) := fun z hz => (List.mem_append.1 hz).elim (hix z) (hiy z)
                  go_wp2_with fail
                  refine (zzrunsof_any w'.heap.size u7 (k3 + k4) (zx ++ zy) w7 (by omega) (by simp; omega) hixy hxy7).mono ?_
                  rintro e w8 ⟨g5, g6, oj, rfl, tj, hrj, hlj, hg5, hg6, hgr8⟩
                  have ta8 := ta7.kept hgr8 (fun h => by have := (unhide HLT g1 h.symm).2; omega) (fun h => by have := (unhide HLT g2 h.symm).2; omega)
                  have tb8 := tb.kept hgr8 (fun h => by have := (unhide HLT g3 h.symm).2; omega) (fun h => by have := (unhide HLT g4 h.symm).2; omega)
                  have hbw8 : Below w'.heap.size w' w8 := hbw7.grown hgr8 hbw7.size (fun k hk => (unhide HLT k hk).1)
                  have HRJ := hide hrj
                  clear hgr8 hxy7 ta7 tb hg5 hg6 hb37 hbw7 rx ry hrj HLT
                  go_wp2_with fail
                  refine (zzunion_any (some ⟨g1, 0, none⟩) (some ⟨g2, 0, none⟩) (some ⟨g3, 0, none⟩) (some ⟨g4, 0, none⟩) oa.length ob.length oa.length oa.length ob.length ob.length oa ob w8 (by omega) (by omega) rfl rfl (unhide HRA).1 (unhide HRB).1 ta8 tb8).mono ?_
                  rintro e w9 ⟨g7, g8, ou, rfl, tu, hvu, hmu, hlu, hb9⟩
                  have eu : ou = oj := val_ext hvu (unhide HRJ).1 (fun x => by rw [hmu x, (unhide HRA).2 x, (unhide HRB).2 x, (unhide HRJ).2 x, List.mem_append])
                  subst eu
                  have tj9 := tj.below hb9
                  have hbw9 := hbw8.trans (hb9.mono hbw8.size)
                  clear hmu hb9 ta8 tb8 tj hbw8 hlu HRA HRB
                  go_wp2_with fail
                  refine (equal_same (some ⟨g7, 0, none⟩) (some ⟨g5, 0, none⟩) ou.length ou.length ou.length (ou.map Prod.fst) w9 (by omega) (by simp) tu.f tj9.f).mono ?_
                  rintro e w10 ⟨rfl, hb10⟩
                  have tu10 := tu.below hb10
                  have tj10 := tj9.below hb10
                  have hbw10 := hbw9.trans (hb10.mono hbw9.size)
                  clear hb10 tu tj9 hbw9
                  go_wp2_with fail
                  refine (equal_same (some ⟨g8, 0, none⟩) (some ⟨g6, 0, none⟩) ou.length ou.length ou.length (ou.map Prod.snd) w10 (by omega) (by simp) tu10.l tj10.l).mono ?_
                  rintro e w11 ⟨rfl, hb11⟩
                  have tu11 := tu10.below hb11
                  have hbw11 := hbw10.trans (hb11.mono hbw10.size)
                  have rx := r0.below hbw11
                  have ry := r1.below hbw11
                  clear hb11 tu10 tj10 hbw10 r0 r1
                  go_wp2
                  go_loopw [18] (fun i wr => ∃ k : Nat, k ≤ k3 ∧ i = .int .i64 k ∧ w11 = wr) (fun i _ => k3 - (intOf i).toNat)
                  case atStart => exact ⟨0, by omega, rfl, rfl⟩
                  case round =>
                    obtain ⟨k5, hk5, rfl, rfl⟩ := hrel
                    by_cases hk5n : k5 < k3
                    · obtain ⟨b, off, rfl, hc⟩ := rx.at (by omega)
                      have hck := hc k5 (by omega)
                      clear hc
                      have hin := in_any (some ⟨g7, 0, none⟩) (some ⟨g8, 0, none⟩) ou.length ou.length ou.length ou (zx.getD k5 0) w11 (by omega) rfl hvu tu11
                      rw [memB_true (((unhide HRJ).2 _).2 (List.mem_append.2 (.inl (getD_mem (by omega)))))] at hin
                      have HIN := hide hin
                      clear hin
                      generalize zx.getD k5 0 = T at *
                      go_wp2_with (go_at_call 16; refine (unhide HIN).mono ?_; rintro e w12 ⟨rfl, rfl⟩)
                      go_roundw
                      case rel => exact ⟨k5 + 1, by omega, by go_num, trivial⟩
                      case measure => simp [intOf]; omega
                    · go_wp2
                      go_loopw [19] (fun i wr => ∃ k : Nat, k ≤ k4 ∧ i = .int .i64 k ∧ w11 = wr) (fun i _ => k4 - (intOf i).toNat)
                      case atStart => exact ⟨0, by omega, rfl, rfl⟩
                      case round =>
                        obtain ⟨k6, hk6, rfl, rfl⟩ := hrel
                        by_cases hk6n : k6 < k4
                        · obtain ⟨b, off, rfl, hc⟩ := ry.at (by omega)
                          have hck := hc k6 (by omega)
                          clear hc
                          have hin := in_any (some ⟨g7, 0, none⟩) (some ⟨g8, 0, none⟩) ou.length ou.length ou.length ou (zy.getD k6 0) w11 (by omega) rfl hvu tu11
                          rw [memB_true (((unhide HRJ).2 _).2 (List.mem_append.2 (.inr (getD_mem (by omega)))))] at hin
                          have HIN := hide hin
                          clear hin
                          generalize zy.getD k6 0 = T at *
                          go_wp2_with (go_at_call 16; refine (unhide HIN).mono ?_; rintro e w12 ⟨rfl, rfl⟩)
                          go_roundw
                          case rel => exact ⟨k6 + 1, by omega, by go_num, trivial⟩
                          case measure => simp [intOf]; omega
                        · go_wp2
                          go_ret
                          exact ⟨rfl, hbw11⟩

theorem Joi_any (a0 a1 : Option Addr) (n0 n1 c0 c1 : Nat) (zx zy : List Int) (w : World) (m0 : n0 ≤ maxLen) (m1 : n1 ≤ maxLen) (l0 : zx.length = n0) (l1 : zy.length = n1) (r0 : Rd w a0 zx) (r1 : Rd w a1 zy)
    (e0 : a0 = none → n0 = 0 ∧ c0 = 0) (e1 : a1 = none → n1 = 0 ∧ c1 = 0) (f0 : ∀ z ∈ zx, (Lit.int .i64 z).wf = true) (f1 : ∀ z ∈ zy, (Lit.int .i64 z).wf = true) :
    Calls Try.prog 4 #[.slice a0 n0 c0, .slice a1 n1 c1] w fun e w' => e = .returned (.bool true) ∧ Below w.heap.size w w' := by
  by_cases h : 65536 < n0 ∨ 65536 < n1
  · exact Joi_long a0 a1 n0 n1 c0 c1 w m0 m1 h
  · exact Joi_short a0 a1 n0 n1 c0 c1 zx zy w (by omega) (by omega) l0 l1 r0 r1 e0 e1 f0 f1
end Go.Proofs.Qxb6617949a
