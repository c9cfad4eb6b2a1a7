/- THE WALK OF THE LAW 'FnMinusAndUnionSplitAndRebuild'. -/
import Derived.Test.Qxb6617949aZZMinus
import Derived.Test.Qxb6617949aAgree
import Derived.Test.Qxb6617949aValid
import Derived.Test.Qxb6617949aRebEarly
namespace Go.Proofs.Qxb6617949a
open Go.RowKit Plain
set_option linter.unusedSimpArgs false
set_option linter.unusedVariables false

theorem rebuild_iff {A B : Prop} : (A ∧ ¬ B) ∨ (A ∧ ¬ (A ∧ ¬ B)) ↔ A := by
  constructor
  · rintro (h | h) <;> exact h.1
  · intro h
    by_cases hb : B
    · exact .inr ⟨h, fun hh => hh.2 hb⟩
    · exact .inl ⟨h, hb⟩

theorem again_iff {A B : Prop} : ((A ∨ B) ∧ ¬ B) ↔ (A ∧ ¬ B) := by
  constructor
  · rintro ⟨h | h, hn⟩
    · exact ⟨h, hn⟩
    · exact absurd h hn
  · rintro ⟨h, hn⟩
    exact ⟨.inl h, hn⟩

set_option maxRecDepth 100000 in
set_option maxHeartbeats 4000000 in
theorem Reb_valid (a0 a1 a2 a3 : Option Addr) (na nb c0 c1 c2 c3 : Nat) (z0 z1 z2 z3 : List Int) (w : World) (hna : na ≤ 32768) (hnb : nb ≤ 32768) (l0 : z0.length = na) (l1 : z1.length = na) (l2 : z2.length = nb) (l3 : z3.length = nb)
    (r0 : Rd w a0 z0) (r1 : Rd w a1 z1) (r2 : Rd w a2 z2) (r3 : Rd w a3 z3) (hva : Val (z0.zip z1)) (hvb : Val (z2.zip z3))
    (V1 : Hid (∀ wx, Below w.heap.size w wx → Calls Try.prog 9 #[.slice a0 na c0, .slice a1 na c1] wx fun e w' => e = .returned (.bool true) ∧ Below wx.heap.size wx w'))
    (V2 : Hid (∀ wx, Below w.heap.size w wx → Calls Try.prog 9 #[.slice a2 nb c2, .slice a3 nb c3] wx fun e w' => e = .returned (.bool true) ∧ Below wx.heap.size wx w')) :
    Calls Try.prog 6 #[.slice a0 na c0, .slice a1 na c1, .slice a2 nb c2, .slice a3 nb c3] w fun e w' => e = .returned (.bool true) ∧ Below w.heap.size w w' := by
  have hnil0 := fun wx => run_neq_slice_nil_any (P := Try.prog) wx 22 3 a0 na c0 0 0 Try.underlying22
  have hnil1 := fun wx => run_neq_slice_nil_any (P := Try.prog) wx 22 3 a1 na c1 0 0 Try.underlying22
  have hnil2 := fun wx => run_neq_slice_nil_any (P := Try.prog) wx 22 3 a2 nb c2 0 0 Try.underlying22
  have hnil3 := fun wx => run_neq_slice_nil_any (P := Try.prog) wx 22 3 a3 nb c3 0 0 Try.underlying22
  obtain ⟨i0, hi, hz0, hz1, hz2⟩ := info_parts Try.info3
  go_enter Try.func6, Try.ntmps6
  go_wp2_with fail
  refine (Reb_bytes a0 a1 a2 a3 na na nb nb c0 c1 c2 c3 w (by omega) (by omega) (by omega) (by omega)).mono ?_
  rintro e w' ⟨rfl, rfl⟩
  go_wp2_with fail
  refine (unhide V1 _ (Below.refl _ _)).mono ?_
  rintro e v1 ⟨rfl, hv1⟩
  go_wp2_with fail
  refine (unhide V2 _ hv1).mono ?_
  rintro e v2 ⟨rfl, hv2⟩
  have hb := hv1.trans (hv2.mono hv1.size)
  have r0 := r0.below hb
  have r1 := r1.below hb
  have r2 := r2.below hb
  have r3 := r3.below hb
  clear hv1 hv2 V1 V2
  go_upto_if 58 with fail
  go_cut [0] (fun s wx => ∃ a c, s = .slice a na c ∧ Rd wx a z0 ∧ Below v2.heap.size v2 wx)
  case first =>
    as_aux_lemma =>
      cases a0 with
      | none =>
        go_wp2
        go_meet
        case rel => exact ⟨none, c0, rfl, r0, Below.refl _ _⟩
      | some x =>
        go_wp2_with (at_make; refine wpList_make_full _ rfl (.tmp 60) (.tmp 60) 22 rfl v2.heap.size 3 i0 (.int .i64 0) 1 Try.underlying22 hi hz0 hz1 _ _ _ _ na rfl rfl rfl rfl (by rw [hz2]; omega) (by unfold maxLen; omega) (Nat.le_refl _) ?_)
        intro x1 hown hgrow
        have hb1 := below_grown hgrow
        clear hgrow
        go_wp2_with (refine wpList_copy_first rfl (.tmp 62) (.tmp 63) 22 rfl 3 Try.underlying22 Try.size3 v2 na c0 x rfl rfl z0 l0 r0 _ hown hb1 ?_)
        intro x2 hr2 hb2
        go_wp2
        go_meet
        case rel => exact ⟨_, na, rfl, hr2, hb2⟩
  case rest =>
    obtain ⟨d0, e0, rfl, r0, hcb⟩ := hcut
    obtain ⟨y0, hyy⟩ : ∃ y0 : World, y0 = wc := ⟨_, rfl⟩
    rw [← hyy] at r0 hcb ⊢
    have r1 := r1.below hcb
    have r2 := r2.below hcb
    have r3 := r3.below hcb
    have hb := hb.trans (hcb.mono hb.size)
    clear hyy hcb hnil0
    go_upto_if 67 with fail
    go_cut [1] (fun s wx => ∃ a c, s = .slice a na c ∧ Rd wx a z1 ∧ Below y0.heap.size y0 wx)
    case first =>
      as_aux_lemma =>
        cases a1 with
        | none =>
          go_wp2
          go_meet
          case rel => exact ⟨none, c1, rfl, r1, Below.refl _ _⟩
        | some x =>
          go_wp2_with (at_make; refine wpList_make_full _ rfl (.tmp 69) (.tmp 69) 22 rfl y0.heap.size 3 i0 (.int .i64 0) 1 Try.underlying22 hi hz0 hz1 _ _ _ _ na rfl rfl rfl rfl (by rw [hz2]; omega) (by unfold maxLen; omega) (Nat.le_refl _) ?_)
          intro x1 hown hgrow
          have hb1 := below_grown hgrow
          clear hgrow
          go_wp2_with (refine wpList_copy_first rfl (.tmp 71) (.tmp 72) 22 rfl 3 Try.underlying22 Try.size3 y0 na c1 x rfl rfl z1 l1 r1 _ hown hb1 ?_)
          intro x2 hr2 hb2
          go_wp2
          go_meet
          case rel => exact ⟨_, na, rfl, hr2, hb2⟩
    case rest =>
      obtain ⟨d1, e1, rfl, r1, hcb⟩ := hcut
      obtain ⟨y1, hyy⟩ : ∃ y1 : World, y1 = wc := ⟨_, rfl⟩
      rw [← hyy] at r1 hcb ⊢
      have r0 := r0.below hcb
      have r2 := r2.below hcb
      have r3 := r3.below hcb
      have hb := hb.trans (hcb.mono hb.size)
      clear hyy hcb hnil1
      go_upto_if 76 with fail
      go_cut [2] (fun s wx => ∃ a c, s = .slice a nb c ∧ Rd wx a z2 ∧ Below y1.heap.size y1 wx)
      case first =>
        as_aux_lemma =>
          cases a2 with
          | none =>
            go_wp2
            go_meet
            case rel => exact ⟨none, c2, rfl, r2, Below.refl _ _⟩
          | some x =>
            go_wp2_with (at_make; refine wpList_make_full _ rfl (.tmp 78) (.tmp 78) 22 rfl y1.heap.size 3 i0 (.int .i64 0) 1 Try.underlying22 hi hz0 hz1 _ _ _ _ nb rfl rfl rfl rfl (by rw [hz2]; omega) (by unfold maxLen; omega) (Nat.le_refl _) ?_)
            intro x1 hown hgrow
            have hb1 := below_grown hgrow
            clear hgrow
            go_wp2_with (refine wpList_copy_first rfl (.tmp 80) (.tmp 81) 22 rfl 3 Try.underlying22 Try.size3 y1 nb c2 x rfl rfl z2 l2 r2 _ hown hb1 ?_)
            intro x2 hr2 hb2
            go_wp2
            go_meet
            case rel => exact ⟨_, nb, rfl, hr2, hb2⟩
      case rest =>
        obtain ⟨d2, e2, rfl, r2, hcb⟩ := hcut
        obtain ⟨y2, hyy⟩ : ∃ y2 : World, y2 = wc := ⟨_, rfl⟩
        rw [← hyy] at r2 hcb ⊢
        have r0 := r0.below hcb
        have r1 := r1.below hcb
        have r3 := r3.below hcb
        have hb := hb.trans (hcb.mono hb.size)
        clear hyy hcb hnil2
        go_upto_if 85 with fail
        go_cut [3] (fun s wx => ∃ a c, s = .slice a nb c ∧ Rd wx a z3 ∧ Below y2.heap.size y2 wx)
        case first =>
          as_aux_lemma =>
            cases a3 with
            | none =>
              go_wp2
              go_meet
              case rel => exact ⟨none, c3, rfl, r3, Below.refl _ _⟩
            | some x =>
              go_wp2_with (at_make; refine wpList_make_full _ rfl (.tmp 87) (.tmp 87) 22 rfl y2.heap.size 3 i0 (.int .i64 0) 1 Try.underlying22 hi hz0 hz1 _ _ _ _ nb rfl rfl rfl rfl (by rw [hz2]; omega) (by unfold maxLen; omega) (Nat.le_refl _) ?_)
              intro x1 hown hgrow
              have hb1 := below_grown hgrow
              clear hgrow
              go_wp2_with (refine wpList_copy_first rfl (.tmp 89) (.tmp 90) 22 rfl 3 Try.underlying22 Try.size3 y2 nb c3 x rfl rfl z3 l3 r3 _ hown hb1 ?_)
              intro x2 hr2 hb2
              go_wp2
              go_meet
              case rel => exact ⟨_, nb, rfl, hr2, hb2⟩
        case rest =>
          obtain ⟨d3, e3, rfl, r3, hcb⟩ := hcut
          obtain ⟨y3, hyy⟩ : ∃ y3 : World, y3 = wc := ⟨_, rfl⟩
          rw [← hyy] at r3 hcb ⊢
          have r0 := r0.below hcb
          have r1 := r1.below hcb
          have r2 := r2.below hcb
          have hb := hb.trans (hcb.mono hb.size)
          clear hyy hcb hnil3
          clear hi hz0 hz1 hz2
          have ta := two_zip (by omega) r0 r1
          have tb := two_zip (by omega) r2 r3
          have hla : (z0.zip z1).length = na := by simp; omega
          have hlb : (z2.zip z3).length = nb := by simp; omega
          generalize z0.zip z1 = a at *
          generalize z2.zip z3 = b at *
          clear r0 r1 r2 r3
          go_wp2_with fail
          refine (zzminus_any d0 d1 d2 d3 na nb e0 e1 e2 e3 a b y3 (by omega) (by omega) hla hlb hva hvb ta tb).mono ?_
          rintro e t1 ⟨g1, g2, od, rfl, td, hvd, hmd, hld, hb1⟩
          have HMD := hide hmd
          clear hmd
          have ta := ta.below hb1
          have tb := tb.below hb1
          have hb := hb.trans (hb1.mono hb.size)
          clear hb1
          go_wp2_with fail
          refine (zzminus_any d0 d1 (some ⟨g1, 0, none⟩) (some ⟨g2, 0, none⟩) na od.length e0 e1 od.length od.length a od t1 (by omega) (by omega) hla rfl hva hvd ta td).mono ?_
          rintro e t2 ⟨g3, g4, oi, rfl, ti, hvi, hmi, hli, hb1⟩
          have HMI := hide hmi
          clear hmi
          have ta := ta.below hb1
          have tb := tb.below hb1
          have td := td.below hb1
          have hb := hb.trans (hb1.mono hb.size)
          clear hb1
          go_wp2_with fail
          refine (zzunion_any (some ⟨g1, 0, none⟩) (some ⟨g2, 0, none⟩) (some ⟨g3, 0, none⟩) (some ⟨g4, 0, none⟩) od.length oi.length od.length od.length oi.length oi.length od oi t2 (by omega) (by omega) rfl rfl hvd hvi td ti).mono ?_
          rintro e t3 ⟨g5, g6, orr, rfl, tr, hvr, hmr, hlr, hb1⟩
          have er : orr = a := val_ext hvr hva (fun x => by rw [hmr x, unhide HMI x, unhide HMD x]; exact rebuild_iff)
          subst er
          clear hmr HMI hvi ti hvr hlr hli
          have tb := tb.below hb1
          have td := td.below hb1
          have ta := ta.below hb1
          have hb := hb.trans (hb1.mono hb.size)
          clear hb1
          rw [hla]
          go_wp2_with fail
          refine (equal_same (some ⟨g5, 0, none⟩) d0 na na e0 (orr.map Prod.fst) t3 (by omega) (by simp; omega) tr.f ta.f).mono ?_
          rintro e t4 ⟨rfl, hb1⟩
          have ta := ta.below hb1
          have tb := tb.below hb1
          have td := td.below hb1
          have tr := tr.below hb1
          have hb := hb.trans (hb1.mono hb.size)
          clear hb1
          go_wp2_with fail
          refine (equal_same (some ⟨g6, 0, none⟩) d1 na na e1 (orr.map Prod.snd) t4 (by omega) (by simp; omega) tr.l ta.l).mono ?_
          rintro e t5 ⟨rfl, hb1⟩
          have ta := ta.below hb1
          have tb := tb.below hb1
          have td := td.below hb1
          have hb := hb.trans (hb1.mono hb.size)
          clear hb1
          go_wp2_with fail
          refine (zzunion_any d0 d1 d2 d3 na nb e0 e1 e2 e3 orr b t5 (by omega) (by omega) hla hlb hva hvb ta tb).mono ?_
          rintro e t6 ⟨g7, g8, ou, rfl, tu, hvu, hmu, hlu, hb1⟩
          have HMU := hide hmu
          clear hmu
          have tb := tb.below hb1
          have td := td.below hb1
          have hb := hb.trans (hb1.mono hb.size)
          clear hb1
          go_wp2_with fail
          refine (zzminus_any (some ⟨g7, 0, none⟩) (some ⟨g8, 0, none⟩) d2 d3 ou.length nb ou.length ou.length e2 e3 ou b t6 (by omega) (by omega) rfl hlb hvu hvb tu tb).mono ?_
          rintro e t7 ⟨g9, g10, oe, rfl, te, hve, hme, hle, hb1⟩
          have ee : oe = od := val_ext hve hvd (fun x => by rw [hme x, unhide HMU x, unhide HMD x]; exact again_iff)
          subst ee
          clear hme HMU HMD hvu tu hle hlu
          have td := td.below hb1
          have hb := hb.trans (hb1.mono hb.size)
          clear hb1
          go_wp2_with fail
          refine (equal_same (some ⟨g9, 0, none⟩) (some ⟨g1, 0, none⟩) oe.length oe.length oe.length (oe.map Prod.fst) t7 (by omega) (by simp) te.f td.f).mono ?_
          rintro e t8 ⟨rfl, hb1⟩
          have td := td.below hb1
          have te := te.below hb1
          have hb := hb.trans (hb1.mono hb.size)
          clear hb1
          go_wp2_with fail
          refine (equal_same (some ⟨g10, 0, none⟩) (some ⟨g2, 0, none⟩) oe.length oe.length oe.length (oe.map Prod.snd) t8 (by omega) (by simp) te.l td.l).mono ?_
          rintro e t9 ⟨rfl, hb1⟩
          have hb := hb.trans (hb1.mono hb.size)
          clear hb1
          go_wp2
          go_ret
          exact ⟨rfl, hb⟩

set_option maxRecDepth 100000 in
set_option maxHeartbeats 1600000 in
theorem Reb_short (a0 a1 a2 a3 : Option Addr) (n0 n1 n2 n3 c0 c1 c2 c3 : Nat) (z0 z1 z2 z3 : List Int) (w : World) (h0 : n0 ≤ 32768) (h1 : n1 ≤ 32768) (h2 : n2 ≤ 32768) (h3 : n3 ≤ 32768) (l0 : z0.length = n0) (l1 : z1.length = n1) (l2 : z2.length = n2) (l3 : z3.length = n3)
    (r0 : Rd w a0 z0) (r1 : Rd w a1 z1) (r2 : Rd w a2 z2) (r3 : Rd w a3 z3)
    (f0 : ∀ z ∈ z0, (Lit.int .i64 z).wf = true) (f1 : ∀ z ∈ z1, (Lit.int .i64 z).wf = true) (f2 : ∀ z ∈ z2, (Lit.int .i64 z).wf = true) (f3 : ∀ z ∈ z3, (Lit.int .i64 z).wf = true) :
    Calls Try.prog 6 #[.slice a0 n0 c0, .slice a1 n1 c1, .slice a2 n2 c2, .slice a3 n3 c3] w fun e w' => e = .returned (.bool true) ∧ Below w.heap.size w w' := by
  have V1 := hide (fun wx (hx : Below w.heap.size w wx) => valid_any a0 a1 n0 n1 c0 c1 z0 z1 wx (by omega) (by omega) l0 l1 (r0.below hx) (r1.below hx) f0 f1)
  have V2 := hide (fun wx (hx : Below w.heap.size w wx) => valid_any a2 a3 n2 n3 c2 c3 z2 z3 wx (by omega) (by omega) l2 l3 (r2.below hx) (r3.below hx) f2 f3)
  by_cases hA : n0 = n1 ∧ Val (z0.zip z1)
  · by_cases hB : n2 = n3 ∧ Val (z2.zip z3)
    · obtain ⟨rfl, hva⟩ := hA
      obtain ⟨rfl, hvb⟩ := hB
      refine Reb_valid a0 a1 a2 a3 n0 n2 c0 c1 c2 c3 z0 z1 z2 z3 w h0 h2 l0 l1 l2 l3 r0 r1 r2 r3 hva hvb ?_ ?_
      · intro wx hx
        refine (unhide V1 wx hx).mono ?_
        rintro e w' ⟨b, rfl, hb, hbel⟩
        rw [hb.2 ⟨rfl, hva⟩]
        exact ⟨rfl, hbel⟩
      · intro wx hx
        refine (unhide V2 wx hx).mono ?_
        rintro e w' ⟨b, rfl, hb, hbel⟩
        rw [hb.2 ⟨rfl, hvb⟩]
        exact ⟨rfl, hbel⟩
    · have HA := hide hA
      have HB := hide hB
      clear hA hB r0 r1 r2 r3 f0 f1 f2 f3
      go_enter Try.func6, Try.ntmps6
      go_wp2_with fail
      refine (Reb_bytes a0 a1 a2 a3 n0 n1 n2 n3 c0 c1 c2 c3 w h0 h1 h2 h3).mono ?_
      rintro e w' ⟨rfl, rfl⟩
      go_wp2_with fail
      refine (unhide V1 _ (Below.refl _ _)).mono ?_
      rintro e v1 ⟨b, rfl, hb, hv1⟩
      obtain rfl : b = true := hb.2 (unhide HA)
      clear hb
      go_wp2_with fail
      refine (unhide V2 _ hv1).mono ?_
      rintro e v2 ⟨b, rfl, hb, hv2⟩
      obtain rfl : b = false := by
        cases b with
        | false => rfl
        | true => exact absurd (hb.1 rfl) (unhide HB)
      clear hb
      go_wp2
      go_ret
      exact ⟨rfl, hv1.trans (hv2.mono hv1.size)⟩
  · have HA := hide hA
    clear hA r0 r1 r2 r3 f0 f1 f2 f3
    go_enter Try.func6, Try.ntmps6
    go_wp2_with fail
    refine (Reb_bytes a0 a1 a2 a3 n0 n1 n2 n3 c0 c1 c2 c3 w h0 h1 h2 h3).mono ?_
    rintro e w' ⟨rfl, rfl⟩
    go_wp2_with fail
    refine (unhide V1 _ (Below.refl _ _)).mono ?_
    rintro e v1 ⟨b, rfl, hb, hv1⟩
    obtain rfl : b = false := by
      cases b with
      | false => rfl
      | true => exact absurd (hb.1 rfl) (unhide HA)
    clear hb
    go_wp2
    go_ret
    exact ⟨rfl, hv1⟩

theorem Reb_any (a0 a1 a2 a3 : Option Addr) (n0 n1 n2 n3 c0 c1 c2 c3 : Nat) (z0 z1 z2 z3 : List Int) (w : World) (m0 : n0 ≤ maxLen) (m1 : n1 ≤ maxLen) (m2 : n2 ≤ maxLen) (m3 : n3 ≤ maxLen) (l0 : z0.length = n0) (l1 : z1.length = n1) (l2 : z2.length = n2) (l3 : z3.length = n3)
    (r0 : Rd w a0 z0) (r1 : Rd w a1 z1) (r2 : Rd w a2 z2) (r3 : Rd w a3 z3)
    (f0 : ∀ z ∈ z0, (Lit.int .i64 z).wf = true) (f1 : ∀ z ∈ z1, (Lit.int .i64 z).wf = true) (f2 : ∀ z ∈ z2, (Lit.int .i64 z).wf = true) (f3 : ∀ z ∈ z3, (Lit.int .i64 z).wf = true) :
    Calls Try.prog 6 #[.slice a0 n0 c0, .slice a1 n1 c1, .slice a2 n2 c2, .slice a3 n3 c3] w fun e w' => e = .returned (.bool true) ∧ Below w.heap.size w w' := by
  by_cases h : 32768 < n0 ∨ 32768 < n1 ∨ 32768 < n2 ∨ 32768 < n3
  · exact Reb_long a0 a1 a2 a3 n0 n1 n2 n3 c0 c1 c2 c3 w m0 m1 m2 m3 h
  · exact Reb_short a0 a1 a2 a3 n0 n1 n2 n3 c0 c1 c2 c3 z0 z1 z2 z3 w (by omega) (by omega) (by omega) (by omega) l0 l1 l2 l3 r0 r1 r2 r3 f0 f1 f2 f3
end Go.Proofs.Qxb6617949a
