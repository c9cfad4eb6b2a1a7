/- THE WALK OF THE LAW 'FnMinusIsTheSetDifference'. -/
import Derived.Test.Qxb6617949aZZMinus
import Derived.Test.Qxb6617949aAgree
import Derived.Test.Qxb6617949aValid
import Derived.Test.Qxb6617949aMinEarly
namespace Go.Proofs.Qxb6617949a
open Go.RowKit Plain
set_option linter.unusedSimpArgs false
set_option linter.unusedVariables false

theorem agree_of_Min {a b o : List (Int × Int)} (h : ∀ x, Mem o x ↔ Mem a x ∧ ¬ Mem b x) : ∀ x, memB o x = wantB false (memB a x) (memB b x) := by
  intro x
  rw [Bool.eq_iff_iff, memB_iff, h x]
  simp only [wantB, Bool.false_eq_true, if_false, Bool.and_eq_true, Bool.not_eq_true', memB_iff]
  constructor
  · rintro ⟨h1, h2⟩
    exact ⟨h1, by cases hm : memB b x with
                  | false => rfl
                  | true => exact absurd (memB_iff.1 hm) h2⟩
  · rintro ⟨h1, h2⟩
    exact ⟨h1, fun h3 => by rw [memB_iff.2 h3] at h2; cases h2⟩

set_option maxRecDepth 100000 in
set_option maxHeartbeats 4000000 in
theorem Min_valid (a0 a1 a2 a3 : Option Addr) (na nb c0 c1 c2 c3 : Nat) (z0 z1 z2 z3 : List Int) (w : World) (hna : na ≤ 32768) (hnb : nb ≤ 32768) (l0 : z0.length = na) (l1 : z1.length = na) (l2 : z2.length = nb) (l3 : z3.length = nb)
    (r0 : Rd w a0 z0) (r1 : Rd w a1 z1) (r2 : Rd w a2 z2) (r3 : Rd w a3 z3) (hva : Val (z0.zip z1)) (hvb : Val (z2.zip z3))
    (V1 : Hid (∀ wx, Below w.heap.size w wx → Calls Try.prog 9 #[.slice a0 na c0, .slice a1 na c1] wx fun e w' => e = .returned (.bool true) ∧ Below wx.heap.size wx w'))
    (V2 : Hid (∀ wx, Below w.heap.size w wx → Calls Try.prog 9 #[.slice a2 nb c2, .slice a3 nb c3] wx fun e w' => e = .returned (.bool true) ∧ Below wx.heap.size wx w')) :
    Calls Try.prog 5 #[.slice a0 na c0, .slice a1 na c1, .slice a2 nb c2, .slice a3 nb c3] w fun e w' => e = .returned (.bool true) ∧ Below w.heap.size w w' := by
  have hnil0 := fun wx => run_neq_slice_nil_any (P := Try.prog) wx 22 3 a0 na c0 0 0 Try.underlying22
  have hnil1 := fun wx => run_neq_slice_nil_any (P := Try.prog) wx 22 3 a1 na c1 0 0 Try.underlying22
  have hnil2 := fun wx => run_neq_slice_nil_any (P := Try.prog) wx 22 3 a2 nb c2 0 0 Try.underlying22
  have hnil3 := fun wx => run_neq_slice_nil_any (P := Try.prog) wx 22 3 a3 nb c3 0 0 Try.underlying22
  obtain ⟨i0, hi, hz0, hz1, hz2⟩ := info_parts Try.info3
  go_enter Try.func5, Try.ntmps5
  go_wp2_with fail
  refine (Min_bytes a0 a1 a2 a3 na na nb nb c0 c1 c2 c3 w (by omega) (by omega) (by omega) (by omega)).mono ?_
  rintro e w' ⟨rfl, rfl⟩
  go_wp2_with fail
  refine (unhide V1 _ (Below.refl _ _)).mono ?_
  rintro e v1 ⟨rfl, hv1⟩
  go_wp2_with fail
  refine (unhide V2 _ hv1).mono ?_
  rintro e v2 ⟨rfl, hv2⟩
  have hb := hv1.trans (hv2.mono hv1.size)
  have r0 := r0.below hb
  have r1 := r1.below hb
  have r2 := r2.below hb
  have r3 := r3.below hb
  clear hv1 hv2 V1 V2
  go_upto_if 50 with fail
  go_cut [0] (fun s wx => ∃ a c, s = .slice a na c ∧ Rd wx a z0 ∧ Below v2.heap.size v2 wx)
  case first =>
    as_aux_lemma =>
      cases a0 with
      | none =>
        go_wp2
        go_meet
        case rel => exact ⟨none, c0, rfl, r0, Below.refl _ _⟩
      | some x =>
        go_wp2_with (at_make; refine wpList_make_full _ rfl (.tmp 52) (.tmp 52) 22 rfl v2.heap.size 3 i0 (.int .i64 0) 1 Try.underlying22 hi hz0 hz1 _ _ _ _ na rfl rfl rfl rfl (by rw [hz2]; omega) (by unfold maxLen; omega) (Nat.le_refl _) ?_)
        intro x1 hown hgrow
        have hb1 := below_grown hgrow
        clear hgrow
        go_wp2_with (refine wpList_copy_first rfl (.tmp 54) (.tmp 55) 22 rfl 3 Try.underlying22 Try.size3 v2 na c0 x rfl rfl z0 l0 r0 _ hown hb1 ?_)
        intro x2 hr2 hb2
        go_wp2
        go_meet
        case rel => exact ⟨_, na, rfl, hr2, hb2⟩
  case rest =>
    obtain ⟨d0, e0, rfl, r0, hcb⟩ := hcut
    obtain ⟨y0, hyy⟩ : ∃ y0 : World, y0 = wc := ⟨_, rfl⟩
    rw [← hyy] at r0 hcb ⊢
    have r1 := r1.below hcb
    have r2 := r2.below hcb
    have r3 := r3.below hcb
    have hb := hb.trans (hcb.mono hb.size)
    clear hyy hcb hnil0
    go_upto_if 59 with fail
    go_cut [1] (fun s wx => ∃ a c, s = .slice a na c ∧ Rd wx a z1 ∧ Below y0.heap.size y0 wx)
    case first =>
      as_aux_lemma =>
        cases a1 with
        | none =>
          go_wp2
          go_meet
          case rel => exact ⟨none, c1, rfl, r1, Below.refl _ _⟩
        | some x =>
          go_wp2_with (at_make; refine wpList_make_full _ rfl (.tmp 61) (.tmp 61) 22 rfl y0.heap.size 3 i0 (.int .i64 0) 1 Try.underlying22 hi hz0 hz1 _ _ _ _ na rfl rfl rfl rfl (by rw [hz2]; omega) (by unfold maxLen; omega) (Nat.le_refl _) ?_)
          intro x1 hown hgrow
          have hb1 := below_grown hgrow
          clear hgrow
          go_wp2_with (refine wpList_copy_first rfl (.tmp 63) (.tmp 64) 22 rfl 3 Try.underlying22 Try.size3 y0 na c1 x rfl rfl z1 l1 r1 _ hown hb1 ?_)
          intro x2 hr2 hb2
          go_wp2
          go_meet
          case rel => exact ⟨_, na, rfl, hr2, hb2⟩
    case rest =>
      obtain ⟨d1, e1, rfl, r1, hcb⟩ := hcut
      obtain ⟨y1, hyy⟩ : ∃ y1 : World, y1 = wc := ⟨_, rfl⟩
      rw [← hyy] at r1 hcb ⊢
      have r0 := r0.below hcb
      have r2 := r2.below hcb
      have r3 := r3.below hcb
      have hb := hb.trans (hcb.mono hb.size)
      clear hyy hcb hnil1
      go_upto_if 68 with fail
      go_cut [2] (fun s wx => ∃ a c, s = .slice a nb c ∧ Rd wx a z2 ∧ Below y1.heap.size y1 wx)
      case first =>
        as_aux_lemma =>
          cases a2 with
          | none =>
            go_wp2
            go_meet
            case rel => exact ⟨none, c2, rfl, r2, Below.refl _ _⟩
          | some x =>
            go_wp2_with (at_make; refine wpList_make_full _ rfl (.tmp 70) (.tmp 70) 22 rfl y1.heap.size 3 i0 (.int .i64 0) 1 Try.underlying22 hi hz0 hz1 _ _ _ _ nb rfl rfl rfl rfl (by rw [hz2]; omega) (by unfold maxLen; omega) (Nat.le_refl _) ?_)
            intro x1 hown hgrow
            have hb1 := below_grown hgrow
            clear hgrow
            go_wp2_with (refine wpList_copy_first rfl (.tmp 72) (.tmp 73) 22 rfl 3 Try.underlying22 Try.size3 y1 nb c2 x rfl rfl z2 l2 r2 _ hown hb1 ?_)
            intro x2 hr2 hb2
            go_wp2
            go_meet
            case rel => exact ⟨_, nb, rfl, hr2, hb2⟩
      case rest =>
        obtain ⟨d2, e2, rfl, r2, hcb⟩ := hcut
        obtain ⟨y2, hyy⟩ : ∃ y2 : World, y2 = wc := ⟨_, rfl⟩
        rw [← hyy] at r2 hcb ⊢
        have r0 := r0.below hcb
        have r1 := r1.below hcb
        have r3 := r3.below hcb
        have hb := hb.trans (hcb.mono hb.size)
        clear hyy hcb hnil2
        go_upto_if 77 with fail
        go_cut [3] (fun s wx => ∃ a c, s = .slice a nb c ∧ Rd wx a z3 ∧ Below y2.heap.size y2 wx)
        case first =>
          as_aux_lemma =>
            cases a3 with
            | none =>
              go_wp2
              go_meet
              case rel => exact ⟨none, c3, rfl, r3, Below.refl _ _⟩
            | some x =>
              go_wp2_with (at_make; refine wpList_make_full _ rfl (.tmp 79) (.tmp 79) 22 rfl y2.heap.size 3 i0 (.int .i64 0) 1 Try.underlying22 hi hz0 hz1 _ _ _ _ nb rfl rfl rfl rfl (by rw [hz2]; omega) (by unfold maxLen; omega) (Nat.le_refl _) ?_)
              intro x1 hown hgrow
              have hb1 := below_grown hgrow
              clear hgrow
              go_wp2_with (refine wpList_copy_first rfl (.tmp 81) (.tmp 82) 22 rfl 3 Try.underlying22 Try.size3 y2 nb c3 x rfl rfl z3 l3 r3 _ hown hb1 ?_)
              intro x2 hr2 hb2
              go_wp2
              go_meet
              case rel => exact ⟨_, nb, rfl, hr2, hb2⟩
        case rest =>
          obtain ⟨d3, e3, rfl, r3, hcb⟩ := hcut
          obtain ⟨y3, hyy⟩ : ∃ y3 : World, y3 = wc := ⟨_, rfl⟩
          rw [← hyy] at r3 hcb ⊢
          have r0 := r0.below hcb
          have r1 := r1.below hcb
          have r2 := r2.below hcb
          have hb := hb.trans (hcb.mono hb.size)
          clear hyy hcb hnil3
          clear hi hz0 hz1 hz2
          have ta := two_zip (by omega) r0 r1
          have tb := two_zip (by omega) r2 r3
          have hla : (z0.zip z1).length = na := by simp; omega
          have hlb : (z2.zip z3).length = nb := by simp; omega
          generalize z0.zip z1 = a at *
          generalize z2.zip z3 = b at *
          clear r0 r1 r2 r3
          go_wp2_with fail
          refine (zzminus_any d0 d1 d2 d3 na nb e0 e1 e2 e3 a b y3 (by omega) (by omega) hla hlb hva hvb ta tb).mono ?_
          rintro e t1 ⟨g1, g2, o, rfl, to1, hvo, hmo, hlo, hb1⟩
          have HAG : Hid (∀ x, memB o x = wantB false (memB a x) (memB b x)) := agree_of_Min hmo
          clear hmo
          have ta := ta.below hb1
          have tb := tb.below hb1
          have hb := hb.trans (hb1.mono hb.size)
          clear hb1
          go_wp2_with fail
          refine (valid_yes (some ⟨g1, 0, none⟩) (some ⟨g2, 0, none⟩) o.length o.length o.length o t1 (by omega) rfl to1 hvo).mono ?_
          rintro e t2 ⟨rfl, hb2⟩
          have ta := ta.below hb2
          have tb := tb.below hb2
          have to1 := to1.below hb2
          have hb := hb.trans (hb2.mono hb.size)
          clear hb2
          go_wp2_with fail
          refine (agree_any d0 d1 d2 d3 (some ⟨g1, 0, none⟩) (some ⟨g2, 0, none⟩) d0 d1 na nb o.length na e0 e1 e2 e3 o.length o.length e0 e1 a b o a false t2 (by omega) (by omega) (by omega) (by omega) hla hlb rfl hla hva hvb hvo ta tb to1 ta (unhide HAG)).mono ?_
          rintro e t3 ⟨rfl, hb3⟩
          have ta := ta.below hb3
          have tb := tb.below hb3
          have to1 := to1.below hb3
          have hb := hb.trans (hb3.mono hb.size)
          clear hb3
          go_wp2_with fail
          refine (agree_any d0 d1 d2 d3 (some ⟨g1, 0, none⟩) (some ⟨g2, 0, none⟩) d2 d3 na nb o.length nb e0 e1 e2 e3 o.length o.length e2 e3 a b o b false t3 (by omega) (by omega) (by omega) (by omega) hla hlb rfl hlb hva hvb hvo ta tb to1 tb (unhide HAG)).mono ?_
          rintro e t4 ⟨rfl, hb4⟩
          have ta := ta.below hb4
          have tb := tb.below hb4
          have to1 := to1.below hb4
          have hb := hb.trans (hb4.mono hb.size)
          clear hb4
          go_wp2_with fail
          refine (agree_any d0 d1 d2 d3 (some ⟨g1, 0, none⟩) (some ⟨g2, 0, none⟩) (some ⟨g1, 0, none⟩) (some ⟨g2, 0, none⟩) na nb o.length o.length e0 e1 e2 e3 o.length o.length o.length o.length a b o o false t4 (by omega) (by omega) (by omega) (by omega) hla hlb rfl rfl hva hvb hvo ta tb to1 to1 (unhide HAG)).mono ?_
          rintro e t5 ⟨rfl, hb5⟩
          go_wp2
          go_ret
          exact ⟨rfl, hb.trans (hb5.mono hb.size)⟩

set_option maxRecDepth 100000 in
set_option maxHeartbeats 1600000 in
theorem Min_short (a0 a1 a2 a3 : Option Addr) (n0 n1 n2 n3 c0 c1 c2 c3 : Nat) (z0 z1 z2 z3 : List Int) (w : World) (h0 : n0 ≤ 32768) (h1 : n1 ≤ 32768) (h2 : n2 ≤ 32768) (h3 : n3 ≤ 32768) (l0 : z0.length = n0) (l1 : z1.length = n1) (l2 : z2.length = n2) (l3 : z3.length = n3)
    (r0 : Rd w a0 z0) (r1 : Rd w a1 z1) (r2 : Rd w a2 z2) (r3 : Rd w a3 z3)
    (f0 : ∀ z ∈ z0, (Lit.int .i64 z).wf = true) (f1 : ∀ z ∈ z1, (Lit.int .i64 z).wf = true) (f2 : ∀ z ∈ z2, (Lit.int .i64 z).wf = true) (f3 : ∀ z ∈ z3, (Lit.int .i64 z).wf = true) :
    Calls Try.prog 5 #[.slice a0 n0 c0, .slice a1 n1 c1, .slice a2 n2 c2, .slice a3 n3 c3] w fun e w' => e = .returned (.bool true) ∧ Below w.heap.size w w' := by
  have V1 := hide (fun wx (hx : Below w.heap.size w wx) => valid_any a0 a1 n0 n1 c0 c1 z0 z1 wx (by omega) (by omega) l0 l1 (r0.below hx) (r1.below hx) f0 f1)
  have V2 := hide (fun wx (hx : Below w.heap.size w wx) => valid_any a2 a3 n2 n3 c2 c3 z2 z3 wx (by omega) (by omega) l2 l3 (r2.below hx) (r3.below hx) f2 f3)
  by_cases hA : n0 = n1 ∧ Val (z0.zip z1)
  · by_cases hB : n2 = n3 ∧ Val (z2.zip z3)
    · obtain ⟨rfl, hva⟩ := hA
      obtain ⟨rfl, hvb⟩ := hB
      refine Min_valid a0 a1 a2 a3 n0 n2 c0 c1 c2 c3 z0 z1 z2 z3 w h0 h2 l0 l1 l2 l3 r0 r1 r2 r3 hva hvb ?_ ?_
      · intro wx hx
        refine (unhide V1 wx hx).mono ?_
        rintro e w' ⟨b, rfl, hb, hbel⟩
        rw [hb.2 ⟨rfl, hva⟩]
        exact ⟨rfl, hbel⟩
      · intro wx hx
        refine (unhide V2 wx hx).mono ?_
        rintro e w' ⟨b, rfl, hb, hbel⟩
        rw [hb.2 ⟨rfl, hvb⟩]
        exact ⟨rfl, hbel⟩
    · have HA := hide hA
      have HB := hide hB
      clear hA hB r0 r1 r2 r3 f0 f1 f2 f3
      go_enter Try.func5, Try.ntmps5
      go_wp2_with fail
      refine (Min_bytes a0 a1 a2 a3 n0 n1 n2 n3 c0 c1 c2 c3 w h0 h1 h2 h3).mono ?_
      rintro e w' ⟨rfl, rfl⟩
      go_wp2_with fail
      refine (unhide V1 _ (Below.refl _ _)).mono ?_
      rintro e v1 ⟨b, rfl, hb, hv1⟩
      obtain rfl : b = true := hb.2 (unhide HA)
      clear hb
      go_wp2_with fail
      refine (unhide V2 _ hv1).mono ?_
      rintro e v2 ⟨b, rfl, hb, hv2⟩
      obtain rfl : b = false := by
        cases b with
        | false => rfl
        | true => exact absurd (hb.1 rfl) (unhide HB)
      clear hb
      go_wp2
      go_ret
      exact ⟨rfl, hv1.trans (hv2.mono hv1.size)⟩
  · have HA := hide hA
    clear hA r0 r1 r2 r3 f0 f1 f2 f3
    go_enter Try.func5, Try.ntmps5
    go_wp2_with fail
    refine (Min_bytes a0 a1 a2 a3 n0 n1 n2 n3 c0 c1 c2 c3 w h0 h1 h2 h3).mono ?_
    rintro e w' ⟨rfl, rfl⟩
    go_wp2_with fail
    refine (unhide V1 _ (Below.refl _ _)).mono ?_
    rintro e v1 ⟨b, rfl, hb, hv1⟩
    obtain rfl : b = false := by
      cases b with
      | false => rfl
      | true => exact absurd (hb.1 rfl) (unhide HA)
    clear hb
    go_wp2
    go_ret
    exact ⟨rfl, hv1⟩

theorem Min_any (a0 a1 a2 a3 : Option Addr) (n0 n1 n2 n3 c0 c1 c2 c3 : Nat) (z0 z1 z2 z3 : List Int) (w : World) (m0 : n0 ≤ maxLen) (m1 : n1 ≤ maxLen) (m2 : n2 ≤ maxLen) (m3 : n3 ≤ maxLen) (l0 : z0.length = n0) (l1 : z1.length = n1) (l2 : z2.length = n2) (l3 : z3.length = n3)
    (r0 : Rd w a0 z0) (r1 : Rd w a1 z1) (r2 : Rd w a2 z2) (r3 : Rd w a3 z3)
    (f0 : ∀ z ∈ z0, (Lit.int .i64 z).wf = true) (f1 : ∀ z ∈ z1, (Lit.int .i64 z).wf = true) (f2 : ∀ z ∈ z2, (Lit.int .i64 z).wf = true) (f3 : ∀ z ∈ z3, (Lit.int .i64 z).wf = true) :
    Calls Try.prog 5 #[.slice a0 n0 c0, .slice a1 n1 c1, .slice a2 n2 c2, .slice a3 n3 c3] w fun e w' => e = .returned (.bool true) ∧ Below w.heap.size w w' := by
  by_cases h : 32768 < n0 ∨ 32768 < n1 ∨ 32768 < n2 ∨ 32768 < n3
  · exact Min_long a0 a1 a2 a3 n0 n1 n2 n3 c0 c1 c2 c3 w m0 m1 m2 m3 h
  · exact Min_short a0 a1 a2 a3 n0 n1 n2 n3 c0 c1 c2 c3 z0 z1 z2 z3 w (by omega) (by omega) (by omega) (by omega) l0 l1 l2 l3 r0 r1 r2 r3 f0 f1 f2 f3
end Go.Proofs.Qxb6617949a
