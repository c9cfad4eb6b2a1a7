/- THE WALK OF 'minus'. -/
import Derived.Test.Qxb6617949aUnion
import Derived.Test.Qxb6617949aLies
import Derived.Deep.LoopGhost
import Derived.Deep.CutBlock
namespace Go.Proofs.Qxb6617949a
open Go.RowKit Plain
set_option linter.unusedSimpArgs false
set_option linter.unusedVariables false

theorem set_first {w : World} {b : Nat} {x y : Value} {t : TypeId} {q : Nat} (h : w.heap[b]? = some (.cells #[x, y] t (0, 0))) (u : Value) : ((w.drewN q).setCell ⟨b, 0, none⟩ u).heap[b]? = some (.cells #[u, y] t (0, 0)) := by
  have := heap_setCell_same w b 0 #[x, y] t u h
  exact this

theorem drewN2 (w : World) (a b : Nat) : (w.drewN a).drewN b = w.drewN (a + b) := by simp [World.drewN, Nat.add_assoc]

theorem drop_at (l : List (Int × Int)) (k : Nat) (h : k < l.length) : l.drop k = at' l k :: l.drop (k + 1) := by
  rw [List.drop_eq_getElem_cons h]
  simp [at', List.getD, h]

set_option maxRecDepth 100000 in
set_option maxHeartbeats 1600000 in
theorem minus_any (aa ab : Option Addr) (na nb : Nat) (a b : List (Int × Int)) (w : World) (hna : na ≤ 524288) (hnb : nb ≤ 524288) (hla : a.length = na) (hlb : b.length = nb) (hva : Val a) (hvb : Val b) (hra : RdP w aa a) (hrb : RdP w ab b) :
    Calls Try.prog 27 #[.slice aa na na, .slice ab nb nb] w fun e w' => ∃ a' c' o, e = .returned (.slice a' o.length c') ∧ RdP w' a' o ∧ Val o ∧ (∀ x, Mem o x ↔ Mem a x ∧ ¬ Mem b x) ∧ o.length ≤ na + nb ∧ Below w.heap.size w w' := by
  obtain ⟨i0, hi, hz0, hz1, hz2⟩ := info_parts Try.info40
  go_enter Try.func27, Try.ntmps27
  go_wp2
  go_step3
  go_wp2
  go_step3
  go_wp2
  go_loopg [1, 5, 10] na (fun gk vb vo i wr => ∃ (k : Nat) (b' out : List (Int × Int)) (xb : Option Addr), k + gk = na ∧ i = .int .i64 k ∧ vb = .slice xb b'.length b'.length ∧ RdP w xb b' ∧ wr.ownsRow w.heap.size 40 2 vo out.length (cellsP out) ∧ MInv b (a.take k) (a.drop k) out b' ∧ out.length + b'.length ≤ k + nb ∧ Below w.heap.size w wr)
  case atStart => exact ⟨0, b, [], ab, by omega, rfl, by rw [hlb], hrb, World.ownsRow_nil _ _ _ _, by simpa using MInv.start hva hvb, by simp; omega, Below.refl _ _⟩
  case round =>
    obtain ⟨k, b', out, xb, hkg, rfl, rfl, hxb, hown, hinv, hlen, hbr⟩ := hrel
    have HI := hide hinv
    clear hinv
    by_cases hlt : k < na
    · obtain ⟨ba, oa, rfl, hca⟩ := (hra.below hbr).at (by omega)
      have h1 : wr.cell? ⟨ba, oa + k * 2, none⟩ = some (.int .i64 (at' a k).1) := (hca k (by omega)).1
      have h2 : wr.cell? ⟨ba, oa + k * 2 + 1, none⟩ = some (.int .i64 (at' a k).2) := by have := (hca k (by omega)).2; rwa [← Nat.add_assoc] at this
      clear hca
      obtain ⟨R, HR⟩ : ∃ R, Hid (at' a k = R) := ⟨_, rfl⟩
      rw [HR.out] at h1 h2
      have HD : Hid (a.drop k = R :: a.drop (k + 1)) := by show _ = _; rw [← HR.out]; exact drop_at a k (by omega)
      have HTK : Hid (a.take (k + 1) = a.take k ++ [R]) := by show _ = _; rw [← HR.out]; exact take_snocP a k (by omega)
      have hent : CInv b (a.take k) R (a.drop (k + 1)) out R.1 b' := by have := unhide HI; rw [HD.out] at this; exact this.enter
      have hRok : Ok R := (val_cons.1 hent.va).1
      obtain ⟨hR0, hR1, hR2⟩ := hRok
      have HE := hide hent
      clear hent HI
      obtain ⟨da, hda⟩ : ∃ da, da = a.take k := ⟨_, rfl⟩
      obtain ⟨la, hla'⟩ : ∃ la, la = a.drop (k + 1) := ⟨_, rfl⟩
      rw [← hda] at HE HTK
      rw [← hla'] at HE
      have HLA := hide hla'
      clear hda hla' HD HR
      have hbs := hbr.size
      obtain ⟨nb', hnb'⟩ : ∃ n, n = b'.length := ⟨_, rfl⟩
      have hlen' : out.length + nb' ≤ k + nb := by omega
      have hnb2 : b'.length ≤ nb' := by omega
      clear hnb'
      go_upto_block 2 with fail
      go_cut [1] (fun vb wx => ∃ (b2 : List (Int × Int)) (x2 : Option Addr), vb = .slice x2 b2.length b2.length ∧ RdP w x2 b2 ∧ CInv b da R la out R.1 b2 ∧ (∀ s ∈ b2, R.1 ≤ s.2) ∧ b2.length ≤ nb' ∧ ∃ q, wx = (wr.alloc (.cells #[.int .i64 R.1, .int .i64 R.2] 40)).drewN q)
      case first =>
        go_wp2_with fail
        go_loopw [1] (fun vb wx => ∃ (b2 : List (Int × Int)) (x2 : Option Addr), vb = .slice x2 b2.length b2.length ∧ RdP w x2 b2 ∧ CInv b da R la out R.1 b2 ∧ b2.length ≤ nb' ∧ ∃ q, wx = (wr.alloc (.cells #[.int .i64 R.1, .int .i64 R.2] 40)).drewN q) (fun vb _ => lenV vb)
        case atStart => exact ⟨b', xb, rfl, hxb, unhide HE, hnb2, 0, rfl⟩
        case round =>
          obtain ⟨b2, x2, rfl, hx2, hinv2, hl2, q0, rfl⟩ := hrel
          have H2 := hide hinv2
          clear hinv2 HE hxb hnb2
          have hx2' := hx2.below (hbr.alloc hbs (.cells #[.int .i64 R.1, .int .i64 R.2] 40))
          rcases b2 with _ | ⟨q, b3⟩
          · go_wp2
            go_quiet (fail)
            go_wp2
            go_meet
            case rel => exact ⟨[], x2, rfl, hx2, unhide H2, fun s hs => by simp at hs, by omega, _, drewN2 _ _ _⟩
          · obtain ⟨b1, o1, rfl, hp1, hp2⟩ := hx2'.head
            have hd0 : decide ((0 : Int) < (b3.length : Int) + 1) = true := decide_eq_true (by omega)
            by_cases hq : q.2 < R.1
            · have H3 := hide ((unhide H2).skip hq)
              by_cases hb3 : b3.length = 0
              · obtain rfl : b3 = [] := List.eq_nil_of_length_eq_zero hb3
                go_wp2
                go_quiet (fail)
                go_wp2
                go_roundw
                case rel => exact ⟨[], _, rfl, RdP.nil _ _, unhide H3, by simp at hl2 ⊢, _, rfl⟩
                case measure => simp [lenV]
              · go_wp2
                go_quiet (fail)
                go_wp2
                go_roundw
                case rel => exact ⟨b3, _, rfl, hx2.tail (fun _ => rfl), unhide H3, by simp at hl2; omega, _, rfl⟩
                case measure => simp [lenV]
            · have H3 := hide (hd_of (unhide H2).vb hq)
              go_wp2
              go_quiet (fail)
              go_wp2
              go_meet
              case rel => exact ⟨q :: b3, _, rfl, hx2, unhide H2, unhide H3, hl2, _, drewN2 _ _ _⟩
      case rest =>
        obtain ⟨b2, x2, rfl, hx2, hinv2, hhd, hl2, q0, rfl⟩ := hcut
        clear HE hxb hnb2
        have H2 := hide hinv2
        have HH := hide hhd
        clear hinv2 hhd
        obtain ⟨Bk, HBk⟩ : ∃ Bk, Hid (Bk = wr.heap.size) := ⟨_, rfl⟩
        have hst : ((wr.alloc (.cells #[.int .i64 R.1, .int .i64 R.2] 40)).drewN q0).ownsRow w.heap.size 40 2 _ out.length (cellsP out) := hown.alloc _
        have hblk0 : ((wr.alloc (.cells #[.int .i64 R.1, .int .i64 R.2] 40)).drewN q0).heap[Bk]? = some (.cells #[.int .i64 R.1, .int .i64 R.2] 40 (0, 0)) := by rw [HBk.out]; exact heap_alloc_new _ _
        have HAP0 : Hid (Value.ownBlock _ ≠ some Bk) := fun e => by have := (hown.lt _ e).2; rw [HBk.out] at this; omega
        have hbx0 : Below w.heap.size w ((wr.alloc (.cells #[.int .i64 R.1, .int .i64 R.2] 40)).drewN q0) := below_drewN (hbr.alloc hbs _) _
        have hBkw : w.heap.size ≤ Bk := by rw [HBk.out]; exact hbs
        rw [← HBk.out]
        clear h1 h2 hown hbr HBk hbs
        go_wp2
        go_loopw [1, 5] (fun vb vo wx => ∃ (b3 out2 : List (Int × Int)) (x3 : Option Addr) (f : Int), vb = .slice x3 b3.length b3.length ∧ RdP w x3 b3 ∧ wx.ownsRow w.heap.size 40 2 vo out2.length (cellsP out2) ∧ CInv b da R la out2 f b3 ∧ (∀ s ∈ b3, f ≤ s.2) ∧ out2.length + b3.length ≤ k + nb ∧ wx.heap[Bk]? = some (.cells #[.int .i64 f, .int .i64 R.2] 40 (0, 0)) ∧ vo.ownBlock ≠ some Bk ∧ Below w.heap.size w wx) (fun vb _ _ => lenV vb)
        case atStart => exact ⟨b2, out, x2, R.1, rfl, hx2, hst, unhide H2, unhide HH, by omega, hblk0, unhide HAP0, hbx0⟩
        case round =>
          obtain ⟨b3, out2, x3, f, rfl, hx2, hown2, hinv2, hhd2, hl, hblk, hap, hb2⟩ := hrel
          clear H2 HH hst hblk0 HAP0 hbx0
          have hf1 := hinv2.f0
          have hf2 := hinv2.f1
          have H2 := hide hinv2
          have HH := hide hhd2
          have HAP := hide hap
          clear hinv2 hhd2 hap
          have hbs := hb2.size
          have hc0 : wr.cell? ⟨Bk, 0, none⟩ = some (.int .i64 f) := by simp [World.cell?, hblk]
          have hc1 : wr.cell? ⟨Bk, 1, none⟩ = some (.int .i64 R.2) := by simp [World.cell?, hblk]
          have hf0 : wr.frozen? ⟨Bk, 0, none⟩ = false := by simp [World.frozen?, hblk]
          have HBLK := hide hblk
          clear hblk
          rcases b3 with _ | ⟨q, b4⟩
          · have HF := hide ((unhide H2).fin (fun s hs => by simp at hs))
            go_wp2
            go_quiet (fail)
            go_wp2_with (at_builtin; refine wpList_append_own _ rfl (.tmp 73) (.tmp 75) 34 rfl w.heap.size 40 i0 (.agg #[.int .i64 0, .int .i64 0]) 2 16 Try.underlying34 hi hz0 hz1 hz2 rfl (by decide) _ _ _ rfl (by exact hown2.alloc _) ⟨wr.heap.size, 0, none⟩ 1 1 [.int .i64 f, .int .i64 R.2] rfl rfl (two_new _ _ _ _ _ rfl) (two_cell _ _) (by unfold maxLen; omega) (by omega) (by show w.heap.size ≤ (wr.alloc _).heap.size; simp; omega) ?_)
            intro v' w1 hown' hgrow _
            have hbw : Below w.heap.size w w1 := Below.grown ((below_drewN hb2 _).alloc (by show w.heap.size ≤ wr.heap.size; omega) _) hgrow (by show w.heap.size ≤ (wr.alloc _).heap.size; simp; omega) (fun x hx => (hown2.lt x hx).1)
            clear hgrow hown2 hc0 hc1 hf0
            go_wp2
            go_roundg (gk - 1)
            case measure => omega
            case rel =>
              refine ⟨k + 1, [], out2 ++ [(f, R.2)], x3, by omega, by go_num, rfl, hx2, ?_, ?_, by simp at hl ⊢; omega, hbw⟩
              · rw [cellsP_append, List.length_append]; exact hown'
              · have := unhide HF; rw [HTK.out, ← unhide HLA]; exact this
          · obtain ⟨b1, o1, rfl, hp1, hp2⟩ := (hx2.below hb2).head
            have hd0 : decide ((0 : Int) < (b4.length : Int) + 1) = true := decide_eq_true (by omega)
            have hqok : Ok q := (val_cons.1 (unhide H2).vb).1
            obtain ⟨hq0, hq1, hq2⟩ := hqok
            by_cases hq : q.1 ≤ R.2
            · go_wp2
              go_quiet (fail)
              go_wp2
              go_quiet (fail)
              go_upto_if 46 with fail
              go_cut [5] (fun vo wx => wx.ownsRow w.heap.size 40 2 vo (cutOut out2 f q).length (cellsP (cutOut out2 f q)) ∧ wx.heap[Bk]? = some (.cells #[.int .i64 f, .int .i64 R.2] 40 (0, 0)) ∧ vo.ownBlock ≠ some Bk ∧ Below w.heap.size w wx ∧ (cutOut out2 f q).length ≤ out2.length + 1)
              case first =>
                by_cases hfq : f < q.1
                · have HCO : Hid (cutOut out2 f q = out2 ++ [(f, q.1 - 1)]) := by show _ = _; unfold cutOut; rw [if_pos hfq]
                  have hw1 : IntKind.i64.wrap (q.1 - 1) = q.1 - 1 := IntWalk.i64_in _ (by omega)
                  have hz1' : (0 : Int) < (b4.length : Int) + 1 := by omega
                  go_wp2
                  go_region_law (refine step_append_lies rfl (.tmp 47) (.tmp 56) 34 rfl w.heap.size 40 i0 (.agg #[.int .i64 0, .int .i64 0]) 2 16 Try.underlying34 hi hz0 hz1 hz2 rfl (by decide) u5 _ _ rfl (by exact hown2.alloc _) ⟨wr.heap.size, 0, none⟩ 1 1 [.int .i64 f, .int .i64 (q.1 - 1)] rfl rfl (two_new _ _ _ _ _ rfl) (two_cell _ _) (by omega) (by unfold maxLen; simp at hl; omega) (by simp at hl; omega) (by show w.heap.size ≤ (wr.alloc _).heap.size; simp; omega) ?_; intro v' w1 hown' hgrow hlies)
                  all_goals
                    go_wp2
                    go_meet
                    case rel =>
                      obtain ⟨k1, k2, k3⟩ := after_step (C := .cells #[.int .i64 f, .int .i64 (q.1 - 1)] 40) (by exact rfl) (by exact ⟨rfl, rfl, rfl⟩) hown2 hb2 hbs (unhide HBLK) (unhide HAP) hgrow hlies
                      rw [HCO.out]
                      exact ⟨by rw [cellsP_append, List.length_append]; exact hown', k1, k2, k3, by simp⟩
                · have HCO : Hid (cutOut out2 f q = out2) := by show _ = _; unfold cutOut; rw [if_neg hfq]
                  go_wp2
                  go_meet
                  case rel =>
                    rw [HCO.out]
                    exact ⟨hown2, unhide HBLK, unhide HAP, by repeat (first | exact hb2 | apply below_drewN), by omega⟩
              case rest =>
                obtain ⟨hown3, hblk3, hap3, hb3, hln3⟩ := hcut
                clear hown2 hc0 hc1 hf0 HBLK HAP hp1 hp2 hb2 hbs
                have hbs := hb3.size
                have hc0 : wc.cell? ⟨Bk, 0, none⟩ = some (.int .i64 f) := by simp [World.cell?, hblk3]
                have hc1 : wc.cell? ⟨Bk, 1, none⟩ = some (.int .i64 R.2) := by simp [World.cell?, hblk3]
                have hf0 : wc.frozen? ⟨Bk, 0, none⟩ = false := by simp [World.frozen?, hblk3]
                have hHD := (hx2.below hb3).head
                obtain ⟨b1', o1', e1, hp1, hp2⟩ := hHD
                simp at e1
                obtain ⟨rfl, rfl⟩ := e1
                have HBLK := hide hblk3
                have HAP := hide hap3
                clear hblk3 hap3
                have hz1' : (0 : Int) < (b4.length : Int) + 1 := by omega
                by_cases hql : R.2 ≤ q.2
                · have HF := hide ((unhide H2).last (unhide HH) hq hql)
                  go_wp2
                  go_quiet (fail)
                  go_wp2
                  go_roundg (gk - 1)
                  case measure => omega
                  case rel =>
                    refine ⟨k + 1, q :: b4, cutOut out2 f q, _, by omega, by go_num, rfl, hx2, hown3, ?_, by simp at hl ⊢; omega, below_drewN hb3 _⟩
                    have := unhide HF; rw [HTK.out, ← unhide HLA]; exact this
                · have HF := hide ((unhide H2).next (unhide HH) hq (by omega))
                  by_cases hb4 : b4.length = 0
                  · obtain rfl : b4 = [] := List.eq_nil_of_length_eq_zero hb4
                    go_wp2
                    go_quiet (fail)
                    go_wp2
                    go_roundw
                    case rel => exact ⟨[], cutOut out2 f q, _, q.2 + 1, rfl, RdP.nil _ _, ownsRow_setCell_other hown3 (unhide HAP) _, (unhide HF).1, (unhide HF).2, by simp at hl ⊢; omega, set_first (unhide HBLK) _, unhide HAP, (below_drewN hb3 _).setCell (p := ⟨Bk, 0, none⟩) hBkw _⟩
                    case measure => simp [lenV]
                  · go_wp2
                    go_quiet (fail)
                    go_wp2
                    go_roundw
                    case rel => exact ⟨b4, cutOut out2 f q, _, q.2 + 1, rfl, hx2.tail (fun _ => rfl), ownsRow_setCell_other hown3 (unhide HAP) _, (unhide HF).1, (unhide HF).2, by simp at hl ⊢; omega, set_first (unhide HBLK) _, unhide HAP, (below_drewN hb3 _).setCell (p := ⟨Bk, 0, none⟩) hBkw _⟩
                    case measure => simp [lenV]
            · have HF := hide ((unhide H2).fin (head_above (unhide H2).vb (by omega)))
              go_wp2
              go_quiet (fail)
              go_wp2_with (at_builtin; refine wpList_append_own _ rfl (.tmp 73) (.tmp 75) 34 rfl w.heap.size 40 i0 (.agg #[.int .i64 0, .int .i64 0]) 2 16 Try.underlying34 hi hz0 hz1 hz2 rfl (by decide) _ _ _ rfl (by exact hown2.alloc _) ⟨wr.heap.size, 0, none⟩ 1 1 [.int .i64 f, .int .i64 R.2] rfl rfl (two_new _ _ _ _ _ rfl) (two_cell _ _) (by unfold maxLen; omega) (by omega) (by show w.heap.size ≤ (wr.alloc _).heap.size; simp; omega) ?_)
              intro v' w1 hown' hgrow _
              have hbw : Below w.heap.size w w1 := Below.grown ((below_drewN hb2 _).alloc (by show w.heap.size ≤ wr.heap.size; omega) _) hgrow (by show w.heap.size ≤ (wr.alloc _).heap.size; simp; omega) (fun x hx => (hown2.lt x hx).1)
              clear hgrow hown2 hc0 hc1 hf0
              go_wp2
              go_roundg (gk - 1)
              case measure => omega
              case rel =>
                refine ⟨k + 1, q :: b4, out2 ++ [(f, R.2)], _, by omega, by go_num, rfl, hx2, ?_, ?_, by simp at hl ⊢; omega, hbw⟩
                · rw [cellsP_append, List.length_append]; exact hown'
                · have := unhide HF; rw [HTK.out, ← unhide HLA]; exact this
    · obtain ⟨hvo, hmo⟩ := (show MInv b a [] out b' by have := unhide HI; rwa [List.take_of_length_le (by omega), List.drop_eq_nil_of_le (by omega)] at this).done
      obtain ⟨ao, co, e, hro, hlo, hno⟩ := own_pairs hown
      rw [e]
      clear e hown
      have HM := hide hmo
      clear hmo HI
      go_wp2_with fail
      refine (clone_any ao out.length co out wr (by omega) rfl hro (fun h => ?_)).mono ?_
      · have hc0 := hno h
        exact ⟨by omega, hc0⟩
      rintro e w1 ⟨a1, c1, rfl, hr1, hb1⟩
      go_wp2
      rw [Exit.noGoto_ret]
      go_ret
      exact ⟨a1, c1, out, rfl, hr1, hvo, unhide HM, by omega, hbr.trans (hb1.mono hbr.size)⟩
end Go.Proofs.Qxb6617949a
