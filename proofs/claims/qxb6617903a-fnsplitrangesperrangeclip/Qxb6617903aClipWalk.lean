/- THE WALK OF THE LAW 'FnSplitRangesPerRangeClip'. -/
import Derived.Test.Qxb6617903aClipEarly
import Derived.OpenShut
namespace Go.Proofs.Qxb6617903a
open Go.RowKit SplitPlain
set_option linter.unusedSimpArgs false
set_option linter.unusedVariables false

theorem hide {p : Prop} (h : p) : Hid p := h
theorem unhide {p : Prop} (h : Hid p) : p := h

theorem wf_at {zs : List Int} (h : ∀ z ∈ zs, (Lit.int .i64 z).wf = true) {k : Nat} (hk : k < zs.length) : -9223372036854775808 ≤ zs.getD k 0 ∧ zs.getD k 0 ≤ 9223372036854775807 := by
  have := h zs[k] (List.getElem_mem hk)
  simp [List.getD, hk]
  exact bounds_i64 this

theorem Try.size2 : (Try.prog.info? 2).map (·.size) = some 1 := by kernel_rfl

set_option maxRecDepth 100000 in
set_option maxHeartbeats 8000000 in
theorem clip_even (a0 a1 : Option Addr) (n c0 c1 : Nat) (zf zl : List Int) (m : Int) (w : World) (hn : n ≤ 65536) (hzf : zf.length = n) (hzl : zl.length = n) (hr0 : Rd w a0 zf) (hr1 : Rd w a1 zl)
    (hwf : ∀ z ∈ zf, (Lit.int .i64 z).wf = true) (hwl : ∀ z ∈ zl, (Lit.int .i64 z).wf = true) (hm1 : -9223372036854775808 ≤ m) (hm2 : m ≤ 9223372036854775807) :
    Calls Try.prog 3 #[.slice a0 n c0, .slice a1 n c1, .int .i64 m] w fun e w' => e = .returned (.bool true) ∧ Below w.heap.size w w' := by
  have hnil0 := fun wx => run_neq_slice_nil_any (P := Try.prog) wx 22 2 a0 n c0 0 0 Try.underlying22
  have hnil1 := fun wx => run_neq_slice_nil_any (P := Try.prog) wx 22 2 a1 n c1 0 0 Try.underlying22
  obtain ⟨i0, hi, hz0, hz1, hz2⟩ := info_parts Try.info2
  have HWF : Hid (∀ z ∈ zf, (Lit.int .i64 z).wf = true) := hwf
  have HWL : Hid (∀ z ∈ zl, (Lit.int .i64 z).wf = true) := hwl
  clear hwf hwl
  go_enter Try.func3, Try.ntmps3
  go_upto_if 40 with go_in
  go_cut [0] (fun s wx => ∃ a c, s = .slice a n c ∧ Rd wx a zf ∧ Below w.heap.size w wx)
  case first =>
    as_aux_lemma =>
      cases a0 with
      | none =>
        go_wp2
        go_meet
        case rel => exact ⟨none, c0, rfl, hr0, Below.refl _ _⟩
      | some x =>
        go_wp2_with (at_make; refine wpList_make_full _ rfl (.tmp 42) (.tmp 42) 22 rfl w.heap.size 2 i0 (.int .i64 0) 1 Try.underlying22 hi hz0 hz1 _ _ _ _ n rfl rfl rfl rfl ?b2 ?b3 ?b4 ?_)
        case b2 => rw [hz2]; omega
        case b3 => unfold maxLen; omega
        case b4 => exact Nat.le_refl _
        intro w1 hown hgrow
        have hb1 := below_grown hgrow
        clear hgrow
        go_wp2_with (refine wpList_copy_first rfl (.tmp 44) (.tmp 45) 22 rfl 2 Try.underlying22 Try.size2 w n c0 x rfl rfl zf hzf hr0 _ hown hb1 ?_)
        intro w2 hr2 hb2
        go_wp2
        go_meet
        case rel => exact ⟨_, n, rfl, hr2, hb2⟩
  case rest =>
    obtain ⟨af, cf, rfl, hrf, hbf⟩ := hcut
    have hr1 := hr1.below hbf
    clear hr0 hnil0
    obtain ⟨wa, hwa⟩ : ∃ wa : World, wa = wc := ⟨_, rfl⟩
    rw [← hwa] at hrf hbf hr1 ⊢
    clear hwa
    go_upto_if 49 with fail
    go_cut [1] (fun s wx => ∃ a c, s = .slice a n c ∧ Rd wx a zl ∧ Below wa.heap.size wa wx)
    case first =>
      as_aux_lemma =>
        cases a1 with
        | none =>
          go_wp2
          go_meet
          case rel => exact ⟨none, c1, rfl, hr1, Below.refl _ _⟩
        | some x =>
          go_wp2_with (at_make; refine wpList_make_full _ rfl (.tmp 51) (.tmp 51) 22 rfl wa.heap.size 2 i0 (.int .i64 0) 1 Try.underlying22 hi hz0 hz1 _ _ _ _ n rfl rfl rfl rfl ?d2 ?d3 ?d4 ?_)
          case d2 => rw [hz2]; omega
          case d3 => unfold maxLen; omega
          case d4 => exact Nat.le_refl _
          intro w1 hown hgrow
          have hb1 := below_grown hgrow
          clear hgrow
          go_wp2_with (refine wpList_copy_first rfl (.tmp 53) (.tmp 54) 22 rfl 2 Try.underlying22 Try.size2 wa n c1 x rfl rfl zl hzl hr1 _ hown hb1 ?_)
          intro w2 hr2 hb2
          go_wp2
          go_meet
          case rel => exact ⟨_, n, rfl, hr2, hb2⟩
    case rest =>
      obtain ⟨al, cl, rfl, hrl, hbl⟩ := hcut
      have hrf := hrf.below hbl
      have hb := hbf.trans (hbl.mono hbf.size)
      clear hbl hbf hr1 hnil1 hi hz0 hz1 hz2
      have HB : Hid (∀ k, k < n → (-9223372036854775808 ≤ zf.getD k 0 ∧ zf.getD k 0 ≤ 9223372036854775807) ∧ (-9223372036854775808 ≤ zl.getD k 0 ∧ zl.getD k 0 ≤ 9223372036854775807)) := fun k hk => ⟨wf_at HWF.out (by omega), wf_at HWL.out (by omega)⟩
      clear HWF HWL
      go_wp2
      go_loopw [9] (fun i wr => ∃ k : Nat, k ≤ n ∧ i = .int .i64 k ∧ (∀ j, j < k → vrB (zf.getD j 0) (zl.getD j 0) = true) ∧ Rd wr af zf ∧ Rd wr al zl ∧ Below w.heap.size w wr) (fun i _ => n - (intOf i).toNat)
      case atStart => exact ⟨0, by omega, rfl, fun j hj => by omega, hrf, hrl, hb⟩
      case round =>
        obtain ⟨k, hk, rfl, hval, hrf, hrl, hb⟩ := hrel
        have HV : Hid (∀ j, j < k → vrB (zf.getD j 0) (zl.getD j 0) = true) := hval
        clear hval
        by_cases hlt : k < n
        · as_aux_lemma =>
            obtain ⟨bf, of, rfl, hcf⟩ := hrf.at (by omega)
            obtain ⟨bl, ol, rfl, hcl⟩ := hrl.at (by omega)
            have h1 : wr.cell? ⟨bf, of + k, none⟩ = some (.int .i64 (zf.getD k 0)) := hcf k (by omega)
            have h2 : wr.cell? ⟨bl, ol + k, none⟩ = some (.int .i64 (zl.getD k 0)) := hcl k (by omega)
            have hbd := HB.out k hlt
            have hk0 : (0 : Int) ≤ (k : Int) := by omega
            have hk1 : (k : Int) < (n : Int) := by omega
            clear hcf hcl
            have HE : Hid (∀ j, j < k + 1 → (vrB (zf.getD k 0) (zl.getD k 0) = true) → vrB (zf.getD j 0) (zl.getD j 0) = true) := fun j hj h => by
              by_cases hjk : j < k
              · exact HV.out j hjk
              · obtain rfl : j = k := by omega
                exact h
            generalize zf.getD k 0 = F at *
            generalize zl.getD k 0 = L at *
            cases hvr : vrB F L with
            | false =>
              have hcall : ∀ wx, Calls Try.prog 7 #[.int .i64 F, .int .i64 L] wx fun e w' => e = .returned (.bool false) ∧ w' = wx := fun wx => hvr ▸ valid_any F L wx hbd.1.1 hbd.1.2 hbd.2.1 hbd.2.2
              have HC := hide hcall
              clear hcall hvr
              go_wp2
              go_quiet ((go_at_call 7; exact Calls.quiet_of_same (unhide HC _)))
              go_wp2
              go_ret
              exact ⟨rfl, below_drewN hb _⟩
            | true =>
              have hcall : ∀ wx, Calls Try.prog 7 #[.int .i64 F, .int .i64 L] wx fun e w' => e = .returned (.bool true) ∧ w' = wx := fun wx => hvr ▸ valid_any F L wx hbd.1.1 hbd.1.2 hbd.2.1 hbd.2.2
              have HC := hide hcall
              have HVR := hide hvr
              clear hcall hvr
              go_wp2
              go_quiet ((go_at_call 7; exact Calls.quiet_of_same (unhide HC _)))
              go_wp2
              go_roundw
              case rel => exact ⟨k + 1, by omega, by go_num, fun j hj => HE.out j hj (unhide HVR), hrf.below (below_drewN (Below.refl _ _) _), hrl.below (below_drewN (Below.refl _ _) _), below_drewN hb _⟩
              case measure => simp [intOf]; omega
        · obtain ⟨ps, hps⟩ : ∃ ps, Hid (ps = zf.zip zl) := ⟨_, rfl⟩
          have hpl : ps.length = n := by rw [hps.out]; simp; omega
          have HAT : Hid (∀ j, j < n → at' ps j = (zf.getD j 0, zl.getD j 0)) := fun j hj => by rw [hps.out]; exact zip_getD zf zl j (by omega) (by omega)
          have hvps : Valid ps := by
            intro j hj
            rw [HAT.out j (by omega)]
            have h1 := HV.out j (by omega)
            have h2 := HB.out j (by omega)
            unfold vrB at h1
            have h3 := of_decide_eq_true h1
            exact ⟨h2.1.1, h3.1, h2.2.2, h3.2⟩
          clear HV
          go_wp2_with fail
          refine (zzsplit_any af al n cf cl zf zl ps hps m wr hn hzf hzl hvps hm1 hm2 hrf hrl).mono ?_
          rintro e w2 ⟨a6, a7, a8, a9, c6, c7, c8, c9, low, high, rfl, hsp, hr6, hr7, hr8, hr9, hb2⟩
          have hlens := hsp.lens
          have HSP := hide hsp
          have hrf := hrf.below hb2
          have hrl := hrl.below hb2
          have hb := hb.trans (hb2.mono hb.size)
          clear hsp hb2
          have hwt : 0 ≤ wantOf m ∧ wantOf m ≤ 9223372036854775807 := by unfold wantOf; split <;> omega
          go_upto_if 96 with fail
          go_cut [14] (fun s wx => s = .int .i64 (wantOf m) ∧ w2 = wx)
          case first =>
            as_aux_lemma =>
              by_cases hm0 : m < 0
              · have e : wantOf m = 0 := by unfold wantOf; rw [if_pos hm0]
                have HE := hide e
                clear e
                go_wp2
                go_meet
                case rel => exact ⟨by rw [unhide HE], rfl⟩
              · have e : wantOf m = m := by unfold wantOf; rw [if_neg hm0]
                have HE := hide e
                clear e
                go_wp2
                go_meet
                case rel => exact ⟨by rw [unhide HE], rfl⟩
          case rest =>
            obtain ⟨rfl, rfl⟩ := hcut
            obtain ⟨kk, cc, hkk, hcc, heat, hll, hhl, hlo, hhi, hkc, hk0⟩ := (unhide HSP).facts
            have HSTEP : Hid (∀ i li hj bf, St ps m kk cc i li hj bf → i < ps.length → _) := fun i li hj bf hs hi => St.step hvps hm2 hkk hcc heat hll hhl hlo hhi hkc hs hi
            have HEND : Hid (∀ li hj bf, St ps m kk cc n li hj bf → li = low.length ∧ hj = high.length) := by
              intro li hj bf hs
              rcases hs with ⟨h1, h2, h3, _⟩ | ⟨h1, h2, h3, _⟩
              · have := hk0 (by omega); omega
              · omega
            have HST0 : Hid (St ps m kk cc 0 0 0 0) := .inl ⟨Nat.zero_le _, rfl, rfl, rfl⟩
            clear HSP heat hlo hhi hkc hk0 hll hhl
            go_wp2
            go_loopw [15, 16, 17, 18] (fun bv lv jv iv wx => ∃ (i li hj : Nat) (bf : Int), i ≤ n ∧ iv = .int .i64 i ∧ lv = .int .i64 li ∧ jv = .int .i64 hj ∧ bv = .int .i64 bf ∧ St ps m kk cc i li hj bf ∧ Below w2.heap.size w2 wx) (fun _ _ _ iv _ => n - (intOf iv).toNat)
            case atStart => exact ⟨0, 0, 0, 0, by omega, rfl, rfl, rfl, rfl, unhide HST0, Below.refl _ _⟩
            case round =>
              obtain ⟨i, li, hj, bf, hin, rfl, rfl, rfl, rfl, hst, hbx⟩ := hrel
              have HST := hide hst
              clear hst
              by_cases hlt : i < n
              · obtain ⟨hbf0, hbf1, hA, hB, hC⟩ := HSTEP.out i li hj bf (unhide HST) (by omega)
                obtain ⟨F, L, HFL⟩ : ∃ F L, Hid (zf.getD i 0 = F ∧ zl.getD i 0 = L) := ⟨_, _, rfl, rfl⟩
                have hat : at' ps i = (F, L) := by rw [HAT.out i hlt, HFL.out.1, HFL.out.2]
                have hvi := hvps i (by omega)
                have hz := sz_pos hvps (k := i) (by omega)
                have hzz : sz ps i = L - F + 1 := by unfold sz; rw [hat]
                obtain ⟨Z, HZ⟩ : ∃ Z, Hid (sz ps i = Z) := ⟨_, rfl⟩
                rw [HZ.out] at hA hB hC hz hzz
                obtain ⟨T0, HT0⟩ : ∃ T0, Hid (lowC (wantOf m - bf) = T0) := ⟨_, rfl⟩
                rw [HT0.out] at hA hB hC
                obtain ⟨T, HT⟩ : ∃ T, Hid (upC T0 Z = T) := ⟨_, rfl⟩
                rw [HT.out] at hA hB hC
                rw [hat] at hA hB hvi
                simp only at hA hB hvi
                have hw1 : IntKind.i64.wrap (L - F) = L - F := IntWalk.i64_in _ (by omega)
                have hw2 : IntKind.i64.wrap (L - F + 1) = Z := by rw [IntWalk.i64_in _ (by omega)]; omega
                have hT0 : 0 ≤ T0 ∧ T0 ≤ 9223372036854775807 := by rw [← HT0.out]; unfold lowC; split <;> omega
                have hT1 : 0 ≤ T ∧ T ≤ Z := by rw [← HT.out]; unfold upC; split <;> omega
                have HA := hide hA
                have HB' := hide hB
                have HC := hide hC
                have HATI := hide hat
                have HZZ := hide hzz
                clear hA hB hC hat
                obtain ⟨bF, oF, rfl, hcF⟩ := (hrf.below hbx).at (by omega)
                obtain ⟨bL, oL, rfl, hcL⟩ := (hrl.below hbx).at (by omega)
                have hx1 : wr.cell? ⟨bF, oF + i, none⟩ = some (.int .i64 F) := by rw [← HFL.out.1]; exact hcF i (by omega)
                have hx2 : wr.cell? ⟨bL, oL + i, none⟩ = some (.int .i64 L) := by rw [← HFL.out.2]; exact hcL i (by omega)
                clear hcF hcL
                have hzl : Z ≤ L - F + 1 := by omega
                have hzg : L - F + 1 ≤ Z := by omega
                clear hzz
                have hi0 : (0 : Int) ≤ (i : Int) := by omega
                have hi1 : (i : Int) < (n : Int) := by omega
                go_wp2
                go_quiet (fail)
                go_upto_if 117 with fail
                go_cut [20] (fun s wx => s = .int .i64 T0 ∧ Below wr.heap.size wr wx)
                case first =>
                  as_aux_lemma =>
                    by_cases ht : wantOf m - bf < 0
                    · have HE : Hid (lowC (wantOf m - bf) = 0) := by unfold lowC; show _ = _; rw [if_pos ht]
                      go_wp2
                      go_meet
                      case rel => exact ⟨congrArg (Value.int .i64) (by rw [← HT0.out, HE.out]), below_drewN (Below.refl _ _) _⟩
                    · have HE : Hid (lowC (wantOf m - bf) = wantOf m - bf) := by unfold lowC; show _ = _; rw [if_neg ht]
                      go_wp2
                      go_meet
                      case rel => exact ⟨congrArg (Value.int .i64) (by rw [← HT0.out, HE.out]), below_drewN (Below.refl _ _) _⟩
                case rest =>
                  obtain ⟨rfl, hbc⟩ := hcut
                  obtain ⟨wb, hwb⟩ : ∃ wb : World, wb = wc := ⟨_, rfl⟩
                  rw [← hwb] at hbc ⊢
                  clear hwb
                  go_upto_if 120 with fail
                  go_cut [20] (fun s wx => s = .int .i64 T ∧ wb = wx)
                  case first =>
                    as_aux_lemma =>
                      by_cases ht : Z < T0
                      · have HE : Hid (upC T0 Z = Z) := by unfold upC; show _ = _; rw [if_pos ht]
                        go_wp2
                        go_meet
                        case rel => exact ⟨congrArg (Value.int .i64) (by rw [← HT.out, HE.out]), rfl⟩
                      · have HE : Hid (upC T0 Z = T0) := by unfold upC; show _ = _; rw [if_neg ht]
                        go_wp2
                        go_meet
                        case rel => exact ⟨congrArg (Value.int .i64) (by rw [← HT.out, HE.out]), rfl⟩
                  case rest =>
                    obtain ⟨rfl, rfl⟩ := hcut
                    obtain ⟨wd, hwd⟩ : ∃ wd : World, wd = wb := ⟨_, rfl⟩
                    rw [← hwd] at hbc ⊢
                    clear hwd
                    have hbd : Below w2.heap.size w2 wd := hbx.trans (hbc.mono hbx.size)
                    have hx1 : wd.cell? ⟨bF, oF + i, none⟩ = some (.int .i64 F) := (hbc.cell (p := ⟨bF, oF + i, none⟩) (World.block_lt_of_cell? _ _ hx1)).trans hx1
                    have hx2 : wd.cell? ⟨bL, oL + i, none⟩ = some (.int .i64 L) := (hbc.cell (p := ⟨bL, oL + i, none⟩) (World.block_lt_of_cell? _ _ hx2)).trans hx2
                    clear hw1 hw2 hT0
                    by_cases hTp : 0 < T
                    · by_cases hTz : T < Z
                      · as_aux_lemma =>
                          obtain ⟨hli, hlow⟩ := unhide HA hTp
                          obtain ⟨b6, o6, rfl, hc6⟩ := (hr6.below hbd).at (by simp; omega)
                          obtain ⟨b7, o7, rfl, hc7⟩ := (hr7.below hbd).at (by simp; omega)
                          have hy6 : wd.cell? ⟨b6, o6 + li, none⟩ = some (.int .i64 F) := by have := hc6 li (by simpa using hli); rwa [at_map_fst _ _ hli, hlow] at this
                          have hy7 : wd.cell? ⟨b7, o7 + li, none⟩ = some (.int .i64 (F + T - 1)) := by have := hc7 li (by simpa using hli); rwa [at_map_snd _ _ hli, hlow] at this
                          have hli1 : (li : Int) < (low.length : Int) := by omega
                          have hli0 : (0 : Int) ≤ (li : Int) := by omega
                          have hlg : decide ((low.length : Int) ≤ (li : Int)) = false := decide_eq_false (by omega)
                          have hw3 : IntKind.i64.wrap (IntKind.i64.wrap (F + T) - 1) = F + T - 1 := by simp only [IntKind.wrap_i64]; omega
                          clear hc6 hc7 hlow
                          obtain ⟨hhj, hhigh⟩ := unhide HB' hTz
                          obtain ⟨b8, o8, rfl, hc8⟩ := (hr8.below hbd).at (by simp; omega)
                          obtain ⟨b9, o9, rfl, hc9⟩ := (hr9.below hbd).at (by simp; omega)
                          have hy8 : wd.cell? ⟨b8, o8 + hj, none⟩ = some (.int .i64 (F + T)) := by have := hc8 hj (by simpa using hhj); rwa [at_map_fst _ _ hhj, hhigh] at this
                          have hy9 : wd.cell? ⟨b9, o9 + hj, none⟩ = some (.int .i64 L) := by have := hc9 hj (by simpa using hhj); rwa [at_map_snd _ _ hhj, hhigh] at this
                          have hhj1 : (hj : Int) < (high.length : Int) := by omega
                          have hhj0 : (0 : Int) ≤ (hj : Int) := by omega
                          have hhg : decide ((high.length : Int) ≤ (hj : Int)) = false := decide_eq_false (by omega)
                          have hw4 : IntKind.i64.wrap (F + T) = F + T := IntWalk.i64_in _ (by omega)
                          have hw5 : IntKind.i64.wrap (F + T - 1) = F + T - 1 := IntWalk.i64_in _ (by omega)
                          clear hc8 hc9 hhigh
                          go_wp2
                          go_quiet (fail)
                          go_wp2
                          go_quiet (fail)
                          go_wp2_with (go_at_call 9; refine (sat_any bf Z _ hbf0 hz.1 hz.2 hbf1).mono ?_; rintro e w5 ⟨rfl, rfl⟩)
                          go_roundw
                          case rel =>
                            have hC := unhide HC
                            rw [if_pos hTp, if_pos hTz] at hC
                            exact ⟨i + 1, li + 1, hj + 1, _, by omega, by go_num, by go_num, by go_num, rfl, hC, by repeat (first | exact hbd | apply below_drewN)⟩
                          case measure => simp [intOf]; omega
                      · as_aux_lemma =>
                          obtain ⟨hli, hlow⟩ := unhide HA hTp
                          obtain ⟨b6, o6, rfl, hc6⟩ := (hr6.below hbd).at (by simp; omega)
                          obtain ⟨b7, o7, rfl, hc7⟩ := (hr7.below hbd).at (by simp; omega)
                          have hy6 : wd.cell? ⟨b6, o6 + li, none⟩ = some (.int .i64 F) := by have := hc6 li (by simpa using hli); rwa [at_map_fst _ _ hli, hlow] at this
                          have hy7 : wd.cell? ⟨b7, o7 + li, none⟩ = some (.int .i64 (F + T - 1)) := by have := hc7 li (by simpa using hli); rwa [at_map_snd _ _ hli, hlow] at this
                          have hli1 : (li : Int) < (low.length : Int) := by omega
                          have hli0 : (0 : Int) ≤ (li : Int) := by omega
                          have hlg : decide ((low.length : Int) ≤ (li : Int)) = false := decide_eq_false (by omega)
                          have hw3 : IntKind.i64.wrap (IntKind.i64.wrap (F + T) - 1) = F + T - 1 := by simp only [IntKind.wrap_i64]; omega
                          clear hc6 hc7 hlow
                          go_wp2
                          go_quiet (fail)
                          go_wp2_with (go_at_call 9; refine (sat_any bf Z _ hbf0 hz.1 hz.2 hbf1).mono ?_; rintro e w5 ⟨rfl, rfl⟩)
                          go_roundw
                          case rel =>
                            have hC := unhide HC
                            rw [if_pos hTp, if_neg (by omega)] at hC
                            exact ⟨i + 1, li + 1, hj, _, by omega, by go_num, by go_num, rfl, rfl, hC, by repeat (first | exact hbd | apply below_drewN)⟩
                          case measure => simp [intOf]; omega
                    · as_aux_lemma =>
                        have hTz : T < Z := by omega
                        obtain ⟨hhj, hhigh⟩ := unhide HB' hTz
                        obtain ⟨b8, o8, rfl, hc8⟩ := (hr8.below hbd).at (by simp; omega)
                        obtain ⟨b9, o9, rfl, hc9⟩ := (hr9.below hbd).at (by simp; omega)
                        have hy8 : wd.cell? ⟨b8, o8 + hj, none⟩ = some (.int .i64 (F + T)) := by have := hc8 hj (by simpa using hhj); rwa [at_map_fst _ _ hhj, hhigh] at this
                        have hy9 : wd.cell? ⟨b9, o9 + hj, none⟩ = some (.int .i64 L) := by have := hc9 hj (by simpa using hhj); rwa [at_map_snd _ _ hhj, hhigh] at this
                        have hhj1 : (hj : Int) < (high.length : Int) := by omega
                        have hhj0 : (0 : Int) ≤ (hj : Int) := by omega
                        have hhg : decide ((high.length : Int) ≤ (hj : Int)) = false := decide_eq_false (by omega)
                        have hw4 : IntKind.i64.wrap (F + T) = F + T := IntWalk.i64_in _ (by omega)
                        clear hc8 hc9 hhigh
                        go_wp2
                        go_quiet (fail)
                        go_wp2_with (go_at_call 9; refine (sat_any bf Z _ hbf0 hz.1 hz.2 hbf1).mono ?_; rintro e w5 ⟨rfl, rfl⟩)
                        go_roundw
                        case rel =>
                          have hC := unhide HC
                          rw [if_neg (by omega), if_pos hTz] at hC
                          exact ⟨i + 1, li, hj + 1, _, by omega, by go_num, rfl, by go_num, rfl, hC, by repeat (first | exact hbd | apply below_drewN)⟩
                        case measure => simp [intOf]; omega
              · obtain rfl : i = n := by omega
                obtain ⟨e1, e2⟩ := HEND.out li hj bf (unhide HST)
                go_wp2
                go_ret
                exact ⟨rfl, hb.trans (hbx.mono hb.size)⟩

theorem clip_any (a0 a1 : Option Addr) (n0 n1 c0 c1 : Nat) (zf zl : List Int) (m : Int) (w : World) (hm0 : n0 ≤ maxLen) (hm1 : n1 ≤ maxLen) (hzf : zf.length = n0) (hzl : zl.length = n1) (hr0 : Rd w a0 zf) (hr1 : Rd w a1 zl)
    (hwf : ∀ z ∈ zf, (Lit.int .i64 z).wf = true) (hwl : ∀ z ∈ zl, (Lit.int .i64 z).wf = true) (hm : (Lit.int .i64 m).wf = true) :
    Calls Try.prog 3 #[.slice a0 n0 c0, .slice a1 n1 c1, .int .i64 m] w fun e w' => e = .returned (.bool true) ∧ Below w.heap.size w w' := by
  by_cases h : 65536 < n0 ∨ 65536 < n1
  · exact clip_long a0 a1 n0 n1 c0 c1 m w hm0 hm1 h
  · by_cases he : n0 = n1
    · subst he
      exact clip_even a0 a1 n0 c0 c1 zf zl m w (by omega) hzf hzl hr0 hr1 hwf hwl (bounds_i64 hm).1 (bounds_i64 hm).2
    · exact clip_uneven a0 a1 n0 n1 c0 c1 m w (by omega) (by omega) he
end Go.Proofs.Qxb6617903a
