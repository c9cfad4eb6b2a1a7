/- THE WALKS OF 'runsOf', 'ZZRunsOf'. -/
import Derived.Test.Qxb6617949aFresh
import Derived.Test.Qxb6617949aUnion
namespace Go.Proofs.Qxb6617949a
open Go.RowKit Plain
set_option linter.unusedSimpArgs false
set_option linter.unusedVariables false

theorem rd_own {w : World} {base : Nat} {e : TypeId} {g n cap : Nat} {zs : List Int} (hl : zs.length = n) (h : w.ownsRow base e 1 (.slice (some ⟨g, 0, none⟩) n cap) n (zs.map (Value.int .i64))) : Rd w (some ⟨g, 0, none⟩) zs := by
  intro i hi
  refine ⟨g, 0, rfl, ?_⟩
  rw [Nat.zero_add, h.cellAt i (by omega)]
  simp [hi, List.getD]

theorem grown_below {w w1 w2 : World} {row : Option Nat} (h : w.grownBy w1 row) (hb : Below w1.heap.size w1 w2) : w.grownBy w2 row :=
  ⟨hb.os.trans h.os, hb.tape.trans h.tape, hb.output.trans h.output, Nat.le_trans h.size hb.size, fun k hk hne => (hb.block k (by have := h.size; omega)).trans (h.block k hk hne)⟩

theorem set_to (ini : List (Int × Int)) (l : Int × Int) (z : Int) : (cellsP (ini ++ [l])).set (ini.length * 2 + 1) (.int .i64 z) = cellsP (ini ++ [(l.1, z)]) := by
  rw [cellsP_append, cellsP_append, List.set_append_right _ _ (by rw [cellsP_length]; omega), cellsP_length]
  have e : ini.length * 2 + 1 - ini.length * 2 = 1 := by omega
  rw [e]
  rfl

set_option maxRecDepth 100000 in
set_option maxHeartbeats 1600000 in
theorem runsof_some (base g n cap : Nat) (zs : List Int) (w : World) (hn : n ≤ 524288) (hl : zs.length = n) (hix : Idx zs) (hown : w.ownsRow base 3 1 (.slice (some ⟨g, 0, none⟩) n cap) n (zs.map (Value.int .i64))) :
    Calls Try.prog 26 #[.slice (some ⟨g, 0, none⟩) n cap] w fun e w' => ∃ a' c' o, e = .returned (.slice a' o.length c') ∧ RdP w' a' o ∧ RunsIs zs o ∧ o.length ≤ n ∧ w.grownBy w' (some g) := by
  obtain ⟨i0, hi, hz0, hz1, hz2⟩ := info_parts Try.info40
  obtain ⟨ts, Hts⟩ : ∃ ts, Hid (ts = srt zs) := ⟨_, rfl⟩
  have hlt : ts.length = n := by rw [Hts.out, srt_length, hl]
  have HSO : Hid (∀ k, 0 < k → k < n → ts.getD (k - 1) 0 ≤ ts.getD k 0) := fun k h0 hk => by
    have := srt_le zs (k - 1)
    rw [← Hts.out, show k - 1 + 1 = k from by omega] at this
    exact this (by omega)
  have hixt : Idx ts := fun z hz => hix z (mem_srt.1 (by rw [← Hts.out]; exact hz))
  have HIX : Hid (∀ k, k < n → 0 ≤ ts.getD k 0 ∧ ts.getD k 0 ≤ 9223372036854775807) := fun k hk => by
    have := hixt ts[k] (List.getElem_mem (by omega))
    simpa [List.getD, show k < ts.length by omega] using this
  go_enter Try.func26, Try.ntmps26
  go_wp2_with fail
  refine ((show Calls Try.prog 29 #[.slice (some ⟨g, 0, none⟩) n cap] w _ from hl ▸ sort_some base g cap zs w (by omega) (hl ▸ hown))).mono ?_
  rintro e w1 ⟨rfl, hown1, hgr1⟩
  rw [← Hts.out] at hown1
  have hr1 := rd_own hlt hown1
  clear hown hown1
  have HC : Hid (∀ wx, Below w1.heap.size w1 wx → ∀ i, i < n → wx.cell? ⟨g, i, none⟩ = some (.int .i64 (ts.getD i 0))) := fun wx hx i hi => by
    obtain ⟨b, off, e, hc⟩ := (hr1.below hx) i (by omega)
    simp at e
    obtain ⟨rfl, rfl⟩ := e
    simpa using hc
  go_wp2
  go_loop [3, 13] (fun c i => ∃ k m : Nat, k ≤ n ∧ m ≤ k ∧ i = .int .i64 k ∧ c = .int .i64 m) (fun _ i => n - (intOf i).toNat)
  case atStart => exact ⟨0, 0, by omega, by omega, rfl, rfl⟩
  case round =>
    obtain ⟨k, m, hk, hmk, rfl, rfl⟩ := hrel
    by_cases hkn : k < n
    · have h1 := unhide HC w1 (Below.refl _ _) k hkn
      have hb := unhide HIX k hkn
      by_cases h0 : k = 0
      · subst h0
        generalize ts.getD 0 0 = T at *
        go_wp2
        go_round
        case rel => exact ⟨1, m + 1, by omega, by omega, by go_num, by go_num⟩
        case measure => simp [intOf]; omega
      · have hk0 : ((k : Int) == 0) = false := by rw [beq_eq_false_iff_ne]; omega
        have h2 := unhide HC w1 (Below.refl _ _) (k - 1) (by omega)
        have hb2 := unhide HIX (k - 1) (by omega)
        generalize ts.getD k 0 = T at *
        generalize ts.getD (k - 1) 0 = T' at *
        by_cases hT : T' < T - 1
        · go_wp2
          go_round
          case rel => exact ⟨k + 1, m + 1, by omega, by omega, by go_num, by go_num⟩
          case measure => simp [intOf]; omega
        · go_wp2
          go_round
          case rel => exact ⟨k + 1, m, by omega, by omega, by go_num, rfl⟩
          case measure => simp [intOf]; omega
    · go_wp2_with (at_make; refine wpList_make_own _ rfl _ _ 34 rfl w1.heap.size 40 i0 (.agg #[.int .i64 0, .int .i64 0]) 2 Try.underlying34 hi hz0 hz1 _ _ _ m rfl rfl rfl (by rw [hz2]; omega) (by unfold maxLen; omega) (Nat.le_refl _) ?_)
      intro w2 hown2 hgr2
      have hb2 := below_grown hgr2
      clear hgr2
      obtain ⟨v0, hv0⟩ : ∃ v0, v0 = Value.slice (some ⟨w1.heap.size, 0, none⟩) 0 m := ⟨_, rfl⟩
      rw [← hv0] at hown2 ⊢
      clear hv0
      go_wp2
      go_loopw [6, 37] (fun vr i wr => ∃ (j : Nat) (out : List (Int × Int)), j ≤ n ∧ i = .int .i64 j ∧ wr.ownsRow w1.heap.size 40 2 vr out.length (cellsP out) ∧ RInv ts j out ∧ Below w1.heap.size w1 wr) (fun _ i _ => n - (intOf i).toNat)
      case atStart => exact ⟨0, [], by omega, rfl, hown2, RInv.start ts, hb2⟩
      case round =>
        obtain ⟨j, out, hj, rfl, hown3, hinv, hbr⟩ := hrel
        have HI := hide hinv
        have hon := hinv.n
        clear hinv hown2 hb2
        have hbs := hbr.size
        by_cases hjn : j < n
        · have h1 := unhide HC wr hbr j hjn
          have hb := unhide HIX j hjn
          by_cases h0 : j = 0
          · subst h0
            have HF := hide ((unhide HI).fresh (by omega) hixt (fun h => by omega))
            generalize ts.getD 0 0 = T at *
            go_wp2_with (at_builtin; refine wpList_append_own _ rfl (.tmp 54) (.tmp 58) 34 rfl w1.heap.size 40 i0 (.agg #[.int .i64 0, .int .i64 0]) 2 16 Try.underlying34 hi hz0 hz1 hz2 rfl (by decide) _ _ _ rfl (hown3.alloc _) ⟨wr.heap.size, 0, none⟩ 1 1 [.int .i64 T, .int .i64 T] rfl rfl (two_new _ _ _ _ _ rfl) (two_cell _ _) (by unfold maxLen; omega) (by omega) (by simp; omega) ?_)
            intro v' w4 hown4 hgr4 _
            have hb4 : Below w1.heap.size w1 w4 := (hbr.alloc hbs _).grown hgr4 (by simp; omega) (fun x hx => (hown3.lt x hx).1)
            clear hgr4
            go_wp2
            go_roundw
            case rel => exact ⟨1, out ++ [(T, T)], by omega, by go_num, by rw [cellsP_append, List.length_append]; exact hown4, unhide HF, hb4⟩
            case measure => simp [intOf]; omega
          · have hk0 : ((j : Int) == 0) = false := by rw [beq_eq_false_iff_ne]; omega
            have h2 := unhide HC wr hbr (j - 1) (by omega)
            have hbb := unhide HIX (j - 1) (by omega)
            by_cases hT : ts.getD (j - 1) 0 < ts.getD j 0 - 1
            · have HF := hide ((unhide HI).fresh (by omega) hixt (fun h => hT))
              generalize ts.getD j 0 = T at *
              generalize ts.getD (j - 1) 0 = T' at *
              go_wp2_with (at_builtin; refine wpList_append_own _ rfl (.tmp 54) (.tmp 58) 34 rfl w1.heap.size 40 i0 (.agg #[.int .i64 0, .int .i64 0]) 2 16 Try.underlying34 hi hz0 hz1 hz2 rfl (by decide) _ _ _ rfl (hown3.alloc _) ⟨wr.heap.size, 0, none⟩ 1 1 [.int .i64 T, .int .i64 T] rfl rfl (two_new _ _ _ _ _ rfl) (two_cell _ _) (by unfold maxLen; omega) (by omega) (by simp; omega) ?_)
              intro v' w4 hown4 hgr4 _
              have hb4 : Below w1.heap.size w1 w4 := (hbr.alloc hbs _).grown hgr4 (by simp; omega) (fun x hx => (hown3.lt x hx).1)
              clear hgr4
              go_wp2
              go_roundw
              case rel => exact ⟨j + 1, out ++ [(T, T)], by omega, by go_num, by rw [cellsP_append, List.length_append]; exact hown4, unhide HF, hb4⟩
              case measure => simp [intOf]; omega
            · obtain ⟨ini, l, rfl, hl2⟩ := (unhide HI).l (by omega)
              have HF := hide ((unhide HI).longer (by omega) hixt (by omega) (unhide HSO j (by omega) hjn) (by omega))
              clear hl2
              generalize ts.getD j 0 = T at *
              generalize ts.getD (j - 1) 0 = T' at *
              rcases hown3.2 with ⟨_, hh⟩ | ⟨gr, capr, cur, e, hg0, hheap, _⟩
              · simp at hh
              have hglt : gr < wr.heap.size := (Array.getElem?_eq_some_iff.1 hheap).1
              rw [e] at hown3
              have hol : (ini ++ [l]).length = ini.length + 1 := by simp
              have hcl : wr.cell? ⟨gr, ini.length * 2 + 1, none⟩ = some (.int .i64 l.2) := by
                rw [hown3.cellAt _ (by omega), cellsP_snd _ _ (by omega)]
                simp [List.getD]
              have hfr := hown3.frozenAt (ini.length * 2 + 1)
              rw [hol] at e hown3
              subst e
              clear hheap
              go_wp2
              go_roundw
              case rel =>
                refine ⟨j + 1, ini ++ [(l.1, T)], by omega, by go_num, ?_, unhide HF, hbr.setCell (p := ⟨gr, ini.length * 2 + 1, none⟩) hg0 _⟩
                have := (hown3.stored (ini.length * 2 + 1) (.int .i64 T)).1
                rw [set_to] at this
                rw [List.length_append]
                exact this
              case measure => simp [intOf]; omega
        · have hend : RunsIs zs out := by
            have := unhide HI
            rw [show j = ts.length by omega, Hts.out] at this
            exact this.done
          obtain ⟨a', c', e, hr', _⟩ := own_pairs hown3
          subst e
          go_wp2
          go_ret
          exact ⟨a', c', out, rfl, hr', hend, by omega, grown_below hgr1 hbr⟩

set_option maxHeartbeats 800000 in
theorem runsof_none (w : World) :
    Calls Try.prog 26 #[.slice none 0 0] w fun e w' => ∃ a' c', e = .returned (.slice a' 0 c') ∧ Below w.heap.size w w' := by
  obtain ⟨i0, hi, hz0, hz1, hz2⟩ := info_parts Try.info40
  go_enter Try.func26, Try.ntmps26
  go_wp2_with fail
  refine (Try.slices_Sort_int_none none 0 w).mono ?_
  rintro e w1 ⟨rfl, rfl⟩
  go_wp2
  refine wp_loop_rounds 1 ?_; rw [rounds_succ]
  go_wp2_with (at_make; refine wpList_make_own _ rfl _ _ 34 rfl w1.heap.size 40 i0 (.agg #[.int .i64 0, .int .i64 0]) 2 Try.underlying34 hi hz0 hz1 _ _ _ 0 rfl rfl rfl (by omega) (by unfold maxLen; omega) (Nat.le_refl _) ?_)
  intro w2 hown2 hgr2
  have hb2 := below_grown hgr2
  clear hgr2 hown2
  go_wp2
  refine wp_loop_rounds 1 ?_; rw [rounds_succ]
  go_wp2
  go_ret
  exact ⟨_, _, rfl, hb2⟩

set_option maxHeartbeats 800000 in
theorem zzrunsof_any (base : Nat) (v : Value) (n : Nat) (zs : List Int) (w : World) (hn : n ≤ 524288) (hl : zs.length = n) (hix : Idx zs) (hown : w.ownsRow base 3 1 v n (zs.map (Value.int .i64))) :
    Calls Try.prog 13 #[v] w fun e w' => ∃ (g1 g2 : Nat) (o : List (Int × Int)), e = .returned (.tuple #[.slice (some ⟨g1, 0, none⟩) o.length o.length, .slice (some ⟨g2, 0, none⟩) o.length o.length]) ∧ Two w' (some ⟨g1, 0, none⟩) (some ⟨g2, 0, none⟩) o ∧ RunsIs zs o ∧ o.length ≤ n ∧ w.heap.size ≤ g1 ∧ w.heap.size ≤ g2 ∧ w.grownBy w' v.ownBlock := by
  rcases hown.2 with ⟨rfl, rfl⟩ | ⟨g, cap, cur, rfl, _⟩
  · obtain rfl : zs = [] := List.eq_nil_of_length_eq_zero hl
    clear hown
    go_enter Try.func13, Try.ntmps13
    go_wp2_with fail
    refine (runsof_none w).mono ?_
    rintro e w1 ⟨a', c', rfl, hb1⟩
    go_wp2_with fail
    refine (split_fresh a' 0 c' [] w1 (by omega) rfl (RdP.nil _ _)).mono ?_
    rintro e w2 ⟨g1, g2, rfl, ht, hg1, hg2, hb2⟩
    go_wp2
    go_ret2
    have hb := hb1.trans (hb2.mono hb1.size)
    exact ⟨g1, g2, [], rfl, ht, ⟨val_nil, fun x => by simp [Mem]⟩, by simp, Nat.le_trans hb1.size hg1, Nat.le_trans hb1.size hg2, ⟨hb.os, hb.tape, hb.output, hb.size, fun k hk _ => hb.block k hk⟩⟩
  · go_enter Try.func13, Try.ntmps13
    go_wp2_with fail
    refine (runsof_some base g n cap zs w hn hl hix hown).mono ?_
    rintro e w1 ⟨a', c', o, rfl, hr1, hro, hlo, hgr1⟩
    go_wp2_with fail
    refine (split_fresh a' o.length c' o w1 (by omega) rfl hr1).mono ?_
    rintro e w2 ⟨g1, g2, rfl, ht, hg1, hg2, hb2⟩
    go_wp2
    go_ret2
    exact ⟨g1, g2, o, rfl, ht, hro, hlo, Nat.le_trans hgr1.size hg1, Nat.le_trans hgr1.size hg2, grown_below hgr1 hb2⟩
end Go.Proofs.Qxb6617949a
