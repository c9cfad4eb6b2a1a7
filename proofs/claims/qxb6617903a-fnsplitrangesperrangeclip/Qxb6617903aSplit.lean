/- THE WALK OF 'splitRanges'. -/
import Derived.Test.Qxb6617903aRows
import Derived.Test.Qxb6617903aPairs
import Derived.Test.Qxb6617903aSplitPlain
import Derived.Deep.QuietTactic
import Derived.BigQuiet
import Derived.Deep.RegionWith
import Derived.Deep.DeepCutAuto
import Derived.WalkSpells
namespace Go.Proofs.Qxb6617903a
open Go.RowKit SplitPlain
set_option linter.unusedSimpArgs false
set_option linter.unusedVariables false

theorem Try.info35 : (Try.prog.info? 35).map (fun i => (i.zero, i.size, i.bytes)) = some (some (.agg #[.int .i64 0, .int .i64 0]), 2, 16) := by kernel_rfl

set_option maxHeartbeats 1600000 in
theorem split_any (g n : Nat) (ps : List (Int × Int)) (m : Int) (w : World) (hn : n ≤ 65536) (hl : ps.length = n) (hv : Valid ps) (hm1 : -9223372036854775808 ≤ m) (hm2 : m ≤ 9223372036854775807)
    (hr : RdP w (some ⟨g, 0, none⟩) ps) :
    Calls Try.prog 14 #[.slice (some ⟨g, 0, none⟩) n n, .int .i64 m] w fun e w' => ∃ v4 v5 low high, e = .returned (.tuple #[v4, v5]) ∧ Split ps m low high ∧ w'.ownsRow w.heap.size 35 2 v4 low.length (cellsP low) ∧ w'.ownsRow w.heap.size 35 2 v5 high.length (cellsP high) ∧ Below w.heap.size w w' := by
  obtain ⟨i0, hi, hz0, hz1, hz2⟩ := info_parts Try.info35
  go_enter Try.func14, Try.ntmps14
  go_wp2
  go_loopw [1, 4, 5, 11] (fun nn v4 v5 i wr => ∃ k : Nat, k ≤ n ∧ i = .int .i64 k ∧ nn = .int .i64 (m - S ps k) ∧ v5 = .slice none 0 0 ∧ wr.ownsRow w.heap.size 35 2 v4 (ps.take k).length (cellsP (ps.take k)) ∧ Eats ps m k ∧ Below w.heap.size w wr)
    (fun _ _ _ i _ => n - (intOf i).toNat)
  case atStart => exact ⟨0, by omega, rfl, by simp [S], rfl, by simpa [cellsP] using World.ownsRow_nil _ _ _ _, fun j hj => by omega, Below.refl _ _⟩
  case round =>
    obtain ⟨k, hk, rfl, rfl, rfl, hown, heat, hbr⟩ := hrel
    by_cases hlt : k < n
    · obtain ⟨b, off, e, hc⟩ := (hr.below hbr).at (by omega)
      simp at e
      obtain ⟨rfl, rfl⟩ := e
      have hc1 : wr.cell? ⟨g, k * 2, none⟩ = some (.int .i64 (at' ps k).1) := by have := (hc k (by omega)).1; rwa [Nat.zero_add] at this
      have hc2 : wr.cell? ⟨g, k * 2 + 1, none⟩ = some (.int .i64 (at' ps k).2) := by have := (hc k (by omega)).2; rwa [Nat.zero_add] at this
      have hvk := hv k (by omega)
      clear hc
      have hbs := hbr.size
      have hlen : (ps.take k).length = k := by simp; omega
      have hS := S_nonneg hv k (by omega)
      have hSm := heat.le
      have HE : Hid (Eats ps m k) := heat
      clear heat
      by_cases hA : sz ps k ≤ m - S ps k
      · have hA2 : (at' ps k).2 - (at' ps k).1 + 1 ≤ m - S ps k := hA
        go_wp2_with (at_builtin; refine wpList_append_own _ rfl (.tmp 25) (.tmp 27) 33 rfl w.heap.size 35 i0 (.agg #[.int .i64 0, .int .i64 0]) 2 16 Try.underlying33 hi hz0 hz1 hz2 rfl (by decide) _ _ _ rfl ((hown.alloc _).alloc _) ⟨wr.heap.size + 1, 0, none⟩ 1 1 [.int .i64 (at' ps k).1, .int .i64 (at' ps k).2] rfl rfl (two_new _ _ _ _ _ (by simp)) (two_cell _ _) (by rw [hlen]; unfold maxLen; omega) (by rw [hlen]; omega) (by simp; omega) ?_)
        intro v' w1 hown' hgrow _
        go_wp2
        go_roundw
        case rel =>
          have hbw : Below w.heap.size w w1 := ((hbr.alloc hbs _).alloc (by simp; omega) _).grown hgrow (by simp; omega) (fun x hx => (hown.lt x hx).1)
          refine ⟨k + 1, by omega, by go_num, congrArg (Value.int .i64) (by simp only [S, sz]; omega), rfl, ?_, HE.out.succ hA, hbw⟩
          rw [take_snocP ps k (by omega), cellsP_append, List.length_append, hlen]
          exact hown'
        case measure => simp [intOf]; omega
      · have hA2 : ¬ (at' ps k).2 - (at' ps k).1 + 1 ≤ m - S ps k := hA
        have hwk : IntKind.i64.wrap ((k : Int) + 1) = (k : Int) + 1 := IntWalk.i64_in _ (by omega)
        have hi1 : (0 : Int) ≤ (k : Int) + 1 := by omega
        have hi2 : (k : Int) + 1 ≤ (n : Int) := by omega
        by_cases hB : 0 < m - S ps k
        · have hd : S ps k < m := by omega
          go_wp2_with (at_builtin; refine wpList_append_lies _ rfl (.tmp 34) (.tmp 43) 33 rfl w.heap.size 35 i0 (.agg #[.int .i64 0, .int .i64 0]) 2 16 Try.underlying33 hi hz0 hz1 hz2 rfl (by decide) _ _ _ rfl ((hown.alloc _).alloc _) ⟨wr.heap.size + 1, 0, none⟩ 1 1 [.int .i64 (at' ps k).1, .int .i64 ((at' ps k).1 + (m - S ps k) - 1)] rfl rfl (two_new _ _ _ _ _ (by simp)) (two_cell _ _) (by omega) (by rw [hlen]; unfold maxLen; omega) (by rw [hlen]; omega) (by simp; omega) ?_)
          intro v' w1 hown1 hgrow1 hlies
          have hb1 : Below w.heap.size w w1 := ((hbr.alloc hbs _).alloc (by simp; omega) _).grown hgrow1 (by simp; omega) (fun x hx => (hown.lt x hx).1)
          have hs1 : wr.heap.size + 2 ≤ w1.heap.size := by have := hgrow1.size; simp at this; omega
          have hblk : w1.heap[wr.heap.size]? = some (.cells #[.int .i64 (at' ps k).1, .int .i64 (at' ps k).2] 35 (0, 0)) := by
            rw [hgrow1.block wr.heap.size (by simp; omega) (fun e => by have := (hown.lt _ e.symm).2; omega), Below.heap_alloc _ _ _ (by simp), heap_alloc_new]
          have hp0 : w1.cell? ⟨wr.heap.size, 0, none⟩ = some (.int .i64 (at' ps k).1) := by simp [World.cell?, hblk]
          have hp1 : w1.cell? ⟨wr.heap.size, 1, none⟩ = some (.int .i64 (at' ps k).2) := by simp [World.cell?, hblk]
          have hf0 : w1.frozen? ⟨wr.heap.size, 0, none⟩ = false := by simp [World.frozen?, hblk]
          have hlow1 : (w1.setCell ⟨wr.heap.size, 0, none⟩ (.int .i64 ((at' ps k).1 + (m - S ps k)))).ownsRow w.heap.size 35 2 v' (k + 1) (cellsP (ps.take k) ++ [.int .i64 (at' ps k).1, .int .i64 ((at' ps k).1 + (m - S ps k) - 1)]) := by
            refine ownsRow_setCell_other hown1 (fun e => ?_) _
            rcases hlies with h | h
            · rw [h] at e; have := (hown.lt _ e).2; simp at this
            · have := h _ e; simp at this; omega
          have HLT : Hid (∀ x, v'.ownBlock = some x → x < w1.heap.size) := fun x hx => (hown1.lt x hx).2
          clear hblk hlies hgrow1 hown1 hown hc1 hc2
          by_cases hlast : n = k + 1
          · subst hlast
            go_wp2
            go_region_law (first
              | (refine step_append_own rfl (.tmp 50) (.tmp 52) 33 rfl w1.heap.size 35 i0 (.agg #[.int .i64 0, .int .i64 0]) 2 16 Try.underlying33 hi hz0 hz1 hz2 rfl (by decide) (.slice none 0 0) 0 [] rfl (World.ownsRow_nil _ _ _ _) ⟨w1.heap.size, 0, none⟩ 1 1 [.int .i64 ((at' ps k).1 + (m - S ps k)), .int .i64 (at' ps k).2] rfl rfl (two_new _ _ _ _ _ (by simp)) (two_cell _ _) (by unfold maxLen; omega) (by omega) (by simp) ?_; intro vh wh hownh hgrowh; have hbh : Below w.heap.size w wh := Below.grown (((hb1.setCell (p := ⟨wr.heap.size, 0, none⟩) hbs _).alloc (by simp [World.setCell]; omega) _).drew) hgrowh (by simp; omega) (fun x hx => by simp [Value.ownBlock] at hx); have hlowh := kept_none ((hlow1.alloc _).drew) hgrowh; have hszh : w1.heap.size ≤ wh.heap.size := Nat.le_trans (by simp) hgrowh.size; clear hgrowh)
              | (refine step_append_own rfl (.tmp 53) (.tmp 57) 33 rfl w1.heap.size 35 i0 (.agg #[.int .i64 0, .int .i64 0]) 2 16 Try.underlying33 hi hz0 hz1 hz2 rfl (by decide) vh _ _ rfl hownh ⟨g, 0, none⟩ 0 0 [] rfl rfl (fun j u hj => by simp at hj) (fun u hu => by simp at hu) (by unfold maxLen; omega) (by omega) hszh ?_; intro vh2 wh2 hownh2 hgrowh2))
            go_wp2
            go_ret2
            have hbf : Below w.heap.size w wh2 := hbh.grown hgrowh2 (by omega) (fun x hx => by have := (hownh.lt x hx).1; omega)
            have hlow2 := kept_other hlowh hgrowh2 (fun x hx hx2 => by have h1 := (hownh.lt x hx).1; have h2 := HLT.out x hx2; omega)
            have hfin : wh2.ownsRow w.heap.size 35 2 vh2 (((at' ps k).1 + (m - S ps k), (at' ps k).2) :: ps.drop (k + 1)).length (cellsP (((at' ps k).1 + (m - S ps k), (at' ps k).2) :: ps.drop (k + 1))) := by
              refine ownsRow_mono ?_ (by omega : w.heap.size ≤ w1.heap.size)
              have e : ps.drop (k + 1) = [] := List.drop_eq_nil_of_le (by omega)
              rw [e]
              exact hownh2
            refine ⟨v', vh2, _, _, rfl, .inr ⟨k, by omega, HE.out, by unfold sz; omega, .inl ⟨hB, rfl, rfl⟩⟩, ?_, hfin, hbf⟩
            rw [cellsP_append, List.length_append, hlen]
            exact hlow2
          · have hk1 : k + 1 < n := by omega
            have HSRC : Hid (∀ wx, Below w.heap.size w wx → ∀ j u, (cellsP (ps.drop (k + 1)))[j]? = some u → wx.cell? ((⟨g, (k + 1) * 2, none⟩ : Addr).add j) = some u) := fun wx hx => by
              have := (hr.below hx).src (k + 1)
              rwa [Nat.zero_add] at this
            go_wp2
            go_region_law (first
              | (refine step_append_own rfl (.tmp 50) (.tmp 52) 33 rfl w1.heap.size 35 i0 (.agg #[.int .i64 0, .int .i64 0]) 2 16 Try.underlying33 hi hz0 hz1 hz2 rfl (by decide) (.slice none 0 0) 0 [] rfl (World.ownsRow_nil _ _ _ _) ⟨w1.heap.size, 0, none⟩ 1 1 [.int .i64 ((at' ps k).1 + (m - S ps k)), .int .i64 (at' ps k).2] rfl rfl (two_new _ _ _ _ _ (by simp)) (two_cell _ _) (by unfold maxLen; omega) (by omega) (by simp) ?_; intro vh wh hownh hgrowh; have hbh : Below w.heap.size w wh := Below.grown (((hb1.setCell (p := ⟨wr.heap.size, 0, none⟩) hbs _).alloc (by simp [World.setCell]; omega) _).drew) hgrowh (by simp; omega) (fun x hx => by simp [Value.ownBlock] at hx); have hlowh := kept_none ((hlow1.alloc _).drew) hgrowh; have hszh : w1.heap.size ≤ wh.heap.size := Nat.le_trans (by simp) hgrowh.size; clear hgrowh)
              | (refine step_append_own rfl (.tmp 53) (.tmp 57) 33 rfl w1.heap.size 35 i0 (.agg #[.int .i64 0, .int .i64 0]) 2 16 Try.underlying33 hi hz0 hz1 hz2 rfl (by decide) vh _ _ rfl hownh ⟨g, (k + 1) * 2, none⟩ (n - (k + 1)) (n - (k + 1)) (cellsP (ps.drop (k + 1))) rfl (by rw [cellsP_length]; simp [hl]) (HSRC.out wh hbh) (cellsP_one_cell _) (by unfold maxLen; omega) (by omega) hszh ?_; intro vh2 wh2 hownh2 hgrowh2))
            go_wp2
            go_ret2
            have hbf : Below w.heap.size w wh2 := hbh.grown hgrowh2 (by omega) (fun x hx => by have := (hownh.lt x hx).1; omega)
            have hlow2 := kept_other hlowh hgrowh2 (fun x hx hx2 => by have h1 := (hownh.lt x hx).1; have h2 := HLT.out x hx2; omega)
            have hfin : wh2.ownsRow w.heap.size 35 2 vh2 (((at' ps k).1 + (m - S ps k), (at' ps k).2) :: ps.drop (k + 1)).length (cellsP (((at' ps k).1 + (m - S ps k), (at' ps k).2) :: ps.drop (k + 1))) := by
              refine ownsRow_mono ?_ (by omega : w.heap.size ≤ w1.heap.size)
              have e : (1 + (n - (k + 1))) = (ps.drop (k + 1)).length + 1 := by simp; omega
              simp only [List.length_cons, cellsP]
              rw [← e]
              exact hownh2
            refine ⟨v', vh2, _, _, rfl, .inr ⟨k, by omega, HE.out, by unfold sz; omega, .inl ⟨hB, rfl, rfl⟩⟩, ?_, hfin, hbf⟩
            rw [cellsP_append, List.length_append, hlen]
            exact hlow2
        · have HLT : Hid (∀ x, u4.ownBlock = some x → x < wr.heap.size) := fun x hx => (hown.lt x hx).2
          by_cases hlast : n = k + 1
          · subst hlast
            go_wp2
            go_region_law (first
              | (refine step_append_own rfl (.tmp 50) (.tmp 52) 33 rfl wr.heap.size 35 i0 (.agg #[.int .i64 0, .int .i64 0]) 2 16 Try.underlying33 hi hz0 hz1 hz2 rfl (by decide) (.slice none 0 0) 0 [] rfl (World.ownsRow_nil _ _ _ _) ⟨wr.heap.size + 1, 0, none⟩ 1 1 [.int .i64 (at' ps k).1, .int .i64 (at' ps k).2] rfl rfl (two_new _ _ _ _ _ (by simp)) (two_cell _ _) (by unfold maxLen; omega) (by omega) (by simp; omega) ?_; intro vh wh hownh hgrowh; have hbh : Below w.heap.size w wh := Below.grown (((hbr.alloc hbs _).alloc (by simp; omega) _).drew) hgrowh (by simp; omega) (fun x hx => by simp [Value.ownBlock] at hx); have hlowh := kept_none (((hown.alloc _).alloc _).drew) hgrowh; have hszh : wr.heap.size ≤ wh.heap.size := Nat.le_trans (by simp; omega) hgrowh.size; clear hgrowh)
              | (refine step_append_own rfl (.tmp 53) (.tmp 57) 33 rfl wr.heap.size 35 i0 (.agg #[.int .i64 0, .int .i64 0]) 2 16 Try.underlying33 hi hz0 hz1 hz2 rfl (by decide) vh _ _ rfl hownh ⟨g, 0, none⟩ 0 0 [] rfl rfl (fun j u hj => by simp at hj) (fun u hu => by simp at hu) (by unfold maxLen; omega) (by omega) hszh ?_; intro vh2 wh2 hownh2 hgrowh2))
            go_wp2
            go_ret2
            have hbf : Below w.heap.size w wh2 := hbh.grown hgrowh2 (by omega) (fun x hx => by have := (hownh.lt x hx).1; omega)
            have hlow2 := kept_other hlowh hgrowh2 (fun x hx hx2 => by have h1 := (hownh.lt x hx).1; have h2 := HLT.out x hx2; omega)
            have hfin : wh2.ownsRow w.heap.size 35 2 vh2 (((at' ps k).1, (at' ps k).2) :: ps.drop (k + 1)).length (cellsP (((at' ps k).1, (at' ps k).2) :: ps.drop (k + 1))) := by
              refine ownsRow_mono ?_ (by omega : w.heap.size ≤ wr.heap.size)
              have e : ps.drop (k + 1) = [] := List.drop_eq_nil_of_le (by omega)
              rw [e]
              exact hownh2
            exact ⟨_, vh2, _, _, rfl, .inr ⟨k, by omega, HE.out, by unfold sz; omega, .inr ⟨by omega, rfl, rfl⟩⟩, hlow2, hfin, hbf⟩
          · have hk1 : k + 1 < n := by omega
            have HSRC : Hid (∀ wx, Below w.heap.size w wx → ∀ j u, (cellsP (ps.drop (k + 1)))[j]? = some u → wx.cell? ((⟨g, (k + 1) * 2, none⟩ : Addr).add j) = some u) := fun wx hx => by
              have := (hr.below hx).src (k + 1)
              rwa [Nat.zero_add] at this
            go_wp2
            go_region_law (first
              | (refine step_append_own rfl (.tmp 50) (.tmp 52) 33 rfl wr.heap.size 35 i0 (.agg #[.int .i64 0, .int .i64 0]) 2 16 Try.underlying33 hi hz0 hz1 hz2 rfl (by decide) (.slice none 0 0) 0 [] rfl (World.ownsRow_nil _ _ _ _) ⟨wr.heap.size + 1, 0, none⟩ 1 1 [.int .i64 (at' ps k).1, .int .i64 (at' ps k).2] rfl rfl (two_new _ _ _ _ _ (by simp)) (two_cell _ _) (by unfold maxLen; omega) (by omega) (by simp; omega) ?_; intro vh wh hownh hgrowh; have hbh : Below w.heap.size w wh := Below.grown (((hbr.alloc hbs _).alloc (by simp; omega) _).drew) hgrowh (by simp; omega) (fun x hx => by simp [Value.ownBlock] at hx); have hlowh := kept_none (((hown.alloc _).alloc _).drew) hgrowh; have hszh : wr.heap.size ≤ wh.heap.size := Nat.le_trans (by simp; omega) hgrowh.size; clear hgrowh)
              | (refine step_append_own rfl (.tmp 53) (.tmp 57) 33 rfl wr.heap.size 35 i0 (.agg #[.int .i64 0, .int .i64 0]) 2 16 Try.underlying33 hi hz0 hz1 hz2 rfl (by decide) vh _ _ rfl hownh ⟨g, (k + 1) * 2, none⟩ (n - (k + 1)) (n - (k + 1)) (cellsP (ps.drop (k + 1))) rfl (by rw [cellsP_length]; simp [hl]) (HSRC.out wh hbh) (cellsP_one_cell _) (by unfold maxLen; omega) (by omega) hszh ?_; intro vh2 wh2 hownh2 hgrowh2))
            go_wp2
            go_ret2
            have hbf : Below w.heap.size w wh2 := hbh.grown hgrowh2 (by omega) (fun x hx => by have := (hownh.lt x hx).1; omega)
            have hlow2 := kept_other hlowh hgrowh2 (fun x hx hx2 => by have h1 := (hownh.lt x hx).1; have h2 := HLT.out x hx2; omega)
            have hfin : wh2.ownsRow w.heap.size 35 2 vh2 (((at' ps k).1, (at' ps k).2) :: ps.drop (k + 1)).length (cellsP (((at' ps k).1, (at' ps k).2) :: ps.drop (k + 1))) := by
              refine ownsRow_mono ?_ (by omega : w.heap.size ≤ wr.heap.size)
              have e : (1 + (n - (k + 1))) = (ps.drop (k + 1)).length + 1 := by simp; omega
              simp only [List.length_cons, cellsP]
              rw [← e]
              exact hownh2
            exact ⟨_, vh2, _, _, rfl, .inr ⟨k, by omega, HE.out, by unfold sz; omega, .inr ⟨by omega, rfl, rfl⟩⟩, hlow2, hfin, hbf⟩
    · go_wp2
      go_ret2
      refine ⟨_, _, ps, [], rfl, .inl ⟨rfl, rfl, ?_⟩, ?_, World.ownsRow_nil _ _ _ _, hbr⟩
      · rwa [show ps.length = k by omega]
      · rwa [List.take_of_length_le (by omega)] at hown
end Go.Proofs.Qxb6617903a
