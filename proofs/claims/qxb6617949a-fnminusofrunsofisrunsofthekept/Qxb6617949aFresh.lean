/- 'zzSplit' AGAIN, AND THAT ITS TWO ROWS ARE NEW; 'zzClone'; 'slices.Sort' ON A ROW OF THE CALL's OWN. -/
import Derived.Test.Qxb6617949aMake
import Derived.Test.Qxb6617949aShelf
import Derived.Test.Qxb6617949aRunsPlain
import Derived.Sort.OwnSortedInts
namespace Go.Proofs.Qxb6617949a
open Go.RowKit Plain
set_option linter.unusedSimpArgs false
set_option linter.unusedVariables false

set_option maxHeartbeats 800000 in
theorem split_fresh (a : Option Addr) (n c : Nat) (ps : List (Int × Int)) (w : World) (hn : n ≤ 1048576) (hl : ps.length = n) (hr : RdP w a ps) :
    Calls Try.prog 23 #[.slice a n c] w fun e w' => ∃ g1 g2 : Nat, e = .returned (.tuple #[.slice (some ⟨g1, 0, none⟩) n n, .slice (some ⟨g2, 0, none⟩) n n]) ∧ Two w' (some ⟨g1, 0, none⟩) (some ⟨g2, 0, none⟩) ps ∧ w.heap.size ≤ g1 ∧ w.heap.size ≤ g2 ∧ Below w.heap.size w w' := by
  obtain ⟨i0, hi, hz0, hz1, hz2⟩ := info_parts Try.info3
  go_enter Try.func23, Try.ntmps23
  go_wp2_with (at_make; refine wpList_make_full _ rfl (.tmp 8) (.tmp 8) 22 rfl w.heap.size 3 i0 (.int .i64 0) 1 Try.underlying22 hi hz0 hz1 _ _ _ _ n rfl rfl rfl rfl (by rw [hz2]; omega) (by unfold maxLen; omega) (Nat.le_refl _) ?_)
  intro w1 hown hgrow
  have hb1 := below_grown hgrow
  have hrow1 := own_row hown
  have hlt1 := hrow1.lt
  clear hgrow hown
  obtain ⟨g1, Hg1⟩ : ∃ g1, Hid (g1 = w.heap.size) := ⟨_, rfl⟩
  rw [← Hg1.out] at hrow1 hlt1 ⊢
  go_wp2_with (at_make; refine wpList_make_full _ rfl (.tmp 11) (.tmp 11) 22 rfl w1.heap.size 3 i0 (.int .i64 0) 1 Try.underlying22 hi hz0 hz1 _ _ _ _ n rfl rfl rfl rfl (by rw [hz2]; omega) (by unfold maxLen; omega) (Nat.le_refl _) ?_)
  intro w2 hown hgrow
  have hb2 := below_grown hgrow
  have hrow2 := own_row hown
  have hrow1' : w2.rowIs g1 3 (n * 1) _ := hrow1.of_block (hb2.block g1 hlt1)
  obtain ⟨g2, Hg2⟩ : ∃ g2, Hid (g2 = w1.heap.size) := ⟨_, rfl⟩
  have hb := hb1.trans (hb2.mono hb1.size)
  have hge2 : w.heap.size ≤ g2 := by rw [Hg2.out]; exact hb1.size
  rw [← Hg2.out] at hrow2 hlt1 ⊢
  clear hgrow hown hrow1 hb1 hb2
  go_wp2
  go_loopw [6] (fun i wr => ∃ k : Nat, k ≤ n ∧ i = .int .i64 k ∧ (∃ f, wr.rowIs g1 3 (n * 1) f ∧ ∀ j, j < k → f j = .int .i64 (at' ps j).1) ∧ (∃ f, wr.rowIs g2 3 (n * 1) f ∧ ∀ j, j < k → f j = .int .i64 (at' ps j).2) ∧ Below w.heap.size w wr) (fun i _ => n - (intOf i).toNat)
  case atStart => exact ⟨0, by omega, rfl, ⟨_, hrow1', fun j hj => by omega⟩, ⟨_, hrow2, fun j hj => by omega⟩, hb⟩
  case round =>
    obtain ⟨k, hk, rfl, ⟨f1, r1, hf1⟩, ⟨f2, r2, hf2⟩, hbr⟩ := hrel
    have HF1 := hide hf1
    have HF2 := hide hf2
    clear hf1 hf2 hrow1' hrow2 hb
    by_cases hlt : k < n
    · obtain ⟨b, off, rfl, hc⟩ := (hr.below hbr).at (by omega)
      have h1 : wr.cell? ⟨b, off + k * 2, none⟩ = some (.int .i64 (at' ps k).1) := (hc k (by omega)).1
      have h2 : wr.cell? ⟨b, off + k * 2 + 1, none⟩ = some (.int .i64 (at' ps k).2) := by have := (hc k (by omega)).2; rwa [← Nat.add_assoc] at this
      have h3 : wr.cell? ⟨g1, k, none⟩ = some (f1 k) := r1.cell (by omega)
      have h4 : wr.cell? ⟨g2, k, none⟩ = some (f2 k) := r2.cell (by omega)
      have h5 := r1.frozen k
      have h6 := r2.frozen k
      have hbw : b ≠ g1 := by
        intro e
        obtain ⟨b', off', e', hx, _⟩ := hr 0 (by omega)
        simp at e'
        have := World.block_lt_of_cell? _ _ hx
        have := Hg1.out
        simp at *
        omega
      have hg12 : g1 ≠ g2 := by omega
      clear hc
      go_wp2
      go_roundw
      case rel =>
        refine ⟨k + 1, by omega, by go_num, ⟨_, (r1.set k (.int .i64 (at' ps k).1)).setOther (a := ⟨g2, k, none⟩) hg12 _, ?_⟩, ⟨_, (r2.setOther (a := ⟨g1, k, none⟩) hg12.symm _).set k _, ?_⟩, ?_⟩
        · intro j hj
          by_cases hjk : j < k
          · rw [if_neg (by omega)]; exact unhide HF1 j hjk
          · obtain rfl : j = k := by omega
            rw [if_pos rfl]
        · intro j hj
          by_cases hjk : j < k
          · rw [if_neg (by omega)]; exact unhide HF2 j hjk
          · obtain rfl : j = k := by omega
            rw [if_pos rfl]
        · exact (hbr.setCell (p := ⟨g1, k, none⟩) (by simp [Hg1.out]) _).setCell (p := ⟨g2, k, none⟩) hge2 _
      case measure => simp [intOf]; omega
    · go_wp2
      go_ret2
      refine ⟨g1, g2, rfl, ⟨rd_row r1 (by simp; omega) (fun j hj => ?_), rd_row r2 (by simp; omega) (fun j hj => ?_)⟩, by rw [Hg1.out]; exact Nat.le_refl _, hge2, hbr⟩
      · have hj' : j < ps.length := by simpa using hj
        rw [unhide HF1 j (by omega), at_fst _ _ hj']
      · have hj' : j < ps.length := by simpa using hj
        rw [unhide HF2 j (by omega), at_snd _ _ hj']


theorem sort_some (base g cap : Nat) (zs : List Int) (w : World) (hl : zs.length ≤ 1048576) (hown : w.ownsRow base 3 1 (.slice (some ⟨g, 0, none⟩) zs.length cap) zs.length (zs.map (Value.int .i64))) :
    Calls Try.prog 29 #[.slice (some ⟨g, 0, none⟩) zs.length cap] w fun e w' => e = .returned (.tuple #[]) ∧ w'.ownsRow base 3 1 (.slice (some ⟨g, 0, none⟩) zs.length cap) zs.length ((srt zs).map (Value.int .i64)) ∧ w.grownBy w' (some g) := by
  rcases hown.2 with ⟨h', _⟩ | ⟨g', cap', cur, h', hb, hg, hnc, hcm, hcs, htake⟩
  · simp at h'
  · simp only [Value.slice.injEq, Option.some.injEq, Addr.mk.injEq, and_true, true_and] at h'
    obtain ⟨rfl, rfl⟩ := h'
    have hH : Sort.Holds (Value.int .i64) w g 0 zs.toArray := by
      intro j hj
      have hj' : j < zs.length := by simpa using hj
      refine ⟨?_, ?_⟩
      · rw [Nat.zero_add, hown.cellAt j (by omega)]
        simp [hj']
      · rw [Nat.zero_add]; exact hown.frozenAt j
    refine (Try.slices_Sort_int g 0 cap zs w hH (lt_of_block hg) (by omega)).mono ?_
    rintro e w' ⟨rfl, n, os, rfl⟩
    exact ⟨rfl, ownsRow_sortedI (srt_length zs) hb hg hnc hcm hcs, grownBy_sortedI _⟩

set_option maxHeartbeats 400000 in
theorem zzclone_some (x : Addr) (n c : Nat) (zs : List Int) (w : World) (hn : n ≤ 1048576) (hl : zs.length = n) (hr : Rd w (some x) zs) :
    Calls Try.prog 14 #[.slice (some x) n c] w fun e w' => ∃ v, e = .returned v ∧ w'.ownsRow w.heap.size 3 1 v n (zs.map (Value.int .i64)) ∧ Below w.heap.size w w' := by
  have hnil := fun wx => Lib.run_eql_slice_nil (P := Try.prog) wx 22 3 (some x) n c 0 0 Try.underlying22
  obtain ⟨i0, hi, hz0, hz1, hz2⟩ := info_parts Try.info3
  go_enter Try.func14, Try.ntmps14
  go_wp2_with (at_make; refine wpList_make_full _ rfl (.tmp 8) (.tmp 8) 22 rfl w.heap.size 3 i0 (.int .i64 0) 1 Try.underlying22 hi hz0 hz1 _ _ _ _ n rfl rfl rfl rfl (by rw [hz2]; omega) (by unfold maxLen; omega) (Nat.le_refl _) ?_)
  intro w1 hown hgrow
  have hb1 := below_grown hgrow
  have hrow1 := own_row hown
  clear hgrow hown hnil
  obtain ⟨g, Hg⟩ : ∃ g, Hid (g = w.heap.size) := ⟨_, rfl⟩
  rw [← Hg.out] at hrow1 ⊢
  go_wp2
  go_loopw [4] (fun i wr => ∃ k : Nat, k ≤ n ∧ i = .int .i64 k ∧ (∃ f, wr.rowIs g 3 (n * 1) f ∧ ∀ j, j < k → f j = .int .i64 (zs.getD j 0)) ∧ Below w.heap.size w wr) (fun i _ => n - (intOf i).toNat)
  case atStart => exact ⟨0, by omega, rfl, ⟨_, hrow1, fun j hj => by omega⟩, hb1⟩
  case round =>
    obtain ⟨k, hk, rfl, ⟨f, r1, hf⟩, hbr⟩ := hrel
    have HF := hide hf
    clear hf hrow1 hb1
    by_cases hlt : k < n
    · obtain ⟨b, off, e, hc⟩ := (hr.below hbr).at (by omega)
      obtain rfl := Option.some.inj e
      have h1 := hc k (by omega)
      have h3 : wr.cell? ⟨g, k, none⟩ = some (f k) := r1.cell (by omega)
      have h5 := r1.frozen k
      clear hc
      generalize hZ : zs.getD k 0 = Z at *
      have HZ := hide hZ
      clear hZ
      go_wp2
      go_roundw
      case rel =>
        refine ⟨k + 1, by omega, by go_num, ⟨_, r1.set k (.int .i64 Z), ?_⟩, hbr.setCell (p := ⟨g, k, none⟩) (by simp [Hg.out]) _⟩
        intro j hj
        by_cases hjk : j < k
        · rw [if_neg (by omega)]; exact unhide HF j hjk
        · obtain rfl : j = k := by omega
          rw [if_pos rfl, unhide HZ]
      case measure => simp [intOf]; omega
    · go_wp2
      go_ret
      refine ⟨_, rfl, ?_, hbr⟩
      obtain ⟨cur, hcur, hsz, hget⟩ := r1
      refine ⟨by simp [hl], .inr ⟨g, n, cur, rfl, by rw [Hg.out]; exact Nat.le_refl _, hcur, Nat.le_refl _, by unfold maxLen; omega, hsz, ?_⟩⟩
      apply List.ext_getElem?
      intro i
      rw [List.getElem?_take]
      by_cases hi : i < n * 1
      · rw [if_pos hi]
        have := hget i hi
        rw [unhide HF i (by omega)] at this
        simp only [Array.getElem?_toList]
        rw [this]
        simp [List.getD, show i < zs.length by omega]
      · rw [if_neg hi, List.getElem?_eq_none (by simp; omega)]

theorem zzclone_any (a : Option Addr) (n c : Nat) (zs : List Int) (w : World) (hn : n ≤ 1048576) (hl : zs.length = n) (hr : Rd w a zs) (hnone : a = none → n = 0 ∧ c = 0) :
    Calls Try.prog 14 #[.slice a n c] w fun e w' => ∃ v, e = .returned v ∧ w'.ownsRow w.heap.size 3 1 v n (zs.map (Value.int .i64)) ∧ Below w.heap.size w w' := by
  cases a with
  | some x => exact zzclone_some x n c zs w hn hl hr
  | none =>
    obtain ⟨rfl, rfl⟩ := hnone rfl
    obtain rfl : zs = [] := List.eq_nil_of_length_eq_zero hl
    have hnil := fun wx => Lib.run_eql_slice_nil (P := Try.prog) wx 22 3 none 0 0 0 0 Try.underlying22
    go_enter Try.func14, Try.ntmps14
    go_wp2
    go_ret
    exact ⟨_, rfl, World.ownsRow_nil _ _ _ _, Below.refl _ _⟩
end Go.Proofs.Qxb6617949a
