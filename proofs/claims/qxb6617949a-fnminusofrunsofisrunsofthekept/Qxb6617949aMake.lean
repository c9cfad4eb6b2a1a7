/- THE WALKS OF 'zzMake', 'zzSplit', 'slices.Clone'. -/
import Derived.Test.Qxb6617949aIn
namespace Go.Proofs.Qxb6617949a
open Go.RowKit Plain
set_option linter.unusedSimpArgs false
set_option linter.unusedVariables false

theorem Try.info3 : (Try.prog.info? 3).map (fun i => (i.zero, i.size, i.bytes)) = some (some (.int .i64 0), 1, 8) := by kernel_rfl
theorem Try.size3 : (Try.prog.info? 3).map (·.size) = some 1 := by kernel_rfl
theorem Try.info40 : (Try.prog.info? 40).map (fun i => (i.zero, i.size, i.bytes)) = some (some (.agg #[.int .i64 0, .int .i64 0]), 2, 16) := by kernel_rfl

set_option maxHeartbeats 800000 in
theorem make_any (af al : Option Addr) (n cf cl : Nat) (ps : List (Int × Int)) (w : World) (hn : n ≤ 1048576) (hl : ps.length = n) (hr : Two w af al ps) :
    Calls Try.prog 25 #[.slice af n cf, .slice al n cl] w fun e w' => ∃ g : Nat, e = .returned (.slice (some ⟨g, 0, none⟩) n n) ∧ RdP w' (some ⟨g, 0, none⟩) ps ∧ Below w.heap.size w w' := by
  obtain ⟨i0, hi, hz0, hz1, hz2⟩ := info_parts Try.info40
  go_enter Try.func25, Try.ntmps25
  go_wp2_with (at_make; refine wpList_make_full _ rfl (.tmp 16) (.tmp 16) 34 rfl w.heap.size 40 i0 (.agg #[.int .i64 0, .int .i64 0]) 2 Try.underlying34 hi hz0 hz1 _ _ _ _ n rfl rfl rfl rfl (by rw [hz2]; omega) (by unfold maxLen; omega) (Nat.le_refl _) ?_)
  intro w1 hown hgrow
  have hb1 := below_grown hgrow
  have hrow1 := own_row hown
  clear hgrow hown
  obtain ⟨g, Hg⟩ : ∃ g, Hid (g = w.heap.size) := ⟨_, rfl⟩
  rw [← Hg.out] at hrow1 ⊢
  go_wp2
  go_loopw [7] (fun i wr => ∃ k : Nat, k ≤ n ∧ i = .int .i64 k ∧ (∃ f, wr.rowIs g 40 (n * 2) f ∧ ∀ j, j < k → f (j * 2) = .int .i64 (at' ps j).1 ∧ f (j * 2 + 1) = .int .i64 (at' ps j).2) ∧ Below w.heap.size w wr) (fun i _ => n - (intOf i).toNat)
  case atStart => exact ⟨0, by omega, rfl, ⟨_, hrow1, fun j hj => by omega⟩, hb1⟩
  case round =>
    obtain ⟨k, hk, rfl, ⟨f, hrow, hf⟩, hbr⟩ := hrel
    have HF := hide hf
    clear hf hrow1
    by_cases hlt : k < n
    · obtain ⟨bf, of, bl, ol, rfl, rfl, hc⟩ := (hr.below hbr).at (by omega)
      have h1 := (hc k (by omega)).1
      have h2 := (hc k (by omega)).2
      have h3 : wr.cell? ⟨g, k * 2, none⟩ = some (f (k * 2)) := hrow.cell (by omega)
      have h4 : wr.cell? ⟨g, k * 2 + 1, none⟩ = some (f (k * 2 + 1)) := hrow.cell (by omega)
      have h5 := hrow.frozen (k * 2)
      have h6 := hrow.frozen (k * 2 + 1)
      have hk0 : (0 : Int) ≤ (k : Int) := by omega
      have hk1 : (k : Int) < (n : Int) := by omega
      clear hc
      go_wp2
      go_region
      go_wp2
      go_roundw
      case rel =>
        refine ⟨k + 1, by omega, by go_num, ⟨_, (hrow.set (k * 2) _).set (k * 2 + 1) _, ?_⟩, ?_⟩
        · intro j hj
          by_cases hjk : j < k
          · have := unhide HF j hjk
            rw [if_neg (by omega), if_neg (by omega), if_neg (by omega), if_neg (by omega)]
            exact this
          · obtain rfl : j = k := by omega
            rw [if_neg (by omega), if_pos rfl, if_pos rfl]
            exact ⟨rfl, rfl⟩
        · exact ((hbr.setCell (p := ⟨g, k * 2, none⟩) (by simp [Hg.out]) _).setCell (p := ⟨g, k * 2 + 1, none⟩) (by simp [Hg.out]) _).drew
      case measure => simp [intOf]; omega
    · go_wp2
      go_ret
      exact ⟨g, rfl, rdP_row hrow (by omega) (fun j hj => unhide HF j (by omega)), hbr⟩

set_option maxHeartbeats 800000 in
theorem split_any (a : Option Addr) (n c : Nat) (ps : List (Int × Int)) (w : World) (hn : n ≤ 1048576) (hl : ps.length = n) (hr : RdP w a ps) :
    Calls Try.prog 23 #[.slice a n c] w fun e w' => ∃ g1 g2 : Nat, e = .returned (.tuple #[.slice (some ⟨g1, 0, none⟩) n n, .slice (some ⟨g2, 0, none⟩) n n]) ∧ Two w' (some ⟨g1, 0, none⟩) (some ⟨g2, 0, none⟩) ps ∧ Below w.heap.size w w' := by
  obtain ⟨i0, hi, hz0, hz1, hz2⟩ := info_parts Try.info3
  go_enter Try.func23, Try.ntmps23
  go_wp2_with (at_make; refine wpList_make_full _ rfl (.tmp 8) (.tmp 8) 22 rfl w.heap.size 3 i0 (.int .i64 0) 1 Try.underlying22 hi hz0 hz1 _ _ _ _ n rfl rfl rfl rfl (by rw [hz2]; omega) (by unfold maxLen; omega) (Nat.le_refl _) ?_)
  intro w1 hown hgrow
  have hb1 := below_grown hgrow
  have hrow1 := own_row hown
  have hlt1 := hrow1.lt
  clear hgrow hown
  obtain ⟨g1, Hg1⟩ : ∃ g1, Hid (g1 = w.heap.size) := ⟨_, rfl⟩
  rw [← Hg1.out] at hrow1 hlt1 ⊢
  go_wp2_with (at_make; refine wpList_make_full _ rfl (.tmp 11) (.tmp 11) 22 rfl w1.heap.size 3 i0 (.int .i64 0) 1 Try.underlying22 hi hz0 hz1 _ _ _ _ n rfl rfl rfl rfl (by rw [hz2]; omega) (by unfold maxLen; omega) (Nat.le_refl _) ?_)
  intro w2 hown hgrow
  have hb2 := below_grown hgrow
  have hrow2 := own_row hown
  have hrow1' : w2.rowIs g1 3 (n * 1) _ := hrow1.of_block (hb2.block g1 hlt1)
  obtain ⟨g2, Hg2⟩ : ∃ g2, Hid (g2 = w1.heap.size) := ⟨_, rfl⟩
  have hb := hb1.trans (hb2.mono hb1.size)
  have hge2 : w.heap.size ≤ g2 := by rw [Hg2.out]; exact hb1.size
  rw [← Hg2.out] at hrow2 hlt1 ⊢
  clear hgrow hown hrow1 hb1 hb2
  go_wp2
  go_loopw [6] (fun i wr => ∃ k : Nat, k ≤ n ∧ i = .int .i64 k ∧ (∃ f, wr.rowIs g1 3 (n * 1) f ∧ ∀ j, j < k → f j = .int .i64 (at' ps j).1) ∧ (∃ f, wr.rowIs g2 3 (n * 1) f ∧ ∀ j, j < k → f j = .int .i64 (at' ps j).2) ∧ Below w.heap.size w wr) (fun i _ => n - (intOf i).toNat)
  case atStart => exact ⟨0, by omega, rfl, ⟨_, hrow1', fun j hj => by omega⟩, ⟨_, hrow2, fun j hj => by omega⟩, hb⟩
  case round =>
    obtain ⟨k, hk, rfl, ⟨f1, r1, hf1⟩, ⟨f2, r2, hf2⟩, hbr⟩ := hrel
    have HF1 := hide hf1
    have HF2 := hide hf2
    clear hf1 hf2 hrow1' hrow2 hb
    by_cases hlt : k < n
    · obtain ⟨b, off, rfl, hc⟩ := (hr.below hbr).at (by omega)
      have h1 : wr.cell? ⟨b, off + k * 2, none⟩ = some (.int .i64 (at' ps k).1) := (hc k (by omega)).1
      have h2 : wr.cell? ⟨b, off + k * 2 + 1, none⟩ = some (.int .i64 (at' ps k).2) := by have := (hc k (by omega)).2; rwa [← Nat.add_assoc] at this
      have h3 : wr.cell? ⟨g1, k, none⟩ = some (f1 k) := r1.cell (by omega)
      have h4 : wr.cell? ⟨g2, k, none⟩ = some (f2 k) := r2.cell (by omega)
      have h5 := r1.frozen k
      have h6 := r2.frozen k
      have hbw : b ≠ g1 := by
        intro e
        obtain ⟨b', off', e', hx, _⟩ := hr 0 (by omega)
        simp at e'
        have := World.block_lt_of_cell? _ _ hx
        have := Hg1.out
        simp at *
        omega
      have hg12 : g1 ≠ g2 := by omega
      clear hc
      go_wp2
      go_roundw
      case rel =>
        refine ⟨k + 1, by omega, by go_num, ⟨_, (r1.set k (.int .i64 (at' ps k).1)).setOther (a := ⟨g2, k, none⟩) hg12 _, ?_⟩, ⟨_, (r2.setOther (a := ⟨g1, k, none⟩) hg12.symm _).set k _, ?_⟩, ?_⟩
        · intro j hj
          by_cases hjk : j < k
          · rw [if_neg (by omega)]; exact unhide HF1 j hjk
          · obtain rfl : j = k := by omega
            rw [if_pos rfl]
        · intro j hj
          by_cases hjk : j < k
          · rw [if_neg (by omega)]; exact unhide HF2 j hjk
          · obtain rfl : j = k := by omega
            rw [if_pos rfl]
        · exact (hbr.setCell (p := ⟨g1, k, none⟩) (by simp [Hg1.out]) _).setCell (p := ⟨g2, k, none⟩) hge2 _
      case measure => simp [intOf]; omega
    · go_wp2
      go_ret2
      refine ⟨g1, g2, rfl, ⟨rd_row r1 (by simp; omega) (fun j hj => ?_), rd_row r2 (by simp; omega) (fun j hj => ?_)⟩, hbr⟩
      · have hj' : j < ps.length := by simpa using hj
        rw [unhide HF1 j (by omega), at_fst _ _ hj']
      · have hj' : j < ps.length := by simpa using hj
        rw [unhide HF2 j (by omega), at_snd _ _ hj']

theorem src0 {w : World} {x : Addr} {ps : List (Int × Int)} (h : RdP w (some x) ps) : ∀ j u, (cellsP ps)[j]? = some u → w.cell? (x.add j) = some u := by
  intro j u hj
  have hlt := (List.getElem?_eq_some_iff.1 hj).1
  rw [cellsP_length] at hlt
  obtain ⟨b, off, e, _⟩ := h 0 (by omega)
  obtain rfl := Option.some.inj e
  have := h.src 0 j u (by simpa using hj)
  simpa using this

set_option maxHeartbeats 400000 in
theorem clone_some (x : Addr) (n c : Nat) (ps : List (Int × Int)) (w : World) (hn : n ≤ 4194304) (hl : ps.length = n) (hr : RdP w (some x) ps) :
    Calls Try.prog 28 #[.slice (some x) n c] w fun e w' => ∃ a' c', e = .returned (.slice a' n c') ∧ RdP w' a' ps ∧ Below w.heap.size w w' := by
  have hnil := fun wx => Lib.run_eql_slice_nil (P := Try.prog) wx 34 40 (some x) n c 0 0 Try.underlying34
  obtain ⟨i0, hi, hz0, hz1, hz2⟩ := info_parts Try.info40
  go_enter Try.func28, Try.ntmps28
  go_wp2_with (at_builtin; refine wpList_append_own _ rfl (.tmp 5) (.tmp 6) 34 rfl w.heap.size 40 i0 (.agg #[.int .i64 0, .int .i64 0]) 2 16 Try.underlying34 hi hz0 hz1 hz2 rfl (by decide) _ _ _ rfl (World.ownsRow_made w #[] 0 (Nat.le_refl _) (by unfold maxLen; omega) rfl) x n c (cellsP ps) rfl (by rw [cellsP_length, hl]) (src0 (hr.below ((Below.refl _ _).alloc (Nat.le_refl _) _))) (cellsP_one_cell _) (by unfold maxLen; omega) (by omega) (by simp) ?_)
  intro v' w1 hown hgrow _
  have hb1 : Below w.heap.size w w1 := ((Below.refl _ _).alloc (Nat.le_refl _) _).grown hgrow (by simp) (fun k hk => by simp [Value.ownBlock] at hk; omega)
  obtain ⟨a', c', e, hr', _⟩ := own_pairs (ps := ps) (by simpa [hl] using hown)
  rw [e]
  clear hown hgrow e
  go_wp2
  go_ret
  exact ⟨a', c', by rw [← hl]; rfl, hr', hb1⟩

set_option maxHeartbeats 400000 in
theorem clone_none (w : World) :
    Calls Try.prog 28 #[.slice none 0 0] w fun e w' => e = .returned (.slice none 0 0) ∧ w' = w := by
  have hnil := fun wx => Lib.run_eql_slice_nil (P := Try.prog) wx 34 40 none 0 0 0 0 Try.underlying34
  go_enter Try.func28, Try.ntmps28
  go_wp2
  go_ret
  exact ⟨rfl, rfl⟩

theorem clone_any (a : Option Addr) (n c : Nat) (ps : List (Int × Int)) (w : World) (hn : n ≤ 4194304) (hl : ps.length = n) (hr : RdP w a ps) (hnone : a = none → n = 0 ∧ c = 0) :
    Calls Try.prog 28 #[.slice a n c] w fun e w' => ∃ a' c', e = .returned (.slice a' n c') ∧ RdP w' a' ps ∧ Below w.heap.size w w' := by
  cases a with
  | none =>
    obtain ⟨rfl, rfl⟩ := hnone rfl
    obtain rfl : ps = [] := List.eq_nil_of_length_eq_zero hl
    exact (clone_none w).mono fun e w' h => ⟨none, 0, h.1, RdP.nil _ _, by rw [h.2]; exact Below.refl _ _⟩
  | some x => exact clone_some x n c ps w hn hl hr
end Go.Proofs.Qxb6617949a
