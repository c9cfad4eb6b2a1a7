/- THE WALK OF 'ZZSplitRanges'. -/
import Derived.Test.Qxb6617903aSplit
namespace Go.Proofs.Qxb6617903a
open Go.RowKit SplitPlain
set_option linter.unusedSimpArgs false
set_option linter.unusedVariables false

theorem Try.info2 : (Try.prog.info? 2).map (fun i => (i.zero, i.size, i.bytes)) = some (some (.int .i64 0), 1, 8) := by kernel_rfl

theorem zip_getD (zf zl : List Int) (j : Nat) (h1 : j < zf.length) (h2 : j < zl.length) : (zf.zip zl).getD j (0, 0) = (zf.getD j 0, zl.getD j 0) := by
  have hj : j < (zf.zip zl).length := by simp; omega
  rw [List.getD, List.getElem?_eq_getElem hj, List.getElem_zip]
  simp [List.getD, h1, h2]

set_option maxHeartbeats 1600000 in
theorem zzsplit_any (af al : Option Addr) (n cf cl : Nat) (zf zl : List Int) (ps : List (Int × Int)) (hps : Hid (ps = zf.zip zl)) (m : Int) (w : World) (hn : n ≤ 65536) (hlf : zf.length = n) (hll : zl.length = n) (hv : Valid ps) (hm1 : -9223372036854775808 ≤ m) (hm2 : m ≤ 9223372036854775807)
    (hrf : Rd w af zf) (hrl : Rd w al zl) :
    Calls Try.prog 8 #[.slice af n cf, .slice al n cl, .int .i64 m] w fun e w' => ∃ a6 a7 a8 a9 c6 c7 c8 c9 low high, e = .returned (.tuple #[.slice a6 low.length c6, .slice a7 low.length c7, .slice a8 high.length c8, .slice a9 high.length c9]) ∧ Split ps m low high ∧
      Rd w' a6 (low.map Prod.fst) ∧ Rd w' a7 (low.map Prod.snd) ∧ Rd w' a8 (high.map Prod.fst) ∧ Rd w' a9 (high.map Prod.snd) ∧ Below w.heap.size w w' := by
  obtain ⟨i0, hi, hz0, hz1, hz2⟩ := info_parts Try.info35
  obtain ⟨j0, hj, hj0, hj1, hj2⟩ := info_parts Try.info2
  go_enter Try.func8, Try.ntmps8
  go_wp2_with (at_make; refine wpList_make_full _ rfl (.tmp 19) (.tmp 19) 33 rfl w.heap.size 35 i0 (.agg #[.int .i64 0, .int .i64 0]) 2 Try.underlying33 hi hz0 hz1 _ _ _ _ n rfl rfl rfl rfl (by rw [hz2]; omega) (by unfold maxLen; omega) (Nat.le_refl _) ?_)
  intro w1 hown hgrow
  have hb1 := below_grown hgrow
  have hrow1 := own_row hown
  clear hgrow hown
  obtain ⟨g, Hg⟩ : ∃ g, Hid (g = w.heap.size) := ⟨_, rfl⟩
  rw [← Hg.out] at hrow1 ⊢
  go_wp2
  go_loopw [11] (fun i wr => ∃ k : Nat, k ≤ n ∧ i = .int .i64 k ∧ (∃ f, wr.rowIs g 35 (n * 2) f ∧ ∀ j, j < k → f (j * 2) = .int .i64 (zf.getD j 0) ∧ f (j * 2 + 1) = .int .i64 (zl.getD j 0)) ∧ Below w.heap.size w wr) (fun i _ => n - (intOf i).toNat)
  case atStart => exact ⟨0, by omega, rfl, ⟨_, hrow1, fun j hj => by omega⟩, hb1⟩
  case round =>
    obtain ⟨k, hk, rfl, ⟨f, hrow, hf⟩, hbr⟩ := hrel
    have HF : Hid (∀ j, j < k → f (j * 2) = .int .i64 (zf.getD j 0) ∧ f (j * 2 + 1) = .int .i64 (zl.getD j 0)) := hf
    clear hf hrow1
    by_cases hlt : k < n
    · obtain ⟨bf, of, rfl, hcf⟩ := (hrf.below hbr).at (by omega)
      obtain ⟨bl, ol, rfl, hcl⟩ := (hrl.below hbr).at (by omega)
      have h1 : wr.cell? ⟨bf, of + k, none⟩ = some (.int .i64 (zf.getD k 0)) := hcf k (by omega)
      have h2 : wr.cell? ⟨bl, ol + k, none⟩ = some (.int .i64 (zl.getD k 0)) := hcl k (by omega)
      have h3 : wr.cell? ⟨g, k * 2, none⟩ = some (f (k * 2)) := hrow.cell (by omega)
      have h4 : wr.cell? ⟨g, k * 2 + 1, none⟩ = some (f (k * 2 + 1)) := hrow.cell (by omega)
      have h5 := hrow.frozen (k * 2)
      have h6 := hrow.frozen (k * 2 + 1)
      have hk0 : (0 : Int) ≤ (k : Int) := by omega
      have hk1 : (k : Int) < (n : Int) := by omega
      clear hcf hcl
      go_wp2
      go_region
      go_wp2
      go_roundw
      case rel =>
        refine ⟨k + 1, by omega, by go_num, ⟨_, (hrow.set (k * 2) _).set (k * 2 + 1) _, ?_⟩, ?_⟩
        · intro j hj
          by_cases hjk : j < k
          · have := HF.out j hjk
            rw [if_neg (by omega), if_neg (by omega), if_neg (by omega), if_neg (by omega)]
            exact this
          · obtain rfl : j = k := by omega
            rw [if_neg (by omega), if_pos rfl, if_pos rfl]
            exact ⟨by simp [List.getD, show j < zf.length by omega], by simp [List.getD, show j < zl.length by omega]⟩
        · exact ((hbr.setCell (p := ⟨g, k * 2, none⟩) (by simp [Hg.out]) _).setCell (p := ⟨g, k * 2 + 1, none⟩) (by simp [Hg.out]) _).drew
      case measure => simp [intOf]; omega
    · have hpl : ps.length = n := by rw [hps.out]; simp; omega
      have hrp : RdP wr (some ⟨g, 0, none⟩) ps := rdP_row hrow (by omega) (fun j hj => by
        have := HF.out j (by omega)
        have e : ps.getD j (0, 0) = (zf.getD j 0, zl.getD j 0) := by
          rw [hps.out]
          exact zip_getD zf zl j (by omega) (by omega)
        rw [e]
        exact this)
      clear hrow HF hb1 hrf hrl
      go_wp2_with fail
      refine (split_any g n ps m wr hn hpl hv hm1 hm2 hrp).mono ?_
      rintro e w2 ⟨v4, v5, low, high, rfl, hsp, ho4, ho5, hb2⟩
      have hlens := hsp.lens
      have HSP : Hid (Split ps m low high) := hsp
      obtain ⟨a4, c4, e4, hr4, _⟩ := own_pairs ho4
      obtain ⟨a5, c5, e5, hr5, _⟩ := own_pairs ho5
      have hbw2 : Below w.heap.size w w2 := hbr.trans (hb2.mono hbr.size)
      rw [e4, e5]
      clear ho4 ho5 e4 e5 hsp hb2 hrp hbr
      go_wp2
      go_loopw [6, 7, 47] (fun va vb i wx => ∃ k : Nat, k ≤ low.length ∧ i = .int .i64 k ∧ wx.ownsRow w2.heap.size 2 1 va k (((low.take k).map Prod.fst).map (Value.int .i64)) ∧ wx.ownsRow w2.heap.size 2 1 vb k (((low.take k).map Prod.snd).map (Value.int .i64)) ∧ Apart va vb ∧ Below w2.heap.size w2 wx) (fun _ _ i _ => low.length - (intOf i).toNat)
      case atStart => exact ⟨0, by omega, rfl, by simpa using World.ownsRow_nil _ _ _ _, by simpa using World.ownsRow_nil _ _ _ _, fun x hx => by simp [Value.ownBlock] at hx, Below.refl _ _⟩
      case round =>
        obtain ⟨k, hk, rfl, hoa, hob, hap, hbx⟩ := hrel
        by_cases hlt : k < low.length
        · obtain ⟨b4, o4, e4, hc4⟩ := (hr4.below hbx).at (by omega)
          subst e4
          have hx1 : wr.cell? ⟨b4, o4 + k * 2, none⟩ = some (.int .i64 (low.getD k (0, 0)).1) := (hc4 k hlt).1
          have hx2 : wr.cell? ⟨b4, o4 + (k * 2 + 1), none⟩ = some (.int .i64 (low.getD k (0, 0)).2) := (hc4 k hlt).2
          rw [← Nat.add_assoc] at hx2
          have hbs := hbx.size
          clear hc4
          generalize hgF : (low.getD k (0, 0)).1 = F at *
          generalize hgL : (low.getD k (0, 0)).2 = L at *
          have HFL : Hid (low.getD k (0, 0) = (F, L)) := by show _ = _; rw [← hgF, ← hgL]
          clear hgF hgL
          go_wp2_with (at_builtin; refine wpList_append_lies _ rfl (.tmp 51) (.tmp 54) 22 rfl w2.heap.size 2 j0 (.int .i64 0) 1 8 Try.underlying22 hj hj0 hj1 hj2 rfl (by decide) _ _ _ rfl ((hoa.alloc _).alloc _) ⟨wr.heap.size + 1, 0, none⟩ 1 1 [.int .i64 F] rfl rfl (one_new _ _ _ _ (by simp)) (ints_oneCell .i64 [F]) (by omega) (by unfold maxLen; omega) (by omega) (by simp; omega) ?_)
          intro va' w3 hoa' hg3 hl3
          obtain ⟨hob3, hap3, hblk, hbx3, hs3⟩ := two_rows hoa hob hap hbx hbs hg3 hl3
          have hp1 : w3.cell? ⟨wr.heap.size, 1, none⟩ = some (.int .i64 L) := by simp [World.cell?, hblk]
          clear hblk hg3 hl3 hoa hob hap hx1 hx2
          go_wp2_with (at_builtin; refine wpList_append_lies _ rfl (.tmp 56) (.tmp 59) 22 rfl w2.heap.size 2 j0 (.int .i64 0) 1 8 Try.underlying22 hj hj0 hj1 hj2 rfl (by decide) _ _ _ rfl (hob3.alloc _) ⟨w3.heap.size, 0, none⟩ 1 1 [.int .i64 L] rfl rfl (one_new _ _ _ _ (by simp)) (ints_oneCell .i64 [L]) (by omega) (by unfold maxLen; omega) (by omega) (by simp; omega) ?_)
          intro vb' w4 hob' hg4 hl4
          obtain ⟨hoa4, hap4, hbx4⟩ := one_row hob3 hoa' hap3.symm hbx3 (by omega) hg4 hl4
          clear hg4 hl4 hob3 hoa' hp1
          go_wp2
          go_roundw
          case rel =>
            refine ⟨k + 1, by omega, by go_num, ?_, ?_, hap4.symm, hbx4⟩
            · rw [take_snocP low k hlt, HFL.out]; simpa using hoa4
            · rw [take_snocP low k hlt, HFL.out]; simpa using hob'
          case measure => simp [intOf]; omega
        · obtain rfl : k = low.length := by omega
          rw [List.take_length] at hoa hob
          obtain ⟨a6, ca6, e1, hra6, _⟩ := own_ints (zs := low.map Prod.fst) (by simpa using hoa)
          obtain ⟨a7, ca7, e2, hra7, _⟩ := own_ints (zs := low.map Prod.snd) (by simpa using hob)
          simp only [List.length_map] at e1 e2
          obtain ⟨Wa6, hW⟩ : ∃ W, W = wr := ⟨_, rfl⟩
          rw [← hW] at hra6 hra7 hbx ⊢
          clear hW
          rw [e1, e2]
          clear hoa hob hap e1 e2
          have hr5' := hr5.below hbx
          go_wp2
          go_loopw [8, 9, 64] (fun va vb i wx => ∃ k : Nat, k ≤ high.length ∧ i = .int .i64 k ∧ wx.ownsRow Wa6.heap.size 2 1 va k (((high.take k).map Prod.fst).map (Value.int .i64)) ∧ wx.ownsRow Wa6.heap.size 2 1 vb k (((high.take k).map Prod.snd).map (Value.int .i64)) ∧ Apart va vb ∧ Below Wa6.heap.size Wa6 wx) (fun _ _ i _ => high.length - (intOf i).toNat)
          case atStart => exact ⟨0, by omega, rfl, by simpa using World.ownsRow_nil _ _ _ _, by simpa using World.ownsRow_nil _ _ _ _, fun x hx => by simp [Value.ownBlock] at hx, Below.refl _ _⟩
          case round =>
            obtain ⟨k, hk, rfl, hoa, hob, hap, hbx'⟩ := hrel
            by_cases hlt : k < high.length
            · obtain ⟨b4, o4, e4, hc4⟩ := (hr5'.below hbx').at (by omega)
              subst e4
              have hx1 : wr.cell? ⟨b4, o4 + k * 2, none⟩ = some (.int .i64 (high.getD k (0, 0)).1) := (hc4 k hlt).1
              have hx2 : wr.cell? ⟨b4, o4 + (k * 2 + 1), none⟩ = some (.int .i64 (high.getD k (0, 0)).2) := (hc4 k hlt).2
              rw [← Nat.add_assoc] at hx2
              have hbs := hbx'.size
              clear hc4
              generalize hgF : (high.getD k (0, 0)).1 = F at *
              generalize hgL : (high.getD k (0, 0)).2 = L at *
              have HFL : Hid (high.getD k (0, 0) = (F, L)) := by show _ = _; rw [← hgF, ← hgL]
              clear hgF hgL
              go_wp2_with (at_builtin; refine wpList_append_lies _ rfl (.tmp 68) (.tmp 71) 22 rfl Wa6.heap.size 2 j0 (.int .i64 0) 1 8 Try.underlying22 hj hj0 hj1 hj2 rfl (by decide) _ _ _ rfl ((hoa.alloc _).alloc _) ⟨wr.heap.size + 1, 0, none⟩ 1 1 [.int .i64 F] rfl rfl (one_new _ _ _ _ (by simp)) (ints_oneCell .i64 [F]) (by omega) (by unfold maxLen; omega) (by omega) (by simp; omega) ?_)
              intro va' w3 hoa' hg3 hl3
              obtain ⟨hob3, hap3, hblk, hbx'3, hs3⟩ := two_rows hoa hob hap hbx' hbs hg3 hl3
              have hp1 : w3.cell? ⟨wr.heap.size, 1, none⟩ = some (.int .i64 L) := by simp [World.cell?, hblk]
              clear hblk hg3 hl3 hoa hob hap hx1 hx2
              go_wp2_with (at_builtin; refine wpList_append_lies _ rfl (.tmp 73) (.tmp 76) 22 rfl Wa6.heap.size 2 j0 (.int .i64 0) 1 8 Try.underlying22 hj hj0 hj1 hj2 rfl (by decide) _ _ _ rfl (hob3.alloc _) ⟨w3.heap.size, 0, none⟩ 1 1 [.int .i64 L] rfl rfl (one_new _ _ _ _ (by simp)) (ints_oneCell .i64 [L]) (by omega) (by unfold maxLen; omega) (by omega) (by simp; omega) ?_)
              intro vb' w4 hob' hg4 hl4
              obtain ⟨hoa4, hap4, hbx'4⟩ := one_row hob3 hoa' hap3.symm hbx'3 (by omega) hg4 hl4
              clear hg4 hl4 hob3 hoa' hp1
              go_wp2
              go_roundw
              case rel =>
                refine ⟨k + 1, by omega, by go_num, ?_, ?_, hap4.symm, hbx'4⟩
                · rw [take_snocP high k hlt, HFL.out]; simpa using hoa4
                · rw [take_snocP high k hlt, HFL.out]; simpa using hob'
              case measure => simp [intOf]; omega
            · obtain rfl : k = high.length := by omega
              rw [List.take_length] at hoa hob
              obtain ⟨a8, ca8, e1, hra8, _⟩ := own_ints (zs := high.map Prod.fst) (by simpa using hoa)
              obtain ⟨a9, ca9, e2, hra9, _⟩ := own_ints (zs := high.map Prod.snd) (by simpa using hob)
              simp only [List.length_map] at e1 e2
              obtain ⟨Wa8, hW⟩ : ∃ W, W = wr := ⟨_, rfl⟩
              rw [← hW] at hra8 hra9 hbx' ⊢
              clear hW
              rw [e1, e2]
              clear hoa hob hap e1 e2
              have hbA : Below w.heap.size w Wa6 := hbw2.trans (hbx.mono hbw2.size)
              have hbB : Below w.heap.size w Wa8 := hbA.trans (hbx'.mono hbA.size)
              have hra6' := hra6.below hbx'
              have hra7' := hra7.below hbx'
              go_wp2
              exact bodyPost_ret (v := .tuple #[.slice a6 low.length ca6, .slice a7 low.length ca7, .slice a8 high.length ca8, .slice a9 high.length ca9]) (by simp [results, Try.results8, go_sem]) rfl ⟨a6, a7, a8, a9, ca6, ca7, ca8, ca9, low, high, rfl, HSP.out, hra6', hra7', hra8, hra9, hbB⟩
end Go.Proofs.Qxb6617903a
