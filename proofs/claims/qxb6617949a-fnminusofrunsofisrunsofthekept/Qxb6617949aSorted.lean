/- THE WALK OF 'zzSorted': a merge sort from below between two rows of the call's own. -/
import Derived.Test.Qxb6617949aFresh
import Derived.Test.Qxb6617949aMergePlain
namespace Go.Proofs.Qxb6617949a
open Go.RowKit Plain Merge
set_option linter.unusedSimpArgs false
set_option linter.unusedVariables false

/-- A row of integers, its content by the place. -/
def RowF (w : World) (g n : Nat) (A : Nat → Int) : Prop := w.rowIs g 3 (n * 1) (fun t => .int .i64 (A t))

theorem rowF_made {w : World} {base g n : Nat} (h : w.ownsRow base 3 1 (.slice (some ⟨g, 0, none⟩) n n) n (madeCells #[Value.int .i64 0] n).toList) : RowF w g n (fun _ => 0) := by
  refine (own_row h).congr fun i hi => ?_
  have hi' : i < n := by omega
  simp [madeCells, List.getD, hi', Nat.mod_one]

theorem RowF.lt {w : World} {g n : Nat} {A : Nat → Int} (h : RowF w g n A) : g < w.heap.size := World.rowIs.lt h
theorem RowF.cell {w : World} {g n : Nat} {A : Nat → Int} (h : RowF w g n A) {i : Nat} (hi : i < n) : w.cell? ⟨g, i, none⟩ = some (.int .i64 (A i)) := World.rowIs.cell h (by omega)
theorem RowF.frozen {w : World} {g n : Nat} {A : Nat → Int} (h : RowF w g n A) (i : Nat) : w.frozen? ⟨g, i, none⟩ = false := World.rowIs.frozen h i
theorem RowF.of_block {w w' : World} {g n : Nat} {A : Nat → Int} (h : RowF w g n A) (e : w'.heap[g]? = w.heap[g]?) : RowF w' g n A := World.rowIs.of_block h e
theorem RowF.set {w : World} {g n : Nat} {A : Nat → Int} (h : RowF w g n A) (k : Nat) (z : Int) : RowF (w.setCell ⟨g, k, none⟩ (.int .i64 z)) g n (upd A k z) := by
  refine (World.rowIs.set h k (.int .i64 z)).congr fun i hi => ?_
  unfold upd
  split <;> rfl
theorem RowF.other {w : World} {g n : Nat} {A : Nat → Int} (h : RowF w g n A) {b : Nat} (k : Nat) (hb : g ≠ b) (v : Value) : RowF (w.setCell ⟨b, k, none⟩ v) g n A := World.rowIs.setOther h (a := ⟨b, k, none⟩) hb v
theorem RowF.drewN {w : World} {g n : Nat} {A : Nat → Int} (h : RowF w g n A) (q : Nat) : RowF (w.drewN q) g n A := h
theorem RowF.rd {w : World} {g n : Nat} {A : Nat → Int} (h : RowF w g n A) : Rd w (some ⟨g, 0, none⟩) ((List.range n).map A) := by
  refine rd_row h (by simp) fun j hj => ?_
  have : j < n := by simpa using hj
  simp [List.getD, this]
theorem below_drewN {B : Nat} {a w : World} (h : Below B a w) (q : Nat) : Below B a (w.drewN q) := ⟨h.os, h.tape, h.output, h.size, h.block⟩

theorem img_list {A : Nat → Int} {zs : List Int} {n : Nat} (hl : zs.length = n) (h : ∀ j, j < n → A j = zs.getD j 0) (x : Int) : Img A 0 n x ↔ x ∈ zs := by
  constructor
  · rintro ⟨t, _, h2, rfl⟩
    rw [h t h2]
    simp [List.getD, show t < zs.length by omega]
  · intro hx
    obtain ⟨t, ht, rfl⟩ := List.getElem_of_mem hx
    exact ⟨t, Nat.zero_le _, by omega, by rw [h t (by omega)]; simp [List.getD, ht]⟩

set_option maxRecDepth 100000 in
set_option maxHeartbeats 1600000 in
theorem sorted_any (a : Option Addr) (n c : Nat) (zs : List Int) (w : World) (hn : n ≤ 65536) (hl : zs.length = n) (hr : Rd w a zs) :
    Calls Try.prog 21 #[.slice a n c] w fun e w' => ∃ (g : Nat) (A : Nat → Int), e = .returned (.slice (some ⟨g, 0, none⟩) n n) ∧ Asc A 0 n ∧ (∀ x, Img A 0 n x ↔ x ∈ zs) ∧ RowF w' g n A ∧ Below w.heap.size w w' := by
  obtain ⟨i0, hi, hz0, hz1, hz2⟩ := info_parts Try.info3
  go_enter Try.func21, Try.ntmps21
  go_wp2_with (at_make; refine wpList_make_full _ rfl (.tmp 16) (.tmp 16) 22 rfl w.heap.size 3 i0 (.int .i64 0) 1 Try.underlying22 hi hz0 hz1 _ _ _ _ n rfl rfl rfl rfl (by rw [hz2]; omega) (by unfold maxLen; omega) (Nat.le_refl _) ?_)
  intro w1 hown hgrow
  have hb1 := below_grown hgrow
  have hrow1 := rowF_made hown
  have hlt1 := hrow1.lt
  clear hgrow hown
  obtain ⟨g1, Hg1⟩ : ∃ g1, Hid (g1 = w.heap.size) := ⟨_, rfl⟩
  rw [← Hg1.out] at hrow1 hlt1 ⊢
  go_wp2_with (at_make; refine wpList_make_full _ rfl (.tmp 18) (.tmp 18) 22 rfl w1.heap.size 3 i0 (.int .i64 0) 1 Try.underlying22 hi hz0 hz1 _ _ _ _ n rfl rfl rfl rfl (by rw [hz2]; omega) (by unfold maxLen; omega) (Nat.le_refl _) ?_)
  intro w2 hown hgrow
  have hb2 := below_grown hgrow
  have hrow2 := rowF_made hown
  have hrow1' := hrow1.of_block (hb2.block g1 hlt1)
  obtain ⟨g2, Hg2⟩ : ∃ g2, Hid (g2 = w1.heap.size) := ⟨_, rfl⟩
  have hb := hb1.trans (hb2.mono hb1.size)
  have hge2 : w.heap.size ≤ g2 := by rw [Hg2.out]; exact hb1.size
  have hge1 : w.heap.size ≤ g1 := by rw [Hg1.out]; exact Nat.le_refl _
  rw [← Hg2.out] at hrow2 hlt1 ⊢
  have hg12 : g1 ≠ g2 := by omega
  clear hgrow hown hrow1 hb1 hb2 hz0 hz1 hz2 hi
  go_wp2
  go_loopw [6] (fun i wr => ∃ k : Nat, k ≤ n ∧ i = .int .i64 k ∧ (∃ A, RowF wr g1 n A ∧ ∀ j, j < k → A j = zs.getD j 0) ∧ (∃ B, RowF wr g2 n B) ∧ Below w.heap.size w wr) (fun i _ => n - (intOf i).toNat)
  case atStart => exact ⟨0, by omega, rfl, ⟨_, hrow1', fun j hj => by omega⟩, ⟨_, hrow2⟩, hb⟩
  case round =>
    obtain ⟨k, hk, rfl, ⟨A, r1, hA⟩, ⟨B, r2⟩, hbr⟩ := hrel
    have HA := hide hA
    clear hA hrow1' hrow2 hb
    by_cases hlt : k < n
    · obtain ⟨b, off, rfl, hc⟩ := (hr.below hbr).at (by omega)
      have h1 := hc k (by omega)
      have h3 := r1.cell hlt
      have h5 := r1.frozen k
      clear hc
      obtain ⟨Z, HZ⟩ : ∃ Z, Hid (Z = zs.getD k 0) := ⟨_, rfl⟩
      rw [← HZ.out] at h1
      go_wp2
      go_roundw
      case rel =>
        refine ⟨k + 1, by omega, by go_num, ⟨_, r1.set k Z, ?_⟩, ⟨_, r2.other k hg12.symm _⟩, hbr.setCell (p := ⟨g1, k, none⟩) hge1 _⟩
        intro j hj
        by_cases hjk : j < k
        · rw [upd_other _ _ _ _ (by omega)]; exact unhide HA j hjk
        · obtain rfl : j = k := by omega
          rw [upd_same]; exact HZ.out
      case measure => simp [intOf]; omega
    · obtain rfl : k = n := by omega
      have HM : Hid (∀ x, Img A 0 k x ↔ x ∈ zs) := img_list hl (unhide HA)
      clear HA Hg1 Hg2 hlt1 hlt
      obtain ⟨w3, hw3⟩ : ∃ w3 : World, w3 = wr := ⟨_, rfl⟩
      rw [← hw3] at r1 r2 hbr ⊢
      clear hw3
      go_wp2
      go_loopw [4, 5, 7] (fun va vb vw wr => ∃ (ga gb wd : Nat) (A B : Nat → Int), va = .slice (some ⟨ga, 0, none⟩) k k ∧ vb = .slice (some ⟨gb, 0, none⟩) k k ∧ vw = .int .i64 wd ∧ 1 ≤ wd ∧ wd ≤ 131072 ∧ ga ≠ gb ∧ w.heap.size ≤ ga ∧ w.heap.size ≤ gb ∧ RowF wr ga k A ∧ RowF wr gb k B ∧ Blk A k wd ∧ (∀ x, Img A 0 k x ↔ x ∈ zs) ∧ Below w.heap.size w wr) (fun _ _ vw _ => k - (intOf vw).toNat)
      case atStart => exact ⟨g1, g2, 1, A, B, rfl, rfl, rfl, by omega, by omega, hg12, hge1, hge2, r1, r2, blk_one _ _, unhide HM, hbr⟩
      case round =>
        obtain ⟨ga, gb, wd, A, B, rfl, rfl, rfl, hw1, hw2, hgab, hga, hgb, ra, rb, hblk, himg, hbr⟩ := hrel
        clear r1 r2 hg12 hge1 hge2 HM
        have HBL := hide hblk
        have HIM := hide himg
        clear hblk himg
        by_cases hwn : wd < k
        · obtain ⟨w4, hw4⟩ : ∃ w4 : World, w4 = wr := ⟨_, rfl⟩
          rw [← hw4] at ra rb hbr ⊢
          clear hw4
          go_wp2
          go_loopw [8] (fun vl wr => ∃ (q L : Nat) (B : Nat → Int), Hid (L = q * (2 * wd)) ∧ vl = .int .i64 L ∧ L ≤ 400000 ∧ RowF wr ga k A ∧ RowF wr gb k B ∧ Pass A k wd B q ∧ Below w.heap.size w wr) (fun vl _ => k - (intOf vl).toNat)
          case atStart => exact ⟨0, 0, B, by show _ = _; simp, rfl, by omega, ra, rb, Pass.start _ _ _ _, hbr⟩
          case round =>
            clear ra rb hbr
            obtain ⟨q, L, B, HL, rfl, hL, ra, rb, hpass, hbr⟩ := hrel
            have HP := hide hpass
            clear hpass
            by_cases hLk : L < k
            · obtain ⟨M, HM⟩ : ∃ M, Hid (M = min (L + wd) k) := ⟨_, rfl⟩
              obtain ⟨H, HH⟩ : ∃ H, Hid (H = min (L + 2 * wd) k) := ⟨_, rfl⟩
              have hLM : L ≤ M := by rw [HM.out]; omega
              have hMH : M ≤ H := by rw [HM.out, HH.out]; omega
              have hHk : H ≤ k := by rw [HH.out]; omega
              obtain ⟨w5, hw5⟩ : ∃ w5 : World, w5 = wr := ⟨_, rfl⟩
              rw [← hw5] at ra rb hbr ⊢
              clear hw5
              go_upto_if 49 with fail
              go_cut [9] (fun s wx => s = .int .i64 M ∧ w5 = wx)
              case first =>
                as_aux_lemma =>
                  by_cases ht : k < L + wd
                  · have e : Hid (M = k) := by show _ = _; rw [HM.out]; omega
                    go_wp2
                    go_meet
                    case rel => exact ⟨by rw [e.out], rfl⟩
                  · have e : Hid (M = L + wd) := by show _ = _; rw [HM.out]; omega
                    go_wp2
                    go_meet
                    case rel => exact ⟨congrArg (Value.int .i64) (by rw [e.out]; omega), rfl⟩
              case rest =>
                obtain ⟨rfl, rfl⟩ := hcut
                go_upto_if 57 with fail
                go_cut [10] (fun s wx => s = .int .i64 H ∧ w5 = wx)
                case first =>
                  as_aux_lemma =>
                    by_cases ht : k < L + 2 * wd
                    · have e : Hid (H = k) := by show _ = _; rw [HH.out]; omega
                      go_wp2
                      go_meet
                      case rel => exact ⟨by rw [e.out], rfl⟩
                    · have e : Hid (H = L + 2 * wd) := by show _ = _; rw [HH.out]; omega
                      go_wp2
                      go_meet
                      case rel => exact ⟨congrArg (Value.int .i64) (by rw [e.out]; omega), rfl⟩
                case rest =>
                  obtain ⟨rfl, rfl⟩ := hcut
                  have HA : Hid (Asc A L M ∧ Asc A M H) := by
                    have := (unhide HBL).halves (q := q)
                    rw [← HL.out, ← HM.out, ← HH.out] at this
                    exact this
                  go_wp2
                  go_loopw [11, 12, 13] (fun vi vj vk wr => ∃ (i j p : Nat) (B' : Nat → Int), vi = .int .i64 i ∧ vj = .int .i64 j ∧ vk = .int .i64 p ∧ RowF wr ga k A ∧ RowF wr gb k B' ∧ Mg A B L M H B' i j p ∧ Below w.heap.size w wr) (fun vi vj _ _ => M + H - ((intOf vi).toNat + (intOf vj).toNat))
                  case atStart => exact ⟨L, M, L, B, rfl, rfl, rfl, ra, rb, Mg.start hLM hMH, hbr⟩
                  case round =>
                    clear ra rb hbr
                    obtain ⟨i, j, p, B', rfl, rfl, rfl, ra, rb, hmg, hbr⟩ := hrel
                    have h1 := hmg.li
                    have h2 := hmg.im
                    have h3 := hmg.mj
                    have h4 := hmg.jh
                    have h5 := hmg.ke
                    have HG := hide hmg
                    clear hmg
                    by_cases hij : i < M ∧ j < H
                    · obtain ⟨hiM, hjH⟩ := hij
                      · have c1 := ra.cell (i := i) (by omega)
                        have c2 := ra.cell (i := j) (by omega)
                        have c3 := rb.cell (i := p) (by omega)
                        have c4 := rb.frozen p
                        obtain ⟨X, HX⟩ : ∃ X, Hid (X = A i) := ⟨_, rfl⟩
                        obtain ⟨Y, HY⟩ : ∃ Y, Hid (Y = A j) := ⟨_, rfl⟩
                        rw [← HX.out] at c1
                        rw [← HY.out] at c2
                        by_cases hYX : Y < X
                        · have HN : Hid (Mg A B L M H (upd B' p Y) i (j + 1) (p + 1)) := by
                            have := (unhide HG).takeJ (unhide HA).2 hjH (fun t a b => by
                              have e1 := (unhide HA).1 i t h1 a b
                              rw [← HX.out] at e1; rw [← HY.out]; omega)
                            rw [← HY.out] at this; exact this
                          go_wp2
                          go_quiet (fail)
                          go_wp2
                          go_roundw
                          case rel => exact ⟨i, j + 1, p + 1, upd B' p Y, rfl, by go_num, by go_num, (ra.drewN _).other p hgab _, (rb.drewN _).set p Y, unhide HN, (below_drewN hbr _).setCell (p := ⟨gb, p, none⟩) hgb _⟩
                          case measure => simp [intOf]; omega
                        · have HN : Hid (Mg A B L M H (upd B' p X) (i + 1) j (p + 1)) := by
                            have := (unhide HG).takeI (unhide HA).1 hiM (fun t a b => by
                              have e1 := (unhide HA).2 j t h3 a b
                              rw [← HY.out] at e1; rw [← HX.out]; omega)
                            rw [← HX.out] at this; exact this
                          go_wp2
                          go_quiet (fail)
                          go_wp2
                          go_roundw
                          case rel => exact ⟨i + 1, j, p + 1, upd B' p X, by go_num, rfl, by go_num, (ra.drewN _).other p hgab _, (rb.drewN _).set p X, unhide HN, (below_drewN hbr _).setCell (p := ⟨gb, p, none⟩) hgb _⟩
                          case measure => simp [intOf]; omega
                    · have hor : i = M ∨ j = H := by omega
                      obtain ⟨w6, hw6⟩ : ∃ w6 : World, w6 = wr := ⟨_, rfl⟩
                      rw [← hw6] at ra rb hbr ⊢
                      clear hw6
                      go_upto_region 23 with fail
                      go_cut [69] (fun s wx => s = .bool false ∧ w6 = wx)
                      case first =>
                        as_aux_lemma =>
                          by_cases hiM : i < M
                          · have hjH : ¬ j < H := fun h => hij ⟨hiM, h⟩
                            clear hij hor
                            go_wp2
                            go_meet
                            case rel => exact ⟨rfl, rfl⟩
                          · clear hij hor
                            go_wp2
                            go_meet
                            case rel => exact ⟨rfl, rfl⟩
                      case rest =>
                        obtain ⟨rfl, rfl⟩ := hcut
                        clear hij
                        have HOR := hide hor
                        clear hor
                        go_wp2
                        go_loopw [11, 13] (fun vi vk wr => ∃ (i p : Nat) (B' : Nat → Int), vi = .int .i64 i ∧ vk = .int .i64 p ∧ (i = M ∨ j = H) ∧ RowF wr ga k A ∧ RowF wr gb k B' ∧ Mg A B L M H B' i j p ∧ Below w.heap.size w wr) (fun vi _ _ => M - (intOf vi).toNat)
                        case atStart => exact ⟨i, p, B', rfl, rfl, unhide HOR, ra, rb, unhide HG, hbr⟩
                        case round =>
                          clear ra rb hbr HG h1 h2 h3 h4 h5
                          obtain ⟨i, p, B', rfl, rfl, hor, ra, rb, hmg, hbr⟩ := hrel
                          have h1 := hmg.li
                          have h2 := hmg.im
                          have h3 := hmg.mj
                          have h4 := hmg.jh
                          have h5 := hmg.ke
                          have HG := hide hmg
                          clear hmg
                          by_cases hiM : i < M
                          · have hjH : j = H := by omega
                            clear hor
                            have c1 := ra.cell (i := i) (by omega)
                            have c3 := rb.cell (i := p) (by omega)
                            have c4 := rb.frozen p
                            have HN : Hid (Mg A B L M H (upd B' p (A i)) (i + 1) j (p + 1)) := (unhide HG).takeI (unhide HA).1 hiM (fun t a b => by omega)
                            go_wp2
                            go_roundw
                            case rel => exact ⟨i + 1, p + 1, upd B' p (A i), by go_num, by go_num, .inr hjH, ra.other p hgab _, rb.set p (A i), unhide HN, hbr.setCell (p := ⟨gb, p, none⟩) hgb _⟩
                            case measure => simp [intOf]; omega
                          · obtain rfl : i = M := by omega
                            clear hor
                            obtain ⟨w7, hw7⟩ : ∃ w7 : World, w7 = wr := ⟨_, rfl⟩
                            rw [← hw7] at ra rb hbr ⊢
                            clear hw7
                            go_wp2
                            go_loopw [12, 13] (fun vj vk wr => ∃ (j p : Nat) (B' : Nat → Int), vj = .int .i64 j ∧ vk = .int .i64 p ∧ RowF wr ga k A ∧ RowF wr gb k B' ∧ Mg A B L i H B' i j p ∧ Below w.heap.size w wr) (fun vj _ _ => H - (intOf vj).toNat)
                            case atStart => exact ⟨j, p, B', rfl, rfl, ra, rb, unhide HG, hbr⟩
                            case round =>
                              clear ra rb hbr HG h1 h2 h3 h4 h5
                              obtain ⟨j, p, B', rfl, rfl, ra, rb, hmg, hbr⟩ := hrel
                              have h1 := hmg.li
                              have h2 := hmg.im
                              have h3 := hmg.mj
                              have h4 := hmg.jh
                              have h5 := hmg.ke
                              have HG := hide hmg
                              clear hmg
                              by_cases hjH : j < H
                              · have c1 := ra.cell (i := j) (by omega)
                                have c3 := rb.cell (i := p) (by omega)
                                have c4 := rb.frozen p
                                have HN : Hid (Mg A B L i H (upd B' p (A j)) i (j + 1) (p + 1)) := (unhide HG).takeJ (unhide HA).2 hjH (fun t a b => by omega)
                                go_wp2
                                go_roundw
                                case rel => exact ⟨j + 1, p + 1, upd B' p (A j), by go_num, by go_num, ra.other p hgab _, rb.set p (A j), unhide HN, hbr.setCell (p := ⟨gb, p, none⟩) hgb _⟩
                                case measure => simp [intOf]; omega
                              · obtain rfl : j = H := by omega
                                have HN : Hid (Pass A k wd B' (q + 1)) := by
                                  obtain ⟨e, d1, d2, d3⟩ := (unhide HG).done
                                  have hlo := HL.out
                                  refine (unhide HP).next (hi := j) (by omega) (by rw [← hlo]; exact HH.out) ?_ ?_ ?_
                                  · rw [← hlo]; exact d1
                                  · rw [← hlo]; exact d2
                                  · rw [← hlo]; exact d3
                                go_wp2
                                go_roundw
                                case rel => exact ⟨q + 1, L + 2 * wd, B', by show _ = _; rw [HL.out, Nat.add_mul, Nat.one_mul], by go_num, by omega, ra, rb, unhide HN, hbr⟩
                                case measure => simp [intOf]; omega
            · have HD := hide ((unhide HP).done (by rw [← HL.out]; omega))
              go_wp2
              go_roundw
              case rel => exact ⟨gb, ga, 2 * wd, B, A, rfl, rfl, by go_num, by omega, by omega, hgab.symm, hgb, hga, rb, ra, (unhide HD).1, fun x => ((unhide HD).2 x).trans (unhide HIM x), hbr⟩
              case measure => simp [intOf]; omega
        · go_wp2
          go_ret
          exact ⟨ga, A, rfl, (unhide HBL).whole (by omega), unhide HIM, ra, hbr⟩
end Go.Proofs.Qxb6617949a
