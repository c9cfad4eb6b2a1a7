/- THE WALK OF 'union'. -/
import Derived.Test.Qxb6617949aMake
namespace Go.Proofs.Qxb6617949a
open Go.RowKit Plain
set_option linter.unusedSimpArgs false
set_option linter.unusedVariables false

/-- Is the next run taken off a? -/
def takeA : List (Int × Int) → List (Int × Int) → Bool
  | _, [] => true
  | [], _ :: _ => false
  | p :: _, q :: _ => decide (p.1 ≤ q.1)

def lenV : Value → Nat | .slice _ n _ => n | _ => 0

/-- The tail of a slice of pairs. -/
theorem RdP.tail {w : World} {b off : Nat} {p : Int × Int} {ps : List (Int × Int)} {a' : Option Addr} (h : RdP w (some ⟨b, off, none⟩) (p :: ps)) (ha : 0 < ps.length → a' = some ⟨b, off + 2, none⟩) : RdP w a' ps := by
  intro i hi
  obtain ⟨b', off', e, h1, h2⟩ := h (i + 1) (by simpa using hi)
  simp at e
  obtain ⟨rfl, rfl⟩ := e
  refine ⟨b, off + 2, ha (by omega), ?_, ?_⟩
  · rw [show off + 2 + i * 2 = off + (i + 1) * 2 from by omega, h1]; simp [List.getD]
  · rw [show off + 2 + (i * 2 + 1) = off + ((i + 1) * 2 + 1) from by omega, h2]; simp [List.getD]

theorem RdP.head {w : World} {a : Option Addr} {p : Int × Int} {ps : List (Int × Int)} (h : RdP w a (p :: ps)) : ∃ b off, a = some ⟨b, off, none⟩ ∧ w.cell? ⟨b, off, none⟩ = some (.int .i64 p.1) ∧ w.cell? ⟨b, off + 1, none⟩ = some (.int .i64 p.2) := by
  obtain ⟨b, off, e, h1, h2⟩ := h 0 (by simp)
  exact ⟨b, off, e, by simpa using h1, by simpa using h2⟩

theorem set_two (w : World) (x y u v : Value) (t : TypeId) (q : Nat) : (((w.alloc (.cells #[x, y] t)).drewN q).setCell ⟨w.heap.size, 0, none⟩ u).setCell ⟨w.heap.size, 1, none⟩ v = (w.alloc (.cells #[u, v] t)).drewN q := by
  have h1 : ((w.alloc (.cells #[x, y] t)).setCell ⟨w.heap.size, 0, none⟩ u).setCell ⟨w.heap.size, 1, none⟩ v = w.alloc (.cells #[u, v] t) := by
    rw [World.setCell_alloc_at _ _ _ _ _ rfl, World.setCell_alloc_at _ _ _ _ _ rfl]
    rfl
  show (((w.alloc (.cells #[x, y] t)).setCell ⟨w.heap.size, 0, none⟩ u).setCell ⟨w.heap.size, 1, none⟩ v).drewN q = _
  rw [h1]

theorem set_last (ini : List (Int × Int)) (l : Int × Int) (z : Int) : (cellsP (ini ++ [l])).set (ini.length * 2 + 1) (.int .i64 (if l.2 < z then z else l.2)) = cellsP (ini ++ [(l.1, max l.2 z)]) := by
  rw [cellsP_append, cellsP_append, List.set_append_right _ _ (by rw [cellsP_length]; omega), cellsP_length]
  have e : ini.length * 2 + 1 - ini.length * 2 = 1 := by omega
  have e2 : (if l.2 < z then z else l.2) = max l.2 z := by split <;> omega
  rw [e, e2]
  rfl

set_option maxRecDepth 100000 in
set_option maxHeartbeats 1600000 in
theorem union_any (aa ab : Option Addr) (na nb : Nat) (a b : List (Int × Int)) (w : World) (hna : na ≤ 1048576) (hnb : nb ≤ 1048576) (hla : a.length = na) (hlb : b.length = nb) (hva : Val a) (hvb : Val b) (hra : RdP w aa a) (hrb : RdP w ab b) :
    Calls Try.prog 24 #[.slice aa na na, .slice ab nb nb] w fun e w' => ∃ a' c' o, e = .returned (.slice a' o.length c') ∧ RdP w' a' o ∧ Val o ∧ (∀ x, Mem o x ↔ Mem a x ∨ Mem b x) ∧ o.length ≤ na + nb ∧ Below w.heap.size w w' := by
  obtain ⟨i0, hi, hz0, hz1, hz2⟩ := info_parts Try.info40
  go_enter Try.func24, Try.ntmps24
  go_wp2
  go_loopw [0, 1, 5] (fun va vb vo wr => ∃ (a' b' out : List (Int × Int)) (xa xb : Option Addr), va = .slice xa a'.length a'.length ∧ vb = .slice xb b'.length b'.length ∧ RdP w xa a' ∧ RdP w xb b' ∧ wr.ownsRow w.heap.size 40 2 vo out.length (cellsP out) ∧ UInv a b out a' b' ∧ out.length + a'.length + b'.length ≤ na + nb ∧ Below w.heap.size w wr)
    (fun va vb _ _ => lenV va + lenV vb)
  case atStart => exact ⟨a, b, [], aa, ab, by rw [hla], by rw [hlb], hra, hrb, World.ownsRow_nil _ _ _ _, UInv.start hva hvb, by simp; omega, Below.refl _ _⟩
  case round =>
    obtain ⟨a', b', out, xa, xb, rfl, rfl, hxa, hxb, hown, hinv, hlen, hbr⟩ := hrel
    have HI := hide hinv
    clear hinv
    by_cases hdone : a'.length = 0 ∧ b'.length = 0
    · obtain rfl : a' = [] := List.eq_nil_of_length_eq_zero hdone.1
      obtain rfl : b' = [] := List.eq_nil_of_length_eq_zero hdone.2
      clear hdone
      obtain ⟨hvo, hmo⟩ := (unhide HI).done
      obtain ⟨ao, co, e, hro, hlo, hno⟩ := own_pairs hown
      rw [e]
      clear e hown
      go_wp2_with fail
      refine (clone_any ao out.length co out wr (by simp at hlen; omega) rfl hro (fun h => ?_)).mono ?_
      · have hc0 := hno h
        exact ⟨by omega, hc0⟩
      rintro e w1 ⟨a1, c1, rfl, hr1, hb1⟩
      go_wp2
      go_ret
      exact ⟨a1, c1, out, rfl, hr1, hvo, hmo, by simpa using hlen, hbr.trans (hb1.mono hbr.size)⟩
    · go_upto_region 2 with fail
      go_cut [15] (fun s wx => s = .bool true ∧ wr = wx)
      case first =>
        by_cases h0 : 0 < a'.length
        · go_wp2
          go_meet
          case rel => exact ⟨rfl, rfl⟩
        · have h1 : 0 < b'.length := by omega
          go_wp2
          go_meet
          case rel => exact ⟨rfl, rfl⟩
      case rest =>
        obtain ⟨rfl, rfl⟩ := hcut
        go_upto_region 4 with fail
        go_cut [34] (fun s wx => s = .bool (takeA a' b') ∧ ∃ q, wx = (wr.alloc (.cells #[.int .i64 0, .int .i64 0] 40)).drewN q)
        case first =>
          have hxa' := hxa.below (hbr.trans ((Below.refl _ _).alloc (by exact hbr.size) (.cells #[.int .i64 0, .int .i64 0] 40)))
          have hxb' := hxb.below (hbr.trans ((Below.refl _ _).alloc (by exact hbr.size) (.cells #[.int .i64 0, .int .i64 0] 40)))
          rcases a' with _ | ⟨p, a''⟩ <;> rcases b' with _ | ⟨q, b''⟩
          · simp at hdone
          · have hb0 : ((b''.length : Int) + 1 == 0) = false := by rw [beq_eq_false_iff_ne]; omega
            have ha0 : decide ((0 : Int) < 0) = false := rfl
            go_wp2
            go_quiet (fail)
            go_wp2
            go_meet
            case rel => exact ⟨rfl, _, rfl⟩
          · go_wp2
            go_quiet (fail)
            go_wp2
            go_meet
            case rel => exact ⟨rfl, _, rfl⟩
          · obtain ⟨b1, o1, rfl, hp1, hp2⟩ := hxa'.head
            obtain ⟨b2, o2, rfl, hq1, hq2⟩ := hxb'.head
            have hb0 : ((b''.length : Int) + 1 == 0) = false := by rw [beq_eq_false_iff_ne]; omega
            by_cases hpq : p.1 ≤ q.1
            · go_wp2
              go_quiet (fail)
              go_wp2
              go_meet
              case rel => exact ⟨congrArg Value.bool (by simp [takeA, hpq]), _, rfl⟩
            · go_wp2
              go_quiet (fail)
              go_wp2
              go_meet
              case rel => exact ⟨congrArg Value.bool (by simp [takeA, hpq]), _, rfl⟩
        case rest =>
          obtain ⟨rfl, q, rfl⟩ := hcut
          go_upto_if 34 with fail
          go_cut [0, 1] (fun va vb wx => ∃ (a'' b'' : List (Int × Int)) (r : Int × Int) (ya yb : Option Addr), va = .slice ya a''.length a''.length ∧ vb = .slice yb b''.length b''.length ∧ RdP w ya a'' ∧ RdP w yb b'' ∧ Took a b out a'' b'' r ∧ a''.length + b''.length + 1 ≤ a'.length + b'.length ∧ ∃ q, wx = (wr.alloc (.cells #[.int .i64 r.1, .int .i64 r.2] 40)).drewN q)
          case first =>
            have hbx := hbr.trans ((Below.refl _ _).alloc (by exact hbr.size) (.cells #[.int .i64 0, .int .i64 0] 40))
            have hxa' := hxa.below hbx
            have hxb' := hxb.below hbx
            cases ht : takeA a' b' with
            | true =>
              obtain ⟨p, a'', rfl⟩ : ∃ p a'', a' = p :: a'' := by
                cases a' with
                | nil => cases b' with
                  | nil => simp at hdone
                  | cons q b'' => simp [takeA] at ht
                | cons p a'' => exact ⟨p, a'', rfl⟩
              have HT : Hid (Took a b out a'' b' p) := by
                cases b' with
                | nil => exact (unhide HI).takeA
                | cons q b'' => exact (unhide HI).takeAB (by simpa [takeA] using ht)
              obtain ⟨b1, o1, rfl, hp1, hp2⟩ := hxa'.head
              clear ht
              by_cases h1 : a''.length = 0
              · obtain rfl : a'' = [] := List.eq_nil_of_length_eq_zero h1
                go_wp2
                go_region
                go_wp2
                go_meet
                case rel => exact ⟨[], b', p, _, xb, rfl, rfl, RdP.nil _ _, hxb, unhide HT, by simp; omega, _, set_two _ _ _ _ _ _ _⟩
              · have h2 : 0 < a''.length := by omega
                go_wp2
                go_region
                go_wp2
                go_meet
                case rel => exact ⟨a'', b', p, _, xb, rfl, rfl, hxa.tail (fun _ => rfl), hxb, unhide HT, by simp; omega, _, set_two _ _ _ _ _ _ _⟩
            | false =>
              obtain ⟨p, b'', rfl⟩ : ∃ p b'', b' = p :: b'' := by
                cases b' with
                | nil => simp [takeA] at ht
                | cons p b'' => exact ⟨p, b'', rfl⟩
              have HT : Hid (Took a b out a' b'' p) := by
                cases a' with
                | nil => exact (unhide HI).takeB
                | cons q a'' => exact (unhide HI).takeBA (by simpa [takeA] using ht)
              obtain ⟨b1, o1, rfl, hp1, hp2⟩ := hxb'.head
              clear ht
              by_cases h1 : b''.length = 0
              · obtain rfl : b'' = [] := List.eq_nil_of_length_eq_zero h1
                go_wp2
                go_region
                go_wp2
                go_meet
                case rel => exact ⟨a', [], p, xa, _, rfl, rfl, hxa, RdP.nil _ _, unhide HT, by simp, _, set_two _ _ _ _ _ _ _⟩
              · have h2 : 0 < b''.length := by omega
                go_wp2
                go_region
                go_wp2
                go_meet
                case rel => exact ⟨a', b'', p, xa, _, rfl, rfl, hxa, hxb.tail (fun _ => rfl), unhide HT, by simp; omega, _, set_two _ _ _ _ _ _ _⟩
          case rest =>
            obtain ⟨a'', b'', r, ya, yb, rfl, rfl, hya, hyb, htook, hcnt, q2, rfl⟩ := hcut
            have HT := hide htook
            have hrok := htook.ok
            clear htook
            obtain ⟨hr0, hr1, hr2⟩ := hrok
            have hbs := hbr.size
            rcases List.eq_nil_or_concat out with rfl | ⟨ini, l, e⟩
            · have HF := hide ((unhide HT).follow (fun ini l e => by simp at e))
              obtain ⟨ao, co, rfl, hro, hlo, hno⟩ := own_pairs hown
              go_wp2
              go_quiet (fail)
              go_wp2_with (at_builtin; refine wpList_append_own _ rfl (.tmp 75) (.tmp 77) 34 rfl w.heap.size 40 i0 (.agg #[.int .i64 0, .int .i64 0]) 2 16 Try.underlying34 hi hz0 hz1 hz2 rfl (by decide) _ _ _ rfl (by exact ((hown.alloc _).alloc _)) ⟨wr.heap.size + 1, 0, none⟩ 1 1 [.int .i64 r.1, .int .i64 r.2] rfl rfl (two_new _ _ _ _ _ (by show wr.heap.size + 1 = (wr.alloc _).heap.size; simp)) (two_cell _ _) (by unfold maxLen; omega) (by omega) (by show w.heap.size ≤ ((wr.alloc _).alloc _).heap.size; simp; omega) ?_)
              intro v' w1 hown' hgrow _
              have hbw : Below w.heap.size w w1 := Below.grown ((below_drewN (hbr.alloc hbs _) _).alloc (by show w.heap.size ≤ (wr.alloc _).heap.size; simp; omega) _) hgrow (by show w.heap.size ≤ ((wr.alloc _).alloc _).heap.size; simp; omega) (fun x hx => (hown.lt x hx).1)
              clear hgrow hown hro hlo hno
              go_wp2
              go_roundw
              case rel => exact ⟨a'', b'', [] ++ [r], ya, yb, rfl, rfl, hya, hyb, (by simpa [cellsP] using hown'), unhide HF, by simp at hlen ⊢; omega, hbw⟩
              case measure => simp [lenV]; omega
            · obtain rfl : out = ini ++ [l] := by simpa using e
              clear e
              rcases hown.2 with ⟨_, h0⟩ | ⟨g, cap, cur, e, hg0, hheap, _⟩
              · simp at h0
              have hglt : g < wr.heap.size := (Array.getElem?_eq_some_iff.1 hheap).1
              rw [e] at hown
              have hol : (ini ++ [l]).length = ini.length + 1 := by simp
              have hcl : wr.cell? ⟨g, ini.length * 2 + 1, none⟩ = some (.int .i64 l.2) := by
                rw [hown.cellAt _ (by omega), cellsP_snd _ _ (by omega)]
                simp [List.getD]
              have hfr := hown.frozenAt (ini.length * 2 + 1)
              rw [hol] at e hown
              subst e
              clear hheap
              have hn1 : (0 : Int) ≤ (ini.length : Int) + 1 - 1 := by omega
              have hn2 : (ini.length : Int) + 1 - 1 < (ini.length : Int) + 1 := by omega
              have hw1 : IntKind.i64.wrap (r.1 - 1) = r.1 - 1 := IntWalk.i64_in _ (by omega)
              have hw2 : IntKind.i64.wrap ((ini.length : Int) + 1 - 1) = (ini.length : Int) := by rw [IntWalk.i64_in _ (by omega)]; omega
              have hd0 : decide ((0 : Int) < (ini.length : Int) + 1) = true := decide_eq_true (by omega)
              by_cases hext : r.1 - 1 ≤ l.2
              · have HF := hide ((unhide HT).extend hext)
                go_wp2
                go_quiet (fail)
                go_wp2
                go_region
                go_wp2
                go_roundw
                case rel =>
                  refine ⟨a'', b'', ini ++ [(l.1, max l.2 r.2)], ya, yb, rfl, rfl, hya, hyb, ?_, unhide HF, by simp at hlen ⊢; omega, ?_⟩
                  · have := ((hown.alloc (.cells #[.int .i64 r.1, .int .i64 r.2] 40)).stored (ini.length * 2 + 1) (.int .i64 (if l.2 < r.2 then r.2 else l.2))).1
                    rw [set_last] at this
                    rw [List.length_append]
                    exact this
                  · exact (below_drewN (hbr.alloc hbs _) _).setCell (p := ⟨g, ini.length * 2 + 1, none⟩) hg0 _
                case measure => simp [lenV]; omega
              · have HF := hide ((unhide HT).follow (fun ini' l' e => by
                  have := List.append_inj_right' e rfl
                  simp at this
                  subst this
                  omega))
                go_wp2
                go_quiet (fail)
                clear hcl hfr hn1 hn2 hw1 hw2 hd0
                go_wp2_with (at_builtin; refine wpList_append_own _ rfl (.tmp 75) (.tmp 77) 34 rfl w.heap.size 40 i0 (.agg #[.int .i64 0, .int .i64 0]) 2 16 Try.underlying34 hi hz0 hz1 hz2 rfl (by decide) _ _ _ rfl (by exact ((hown.alloc _).alloc _)) ⟨wr.heap.size + 1, 0, none⟩ 1 1 [.int .i64 r.1, .int .i64 r.2] rfl rfl (two_new _ _ _ _ _ (by show wr.heap.size + 1 = (wr.alloc _).heap.size; simp)) (two_cell _ _) (by unfold maxLen; omega) (by omega) (by show w.heap.size ≤ ((wr.alloc _).alloc _).heap.size; simp; omega) ?_)
                intro v' w1 hown' hgrow _
                have hbw : Below w.heap.size w w1 := Below.grown ((below_drewN (hbr.alloc hbs _) _).alloc (by show w.heap.size ≤ (wr.alloc _).heap.size; simp; omega) _) hgrow (by show w.heap.size ≤ ((wr.alloc _).alloc _).heap.size; simp; omega) (fun x hx => (hown.lt x hx).1)
                clear hgrow hown
                go_wp2
                go_roundw
                case rel =>
                  refine ⟨a'', b'', (ini ++ [l]) ++ [r], ya, yb, rfl, rfl, hya, hyb, ?_, unhide HF, by simp at hlen ⊢; omega, hbw⟩
                  rw [cellsP_append, List.length_append, hol]
                  exact hown'
                case measure => simp [lenV]; omega
end Go.Proofs.Qxb6617949a
