/- THE WALK OF 'ZZUnion'. -/
import Derived.Test.Qxb6617949aUnion
namespace Go.Proofs.Qxb6617949a
open Go.RowKit Plain
set_option linter.unusedSimpArgs false
set_option linter.unusedVariables false

set_option maxHeartbeats 400000 in
theorem zzunion_any (af al bf bl : Option Addr) (na nb c1 c2 c3 c4 : Nat) (a b : List (Int × Int)) (w : World) (hna : na ≤ 524288) (hnb : nb ≤ 524288) (hla : a.length = na) (hlb : b.length = nb) (hva : Val a) (hvb : Val b) (hra : Two w af al a) (hrb : Two w bf bl b) :
    Calls Try.prog 10 #[.slice af na c1, .slice al na c2, .slice bf nb c3, .slice bl nb c4] w fun e w' => ∃ (g1 g2 : Nat) (o : List (Int × Int)), e = .returned (.tuple #[.slice (some ⟨g1, 0, none⟩) o.length o.length, .slice (some ⟨g2, 0, none⟩) o.length o.length]) ∧ Two w' (some ⟨g1, 0, none⟩) (some ⟨g2, 0, none⟩) o ∧ Val o ∧ (∀ x, Mem o x ↔ Mem a x ∨ Mem b x) ∧ o.length ≤ na + nb ∧ Below w.heap.size w w' := by
  go_enter Try.func10, Try.ntmps10
  go_wp2_with fail
  refine (make_any af al na c1 c2 a w (by omega) hla hra).mono ?_
  rintro e w1 ⟨g1, rfl, hr1, hb1⟩
  have hrb1 := hrb.below hb1
  go_wp2_with fail
  refine (make_any bf bl nb c3 c4 b w1 (by omega) hlb hrb1).mono ?_
  rintro e w2 ⟨g2, rfl, hr2, hb2⟩
  have hr1' := hr1.below hb2
  have hb := hb1.trans (hb2.mono hb1.size)
  clear hb1 hb2 hr1 hrb1
  go_wp2_with fail
  refine (union_any (some ⟨g1, 0, none⟩) (some ⟨g2, 0, none⟩) na nb a b w2 (by omega) (by omega) hla hlb hva hvb hr1' hr2).mono ?_
  rintro e w3 ⟨a3, c3', o, rfl, hr3, hvo, hmo, hlo, hb3⟩
  have hb' := hb.trans (hb3.mono hb.size)
  have HM := hide hmo
  clear hb hb3 hr1' hr2 hmo
  go_wp2_with fail
  refine (split_any a3 o.length c3' o w3 (by omega) rfl hr3).mono ?_
  rintro e w4 ⟨g3, g4, rfl, hr4, hb4⟩
  go_wp2
  go_ret2
  exact ⟨g3, g4, o, rfl, hr4, hvo, unhide HM, hlo, hb'.trans (hb4.mono hb'.size)⟩
end Go.Proofs.Qxb6617949a
