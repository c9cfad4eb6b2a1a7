/- 'zzValid' AT WHATEVER TWO SLICES. -/
import Derived.Test.Qxb6617949aIn
namespace Go.Proofs.Qxb6617949a
open Go.RowKit Plain
set_option linter.unusedSimpArgs false
set_option linter.unusedVariables false

theorem two_zip {w : World} {af al : Option Addr} {zf zl : List Int} (hl : zf.length = zl.length) (hf : Rd w af zf) (hr : Rd w al zl) : Two w af al (zf.zip zl) := by
  refine ⟨?_, ?_⟩
  · rw [List.map_fst_zip (by omega)]; exact hf
  · rw [List.map_snd_zip (by omega)]; exact hr

theorem valid_any (af al : Option Addr) (n0 n1 cf cl : Nat) (zf zl : List Int) (w : World) (hn0 : n0 ≤ 1048576) (hn1 : n1 ≤ 1048576) (h0 : zf.length = n0) (h1 : zl.length = n1) (hf : Rd w af zf) (hr : Rd w al zl)
    (hwf : ∀ z ∈ zf, (Lit.int .i64 z).wf = true) (hwl : ∀ z ∈ zl, (Lit.int .i64 z).wf = true) :
    Calls Try.prog 9 #[.slice af n0 cf, .slice al n1 cl] w fun e w' => ∃ b : Bool, e = .returned (.bool b) ∧ (b = true ↔ n0 = n1 ∧ Val (zf.zip zl)) ∧ Below w.heap.size w w' := by
  by_cases he : n0 = n1
  · subst he
    have hpl : (zf.zip zl).length = n0 := by simp; omega
    have hat : ∀ i, i < n0 → at' (zf.zip zl) i = (zf.getD i 0, zl.getD i 0) := fun i hi => zip_getD zf zl i (by omega) (by omega)
    refine (valid_even af al n0 cf cl (zf.zip zl) w hn0 hpl (two_zip (by omega) hf hr) (fun i hi => ?_)).mono ?_
    · rw [hat i hi]; exact wf_at hwf (by omega)
    · rintro e w' ⟨b, rfl, hb, hbel⟩
      refine ⟨b, rfl, ?_, hbel⟩
      rw [hb]
      constructor
      · intro h
        rw [← hpl] at h
        exact ⟨rfl, val_of_vali h (fun i hi => by rw [hat i (by omega)]; exact (wf_at hwl (by omega)).2)⟩
      · rintro ⟨_, h⟩
        rw [← hpl]
        exact vali_of_val h
  · refine (valid_uneven af al n0 n1 cf cl w hn0 hn1 he).mono ?_
    rintro e w' ⟨rfl, rfl⟩
    exact ⟨false, rfl, ⟨fun h => (by cases h), fun h => absurd h.1 he⟩, Below.refl _ _⟩

theorem valid_yes (af al : Option Addr) (n cf cl : Nat) (ps : List (Int × Int)) (w : World) (hn : n ≤ 1048576) (hl : ps.length = n) (hr : Two w af al ps) (hv : Val ps) :
    Calls Try.prog 9 #[.slice af n cf, .slice al n cl] w fun e w' => e = .returned (.bool true) ∧ Below w.heap.size w w' := by
  refine (valid_even af al n cf cl ps w hn hl hr (fun i hi => ?_)).mono ?_
  · have := val_ok hv (i := i) (by omega)
    unfold Ok at this
    omega
  · rintro e w' ⟨b, rfl, hb, hbel⟩
    have : b = true := hb.2 (by rw [← hl]; exact vali_of_val hv)
    subst this
    exact ⟨rfl, hbel⟩
end Go.Proofs.Qxb6617949a
