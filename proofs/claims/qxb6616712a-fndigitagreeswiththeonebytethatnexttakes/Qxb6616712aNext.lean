/- THE WALKS OF 'next', 'digit', 'ZZnext', 'ZZdigit'. -/
import Derived.Test.Qxb6616712aRows
import Derived.WalkKit
import Derived.PlainAid
import Derived.Deep.QuietTactic
import Derived.BigQuiet
import Derived.Deep.RegionWith
import Derived.Deep.DeepCutAuto
import Derived.WalkSpells
namespace Go.Proofs.Qxb6616712a
open Go.RowKit Go.PlainAid
set_option linter.unusedSimpArgs false
set_option linter.unusedVariables false

theorem Grown.trans {a b c : World} (h : Grown a b) (k : Grown b c) : Grown a c :=
  ⟨World.keptBut_trans h.1 k.1, fun x => (k.2.1 x).trans (h.2.1 x), Nat.le_trans h.2.2 k.2.2⟩

set_option maxRecDepth 100000 in
set_option maxHeartbeats 1600000 in
theorem next_end (b : Nat) (s : ByteArray) (p c : Int) (w : World) (h0 : w.cell? ⟨b, 0, none⟩ = some (.string s)) (h1 : w.cell? ⟨b, 1, none⟩ = some (.int .i64 p)) (hp : (s.size : Int) ≤ p) :
    Calls Try.prog 7 #[.pointer (some ⟨b, 0, none⟩), .int .u8 c] w fun e w' => e = .returned (.bool false) ∧ ∃ q, w' = w.drewN q := by
  have hd : decide (p < (s.size : Int)) = false := by simp; omega
  go_enter Try.func7, Try.ntmps7
  go_wp2
  go_quiet (fail)
  go_wp2
  go_ret
  exact ⟨rfl, _, rfl⟩

set_option maxRecDepth 100000 in
set_option maxHeartbeats 1600000 in
theorem next_hit (b : Nat) (s : ByteArray) (n : Nat) (c : Int) (w : World) (h0 : w.cell? ⟨b, 0, none⟩ = some (.string s)) (h1 : w.cell? ⟨b, 1, none⟩ = some (.int .i64 n)) (hf : w.frozen? ⟨b, 1, none⟩ = false) (hs : s.size ≤ 65536) (hp : n < s.size) (hc : bt s n = c) :
    Calls Try.prog 7 #[.pointer (some ⟨b, 0, none⟩), .int .u8 c] w fun e w' => e = .returned (.bool true) ∧ ∃ q, w' = (w.drewN q).setCell ⟨b, 1, none⟩ (.int .i64 (n + 1 : Nat)) := by
  have hb := get_bt s
  have hd : decide ((n : Int) < (s.size : Int)) = true := by simp; omega
  have he : (bt s n == c) = true := by simp [hc]
  go_enter Try.func7, Try.ntmps7
  go_wp2
  go_quiet (fail)
  go_wp2
  go_ret
  exact ⟨rfl, _, rfl⟩

set_option maxRecDepth 100000 in
set_option maxHeartbeats 1600000 in
theorem next_miss (b : Nat) (s : ByteArray) (n : Nat) (c : Int) (w : World) (h0 : w.cell? ⟨b, 0, none⟩ = some (.string s)) (h1 : w.cell? ⟨b, 1, none⟩ = some (.int .i64 n)) (hs : s.size ≤ 65536) (hp : n < s.size) (hc : ¬ bt s n = c) :
    Calls Try.prog 7 #[.pointer (some ⟨b, 0, none⟩), .int .u8 c] w fun e w' => e = .returned (.bool false) ∧ ∃ q, w' = w.drewN q := by
  have hb := get_bt s
  have hd : decide ((n : Int) < (s.size : Int)) = true := by simp; omega
  have he : (bt s n == c) = false := by simp [hc]
  go_enter Try.func7, Try.ntmps7
  go_wp2
  go_quiet (fail)
  go_wp2
  go_ret
  exact ⟨rfl, _, rfl⟩

/-- Is the byte at the place one of '0'..'9'? -/
def dig (s : ByteArray) (p : Int) : Bool := decide (p < (s.size : Int)) && (decide (48 ≤ bt s p.toNat) && decide (bt s p.toNat ≤ 57))
/-- Does 'next' take c? -/
def hit (s : ByteArray) (p c : Int) : Bool := decide (p < (s.size : Int)) && (bt s p.toNat == c)

set_option maxRecDepth 100000 in
set_option maxHeartbeats 1600000 in
theorem digit_any (b : Nat) (s : ByteArray) (p : Int) (w : World) (h0 : w.cell? ⟨b, 0, none⟩ = some (.string s)) (h1 : w.cell? ⟨b, 1, none⟩ = some (.int .i64 p)) (hs : s.size ≤ 65536) (hp : 0 ≤ p) :
    Calls Try.prog 8 #[.pointer (some ⟨b, 0, none⟩)] w fun e w' => e = .returned (.bool (dig s p)) ∧ ∃ q, w' = w.drewN q := by
  by_cases hlt : p < (s.size : Int)
  · obtain ⟨n, rfl⟩ : ∃ n : Nat, p = n := ⟨p.toNat, by omega⟩
    have hn : n < s.size := by omega
    have hb := get_bt s
    have hd : decide ((n : Int) < (s.size : Int)) = true := by simp; omega
    by_cases h2 : 48 ≤ bt s n
    · have e : dig s (n : Int) = decide (bt s n ≤ 57) := by simp [dig, hn, h2]
      rw [e]
      clear e
      have h3 : decide (48 ≤ bt s n) = true := by simp [h2]
      go_enter Try.func8, Try.ntmps8
      go_wp2
      go_quiet (fail)
      go_wp2
      go_ret
      exact ⟨rfl, _, rfl⟩
    · have e : dig s (n : Int) = false := by simp [dig, h2]
      rw [e]
      clear e
      have h3 : decide (48 ≤ bt s n) = false := by simp [h2]
      go_enter Try.func8, Try.ntmps8
      go_wp2
      go_quiet (fail)
      go_wp2
      go_ret
      exact ⟨rfl, _, rfl⟩
  · have e : dig s p = false := by simp [dig, hlt]
    rw [e]
    clear e
    have hd : decide (p < (s.size : Int)) = false := by simp [hlt]
    go_enter Try.func8, Try.ntmps8
    go_wp2
    go_quiet (fail)
    go_wp2
    go_ret
    exact ⟨rfl, _, rfl⟩

set_option maxRecDepth 100000 in
set_option maxHeartbeats 1600000 in
theorem zzdigit_any (s : ByteArray) (p d : Int) (w : World) (hs : s.size ≤ 65536) (hp : 0 ≤ p) :
    Calls Try.prog 6 #[.string s, .int .i64 p, .int .i64 d] w fun e w' => e = .returned (.bool (dig s p)) ∧ Grown w w' := by
  go_enter Try.func6, Try.ntmps6
  go_wp2_with fail
  refine (digit_any _ s p _ (by simp) (by simp) hs hp).mono ?_
  rintro e w' ⟨rfl, q, rfl⟩
  go_wp2
  go_ret
  exact ⟨rfl, Grown.alloc (Grown.refl w) _ _⟩

set_option maxRecDepth 100000 in
set_option maxHeartbeats 1600000 in
theorem zznext_any (s : ByteArray) (p d c : Int) (w : World) (hs : s.size ≤ 65536) (hp : 0 ≤ p) :
    Calls Try.prog 5 #[.string s, .int .i64 p, .int .i64 d, .int .u8 c] w fun e w' => e = .returned (.tuple #[.int .i64 (if hit s p c then p + 1 else p), .bool (hit s p c)]) ∧ Grown w w' := by
  by_cases hlt : p < (s.size : Int)
  · obtain ⟨n, rfl⟩ : ∃ n : Nat, p = n := ⟨p.toNat, by omega⟩
    have hn : n < s.size := by omega
    by_cases hc : bt s n = c
    · have e : hit s (n : Int) c = true := by simp [hit, hn, hc]
      rw [e]
      clear e
      go_enter Try.func5, Try.ntmps5
      go_wp2_with fail
      refine (next_hit _ s n c _ (by simp) (by simp) (by simp) hs hn hc).mono ?_
      rintro e w' ⟨rfl, q, rfl⟩
      go_wp2
      go_ret2
      exact ⟨by simp, Grown.setCell (Grown.alloc (Grown.refl w) _ _) (by simp) _⟩
    · have e : hit s (n : Int) c = false := by simp [hit, hn, hc]
      rw [e]
      clear e
      go_enter Try.func5, Try.ntmps5
      go_wp2_with fail
      refine (next_miss _ s n c _ (by simp) (by simp) hs hn hc).mono ?_
      rintro e w' ⟨rfl, q, rfl⟩
      go_wp2
      go_ret2
      exact ⟨by simp, Grown.alloc (Grown.refl w) _ _⟩
  · have e : hit s p c = false := by simp [hit, hlt]
    rw [e]
    clear e
    go_enter Try.func5, Try.ntmps5
    go_wp2_with fail
    refine (next_end _ s p c _ (by simp) (by simp) (by omega)).mono ?_
    rintro e w' ⟨rfl, q, rfl⟩
    go_wp2
    go_ret2
    exact ⟨by simp, Grown.alloc (Grown.refl w) _ _⟩
end Go.Proofs.Qxb6616712a
