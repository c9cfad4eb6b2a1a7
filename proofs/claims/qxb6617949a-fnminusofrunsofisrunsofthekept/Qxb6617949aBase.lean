/- WHAT ALL THE WALKS OF THIS SEAT SHARE: how a slice of integers lies in memory; the copy that a law makes first. Over any program. -/
import Derived.WalkKit
import Derived.Below
import Derived.WalkSmall
import Derived.Laws.CopyOwn
import Derived.OpenShut
namespace Go.Proofs.Qxb6617949a
open Go.RowKit
set_option linter.unusedSimpArgs false
set_option linter.unusedVariables false

/-- A slice's numbers as they lie in memory. -/
def Rd (w : World) (a : Option Addr) (zs : List Int) : Prop :=
  ∀ i, i < zs.length → ∃ b off, a = some ⟨b, off, none⟩ ∧ w.cell? ⟨b, off + i, none⟩ = some (.int .i64 (zs.getD i 0))

theorem Rd.at {w : World} {a : Option Addr} {zs : List Int} (h : Rd w a zs) (h0 : 0 < zs.length) :
    ∃ b off, a = some ⟨b, off, none⟩ ∧ ∀ i, i < zs.length → w.cell? ⟨b, off + i, none⟩ = some (.int .i64 (zs.getD i 0)) := by
  obtain ⟨b, off, rfl, _⟩ := h 0 h0
  refine ⟨b, off, rfl, fun i hi => ?_⟩
  obtain ⟨b', off', e, hc⟩ := h i hi
  simp at e
  obtain ⟨rfl, rfl⟩ := e
  exact hc

theorem Rd.below {w w' : World} {a : Option Addr} {zs : List Int} (h : Rd w a zs) (hb : Below w.heap.size w w') : Rd w' a zs := by
  intro i hi
  obtain ⟨b, off, e, hc⟩ := h i hi
  refine ⟨b, off, e, ?_⟩
  rw [hb.cell (p := ⟨b, off + i, none⟩) (World.block_lt_of_cell? _ _ hc)]
  exact hc

theorem Rd.take {w : World} {a : Option Addr} {zs : List Int} (h : Rd w a zs) (k : Nat) : Rd w a (zs.take k) := by
  intro i hi
  simp at hi
  obtain ⟨b, off, e, hc⟩ := h i (by omega)
  refine ⟨b, off, e, ?_⟩
  rw [hc]
  simp [List.getD, List.getElem?_take, show i < k by omega]

/-- 's[k:]': where the cut stands at the end of the room nothing is left. -/
theorem Rd.drop {w : World} {b off : Nat} {zs : List Int} {a' : Option Addr} (h : Rd w (some ⟨b, off, none⟩) zs) (k : Nat) (ha : k < zs.length → a' = some ⟨b, off + k, none⟩) : Rd w a' (zs.drop k) := by
  intro i hi
  simp at hi
  obtain ⟨b', off', e, hc⟩ := h (k + i) (by omega)
  simp at e
  obtain ⟨rfl, rfl⟩ := e
  refine ⟨b, off + k, ha (by omega), ?_⟩
  rw [show off + k + i = off + (k + i) from by omega, hc]
  simp [List.getD, List.getElem?_drop]

theorem Rd.nil (w : World) (a : Option Addr) : Rd w a [] := fun i hi => by simp at hi

/-- WHAT THE WALK IS TOLD OF A SLICE OF INTEGERS THAT CAME IN: it is nil; or it leads to a row of 'cap' cells, the numbers 'zs' (the first 'len' are its elements, the rest its spare room), each fitting its kind. -/
def IsRow (k : IntKind) (w : World) (a : Option Addr) (len cap : Nat) (zs : List Int) : Prop :=
  (a = none ∧ len = 0 ∧ cap = 0 ∧ zs = []) ∨
  ∃ x, a = some x ∧ len ≤ cap ∧ cap ≤ maxLen ∧ zs.length = cap ∧ (∀ i, i < zs.length → w.cell? (x.add i) = some (.int k (zs.getD i 0))) ∧ ∀ n ∈ zs, (Lit.int k n).wf = true

theorem IsRow.rd {w : World} {a : Option Addr} {len cap : Nat} {zs : List Int} (h : IsRow .i64 w a len cap zs) :
    len ≤ maxLen ∧ (zs.take len).length = len ∧ Rd w a (zs.take len) ∧ (a = none → len = 0 ∧ cap = 0) ∧ ∀ n ∈ zs.take len, (Lit.int .i64 n).wf = true := by
  rcases h with ⟨rfl, rfl, rfl, rfl⟩ | ⟨x, rfl, hl, hm, hz, hc, hw⟩
  · exact ⟨Nat.zero_le _, rfl, Rd.nil _ _, fun _ => ⟨rfl, rfl⟩, fun n hn => by simp at hn⟩
  · refine ⟨Nat.le_trans hl hm, by simp; omega, Rd.take (fun i hi => ?_) len, fun h => by simp at h, fun n hn => hw n (List.mem_of_mem_take hn)⟩
    obtain ⟨b, off, spot⟩ := x
    have hspot : spot = none := by simpa [Addr.add] using World.cell?_spot (hc 0 (by omega))
    subst hspot
    exact ⟨b, off, rfl, by have := hc i hi; rwa [Addr.add_lit] at this⟩

theorem hide {p : Prop} (h : p) : Hid p := h
theorem unhide {p : Prop} (h : Hid p) : p := h

theorem ret_int {k : IntKind} {a b : Int} (h : a = b) : Ending.returned (.int k a) = .returned (.int k b) := by rw [h]
theorem ret_bool {a b : Bool} (h : a = b) : Ending.returned (.bool a) = .returned (.bool b) := by rw [h]

theorem below_grown {w w1 : World} (hg : w.grownBy w1 none) : Below w.heap.size w w1 :=
  (Below.refl _ _).grown hg (Nat.le_refl _) (fun k hk => by cases hk)

/-- A row of the call's own that is full: its block. -/
theorem own_block {w : World} {base : Nat} {e : TypeId} {g n sz : Nat} {xs : List Value} (h : w.ownsRow base e sz (.slice (some ⟨g, 0, none⟩) n n) n xs) : w.heap[g]? = some (.cells xs.toArray e (0, 0)) := by
  rcases h.2 with ⟨h', _⟩ | ⟨g', cap', cur, h', _, hg, _, _, hs, htake⟩
  · simp at h'
  · simp only [Value.slice.injEq, Option.some.injEq, Addr.mk.injEq, and_true, true_and] at h'
    obtain ⟨rfl, rfl⟩ := h'
    rw [hg, ← htake, List.take_of_length_le (by simp [hs])]

theorem rd_block {w : World} {g : Nat} {e : TypeId} {zs : List Int} (h : w.heap[g]? = some (.cells (zs.map (Value.int .i64)).toArray e (0, 0))) : Rd w (some ⟨g, 0, none⟩) zs := by
  intro i hi
  refine ⟨g, 0, rfl, ?_⟩
  simp [World.cell?, h, hi, List.getD]

theorem splice_all {α : Type} (cur cs : List α) (h : cs.length = cur.length) : splice cur 0 cs = cs := by
  simp [splice, h]

/-- 'copy(zzc, s)' behind 'zzc := make([]T, len(s))'. -/
theorem wpList_copy_first {P : Program} {w : World} {ops : Array Oper} {rest : List Oper} {o : Oper} {a : Act} {Q : Exit → Act → World → Prop} (hgd : o.guard = none) (d s : Operand) (dT : TypeId)
    (ho : o.op = .call { callee := .builtin .copy, args := #[d, s], argTypes := #[dT, dT] }) (elem : TypeId) (hu : P.underlying dT = some (.slice elem)) (hsz : (P.info? elem).map (·.size) = some 1)
    (w0 : World) (n cap : Nat) (x : Addr) (hd : a.eval d = .slice (some ⟨w0.heap.size, 0, none⟩) n n) (hs : a.eval s = .slice (some x) n cap) (zs : List Int) (hz : zs.length = n) (hr : Rd w0 (some x) zs)
    (xs : List Value) (hown : w.ownsRow w0.heap.size elem 1 (.slice (some ⟨w0.heap.size, 0, none⟩) n n) n xs) (hb : Below w0.heap.size w0 w)
    (h : ∀ w', Rd w' (some ⟨w0.heap.size, 0, none⟩) zs → Below w0.heap.size w0 w' → wpList P ops Q rest (a.put o.dst (goInt n)) w') :
    wpList P ops Q (o :: rest) a w := by
  have hr1 := hr.below hb
  have hx : xs.length = n := by simpa using hown.1
  refine wpList_copy_splice hgd d s dT dT ho elem hu hsz _ _ _ _ _ _ hd hs w0.heap.size 0 xs elem (own_block hown) (zs.map (Value.int .i64)) (by simp [hz, Nat.min_def]) ?_ (by simp [hz, hx]) (ints_oneCell _ _) w0.heap.size w0 hb (Nat.le_refl _) ?_
  · intro h0
    obtain ⟨b, off, e, hc⟩ := hr1.at (by simpa using h0)
    refine ⟨rfl, x, rfl, fun j v hj => ?_⟩
    have hj' : j < zs.length := by simpa using (List.getElem?_eq_some_iff.1 hj).1
    have := hc j hj'
    obtain rfl := Option.some.inj e
    simp [hj', List.getD] at hj this
    rw [Addr.add_lit, this, hj]
  · intro w' HG hB
    have e2 := HG.out
    rw [splice_all _ _ (by simp [hz, hx])] at e2
    have := h w' (rd_block e2) hB
    simpa [hz] using this

theorem wf_at {zs : List Int} (h : ∀ z ∈ zs, (Lit.int .i64 z).wf = true) {k : Nat} (hk : k < zs.length) : -9223372036854775808 ≤ zs.getD k 0 ∧ zs.getD k 0 ≤ 9223372036854775807 := by
  have := h zs[k] (List.getElem_mem hk)
  simp [List.getD, hk]
  exact bounds_i64 this

theorem zip_getD (zf zl : List Int) (j : Nat) (h1 : j < zf.length) (h2 : j < zl.length) : (zf.zip zl).getD j (0, 0) = (zf.getD j 0, zl.getD j 0) := by
  have hj : j < (zf.zip zl).length := by simp; omega
  rw [List.getD, List.getElem?_eq_getElem hj, List.getElem_zip]
  simp [List.getD, h1, h2]

end Go.Proofs.Qxb6617949a
