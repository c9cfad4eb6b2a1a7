/- AN append ONTO A ROW OF THE CALL's OWN AS ONE STEP OF A REGION THAT DRAWS, AND WHERE THE ROW LIES BEHIND IT. Over any program. -/
import Derived.Test.Qxb6617949aPairs
namespace Go.Proofs.Qxb6617949a
open Go.RowKit
set_option linter.unusedSimpArgs false
set_option linter.unusedVariables false

theorem run_append_lies {P : Program} (w : World) (base : Nat) (t ty e : TypeId) (i : TypeInfo) (z : Value) (size bytes : Nat) (h1 : P.underlying t = some (.slice e)) (h2 : P.info? e = some i) (h3 : i.zero = some z) (h4 : i.size = size) (h5 : i.bytes = bytes) (h6 : z.cells.size = size) (h7 : 0 < size)
    (v : Value) (n : Nat) (xs : List Value) (hown : w.ownsRow base e size v n xs)
    (ad : Addr) (m c : Nat) (news : List Value) (hn : news.length = m * size) (hc : ∀ j u, news[j]? = some u → w.cell? (ad.add j) = some u) (h1c : ∀ u ∈ news, u.oneCell' = true)
    (hm : 0 < m) (b1 : n + m ≤ maxLen) (b2 : (n + m) * bytes ≤ 140737488355328) (hbase : base ≤ w.heap.size) :
    ∃ v' w', (Builtin.append_ #[t, t] ty #[v, .slice (some ad) m c]).run P w = .ok v' w' ∧ w'.ownsRow base e size v' (n + m) (xs ++ news) ∧ w.grownBy w' v.ownBlock ∧ Lies w v v' := by
  rcases hown.2 with ⟨rfl, rfl⟩ | ⟨g, cap, cur, rfl, hb, hg, hcap, hmax, hsz, htake⟩
  · obtain rfl : xs = [] := List.eq_nil_of_length_eq_zero (by simpa using hown.1)
    obtain ⟨v', w', hrun, r1, r2, _⟩ := run_append_own (P := P) w w.heap.size t ty e i z size bytes h1 h2 h3 h4 h5 h6 h7 (.slice none 0 0) 0 [] (World.ownsRow_nil w _ e size) ad m c news hn hc h1c b1 b2 (Nat.le_refl _)
    exact ⟨v', w', hrun, ownsRow_mono r1 hbase, grownBy_any r2, .inr fun k hk => (r1.lt k hk).1⟩
  · by_cases hf : n + m ≤ cap
    · obtain ⟨w', hrun, r1, r2⟩ := run_append_fits (P := P) w base t ty e i size h1 h2 h4 g n cap xs hown ad m c news hn hc h1c hf
      exact ⟨_, w', hrun, r1, r2, .inl rfl⟩
    · obtain ⟨v', w', hrun, r1, r2⟩ := run_append_arg_grows (P := P) w t ty e i z size bytes h1 h2 h3 h4 h5 h6 h7 ⟨g, 0, none⟩ n cap xs hown.1 (hown.cells (g := g) rfl) ad m c news hn hc (by omega) b1 b2
      exact ⟨v', w', hrun, ownsRow_mono r1 hbase, grownBy_any r2, .inr fun k hk => (r1.lt k hk).1⟩

theorem step_append_lies {P : Program} {ops : Array Oper} {o : Oper} {a : Act} {w : World} {K : Act → World → Prop} {Q : Exit → Act → World → Prop} {E : Prop} (hgd : o.guard = none) (s x : Operand) (t : TypeId)
    (ho : o.op = Op.call { callee := Callee.builtin Builtin.append, args := #[s, x], argTypes := #[t, t] })
    (base : Nat) (e : TypeId) (i : TypeInfo) (z : Value) (size bytes : Nat) (h1 : P.underlying t = some (.slice e)) (h2 : P.info? e = some i) (h3 : i.zero = some z) (h4 : i.size = size) (h5 : i.bytes = bytes) (h6 : z.cells.size = size) (h7 : 0 < size)
    (v : Value) (n : Nat) (xs : List Value) (hs : a.eval s = v) (hown : w.ownsRow base e size v n xs)
    (ad : Addr) (m c : Nat) (news : List Value) (hx : a.eval x = .slice (some ad) m c) (hn : news.length = m * size) (hc : ∀ j u, news[j]? = some u → w.cell? (ad.add j) = some u) (h1c : ∀ u ∈ news, u.oneCell' = true)
    (hm : 0 < m) (b1 : n + m ≤ maxLen) (b2 : (n + m) * bytes ≤ 140737488355328) (hbase : base ≤ w.heap.size)
    (h : ∀ v' w', w'.ownsRow base e size v' (n + m) (xs ++ news) → w.grownBy w' v.ownBlock → Lies w v v' → K (a.put o.dst v') w') :
    if Region.wanted o (yielded ops a.tmps) = true then Oper.wp P o a w K Q else E := by
  have hw : Region.wanted o (yielded ops a.tmps) = true := by simp [Region.wanted, hgd]
  rw [if_pos hw]
  obtain ⟨v', w', hrun, r1, r2, r3⟩ := run_append_lies (P := P) w base t o.type e i z size bytes h1 h2 h3 h4 h5 h6 h7 v n xs hown ad m c news hn hc h1c hm b1 b2 hbase
  unfold Oper.wp
  simp [execOp, ho, resolve, invoke, builtin, hs, hx, hrun, Result.andThen]
  exact h v' w' r1 r2 r3

/-- Behind an append onto v in a world X that is wr with one block more (and draws), while a block Bk of the call's own is looked at later. -/
theorem after_step {w wr X w1 : World} {B Bk : Nat} {A C : Obj} {e : TypeId} {sz n : Nat} {v v' : Value} {xs : List Value} (hX : X.heap = (wr.alloc C).heap) (hX2 : X.os = wr.os ∧ X.tape = wr.tape ∧ X.output = wr.output)
    (hown : wr.ownsRow B e sz v n xs) (hb : Below B w wr) (hB : B ≤ wr.heap.size) (hblk : wr.heap[Bk]? = some A) (hap : v.ownBlock ≠ some Bk) (hg : X.grownBy w1 v.ownBlock) (hl : Lies X v v') :
    w1.heap[Bk]? = some A ∧ v'.ownBlock ≠ some Bk ∧ Below B w w1 := by
  have hlt : Bk < wr.heap.size := lt_of_block hblk
  have hXs : X.heap.size = wr.heap.size + 1 := by rw [hX]; simp
  refine ⟨?_, ?_, ?_⟩
  · rw [hg.block Bk (by omega) (fun h => hap h.symm), hX, Below.heap_alloc _ _ _ hlt]; exact hblk
  · rcases hl with h | h
    · rw [h]; exact hap
    · intro h'; have := h Bk h'; omega
  · have h1 := hb.alloc hB C
    have h2 : Below B w X := ⟨hX2.1.trans h1.os, hX2.2.1.trans h1.tape, hX2.2.2.trans h1.output, by rw [hX]; exact h1.size, fun k hk => by rw [hX]; exact h1.block k hk⟩
    exact h2.grown hg (by omega) (fun k hk => (hown.lt k hk).1)

end Go.Proofs.Qxb6617949a
