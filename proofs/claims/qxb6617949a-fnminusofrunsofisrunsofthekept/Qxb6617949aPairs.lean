/- A SLICE OF PAIRS OF INTEGERS (a struct of two int64 fields) IN MEMORY; append laws that say where the row lies behind them. Over any program. -/
import Derived.Test.Qxb6617949aBase
import Derived.ArgAppend
import Derived.Deep.RegionLaw
import Derived.Deep.OwnRows
namespace Go.Proofs.Qxb6617949a
open Go.RowKit
set_option linter.unusedSimpArgs false
set_option linter.unusedVariables false

/-- The cells of a row of pairs. -/
def cellsP : List (Int × Int) → List Value
  | [] => []
  | p :: ps => .int .i64 p.1 :: .int .i64 p.2 :: cellsP ps

theorem cellsP_length (ps : List (Int × Int)) : (cellsP ps).length = ps.length * 2 := by
  induction ps with
  | nil => rfl
  | cons p ps ih => simp [cellsP, ih]; omega

theorem cellsP_append (ps qs : List (Int × Int)) : cellsP (ps ++ qs) = cellsP ps ++ cellsP qs := by
  induction ps with
  | nil => rfl
  | cons p ps ih => simp [cellsP, ih]

theorem cellsP_one (p : Int × Int) : cellsP [p] = [.int .i64 p.1, .int .i64 p.2] := rfl

theorem cellsP_fst (ps : List (Int × Int)) (i : Nat) (h : i < ps.length) : (cellsP ps)[i * 2]? = some (.int .i64 (ps.getD i (0, 0)).1) := by
  induction ps generalizing i with
  | nil => simp at h
  | cons p ps ih =>
    cases i with
    | zero => simp [cellsP]
    | succ i =>
      have := ih i (by simpa using h)
      simp only [cellsP, show (i + 1) * 2 = i * 2 + 1 + 1 from by omega, List.getElem?_cons_succ]
      rw [this]; simp [List.getD]

theorem cellsP_snd (ps : List (Int × Int)) (i : Nat) (h : i < ps.length) : (cellsP ps)[i * 2 + 1]? = some (.int .i64 (ps.getD i (0, 0)).2) := by
  induction ps generalizing i with
  | nil => simp at h
  | cons p ps ih =>
    cases i with
    | zero => simp [cellsP]
    | succ i =>
      have := ih i (by simpa using h)
      simp only [cellsP, show (i + 1) * 2 + 1 = i * 2 + 1 + 1 + 1 from by omega, List.getElem?_cons_succ]
      rw [this]; simp [List.getD]

theorem cellsP_drop (ps : List (Int × Int)) (k : Nat) : cellsP (ps.drop k) = (cellsP ps).drop (k * 2) := by
  induction ps generalizing k with
  | nil => simp [cellsP]
  | cons p ps ih =>
    cases k with
    | zero => simp
    | succ k => simp [cellsP, ih, show (k + 1) * 2 = k * 2 + 1 + 1 from by omega]

theorem cellsP_take (ps : List (Int × Int)) (k : Nat) : cellsP (ps.take k) = (cellsP ps).take (k * 2) := by
  induction ps generalizing k with
  | nil => simp [cellsP]
  | cons p ps ih =>
    cases k with
    | zero => simp [cellsP]
    | succ k => simp [cellsP, ih, show (k + 1) * 2 = k * 2 + 1 + 1 from by omega]

theorem cellsP_one_cell (ps : List (Int × Int)) : ∀ u ∈ cellsP ps, u.oneCell' = true := by
  induction ps with
  | nil => intro u hu; simp [cellsP] at hu
  | cons p ps ih =>
    intro u hu
    simp only [cellsP, List.mem_cons] at hu
    rcases hu with rfl | rfl | hu
    · rfl
    · rfl
    · exact ih u hu

theorem take_snocP (ps : List (Int × Int)) (k : Nat) (h : k < ps.length) : ps.take (k + 1) = ps.take k ++ [ps.getD k (0, 0)] := by
  rw [List.take_succ_eq_append_getElem h]; simp [List.getD, h]

/-- A slice's pairs as they lie in memory. -/
def RdP (w : World) (a : Option Addr) (ps : List (Int × Int)) : Prop :=
  ∀ i, i < ps.length → ∃ b off, a = some ⟨b, off, none⟩ ∧ w.cell? ⟨b, off + i * 2, none⟩ = some (.int .i64 (ps.getD i (0, 0)).1) ∧ w.cell? ⟨b, off + (i * 2 + 1), none⟩ = some (.int .i64 (ps.getD i (0, 0)).2)

theorem RdP.below {w w' : World} {a : Option Addr} {ps : List (Int × Int)} (h : RdP w a ps) (hb : Below w.heap.size w w') : RdP w' a ps := by
  intro i hi
  obtain ⟨b, off, e, h1, h2⟩ := h i hi
  refine ⟨b, off, e, ?_, ?_⟩
  · rw [hb.cell (p := ⟨b, off + i * 2, none⟩) (World.block_lt_of_cell? _ _ h1)]; exact h1
  · rw [hb.cell (p := ⟨b, off + (i * 2 + 1), none⟩) (World.block_lt_of_cell? _ _ h2)]; exact h2

theorem RdP.nil (w : World) (a : Option Addr) : RdP w a [] := fun i hi => by simp at hi

theorem RdP.at {w : World} {a : Option Addr} {ps : List (Int × Int)} (h : RdP w a ps) (h0 : 0 < ps.length) :
    ∃ b off, a = some ⟨b, off, none⟩ ∧ ∀ i, i < ps.length → w.cell? ⟨b, off + i * 2, none⟩ = some (.int .i64 (ps.getD i (0, 0)).1) ∧ w.cell? ⟨b, off + (i * 2 + 1), none⟩ = some (.int .i64 (ps.getD i (0, 0)).2) := by
  obtain ⟨b, off, rfl, _⟩ := h 0 h0
  refine ⟨b, off, rfl, fun i hi => ?_⟩
  obtain ⟨b', off', e, hc⟩ := h i hi
  simp at e
  obtain ⟨rfl, rfl⟩ := e
  exact hc

/-- The cells of 'rs[k:]', as an append reads them. -/
theorem RdP.src {w : World} {b off : Nat} {ps : List (Int × Int)} (h : RdP w (some ⟨b, off, none⟩) ps) (k : Nat) : ∀ j u, (cellsP (ps.drop k))[j]? = some u → w.cell? ((⟨b, off + k * 2, none⟩ : Addr).add j) = some u := by
  intro j u hj
  have hlt := (List.getElem?_eq_some_iff.1 hj).1
  rw [cellsP_length] at hlt
  simp at hlt
  rw [cellsP_drop, List.getElem?_drop] at hj
  rw [Addr.add_lit]
  obtain ⟨b', off', e, h1, h2⟩ := h (k + j / 2) (by omega)
  simp at e
  obtain ⟨rfl, rfl⟩ := e
  have c1 := cellsP_fst ps (k + j / 2) (by omega)
  have c2 := cellsP_snd ps (k + j / 2) (by omega)
  by_cases hp : j % 2 = 0
  · rw [show off + k * 2 + j = off + (k + j / 2) * 2 from by omega, h1, ← c1, ← hj]
    congr 1; omega
  · rw [show off + k * 2 + j = off + ((k + j / 2) * 2 + 1) from by omega, h2, ← c2, ← hj]
    congr 1; omega

/-- What an owned row of pairs reads as: a slice of some address, its length, its numbers. -/
theorem own_pairs {w : World} {base : Nat} {e : TypeId} {v : Value} {ps : List (Int × Int)} (h : w.ownsRow base e 2 v ps.length (cellsP ps)) :
    ∃ a c, v = .slice a ps.length c ∧ RdP w a ps ∧ ps.length ≤ c ∧ (a = none → c = 0) := by
  rcases h.2 with ⟨rfl, h0⟩ | ⟨g, cap, cur, rfl, _, hg, hc, _, _, htake⟩
  · obtain rfl : ps = [] := List.eq_nil_of_length_eq_zero h0
    exact ⟨none, 0, rfl, RdP.nil _ _, Nat.le_refl _, fun _ => rfl⟩
  · refine ⟨_, cap, rfl, fun i hi => ⟨g, 0, rfl, ?_, ?_⟩, hc, fun h => by cases h⟩
    · rw [Nat.zero_add, cell_of_row w g _ cur e (0, 0) hg]
      have h1 := cellsP_fst ps i hi
      rw [← htake, List.getElem?_take, if_pos (by omega)] at h1
      simpa using h1
    · rw [Nat.zero_add, cell_of_row w g _ cur e (0, 0) hg]
      have h1 := cellsP_snd ps i hi
      rw [← htake, List.getElem?_take, if_pos (by omega)] at h1
      simpa using h1

theorem own_ints {w : World} {base : Nat} {e : TypeId} {v : Value} {zs : List Int} (h : w.ownsRow base e 1 v zs.length (zs.map (Value.int .i64))) :
    ∃ a c, v = .slice a zs.length c ∧ Rd w a zs ∧ zs.length ≤ c ∧ (a = none → c = 0) := by
  rcases h.2 with ⟨rfl, h0⟩ | ⟨g, cap, cur, rfl, _, hg, hc, _, _, htake⟩
  · obtain rfl : zs = [] := List.eq_nil_of_length_eq_zero h0
    exact ⟨none, 0, rfl, Rd.nil _ _, Nat.le_refl _, fun _ => rfl⟩
  · refine ⟨_, cap, rfl, fun i hi => ⟨g, 0, rfl, ?_⟩, hc, fun h => by cases h⟩
    rw [Nat.zero_add, cell_of_row w g _ cur e (0, 0) hg]
    have h1 : (zs.map (Value.int .i64))[i]? = some (.int .i64 (zs.getD i 0)) := by simp [hi, List.getD]
    rw [← htake, List.getElem?_take, if_pos (by omega)] at h1
    simpa using h1

theorem ownsRow_mono {w : World} {base base' : Nat} {e : TypeId} {size : Nat} {v : Value} {n : Nat} {xs : List Value} (h : w.ownsRow base e size v n xs) (hb : base' ≤ base) : w.ownsRow base' e size v n xs := by
  refine ⟨h.1, ?_⟩
  rcases h.2 with h2 | ⟨g, cap, cur, hv, hg, r⟩
  · exact .inl h2
  · exact .inr ⟨g, cap, cur, hv, Nat.le_trans hb hg, r⟩

theorem grownBy_any {w w' : World} {row : Option Nat} (h : w.grownBy w' none) : w.grownBy w' row :=
  ⟨h.os, h.tape, h.output, h.size, fun k hk _ => h.block k hk (by simp)⟩

/-- The cells of a block of two that has just been laid. -/
theorem two_new (w : World) (x y : Value) (t : TypeId) (b : Nat) (hb : b = w.heap.size) : ∀ j u, [x, y][j]? = some u → (w.alloc (.cells #[x, y] t)).cell? ((⟨b, 0, none⟩ : Addr).add j) = some u := by
  subst hb
  intro j u hj
  match j, hj with
  | 0, hj => simp at hj; subst hj; simp [Addr.add]
  | 1, hj => simp at hj; subst hj; simp [Addr.add]

theorem two_cell (x y : Int) : ∀ u ∈ [Value.int .i64 x, Value.int .i64 y], u.oneCell' = true := cellsP_one_cell [(x, y)]

theorem one_new (w : World) (x : Value) (t : TypeId) (b : Nat) (hb : b = w.heap.size) : ∀ j u, [x][j]? = some u → (w.alloc (.cells #[x] t)).cell? ((⟨b, 0, none⟩ : Addr).add j) = some u := by
  subst hb
  intro j u hj
  match j, hj with
  | 0, hj => simp at hj; subst hj; simp [Addr.add]

/-- What is owned stays owned behind an append onto another row. -/
theorem kept_other {w w' : World} {base : Nat} {e : TypeId} {size : Nat} {v : Value} {n : Nat} {xs : List Value} {row : Option Nat} (h : w.ownsRow base e size v n xs) (hg : w.grownBy w' row) (hr : ∀ k, row = some k → v.ownBlock ≠ some k) : w'.ownsRow base e size v n xs := by
  refine h.kept hg ?_
  cases hv : v.ownBlock with
  | none => exact .inl rfl
  | some x =>
    right
    intro e'
    exact hr x e'.symm hv

theorem kept_none {w w' : World} {base : Nat} {e : TypeId} {size : Nat} {v : Value} {n : Nat} {xs : List Value} (h : w.ownsRow base e size v n xs) (hg : w.grownBy w' none) : w'.ownsRow base e size v n xs :=
  kept_other h hg (fun k hk => by cases hk)

/-- Where the row behind an append lies: where it lay, or among the blocks that are new. -/
def Lies (w : World) (v v' : Value) : Prop := v'.ownBlock = v.ownBlock ∨ ∀ k, v'.ownBlock = some k → w.heap.size ≤ k

/-- 'out = append(out, ..)', out the call's own, something is appended: and where it lies behind it. -/
theorem wpList_append_lies {P : Program} (w : World) {ops : Array Oper} {rest : List Oper} {o : Oper} {a : Act} {Q : Exit → Act → World → Prop} (hgd : o.guard = none) (s x : Operand) (t : TypeId)
    (ho : o.op = Op.call { callee := Callee.builtin Builtin.append, args := #[s, x], argTypes := #[t, t] })
    (base : Nat) (e : TypeId) (i : TypeInfo) (z : Value) (size bytes : Nat) (h1 : P.underlying t = some (.slice e)) (h2 : P.info? e = some i) (h3 : i.zero = some z) (h4 : i.size = size) (h5 : i.bytes = bytes) (h6 : z.cells.size = size) (h7 : 0 < size)
    (v : Value) (n : Nat) (xs : List Value) (hs : a.eval s = v) (hown : w.ownsRow base e size v n xs)
    (ad : Addr) (m c : Nat) (news : List Value) (hx : a.eval x = .slice (some ad) m c) (hn : news.length = m * size) (hc : ∀ j u, news[j]? = some u → w.cell? (ad.add j) = some u) (h1c : ∀ u ∈ news, u.oneCell' = true)
    (hm : 0 < m) (b1 : n + m ≤ maxLen) (b2 : (n + m) * bytes ≤ 140737488355328) (hbase : base ≤ w.heap.size)
    (h : ∀ v' w', w'.ownsRow base e size v' (n + m) (xs ++ news) → w.grownBy w' v.ownBlock → Lies w v v' → wpList P ops Q rest (a.put o.dst v') w') :
    wpList P ops Q (o :: rest) a w := by
  rcases hown.2 with ⟨rfl, rfl⟩ | ⟨g, cap, cur, rfl, hb, hg, hcap, hmax, hsz, htake⟩
  · obtain rfl : xs = [] := List.eq_nil_of_length_eq_zero (by simpa using hown.1)
    refine wpList_append_grows w hgd s x t ho e i z size bytes h1 h2 h3 h4 h5 h6 h7 none 0 0 [] hs (fun _ => ⟨rfl, rfl⟩) (by simp) (fun b hb => by cases hb) ad m c news hx hn hc h1c (by omega) b1 b2 ?_
    intro v' w' r1 r2
    exact h v' w' (ownsRow_mono r1 hbase) (grownBy_any r2) (.inr fun k hk => (r1.lt k hk).1)
  · by_cases hf : n + m ≤ cap
    · refine wpList_append_fits w hgd s x t ho base e i size h1 h2 h4 g n cap xs hs hown ad m c news hx hn hc h1c hf ?_
      intro w' r1 r2
      exact h _ w' r1 r2 (.inl rfl)
    · refine wpList_append_grows w hgd s x t ho e i z size bytes h1 h2 h3 h4 h5 h6 h7 (some ⟨g, 0, none⟩) n cap xs hs (fun hh => by cases hh) hown.1 ?_ ad m c news hx hn hc h1c (by omega) b1 b2 ?_
      · intro b hb' j u hj
        obtain rfl := Option.some.inj hb'
        exact hown.cells (g := g) rfl j u hj
      · intro v' w' r1 r2
        exact h v' w' (ownsRow_mono r1 hbase) (grownBy_any r2) (.inr fun k hk => (r1.lt k hk).1)

/-- Two rows of the call's own lie apart. -/
def Apart (v u : Value) : Prop := ∀ x, v.ownBlock = some x → u.ownBlock ≠ some x
theorem Apart.symm {v u : Value} (h : Apart v u) : Apart u v := fun x h1 h2 => h x h2 h1
theorem Apart.lies {w : World} {v v' u : Value} (h : Apart v u) (hl : Lies w v v') (hu : ∀ x, u.ownBlock = some x → x < w.heap.size) : Apart v' u := by
  intro x h1 h2
  rcases hl with e | e
  · exact h x (e ▸ h1) h2
  · have := e x h1; have := hu x h2; omega

/-- BEHIND AN append ONTO v, WHILE u AND A BLOCK OF THE ROUND's OWN (number wx.heap.size) ARE LOOKED AT LATER. -/
theorem two_rows {w2 wx w3 : World} {B : Nat} {A C : Obj} {e : TypeId} {sz nv nu : Nat} {v v' u : Value} {xv xu : List Value} (hv : wx.ownsRow B e sz v nv xv) (hu : wx.ownsRow B e sz u nu xu) (ha : Apart v u)
    (hb : Below B w2 wx) (hB : B ≤ wx.heap.size) (hg : ((wx.alloc A).alloc C).grownBy w3 v.ownBlock) (hl : Lies ((wx.alloc A).alloc C) v v') :
    w3.ownsRow B e sz u nu xu ∧ Apart v' u ∧ w3.heap[wx.heap.size]? = some A ∧ Below B w2 w3 ∧ wx.heap.size + 2 ≤ w3.heap.size := by
  have hs := hg.size
  simp at hs
  refine ⟨kept_other ((hu.alloc _).alloc _) hg (fun k hk => ha k hk), ha.lies hl (fun x hx => by have := (hu.lt x hx).2; simp; omega), ?_, ?_, by omega⟩
  · rw [hg.block wx.heap.size (by simp; omega) (fun e => by have := (hv.lt _ e.symm).2; omega), Below.heap_alloc _ _ _ (by simp), heap_alloc_new]
  · exact ((hb.alloc hB _).alloc (by simp; omega) _).grown hg (by simp; omega) (fun k hk => (hv.lt k hk).1)

theorem one_row {w2 w3 w4 : World} {B : Nat} {C : Obj} {e : TypeId} {sz nv nu : Nat} {v v' u : Value} {xv xu : List Value} (hv : w3.ownsRow B e sz v nv xv) (hu : w3.ownsRow B e sz u nu xu) (ha : Apart v u)
    (hb : Below B w2 w3) (hB : B ≤ w3.heap.size) (hg : (w3.alloc C).grownBy w4 v.ownBlock) (hl : Lies (w3.alloc C) v v') :
    w4.ownsRow B e sz u nu xu ∧ Apart v' u ∧ Below B w2 w4 := by
  refine ⟨kept_other (hu.alloc _) hg (fun k hk => ha k hk), ha.lies hl (fun x hx => by have := (hu.lt x hx).2; simp; omega), ?_⟩
  exact (hb.alloc hB _).grown hg (by simp; omega) (fun k hk => (hv.lt k hk).1)

theorem own_row {w : World} {base : Nat} {e : TypeId} {g n sz : Nat} {xs : List Value} (h : w.ownsRow base e sz (.slice (some ⟨g, 0, none⟩) n n) n xs) : w.rowIs g e (n * sz) (fun i => xs.getD i undef) := by
  refine ⟨xs.toArray, own_block h, by simpa using h.1, fun i hi => ?_⟩
  have := h.1
  simp [List.getD, show i < xs.length by omega]

theorem rdP_row {w : World} {g : Nat} {t : TypeId} {n : Nat} {f : Nat → Value} {ps : List (Int × Int)} (h : w.rowIs g t n f) (hn : ps.length * 2 ≤ n) (hf : ∀ j, j < ps.length → f (j * 2) = .int .i64 (ps.getD j (0, 0)).1 ∧ f (j * 2 + 1) = .int .i64 (ps.getD j (0, 0)).2) : RdP w (some ⟨g, 0, none⟩) ps := by
  intro i hi
  refine ⟨g, 0, rfl, ?_, ?_⟩
  · rw [Nat.zero_add, h.cell (by omega), (hf i hi).1]
  · rw [Nat.zero_add, h.cell (by omega), (hf i hi).2]

theorem rd_row {w : World} {g : Nat} {t : TypeId} {n : Nat} {f : Nat → Value} {zs : List Int} (h : w.rowIs g t n f) (hn : zs.length ≤ n) (hf : ∀ j, j < zs.length → f j = .int .i64 (zs.getD j 0)) : Rd w (some ⟨g, 0, none⟩) zs := by
  intro i hi
  refine ⟨g, 0, rfl, ?_⟩
  rw [Nat.zero_add, h.cell (by omega), hf i hi]

/-- An append onto a row of the call's own, as one step of a region that draws its order. -/
theorem step_append_own {P : Program} {ops : Array Oper} {o : Oper} {a : Act} {w : World} {K : Act → World → Prop} {Q : Exit → Act → World → Prop} {E : Prop} (hgd : o.guard = none) (s x : Operand) (t : TypeId)
    (ho : o.op = Op.call { callee := Callee.builtin Builtin.append, args := #[s, x], argTypes := #[t, t] })
    (base : Nat) (e : TypeId) (i : TypeInfo) (z : Value) (size bytes : Nat) (h1 : P.underlying t = some (.slice e)) (h2 : P.info? e = some i) (h3 : i.zero = some z) (h4 : i.size = size) (h5 : i.bytes = bytes) (h6 : z.cells.size = size) (h7 : 0 < size)
    (v : Value) (n : Nat) (xs : List Value) (hs : a.eval s = v) (hown : w.ownsRow base e size v n xs)
    (ad : Addr) (m c : Nat) (news : List Value) (hx : a.eval x = .slice (some ad) m c) (hn : news.length = m * size) (hc : ∀ j u, news[j]? = some u → w.cell? (ad.add j) = some u) (h1c : ∀ u ∈ news, u.oneCell' = true)
    (b1 : n + m ≤ maxLen) (b2 : (n + m) * bytes ≤ 140737488355328) (hbase : base ≤ w.heap.size)
    (h : ∀ v' w', w'.ownsRow base e size v' (n + m) (xs ++ news) → w.grownBy w' v.ownBlock → K (a.put o.dst v') w') :
    if Region.wanted o (yielded ops a.tmps) = true then Oper.wp P o a w K Q else E := by
  have hw : Region.wanted o (yielded ops a.tmps) = true := by simp [Region.wanted, hgd]
  rw [if_pos hw]
  obtain ⟨v', w', hrun, r1, r2, _⟩ := run_append_own (P := P) w base t o.type e i z size bytes h1 h2 h3 h4 h5 h6 h7 v n xs hown ad m c news hn hc h1c b1 b2 hbase
  unfold Oper.wp
  simp [execOp, ho, resolve, invoke, builtin, hs, hx, hrun, Result.andThen]
  exact h v' w' r1 r2

end Go.Proofs.Qxb6617949a
