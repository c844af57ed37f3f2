import Derived.Test.Qxb6003663aNew
import Derived.Test.Qxb6003663aDfs
import Derived.Deep.RegionLaw
namespace Go.Proofs.Qxb6003663a
open Go.RowKit
set_option linter.unusedVariables false
set_option linter.unusedSimpArgs false

/-- the whole of block b as a slice -/
def sl (b n : Nat) : Value := .slice (some ⟨b, 0, none⟩) n n
def vtx (v : Nat) : Value := .int .i32 (v : Int)
/-- the cells of a path: the bottom of the stack first -/
def pathCells : List (Nat × Nat) → List Value
  | [] => []
  | (v, t) :: K => pathCells K ++ [vtx v, .int .i64 (t : Int)]

/-- THE STATE OF A stepBound AT BLOCK S: edges G in blocks S + 1 .. B - 1; left, paths, length at B, B + 1, B + 2; the order's and the path's rows from B + 5 on. -/
structure BD (w : World) (S B n : Nat) (lim : Int) (G : List (List Nat)) (left paths len : Nat → Int) (order : List Nat) (path : List (Nat × Nat)) (ov pv : Value) (work : Int) (wv rv cv bv av : Value) (mark : Int) : Prop where
  sb : SB w S (.slice (some ⟨S + 1, 0, none⟩) n n) wv lim rv work (.slice (some ⟨B, 0, none⟩) n n) ov pv (.slice (some ⟨B + 1, 0, none⟩) n n) (.slice (some ⟨B + 2, 0, none⟩) n n) cv bv av mark
  grid : NGrid w (S + 1) B n (.slice (some ⟨S + 1, 0, none⟩) n n) G
  rl : w.rowIs B 21 n (fun i => .int .i32 (left i))
  rp : w.rowIs (B + 1) 3 n (fun i => .int .i64 (paths i))
  rn : w.rowIs (B + 2) 3 n (fun i => .int .i64 (len i))
  ro : w.ownsRow (B + 5) 50 1 ov order.length (order.map vtx)
  rs : w.ownsRow (B + 5) 65 2 pv path.length (pathCells path)
  lt : S < B
  sz : B + 5 ≤ w.heap.size

theorem bel_drewN {B : Nat} {a w : World} (h : Below B a w) (k : Nat) : Below B a (w.drewN k) := ⟨h.os, h.tape, h.output, h.size, h.block⟩
theorem hid {p : Prop} (h : p) : Hid p := h
theorem own_set {w : World} {base : Nat} {e : TypeId} {size : Nat} {v : Value} {m : Nat} {xs : List Value} (h : w.ownsRow base e size v m xs) {a : Addr} (ha : a.block < base) (u : Value) : (w.setCell a u).ownsRow base e size v m xs := ownsRow_setCell_below h ha u

section
variable {w : World} {S B n : Nat} {lim : Int} {G : List (List Nat)} {left paths len : Nat → Int} {order : List Nat} {path : List (Nat × Nat)} {ov pv : Value} {work : Int} {wv rv cv bv av : Value} {mark : Int}

theorem BD.drew (h : BD w S B n lim G left paths len order path ov pv work wv rv cv bv av mark) : BD w.drew S B n lim G left paths len order path ov pv work wv rv cv bv av mark :=
  ⟨h.sb, h.grid, h.rl, h.rp, h.rn, h.ro, h.rs, h.lt, h.sz⟩

theorem BD.drewN (h : BD w S B n lim G left paths len order path ov pv work wv rv cv bv av mark) (k : Nat) : BD (w.drewN k) S B n lim G left paths len order path ov pv work wv rv cv bv av mark :=
  ⟨h.sb, h.grid, h.rl, h.rp, h.rn, h.ro, h.rs, h.lt, h.sz⟩

theorem BD.setL (h : BD w S B n lim G left paths len order path ov pv work wv rv cv bv av mark) (i : Nat) (x : Int) : BD (w.setCell ⟨B, i, none⟩ (.int .i32 x)) S B n lim G (upd left i x) paths len order path ov pv work wv rv cv bv av mark := by
  have hl := h.lt
  refine ⟨h.sb.off (by simp; omega) _, h.grid.keep ((Kept.refl _ _ _).set (Or.inr (by simp)) _), (h.rl.set i _).congr (fun j _ => ?_), h.rp.setOther (by simp) _, h.rn.setOther (by simp) _, own_set h.ro (by simp) _, own_set h.rs (by simp) _, hl, by simpa using h.sz⟩
  unfold upd; split <;> rfl

theorem BD.setP (h : BD w S B n lim G left paths len order path ov pv work wv rv cv bv av mark) (i : Nat) (x : Int) : BD (w.setCell ⟨B + 1, i, none⟩ (.int .i64 x)) S B n lim G left (upd paths i x) len order path ov pv work wv rv cv bv av mark := by
  have hl := h.lt
  refine ⟨h.sb.off (by simp; omega) _, h.grid.keep ((Kept.refl _ _ _).set (Or.inr (by simp)) _), h.rl.setOther (by simp) _, (h.rp.set i _).congr (fun j _ => ?_), h.rn.setOther (by simp) _, own_set h.ro (by simp) _, own_set h.rs (by simp) _, hl, by simpa using h.sz⟩
  unfold upd; split <;> rfl

theorem BD.setN (h : BD w S B n lim G left paths len order path ov pv work wv rv cv bv av mark) (i : Nat) (x : Int) : BD (w.setCell ⟨B + 2, i, none⟩ (.int .i64 x)) S B n lim G left paths (upd len i x) order path ov pv work wv rv cv bv av mark := by
  have hl := h.lt
  refine ⟨h.sb.off (by simp; omega) _, h.grid.keep ((Kept.refl _ _ _).set (Or.inr (by simp)) _), h.rl.setOther (by simp) _, h.rp.setOther (by simp) _, (h.rn.set i _).congr (fun j _ => ?_), own_set h.ro (by simp) _, own_set h.rs (by simp) _, hl, by simpa using h.sz⟩
  unfold upd; split <;> rfl

theorem BD.setWork (h : BD w S B n lim G left paths len order path ov pv work wv rv cv bv av mark) (x : Int) : BD (w.setCell ⟨S, 4, none⟩ (.int .i64 x)) S B n lim G left paths len order path ov pv x wv rv cv bv av mark := by
  have hl := h.lt
  exact ⟨h.sb.s4 x, h.grid.keep ((Kept.refl _ _ _).set (Or.inl (by simp)) _), h.rl.setOther (by simp; omega) _, h.rp.setOther (by simp; omega) _, h.rn.setOther (by simp; omega) _, own_set h.ro (by simp; omega) _, own_set h.rs (by simp; omega) _, hl, by simpa using h.sz⟩
end

/-! ### rows that are appended to -/

theorem own_shape {w : World} {base : Nat} {e : TypeId} {size : Nat} {v : Value} {m : Nat} {xs : List Value} (h : w.ownsRow base e size v m xs) :
    (v = .slice none 0 0 ∧ m = 0 ∧ xs = []) ∨ ∃ g cap, v = .slice (some ⟨g, 0, none⟩) m cap ∧ base ≤ g ∧ m ≤ cap ∧ cap ≤ maxLen := by
  obtain ⟨hl, h⟩ := h
  rcases h with ⟨rfl, rfl⟩ | ⟨g, cap, cur, rfl, hb, _, h1, h2, _⟩
  · exact .inl ⟨rfl, rfl, List.eq_nil_of_length_eq_zero (by simpa using hl)⟩
  · exact .inr ⟨g, cap, rfl, hb, h1, h2⟩

theorem own_cut {w : World} {base : Nat} {e : TypeId} {size g m cap : Nat} {xs : List Value} (h : w.ownsRow base e size (.slice (some ⟨g, 0, none⟩) m cap) m xs) {k : Nat} (hk : k ≤ m) :
    w.ownsRow base e size (.slice (some ⟨g, 0, none⟩) k cap) k (xs.take (k * size)) := by
  obtain ⟨hl, h⟩ := h
  have hks : k * size ≤ m * size := Nat.mul_le_mul_right _ hk
  refine ⟨by rw [List.length_take, hl]; omega, .inr ?_⟩
  rcases h with ⟨h, _⟩ | ⟨g', cap', cur, hv, hb, hh, h1, h2, h3, h4⟩
  · cases h
  · cases hv
    refine ⟨g, cap, cur, rfl, hb, hh, by omega, h2, h3, ?_⟩
    rw [← h4, List.take_take, Nat.min_eq_left hks]

theorem own_apart {w : World} {b1 b2 : Nat} {e1 e2 : TypeId} {s1 s2 : Nat} {v1 v2 : Value} {m1 m2 : Nat} {x1 x2 : List Value} (h1 : w.ownsRow b1 e1 s1 v1 m1 x1) (h2 : w.ownsRow b2 e2 s2 v2 m2 x2) (hne : e1 ≠ e2) :
    v1.ownBlock = none ∨ v1.ownBlock ≠ v2.ownBlock := by
  obtain ⟨_, h1⟩ := h1
  obtain ⟨_, h2⟩ := h2
  rcases h1 with ⟨rfl, _⟩ | ⟨g, cap, cur, rfl, _, hh, _⟩
  · left; rfl
  rcases h2 with ⟨rfl, _⟩ | ⟨g', cap', cur', rfl, _, hh', _⟩
  · right; simp [Value.ownBlock]
  · right
    simp only [Value.ownBlock, ne_eq, Option.some.injEq]
    intro e
    subst e
    rw [hh] at hh'
    simp only [Option.some.injEq, Obj.cells.injEq] at hh'
    exact hne hh'.2.1

theorem own_low {w : World} {base : Nat} {e : TypeId} {size : Nat} {v : Value} {m : Nat} {xs : List Value} (h : w.ownsRow base e size v m xs) : ∀ k, v.ownBlock = some k → base ≤ k := fun k hk => (h.lt k hk).1

section
variable {w : World} {S B n : Nat} {lim : Int} {G : List (List Nat)} {left paths len : Nat → Int} {order : List Nat} {path : List (Nat × Nat)} {ov pv : Value} {work : Int} {wv rv cv bv av : Value} {mark : Int}

/-- blocks below B + 5 are as they were -/
theorem BD.below (h : BD w S B n lim G left paths len order path ov pv work wv rv cv bv av mark) {w' : World} {ov' pv' : Value} {order' : List Nat} {path' : List (Nat × Nat)} (hk : ∀ k, k < B + 5 → w'.heap[k]? = w.heap[k]?) (hs : w.heap.size ≤ w'.heap.size)
    (ho : w'.ownsRow (B + 5) 50 1 ov order'.length (order'.map vtx)) (hp : w'.ownsRow (B + 5) 65 2 pv path'.length (pathCells path')) :
    BD w' S B n lim G left paths len order' path' ov pv work wv rv cv bv av mark := by
  have hl := h.lt
  exact ⟨h.sb.of (hk S (by omega)), h.grid.keep (fun k _ h2 => hk k (by omega)), h.rl.of_block (hk _ (by omega)), h.rp.of_block (hk _ (by omega)), h.rn.of_block (hk _ (by omega)), ho, hp, hl, Nat.le_trans h.sz hs⟩

theorem BD.set6 (h : BD w S B n lim G left paths len order path ov pv work wv rv cv bv av mark) {w' : World} {ov' : Value} {order' : List Nat} (hk : ∀ k, k < B + 5 → w'.heap[k]? = w.heap[k]?) (hs : w.heap.size ≤ w'.heap.size)
    (ho : w'.ownsRow (B + 5) 50 1 ov' order'.length (order'.map vtx)) (hp : w'.ownsRow (B + 5) 65 2 pv path.length (pathCells path)) :
    BD (w'.setCell ⟨S, 6, none⟩ ov') S B n lim G left paths len order' path ov' pv work wv rv cv bv av mark := by
  have hl := h.lt
  have hz := h.sz
  exact ⟨(h.sb.of (hk S (by omega))).s6 ov', (h.grid.keep (fun k _ h2 => hk k (by omega))).keep ((Kept.refl _ _ _).set (Or.inl (by simp)) _), (h.rl.of_block (hk _ (by omega))).setOther (by simp; omega) _, (h.rp.of_block (hk _ (by omega))).setOther (by simp; omega) _, (h.rn.of_block (hk _ (by omega))).setOther (by simp; omega) _, own_set ho (by simp; omega) _, own_set hp (by simp; omega) _, hl, by simp; omega⟩

theorem BD.set7 (h : BD w S B n lim G left paths len order path ov pv work wv rv cv bv av mark) {w' : World} {pv' : Value} {path' : List (Nat × Nat)} (hk : ∀ k, k < B + 5 → w'.heap[k]? = w.heap[k]?) (hs : w.heap.size ≤ w'.heap.size)
    (ho : w'.ownsRow (B + 5) 50 1 ov order.length (order.map vtx)) (hp : w'.ownsRow (B + 5) 65 2 pv' path'.length (pathCells path')) :
    BD (w'.setCell ⟨S, 7, none⟩ pv') S B n lim G left paths len order path' ov pv' work wv rv cv bv av mark := by
  have hl := h.lt
  have hz := h.sz
  exact ⟨(h.sb.of (hk S (by omega))).s7 pv', (h.grid.keep (fun k _ h2 => hk k (by omega))).keep ((Kept.refl _ _ _).set (Or.inl (by simp)) _), (h.rl.of_block (hk _ (by omega))).setOther (by simp; omega) _, (h.rp.of_block (hk _ (by omega))).setOther (by simp; omega) _, (h.rn.of_block (hk _ (by omega))).setOther (by simp; omega) _, own_set ho (by simp; omega) _, own_set hp (by simp; omega) _, hl, by simp; omega⟩

/-- b.order = append(b.order, v) -/
theorem BD.pushOrder (h : BD w S B n lim G left paths len order path ov pv work wv rv cv bv av mark) {o : Obj} {w2 : World} {ov' : Value} {v : Nat} (ho : w2.ownsRow (B + 5) 50 1 ov' (order.length + 1) (order.map vtx ++ [vtx v])) (hg : (w.alloc o).grownBy w2 ov.ownBlock) :
    BD (w2.setCell ⟨S, 6, none⟩ ov') S B n lim G left paths len (order ++ [v]) path ov' pv work wv rv cv bv av mark := by
  have hz := h.sz
  have hlow := own_low h.ro
  refine h.set6 (fun k hk => ?_) ?_ (by simpa using ho) ((h.rs.alloc o).kept hg (own_apart h.rs h.ro (by decide)))
  · rw [hg.block k (by simp; omega) (fun e => by have := hlow k e.symm; omega), Below.heap_alloc _ _ _ (by omega)]
  · have := hg.size; simp at this; omega

/-- b.path = append(b.path, edgeCursor{v: v}) -/
theorem BD.pushPath (h : BD w S B n lim G left paths len order path ov pv work wv rv cv bv av mark) {o : Obj} {w2 : World} {pv' : Value} {v : Nat} (hp : w2.ownsRow (B + 5) 65 2 pv' (path.length + 1) (pathCells path ++ [vtx v, .int .i64 0])) (hg : (w.alloc o).grownBy w2 pv.ownBlock) :
    BD (w2.setCell ⟨S, 7, none⟩ pv') S B n lim G left paths len order ((v, 0) :: path) ov pv' work wv rv cv bv av mark := by
  have hz := h.sz
  have hlow := own_low h.rs
  refine h.set7 (fun k hk => ?_) ?_ ((h.ro.alloc o).kept hg (own_apart h.ro h.rs (by decide))) hp
  · rw [hg.block k (by simp; omega) (fun e => by have := hlow k e.symm; omega), Below.heap_alloc _ _ _ (by omega)]
  · have := hg.size; simp at this; omega

/-- behind an append onto a row of its own the struct is as it was; the new value's shape -/
theorem BD.grownSB (h : BD w S B n lim G left paths len order path ov pv work wv rv cv bv av mark) {o : Obj} {w2 : World} {row : Option Nat} (hg : (w.alloc o).grownBy w2 row) (hlow : ∀ k, row = some k → B + 5 ≤ k) :
    SB w2 S (.slice (some ⟨S + 1, 0, none⟩) n n) wv lim rv work (.slice (some ⟨B, 0, none⟩) n n) ov pv (.slice (some ⟨B + 1, 0, none⟩) n n) (.slice (some ⟨B + 2, 0, none⟩) n n) cv bv av mark := by
  have hz := h.sz
  have hl := h.lt
  refine h.sb.of ?_
  rw [hg.block S (by simp; omega) (fun e => by have := hlow S e.symm; omega), Below.heap_alloc _ _ _ (by omega)]

theorem own_pos {w : World} {base : Nat} {e : TypeId} {size : Nat} {v : Value} {m : Nat} {xs : List Value} (h : w.ownsRow base e size v m xs) (hm : 0 < m) : ∃ g cap, v = .slice (some ⟨g, 0, none⟩) m cap := by
  rcases own_shape h with ⟨_, h, _⟩ | ⟨g, cap, h, _⟩
  · omega
  · exact ⟨g, cap, h⟩

theorem new_two (w : World) (g : Nat) (hg : g = w.heap.size) (a b : Value) (t : TypeId) : ∀ j u, [a, b][j]? = some u → (w.alloc (.cells #[a, b] t)).cell? ((⟨g, 0, none⟩ : Addr).add j) = some u := by
  subst hg
  intro j u hu
  rw [Addr.add_lit, Nat.zero_add, World.cell?_alloc_new]
  simpa using hu
theorem new_one (w : World) (g : Nat) (hg : g = w.heap.size) (a : Value) (t : TypeId) : ∀ j u, [a][j]? = some u → (w.alloc (.cells #[a] t)).cell? ((⟨g, 0, none⟩ : Addr).add j) = some u := by
  subst hg
  intro j u hu
  rw [Addr.add_lit, Nat.zero_add, World.cell?_alloc_new]
  simpa using hu
theorem one_two (k k' : IntKind) (x y : Int) : ∀ u ∈ [Value.int k x, Value.int k' y], u.oneCell' = true := by
  intro u hu; simp at hu; rcases hu with rfl | rfl <;> rfl
theorem one_one (k : IntKind) (x : Int) : ∀ u ∈ [Value.int k x], u.oneCell' = true := by
  intro u hu; simp at hu; subst hu; rfl
/-- append onto a row of the call's own, as one step of a region that draws -/
theorem step_append_own {P : Program} {ops : Array Oper} {o : Oper} {a : Act} {w : World} {K : Act → World → Prop} {Q : Exit → Act → World → Prop} {E : Prop}
    (hg : o.guard = none) (s x : Operand) (t : TypeId) (hop : o.op = Op.call { callee := Callee.builtin Builtin.append, args := #[s, x], argTypes := #[t, t] })
    (base : Nat) (e : TypeId) (i : TypeInfo) (z : Value) (size bytes : Nat) (h1 : P.underlying t = some (.slice e)) (h2 : P.info? e = some i) (h3 : i.zero = some z) (h4 : i.size = size) (h5 : i.bytes = bytes) (h6 : z.cells.size = size) (h7 : 0 < size)
    (v : Value) (n : Nat) (xs : List Value) (hs : a.eval s = v) (hown : w.ownsRow base e size v n xs)
    (ad : Addr) (m c : Nat) (news : List Value) (hx : a.eval x = .slice (some ad) m c) (hn : news.length = m * size) (hc : ∀ j u, news[j]? = some u → w.cell? (ad.add j) = some u) (h1c : ∀ u ∈ news, u.oneCell' = true)
    (b1 : n + m ≤ maxLen) (b2 : (n + m) * bytes ≤ 140737488355328) (hbase : base ≤ w.heap.size)
    (hK : ∀ v' w', w'.ownsRow base e size v' (n + m) (xs ++ news) → w.grownBy w' v.ownBlock → K (a.put o.dst v') w') :
    if Region.wanted o (yielded ops a.tmps) = true then Oper.wp P o a w K Q else E := by
  have hw : Region.wanted o (yielded ops a.tmps) = true := by simp [Region.wanted, hg]
  rw [if_pos hw]
  obtain ⟨v', w', hrun, r1, r2, _⟩ := run_append_own (P := P) w base t o.type e i z size bytes h1 h2 h3 h4 h5 h6 h7 v n xs hown ad m c news hn hc h1c b1 b2 hbase
  unfold Oper.wp
  simp [execOp, hop, resolve, invoke, builtin, hs, hx, hrun, Result.andThen]
  exact hK v' w' r1 r2

theorem bel_push {w : World} {S B n : Nat} {lim : Int} {G : List (List Nat)} {left paths len : Nat → Int} {order : List Nat} {path : List (Nat × Nat)} {ov pv : Value} {work : Int} {wv rv cv bv av : Value} {mark : Int} (h : BD w S B n lim G left paths len order path ov pv work wv rv cv bv av mark)
    {W w2 : World} (hb : Below S W w) {o : Obj} {row : Option Nat} (hg : (w.alloc o).grownBy w2 row) (hlow : ∀ k, row = some k → B + 5 ≤ k) (f : Nat) (u : Value) : Below S W (w2.setCell ⟨S, f, none⟩ u) := by
  have hz := h.sz
  have hl := h.lt
  exact ((hb.alloc (by omega) o).grown hg (by simp; omega) (fun k hk => by have := hlow k hk; omega)).setCell (by simp) _

theorem BD.pushedOrder {w : World} {S B n : Nat} {lim : Int} {G : List (List Nat)} {left paths len : Nat → Int} {order : List Nat} {path : List (Nat × Nat)} {ov pv : Value} {work : Int} {wv rv cv bv av : Value} {mark : Int} (h : BD w S B n lim G left paths len order path ov pv work wv rv cv bv av mark)
    {W : World} (hb : Below S W w) {o : Obj} {w2 : World} {ov' : Value} {v : Nat} (ho : w2.ownsRow (B + 5) 50 1 ov' (order.length + 1) (order.map vtx ++ [vtx v])) (hg : (w.alloc o).grownBy w2 ov.ownBlock) :
    ∃ g cap, BD (w2.setCell ⟨S, 6, none⟩ (.slice (some ⟨g, 0, none⟩) (order.length + 1) cap)) S B n lim G left paths len (order ++ [v]) path (.slice (some ⟨g, 0, none⟩) (order.length + 1) cap) pv work wv rv cv bv av mark ∧ Below S W (w2.setCell ⟨S, 6, none⟩ (.slice (some ⟨g, 0, none⟩) (order.length + 1) cap)) ∧
      SB w2 S (.slice (some ⟨S + 1, 0, none⟩) n n) wv lim rv work (.slice (some ⟨B, 0, none⟩) n n) ov pv (.slice (some ⟨B + 1, 0, none⟩) n n) (.slice (some ⟨B + 2, 0, none⟩) n n) cv bv av mark ∧ ov' = .slice (some ⟨g, 0, none⟩) (order.length + 1) cap := by
  obtain ⟨g, cap, e⟩ := own_pos ho (by omega)
  subst e
  exact ⟨g, cap, h.pushOrder ho hg, bel_push h hb hg (own_low h.ro) 6 _, h.grownSB hg (own_low h.ro), rfl⟩

theorem pathCells_length (K : List (Nat × Nat)) : (pathCells K).length = K.length * 2 := by
  induction K with
  | nil => rfl
  | cons p K ih => obtain ⟨v, t⟩ := p; simp only [pathCells, List.length_append, List.length_cons, List.length_nil, ih]; omega

/-- b.path = b.path[:len(b.path)-1] -/
theorem BD.popPath {g cap v t : Nat} {K : List (Nat × Nat)} (h : BD w S B n lim G left paths len order ((v, t) :: K) ov (.slice (some ⟨g, 0, none⟩) (K.length + 1) cap) work wv rv cv bv av mark) :
    BD (w.setCell ⟨S, 7, none⟩ (.slice (some ⟨g, 0, none⟩) K.length cap)) S B n lim G left paths len order K ov (.slice (some ⟨g, 0, none⟩) K.length cap) work wv rv cv bv av mark := by
  refine h.set7 (fun k hk => rfl) (Nat.le_refl _) h.ro ?_
  have := own_cut h.rs (k := K.length) (by simp)
  rw [pathCells, List.take_append_of_le_length (by rw [pathCells_length]; omega), List.take_of_length_le (by rw [pathCells_length]; omega)] at this
  exact this

/-- b.path = b.path[:0]: the row is there, nothing of it counts -/
theorem BD.cells (h : BD w S B n lim G left paths len order path ov pv work wv rv cv bv av mark) {g cap v t : Nat} {K : List (Nat × Nat)} (hp : path = (v, t) :: K) (hv : pv = .slice (some ⟨g, 0, none⟩) (K.length + 1) cap) :
    w.cell? ⟨g, K.length * 2, none⟩ = some (vtx v) ∧ w.cell? ⟨g, K.length * 2 + 1, none⟩ = some (.int .i64 (t : Int)) ∧ w.frozen? ⟨g, K.length * 2 + 1, none⟩ = false ∧ B + 5 ≤ g := by
  subst hp; subst hv
  have h1 := h.rs
  have hlen : (pathCells K).length = K.length * 2 := pathCells_length K
  refine ⟨?_, ?_, ?_, ?_⟩
  · rw [h1.cellAt (K.length * 2) (by omega), pathCells, List.getElem?_append_right (by omega)]
    simp [hlen]
  · rw [h1.cellAt (K.length * 2 + 1) (by omega), pathCells, List.getElem?_append_right (by omega)]
    simp [hlen]
  · exact h1.frozenAt _
  · exact own_low h1 g rfl

/-- top.taken++ -/
theorem BD.take {g cap v t : Nat} {K : List (Nat × Nat)} (h : BD w S B n lim G left paths len order ((v, t) :: K) ov (.slice (some ⟨g, 0, none⟩) (K.length + 1) cap) work wv rv cv bv av mark) :
    BD (w.setCell ⟨g, K.length * 2 + 1, none⟩ (.int .i64 ((t : Int) + 1))) S B n lim G left paths len order ((v, t + 1) :: K) ov (.slice (some ⟨g, 0, none⟩) (K.length + 1) cap) work wv rv cv bv av mark := by
  have hb := (h.cells rfl rfl).2.2.2
  refine h.below (ov' := ov) (pv' := ov) (fun k hk => Below.heap_setCell _ _ _ _ (by simp; omega)) (by simp) ?_ ?_
  · have ha := own_apart h.ro h.rs (by decide)
    have hg : w.grownBy (w.setCell ⟨g, K.length * 2 + 1, none⟩ (.int .i64 ((t : Int) + 1))) (some g) := ⟨rfl, rfl, rfl, by simp, fun k _ hk => Below.heap_setCell _ _ _ _ (by simpa using hk)⟩
    exact h.ro.kept hg (by simpa [Value.ownBlock] using ha)
  · have := (World.ownsRow.stored h.rs (K.length * 2 + 1) (.int .i64 ((t : Int) + 1))).1
    rw [pathCells, List.set_append_right _ _ (by rw [pathCells_length]; omega), pathCells_length] at this
    simp only [Nat.add_sub_cancel_left, List.set_cons_succ, List.set_cons_zero] at this
    simpa [pathCells] using this

theorem vtx_def (v : Nat) : vtx v = .int .i32 (v : Int) := rfl

/-- the row of v, as it lies in memory -/
theorem BD.edges (h : BD w S B n lim G left paths len order path ov pv work wv rv cv bv av mark) {v : Nat} (hv : v < n) :
    ∃ ao cap, w.cell? ⟨S + 1, v, none⟩ = some (.slice ao (row G v).length cap) ∧ cap ≤ maxLen ∧ (row G v).length ≤ cap ∧ (0 < (row G v).length → ∃ b off, ao = some ⟨b, off, none⟩ ∧ S < b ∧ b < B ∧ ∀ j, j < (row G v).length → w.cell? ⟨b, off + j, none⟩ = some (.int .i32 (((row G v).getD j 0 : Nat) : Int)) ∧ (row G v).getD j 0 < n) := by
  obtain ⟨b, off, cap, hsl, _, _, _, _, hrow⟩ := h.grid
  simp only [Value.slice.injEq, Option.some.injEq, Addr.mk.injEq, and_true] at hsl
  obtain ⟨⟨rfl, rfl⟩, hGn, rfl⟩ := hsl
  obtain ⟨u, hu, ao, cap, rfl, h1, h2, h3, h4, h5⟩ := hrow v (by omega)
  rw [Nat.zero_add] at hu
  refine ⟨ao, cap, hu, h2, h1, fun hp => ?_⟩
  rcases h5 with h5 | ⟨b', off', e, h6, h7, h8⟩
  · unfold row at hp; rw [h5] at hp; simp at hp
  · exact ⟨b', off', e, h6, h7, fun j hj => ⟨h8 j hj, h3 j hj⟩⟩

theorem BD.glen (h : BD w S B n lim G left paths len order path ov pv work wv rv cv bv av mark) : G.length = n := by
  obtain ⟨b, off, cap, hsl, _⟩ := h.grid
  simp only [Value.slice.injEq] at hsl
  exact hsl.2.1.symm

theorem BD.child_lt (h : BD w S B n lim G left paths len order path ov pv work wv rv cv bv av mark) (bk : Bool) : ∀ v t, t < (row G v).length → child G bk v t < n := by
  intro v t ht
  have hv : v < n := by
    rcases Nat.lt_or_ge v n with h' | h'
    · exact h'
    · have : G[v]? = none := List.getElem?_eq_none (by rw [h.glen]; exact h')
      simp [row, List.getD_eq_getElem?_getD, this] at ht
  obtain ⟨_, _, _, _, _, h1⟩ := h.edges hv
  obtain ⟨_, _, _, _, _, h2⟩ := h1 (by omega)
  exact (h2 _ (place_lt ht)).2

theorem own_cut0 {w : World} {base : Nat} {e : TypeId} {size : Nat} {ao : Option Addr} {m cap : Nat} {xs : List Value} (h : w.ownsRow base e size (.slice ao m cap) m xs) : w.ownsRow base e size (.slice ao 0 cap) 0 [] := by
  rcases own_shape h with ⟨h', _⟩ | ⟨g, cap', h', _⟩
  · cases h'; exact World.ownsRow_nil _ _ _ _
  · cases h'
    have := own_cut h (k := 0) (Nat.zero_le _)
    simpa using this

/-- b.order = b.order[:0] -/
theorem BD.cutOrder {ao : Option Addr} {cap : Nat} (h : BD w S B n lim G left paths len order path (.slice ao order.length cap) pv work wv rv cv bv av mark) :
    BD (w.setCell ⟨S, 6, none⟩ (.slice ao 0 cap)) S B n lim G left paths len [] path (.slice ao 0 cap) pv work wv rv cv bv av mark :=
  h.set6 (fun k hk => rfl) (Nat.le_refl _) (own_cut0 h.ro) h.rs

/-- b.path = append(b.path[:0], edgeCursor{v: r}) -/
theorem BD.freshPath (h : BD w S B n lim G left paths len order path ov pv work wv rv cv bv av mark) {W : World} (hb : Below S W w) {o : Obj} {w2 : World} {pv' : Value} {r : Nat} (hp : w2.ownsRow (B + 5) 65 2 pv' 1 [vtx r, .int .i64 0]) (hg : (w.alloc o).grownBy w2 pv.ownBlock) :
    ∃ g cap, BD (w2.setCell ⟨S, 7, none⟩ (.slice (some ⟨g, 0, none⟩) 1 cap)) S B n lim G left paths len order [(r, 0)] ov (.slice (some ⟨g, 0, none⟩) 1 cap) work wv rv cv bv av mark ∧ Below S W (w2.setCell ⟨S, 7, none⟩ (.slice (some ⟨g, 0, none⟩) 1 cap)) ∧
      SB w2 S (.slice (some ⟨S + 1, 0, none⟩) n n) wv lim rv work (.slice (some ⟨B, 0, none⟩) n n) ov pv (.slice (some ⟨B + 1, 0, none⟩) n n) (.slice (some ⟨B + 2, 0, none⟩) n n) cv bv av mark ∧ pv' = .slice (some ⟨g, 0, none⟩) 1 cap := by
  obtain ⟨g, cap, e⟩ := own_pos hp (by omega)
  subst e
  have hz := h.sz
  have hlow := own_low h.rs
  refine ⟨g, cap, ?_, bel_push h hb hg hlow 7 _, h.grownSB hg hlow, rfl⟩
  refine h.set7 (fun k hk => ?_) ?_ ((h.ro.alloc o).kept hg (own_apart h.ro h.rs (by decide))) hp
  · rw [hg.block k (by simp; omega) (fun e => by have := hlow k e.symm; omega), Below.heap_alloc _ _ _ (by omega)]
  · have := hg.size; simp at this; omega

theorem BD.congr (h : BD w S B n lim G left paths len order path ov pv work wv rv cv bv av mark) {left' paths' len' : Nat → Int} (h1 : ∀ v, v < n → left v = left' v) (h2 : ∀ v, v < n → paths v = paths' v) (h3 : ∀ v, v < n → len v = len' v) :
    BD w S B n lim G left' paths' len' order path ov pv work wv rv cv bv av mark :=
  ⟨h.sb, h.grid, h.rl.congr (fun i hi => by rw [h1 i hi]), h.rp.congr (fun i hi => by rw [h2 i hi]), h.rn.congr (fun i hi => by rw [h3 i hi]), h.ro, h.rs, h.lt, h.sz⟩
end

end Go.Proofs.Qxb6003663a
