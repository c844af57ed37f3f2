import Derived.Test.Qxb6003663aState
namespace Go.Proofs.Qxb6003663a
open Go.RowKit
set_option linter.unusedVariables false
set_option linter.unusedSimpArgs false

theorem takeSnoc {l : List Nat} {k : Nat} (h : k < l.length) : l.take (k + 1) = l.take k ++ [l.getD k 0] := by
  rw [List.take_succ_eq_append_getElem h, List.getD_eq_getElem?_getD, List.getElem?_eq_getElem h]; rfl

theorem NGrid.edges {w : World} {lo hi n b off m cap : Nat} {G : List (List Nat)} (h : NGrid w lo hi n (.slice (some ⟨b, off, none⟩) m cap) G) {v : Nat} (hv : v < G.length) :
    ∃ ao cap', w.cell? ⟨b, off + v, none⟩ = some (.slice ao (row G v).length cap') ∧ cap' ≤ maxLen ∧ (row G v).length ≤ cap' ∧ (0 < (row G v).length → ∃ b' off', ao = some ⟨b', off', none⟩ ∧ lo ≤ b' ∧ b' < hi ∧ ∀ j, j < (row G v).length → w.cell? ⟨b', off' + j, none⟩ = some (.int .i32 (((row G v).getD j 0 : Nat) : Int)) ∧ (row G v).getD j 0 < n) := by
  obtain ⟨b2, off2, cap2, hsl, _, _, _, _, hrow⟩ := h
  simp only [Value.slice.injEq, Option.some.injEq, Addr.mk.injEq, and_true] at hsl
  obtain ⟨⟨rfl, rfl⟩, _, _⟩ := hsl
  obtain ⟨u, hu, ao, cap, rfl, h1, h2, h3, h4, h5⟩ := hrow v hv
  refine ⟨ao, cap, hu, h2, h1, fun hp => ?_⟩
  rcases h5 with h5 | ⟨b', off', e, h6, h7, h8⟩
  · unfold row at hp; rw [h5] at hp; simp at hp
  · exact ⟨b', off', e, h6, h7, fun j hj => ⟨h8 j hj, h3 j hj⟩⟩

theorem NGrid.child_lt {w : World} {lo hi n b off m cap : Nat} {G : List (List Nat)} (h : NGrid w lo hi n (.slice (some ⟨b, off, none⟩) m cap) G) (bk : Bool) : ∀ v t, t < (row G v).length → child G bk v t < n := by
  intro v t ht
  have hv : v < G.length := by
    rcases Nat.lt_or_ge v G.length with h' | h'
    · exact h'
    · have : G[v]? = none := List.getElem?_eq_none h'
      simp [row, List.getD_eq_getElem?_getD, this] at ht
  obtain ⟨_, _, _, _, _, h1⟩ := h.edges hv
  obtain ⟨_, _, _, _, _, h2⟩ := h1 (by omega)
  exact (h2 _ (place_lt ht)).2

/-- the memory of the recursive search: the graph in blocks lo .. hi - 1, the marks in block L, the order from L + 1 on -/
structure DW (w : World) (lo hi L n b off cap : Nat) (G : List (List Nat)) (left : Nat → Int) (order : List Nat) (ov : Value) : Prop where
  grid : NGrid w lo hi n (.slice (some ⟨b, off, none⟩) n cap) G
  glen : G.length = n
  rl : w.rowIs L 21 n (fun i => .int .i32 (left i))
  ro : w.ownsRow (L + 1) 21 1 ov order.length (order.map vtx)
  hib : b < hi
  lt : hi ≤ L

section
variable {w : World} {lo hi L n b off cap : Nat} {G : List (List Nat)} {left : Nat → Int} {order : List Nat} {ov : Value}

theorem DW.setL (h : DW w lo hi L n b off cap G left order ov) (i : Nat) (x : Int) : DW (w.setCell ⟨L, i, none⟩ (.int .i32 x)) lo hi L n b off cap G (upd left i x) order ov := by
  have hl := h.lt
  refine ⟨h.grid.keep ((Kept.refl _ _ _).set (Or.inr (by simpa using hl)) _), h.glen, (h.rl.set i _).congr (fun j _ => ?_), own_set h.ro (by simp) _, h.hib, hl⟩
  unfold upd; split <;> rfl

theorem DW.push (h : DW w lo hi L n b off cap G left order ov) {W : World} (hb : Below L W w) {o : Obj} {w2 : World} {ov' : Value} {v : Nat} (ho : w2.ownsRow (L + 1) 21 1 ov' (order.length + 1) (order.map vtx ++ [vtx v])) (hg : (w.alloc o).grownBy w2 ov.ownBlock) :
    DW w2 lo hi L n b off cap G left (order ++ [v]) ov' ∧ Below L W w2 := by
  have hl := h.lt
  have hL := h.rl.lt
  have hlow := own_low h.ro
  have hk : ∀ k, k < L + 1 → w2.heap[k]? = w.heap[k]? := fun k hk => by
    rw [hg.block k (by simp; omega) (fun e => by have := hlow k e.symm; omega), Below.heap_alloc _ _ _ (by omega)]
  refine ⟨⟨h.grid.keep (fun k _ h2 => hk k (by omega)), h.glen, h.rl.of_block (hk L (by omega)), by simpa using ho, h.hib, hl⟩, ?_⟩
  exact (hb.alloc (by omega) o).grown hg (by simp; omega) (fun k hk => by have := hlow k hk; omega)
end

def DfsPost (w : World) (lo hi L n b off cap : Nat) (G : List (List Nat)) (bk : Bool) (left : Nat → Int) (order : List Nat) (v : Nat) (e : Ending) (w' : World) : Prop :=
  ∃ ov' left' order', e = .returned ov' ∧ DW w' lo hi L n b off cap G left' order' ov' ∧ Below L w w' ∧ (∀ K, Runs G bk ⟨(v, 0) :: K, upd left v (-1), order⟩ ⟨K, left', order'⟩) ∧
    (∀ u, left u ≠ 0 → left' u ≠ 0) ∧ order'.length + zsum (fun _ => 1) left' n ≤ order.length + zsum (fun _ => 1) left n

def DfsInv (w : World) (lo hi L n b off cap : Nat) (G : List (List Nat)) (bk : Bool) (left : Nat → Int) (order : List Nat) (v : Nat) (t : Nat) (ov' : Value) (wr : World) : Prop :=
  ∃ left' order', DW wr lo hi L n b off cap G left' order' ov' ∧ Below L w wr ∧ (∀ K, Runs G bk ⟨(v, 0) :: K, upd left v (-1), order⟩ ⟨(v, t) :: K, left', order'⟩) ∧
    (∀ u, left u ≠ 0 → left' u ≠ 0) ∧ order'.length + 1 + zsum (fun _ => 1) left' n ≤ order.length + zsum (fun _ => 1) left n ∧ left' v ≠ 0

theorem dfs_start {w : World} {lo hi L n b off cap : Nat} {G : List (List Nat)} {bk : Bool} {left : Nat → Int} {order : List Nat} {ov : Value} {v : Nat} (h : DW w lo hi L n b off cap G left order ov) (hv : v < n) (h0 : left v = 0) :
    DfsInv w lo hi L n b off cap G bk left order v 0 ov (w.setCell ⟨L, v, none⟩ (.int .i32 (-1))) := by
  refine ⟨_, order, h.setL v (-1), (Below.refl _ _).setCell (by simp) _, fun K => Runs.refl _ _ _, fun u hu => ?_, ?_, by rw [upd_same]; omega⟩
  · by_cases e : u = v
    · subst e; rw [upd_same]; omega
    · rw [upd_other _ _ e]; exact hu
  · have := zsum_upd (fun _ => 1) left n v (-1) hv h0 (by omega)
    omega

theorem dfs_done {w wr : World} {lo hi L n b off cap : Nat} {G : List (List Nat)} {bk : Bool} {left : Nat → Int} {order : List Nat} {v t : Nat} {left' : Nat → Int} {order' : List Nat} {ov' : Value} {o : Obj} {w2 : World} {ov2 : Value}
    (h1 : DW wr lo hi L n b off cap G left' order' ov') (h2 : Below L w wr) (h3 : ∀ K, Runs G bk ⟨(v, 0) :: K, upd left v (-1), order⟩ ⟨(v, t) :: K, left', order'⟩) (h4 : ∀ u, left u ≠ 0 → left' u ≠ 0) (h5 : order'.length + 1 + zsum (fun _ => 1) left' n ≤ order.length + zsum (fun _ => 1) left n) (h6 : left' v ≠ 0)
    (ht : ¬ t < (row G v).length) (ho : w2.ownsRow (L + 1) 21 1 ov2 (order'.length + 1) (order'.map vtx ++ [vtx v])) (hg : (wr.alloc o).grownBy w2 ov'.ownBlock) :
    DfsPost w lo hi L n b off cap G bk left order v (.returned ov2) (w2.setCell ⟨L, v, none⟩ (.int .i32 ((order'.length : Int) + 1))) := by
  obtain ⟨a1, a2⟩ := h1.push h2 (v := v) ho hg
  refine ⟨ov2, _, _, rfl, a1.setL v _, a2.setCell (by simp) _, fun K => ?_, fun u hu => ?_, ?_⟩
  · have := (h3 K).next
    rw [step_pop ht] at this
    exact this
  · by_cases e : u = v
    · subst e; rw [upd_same]; omega
    · rw [upd_other _ _ e]; exact h4 u hu
  · have : zsum (fun _ => 1) (upd left' v ((order'.length : Int) + 1)) n ≤ zsum (fun _ => 1) left' n := by
      refine zsum_le _ _ _ _ (fun u _ hu => ?_)
      by_cases e : u = v
      · subst e; rw [upd_same]; omega
      · rw [upd_other _ _ e]; exact hu
    simp only [List.length_append, List.length_cons, List.length_nil]; omega

end Go.Proofs.Qxb6003663a
