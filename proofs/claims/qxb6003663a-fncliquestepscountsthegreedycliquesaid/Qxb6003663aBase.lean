import Derived.Test.Qxb6003663aArith
import Derived.Deep.Slices
import Derived.Deep.OwnRows
import Derived.Laws.CopyOwn
namespace Go.Proofs.Qxb6003663a
open Go.RowKit

/-- every number fits an int32 -/
def I32 (l : List Int) : Prop := ∀ j, j < l.length → -2147483648 ≤ l.getD j 0 ∧ l.getD j 0 ≤ 2147483647

/-- The slice value u reads as the list l of int32, its cells in blocks lo .. hi - 1. -/
def Ids (w : World) (lo hi : Nat) (u : Value) (l : List Int) : Prop :=
  ∃ ao cap, u = .slice ao l.length cap ∧ l.length ≤ cap ∧ cap ≤ maxLen ∧ I32 l ∧ (l = [] ∨ ∃ b off, ao = some ⟨b, off, none⟩ ∧ lo ≤ b ∧ b < hi ∧ ∀ j, j < l.length → w.cell? ⟨b, off + j, none⟩ = some (.int .i32 (l.getD j 0)))

/-- The slice value v reads as the list of lists E. -/
def Grid (w : World) (lo hi : Nat) (v : Value) (E : List (List Int)) : Prop :=
  ∃ ao cap, v = .slice ao E.length cap ∧ E.length ≤ cap ∧ cap ≤ maxLen ∧ (E = [] ∨ ∃ b off, ao = some ⟨b, off, none⟩ ∧ lo ≤ b ∧ b < hi ∧ ∀ i, i < E.length → ∃ u, w.cell? ⟨b, off + i, none⟩ = some u ∧ Ids w lo hi u (E.getD i []))

/-- Blocks lo .. hi - 1 are as they were. -/
def Kept (lo hi : Nat) (w w' : World) : Prop := ∀ k, lo ≤ k → k < hi → w'.heap[k]? = w.heap[k]?

theorem Kept.cell {lo hi : Nat} {w w' : World} (h : Kept lo hi w w') {b o : Nat} (h1 : lo ≤ b) (h2 : b < hi) : w'.cell? ⟨b, o, none⟩ = w.cell? ⟨b, o, none⟩ :=
  World.cell?_of_block (w := w) (h b h1 h2)

theorem Ids.keep {w w' : World} {lo hi : Nat} {u : Value} {l : List Int} (h : Ids w lo hi u l) (hk : Kept lo hi w w') : Ids w' lo hi u l := by
  obtain ⟨ao, cap, h1, h2, h3, hx, h4⟩ := h
  refine ⟨ao, cap, h1, h2, h3, hx, ?_⟩
  rcases h4 with h4 | ⟨b, off, h5, h6, h7, h8⟩
  · exact .inl h4
  · exact .inr ⟨b, off, h5, h6, h7, fun j hj => by rw [hk.cell h6 h7]; exact h8 j hj⟩

theorem Grid.keep {w w' : World} {lo hi : Nat} {v : Value} {E : List (List Int)} (h : Grid w lo hi v E) (hk : Kept lo hi w w') : Grid w' lo hi v E := by
  obtain ⟨ao, cap, h1, h2, h3, h4⟩ := h
  refine ⟨ao, cap, h1, h2, h3, ?_⟩
  rcases h4 with h4 | ⟨b, off, h5, h6, h7, h8⟩
  · exact .inl h4
  · refine .inr ⟨b, off, h5, h6, h7, fun j hj => ?_⟩
    obtain ⟨u, hu, hi⟩ := h8 j hj
    exact ⟨u, by rw [hk.cell h6 h7]; exact hu, hi.keep hk⟩

theorem Grid.nonempty {w : World} {lo hi : Nat} {v : Value} {E : List (List Int)} (h : Grid w lo hi v E) (hE : 0 < E.length) :
    ∃ b off cap, v = .slice (some ⟨b, off, none⟩) E.length cap ∧ E.length ≤ cap ∧ cap ≤ maxLen ∧ lo ≤ b ∧ b < hi ∧ ∀ i, i < E.length → ∃ u, w.cell? ⟨b, off + i, none⟩ = some u ∧ Ids w lo hi u (E.getD i []) := by
  obtain ⟨ao, cap, h1, h2, h3, h4⟩ := h
  rcases h4 with h4 | ⟨b, off, h5, h6, h7, h8⟩
  · subst h4; simp at hE
  · subst h5; exact ⟨b, off, cap, h1, h2, h3, h6, h7, h8⟩

theorem Ids.nonempty {w : World} {lo hi : Nat} {v : Value} {E : List Int} (h : Ids w lo hi v E) (hE : 0 < E.length) :
    ∃ b off cap, v = .slice (some ⟨b, off, none⟩) E.length cap ∧ E.length ≤ cap ∧ cap ≤ maxLen ∧ lo ≤ b ∧ b < hi ∧ ∀ i, i < E.length → w.cell? ⟨b, off + i, none⟩ = some (.int .i32 (E.getD i 0)) := by
  obtain ⟨ao, cap, h1, h2, h3, hx, h4⟩ := h
  rcases h4 with h4 | ⟨b, off, h5, h6, h7, h8⟩
  · subst h4; simp at hE
  · subst h5; exact ⟨b, off, cap, h1, h2, h3, h6, h7, h8⟩

theorem Ids.shape {w : World} {lo hi : Nat} {v : Value} {E : List Int} (h : Ids w lo hi v E) : ∃ ao cap, v = .slice ao E.length cap := by
  obtain ⟨ao, cap, h1, _⟩ := h; exact ⟨ao, cap, h1⟩

/-- The cell at index i of a grid: a slice of the row's length. -/
theorem Grid.cells {w : World} {lo hi b off : Nat} {E : List (List Int)} (h : ∀ i, i < E.length → ∃ u, w.cell? ⟨b, off + i, none⟩ = some u ∧ Ids w lo hi u (E.getD i [])) :
    ∃ (A : Nat → Option Addr) (C : Nat → Nat), ∀ i, i < E.length → w.cell? ⟨b, off + i, none⟩ = some (.slice (A i) (E.getD i []).length (C i)) ∧ Ids w lo hi (.slice (A i) (E.getD i []).length (C i)) (E.getD i []) := by
  have : ∀ i, i < E.length → ∃ p : Option Addr × Nat, w.cell? ⟨b, off + i, none⟩ = some (.slice p.1 (E.getD i []).length p.2) ∧ Ids w lo hi (.slice p.1 (E.getD i []).length p.2) (E.getD i []) := by
    intro i hi'
    obtain ⟨u, hu, hid⟩ := h i hi'
    obtain ⟨ao, cap, rfl⟩ := hid.shape
    exact ⟨(ao, cap), hu, hid⟩
  obtain ⟨p, hp⟩ := Go.Deep.choose_lt this
  exact ⟨fun i => (p i).1, fun i => (p i).2, hp⟩

/-- The sum of the rows' lengths. -/
def tot : List (List Int) → Nat
  | [] => 0
  | l :: r => l.length + tot r

theorem tot_take_succ (E : List (List Int)) (k : Nat) (h : k < E.length) : tot (E.take (k + 1)) = tot (E.take k) + (E.getD k []).length := by
  induction E generalizing k with
  | nil => simp at h
  | cons l r ih =>
    cases k with
    | zero => simp [tot]
    | succ k =>
      have := ih k (by simpa using h)
      simp only [List.take_succ_cons, tot, List.getD_cons_succ] at this ⊢
      omega

/-! ### lists of vertices 0 .. n - 1 -/

/-- The slice value u reads as the list l of vertices, all below n, its cells in blocks lo .. hi - 1. -/
def NIds (w : World) (lo hi n : Nat) (u : Value) (l : List Nat) : Prop :=
  ∃ ao cap, u = .slice ao l.length cap ∧ l.length ≤ cap ∧ cap ≤ maxLen ∧ (∀ j, j < l.length → l.getD j 0 < n) ∧ (ao = none → l = []) ∧
    (l = [] ∨ ∃ b off, ao = some ⟨b, off, none⟩ ∧ lo ≤ b ∧ b < hi ∧ ∀ j, j < l.length → w.cell? ⟨b, off + j, none⟩ = some (.int .i32 ((l.getD j 0 : Nat) : Int)))

def NGrid (w : World) (lo hi n : Nat) (v : Value) (G : List (List Nat)) : Prop :=
  ∃ b off cap, v = .slice (some ⟨b, off, none⟩) G.length cap ∧ G.length ≤ cap ∧ cap ≤ maxLen ∧ lo ≤ b ∧ b < hi ∧
    ∀ i, i < G.length → ∃ u, w.cell? ⟨b, off + i, none⟩ = some u ∧ NIds w lo hi n u (G.getD i [])

theorem NIds.keep {w w' : World} {lo hi n : Nat} {u : Value} {l : List Nat} (h : NIds w lo hi n u l) (hk : Kept lo hi w w') : NIds w' lo hi n u l := by
  obtain ⟨ao, cap, h1, h2, h3, hx, hy, h4⟩ := h
  refine ⟨ao, cap, h1, h2, h3, hx, hy, ?_⟩
  rcases h4 with h4 | ⟨b, off, h5, h6, h7, h8⟩
  · exact .inl h4
  · exact .inr ⟨b, off, h5, h6, h7, fun j hj => by rw [hk.cell h6 h7]; exact h8 j hj⟩

theorem NIds.mono {w : World} {lo hi lo' hi' n : Nat} {u : Value} {l : List Nat} (h : NIds w lo hi n u l) (h1 : lo' ≤ lo) (h2 : hi ≤ hi') : NIds w lo' hi' n u l := by
  obtain ⟨ao, cap, g1, g2, g3, gx, gy, g4⟩ := h
  refine ⟨ao, cap, g1, g2, g3, gx, gy, ?_⟩
  rcases g4 with g4 | ⟨b, off, g5, g6, g7, g8⟩
  · exact .inl g4
  · exact .inr ⟨b, off, g5, by omega, by omega, g8⟩

theorem NGrid.keep {w w' : World} {lo hi n : Nat} {v : Value} {G : List (List Nat)} (h : NGrid w lo hi n v G) (hk : Kept lo hi w w') : NGrid w' lo hi n v G := by
  obtain ⟨b, off, cap, h1, h2, h3, h6, h7, h8⟩ := h
  refine ⟨b, off, cap, h1, h2, h3, h6, h7, fun j hj => ?_⟩
  obtain ⟨u, hu, hi⟩ := h8 j hj
  exact ⟨u, by rw [hk.cell h6 h7]; exact hu, hi.keep hk⟩

theorem NIds.nil (w : World) (lo hi n : Nat) : NIds w lo hi n (.slice none 0 0) [] :=
  ⟨none, 0, rfl, Nat.le_refl _, Nat.zero_le _, fun j hj => by simp at hj, fun _ => rfl, .inl rfl⟩

theorem Kept.of_below {lo hi : Nat} {w w' : World} (h : Below hi w w') : Kept lo hi w w' := fun k _ hk => h.block k hk
theorem Kept.trans {lo hi : Nat} {a b c : World} (h : Kept lo hi a b) (k : Kept lo hi b c) : Kept lo hi a c := fun i h1 h2 => (k i h1 h2).trans (h i h1 h2)
theorem Kept.refl (lo hi : Nat) (a : World) : Kept lo hi a a := fun _ _ _ => rfl
theorem Kept.set {lo hi : Nat} {a b : World} (h : Kept lo hi a b) {p : Addr} (hp : p.block < lo ∨ hi ≤ p.block) (v : Value) : Kept lo hi a (b.setCell p v) :=
  h.trans fun k h1 h2 => Below.heap_setCell _ _ _ _ (by omega)
theorem Kept.alloc {lo hi : Nat} {a b : World} (h : Kept lo hi a b) (hs : hi ≤ b.heap.size) (o : Obj) : Kept lo hi a (b.alloc o) :=
  h.trans fun k h1 h2 => Below.heap_alloc _ _ _ (by omega)
theorem Kept.grown {lo hi : Nat} {a b c : World} {row : Option Nat} (h : Kept lo hi a b) (hg : b.grownBy c row) (hs : hi ≤ b.heap.size) (hr : ∀ k, row = some k → k < lo ∨ hi ≤ k) : Kept lo hi a c :=
  h.trans fun k h1 h2 => hg.block k (by omega) (fun e => by have := hr k e.symm; omega)

/-- the rows of E as vertices -/
def toG (E : List (List Int)) : List (List Nat) := E.map (fun l => l.map Int.toNat)
theorem toG_length (E : List (List Int)) : (toG E).length = E.length := by simp [toG]
theorem toG_getD (E : List (List Int)) (i : Nat) : (toG E).getD i [] = (E.getD i []).map Int.toNat := by
  simp only [toG, List.getD_eq_getElem?_getD, List.getElem?_map]
  cases E[i]? <;> rfl
theorem getD_toNat (l : List Int) (j : Nat) : (l.map Int.toNat).getD j 0 = (l.getD j 0).toNat := by
  simp only [List.getD_eq_getElem?_getD, List.getElem?_map]
  cases l[j]? <;> rfl

end Go.Proofs.Qxb6003663a
