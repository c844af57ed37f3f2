import Derived.Test.Qxb6003663aGreedy
import Derived.Test.Qxb6003663aNew2
namespace Go.Proofs.Qxb6003663a
open Go.RowKit
set_option linter.unusedVariables false
set_option linter.unusedSimpArgs false

theorem rangeMapGetD {n : Nat} {G : List (List Nat)} (h : G.length = n) : (List.range n).map (G.getD · []) = G := by
  subst h
  apply List.ext_getElem
  · simp
  · intro i h1 h2
    simp [List.getD_eq_getElem?_getD, h2]

/-- a graph that a call has made -/
structure Cpd (w : World) (lo hi n b : Nat) (G : List (List Nat)) : Prop where
  grid : NGrid w lo hi n (.slice (some ⟨b, 0, none⟩) n n) G
  len : G.length = n
  pos : 0 < n
  small : n ≤ 65536
  rows : ∀ i, (G.getD i []).length ≤ 1048576
  hib : b < hi
  hhi : hi ≤ w.heap.size

theorem Cpd.keep {w w' : World} {lo hi n b : Nat} {G : List (List Nat)} (h : Cpd w lo hi n b G) (hb : Below w.heap.size w w') : Cpd w' lo hi n b G :=
  ⟨h.grid.keep (Kept.of_below (hb.mono h.hhi)), h.len, h.pos, h.small, h.rows, h.hib, Nat.le_trans h.hhi hb.size⟩

theorem Cpd.at' {w : World} {lo hi n b : Nat} {G : List (List Nat)} (h : Cpd w lo hi n b G) : ∀ i, i < n → ∃ u, w.cell? ⟨b, 0 + i, none⟩ = some u ∧ NIds w lo hi n u (G.getD i []) := by
  obtain ⟨b2, off2, cap2, hsl, _, _, _, _, hrow⟩ := h.grid
  simp only [Value.slice.injEq, Option.some.injEq, Addr.mk.injEq, and_true] at hsl
  obtain ⟨⟨rfl, rfl⟩, hl, _⟩ := hsl
  intro i hi
  exact hrow i (by omega)

theorem totRowLe (E : List (List Int)) (i : Nat) : (E.getD i []).length ≤ tot E := by
  rcases Nat.lt_or_ge i E.length with h | h
  · have h1 := tot_take_succ E i h
    have h2 := tot_take_le E (i + 1)
    omega
  · simp [List.getD_eq_getElem?_getD, List.getElem?_eq_none h]

theorem cpd_of {w w' : World} {E : List (List Int)} (h : CopyInv w w.heap.size E E.length w') (hF : Fits E) (hp : 0 < E.length) : Cpd w' w.heap.size w'.heap.size E.length w.heap.size (toG E) := by
  unfold Fits at hF
  have h1 := (copied h (by unfold maxLen; omega)).1
  obtain ⟨_, f, hf, _⟩ := h
  refine ⟨h1, toG_length E, hp, by omega, fun i => ?_, hf.lt, Nat.le_refl _⟩
  rw [toG_getD, List.length_map]
  have := totRowLe E i
  omega

/-- the copied graph and its reverse, as a call finds them -/
structure Both (w : World) (lo hi b lo2 hi2 b2 n : Nat) (G H : List (List Nat)) : Prop where
  eg : Cpd w lo hi n b G
  wg : Cpd w lo2 hi2 n b2 H
  rev : ∀ u v, u < n → (v ∈ row H u ↔ u ∈ row G v)
  ns : NoSelf G

theorem Both.keep {w w' : World} {lo hi b lo2 hi2 b2 n : Nat} {G H : List (List Nat)} (h : Both w lo hi b lo2 hi2 b2 n G H) (hb : Below w.heap.size w w') : Both w' lo hi b lo2 hi2 b2 n G H :=
  ⟨h.eg.keep hb, h.wg.keep hb, h.rev, h.ns⟩

theorem rev_both {w : World} {lo hi n b : Nat} {G : List (List Nat)} (h : Cpd w lo hi n b G) (ht : totN G ≤ 1048576) (hns : NoSelf G) :
    Calls Try.prog 14 #[.slice (some ⟨b, 0, none⟩) n n] w (fun e w' => ∃ H, e = .returned (.slice (some ⟨w.heap.size, 0, none⟩) n n) ∧ Below w.heap.size w w' ∧ Both w' lo hi b w.heap.size w'.heap.size w.heap.size n G H) := by
  refine (rev_any h.len h.pos h.small ht (Nat.lt_of_lt_of_le h.hib h.hhi) h.hhi h.at').mono ?_
  intro e w' hp
  obtain ⟨H, rfl, hb, hl, hr, hlen, hg, hlt⟩ := hp
  exact ⟨H, rfl, hb, ⟨h.keep hb, ⟨hg, hl, h.pos, h.small, fun i => Nat.le_trans (hlen i) ht, hlt, Nat.le_refl _⟩, hr, hns⟩⟩

theorem greedy_both {w : World} {lo hi b lo2 hi2 b2 n : Nat} {G H : List (List Nat)} (h : Both w lo hi b lo2 hi2 b2 n G H) (r : Nat) (hr : r < n) :
    Calls Try.prog 17 #[.slice (some ⟨b, 0, none⟩) n n, .slice (some ⟨b2, 0, none⟩) n n, .int .i32 (r : Int)] w (GrePost w G r) :=
  greedy_any r h.eg.len h.wg.len hr h.eg.small h.eg.rows h.eg.grid h.wg.grid h.eg.hib h.wg.hib h.eg.hhi h.wg.hhi h.rev

theorem Both.cliq {w : World} {lo hi b lo2 hi2 b2 n : Nat} {G H : List (List Nat)} (h : Both w lo hi b lo2 hi2 b2 n G H) (r : Nat) : 1 ≤ cliq G r ∧ cliq G r ≤ 1048577 := by
  have h1 := cliq_le G r
  have h2 : (row G r).length ≤ 1048576 := h.eg.rows r
  exact ⟨by unfold Proofs.Qxb6003663a.cliq; omega, by omega⟩

theorem newBoth_both {w : World} {lo hi b lo2 hi2 b2 n : Nat} {G H : List (List Nat)} (h : Both w lo hi b lo2 hi2 b2 n G H) (lim : Int) :
    Calls Try.prog 32 #[.slice (some ⟨b, 0, none⟩) n n, .slice (some ⟨b2, 0, none⟩) n n, .int .i64 lim] w (NewPost w n lim G H) :=
  newBoth_any G H w lo hi n b 0 n lo2 hi2 b2 n lim h.eg.len h.eg.pos h.eg.small h.eg.hhi h.eg.hib h.eg.rows h.eg.at' h.wg.hhi h.wg.hib h.wg.rows h.wg.at'

theorem noSelf_of {E : List (List Int)} (h1 : AllIn E.length E) (h2 : NoneOwn E) : NoSelf (toG E) := by
  intro v hv
  unfold row at hv
  rw [toG_getD] at hv
  obtain ⟨x, hx, hxv⟩ := List.mem_map.1 hv
  rcases Nat.lt_or_ge v E.length with h | h
  · obtain ⟨j, hj, he⟩ := List.getElem_of_mem hx
    have a := h1 v h j hj
    have b := h2 v h j hj
    rw [List.getD_eq_getElem?_getD, List.getElem?_eq_getElem hj, Option.getD_some, he] at a b
    omega
  · rw [List.getD_eq_getElem?_getD, List.getElem?_eq_none h] at hx
    cases hx

end Go.Proofs.Qxb6003663a
