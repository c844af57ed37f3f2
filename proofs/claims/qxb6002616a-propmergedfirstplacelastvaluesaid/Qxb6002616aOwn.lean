import Derived.Test.Qxb6002616aMapWalk
namespace Go.Proofs.Qxb6002616a
open Go.RowKit
set_option linter.unusedVariables false
set_option linter.unusedSimpArgs false

theorem merged_any (es : List Ent) (w : World) (g n : Nat) (hn : n = es.length) (hr : Row w g 27 es) (hks : ∀ j, (key es j).size ≤ maxLen) (hnx : n ≤ 1024) :
    Calls Try.prog 6 #[.slice (some ⟨g, 0, none⟩) n n] w (MergedPost w g es) := by
  by_cases h : n ≤ 16
  · exact lin_any es w g n hn hr h
  · exact map_any es w g n hn hr hks (by omega) hnx

theorem zz_any (es : List Ent) (w : World) (g n : Nat) (hn : n = es.length) (hr : Row w g 27 es) (hks : ∀ j, (key es j).size ≤ maxLen) (hnx : n ≤ 1024) :
    Calls Try.prog 5 #[.slice (some ⟨g, 0, none⟩) n n] w (MergedPost w g es) := by
  have H := hid (merged_any es w g n hn hr hks hnx)
  clear hn hr hks
  go_enter Try.func5, Try.ntmps5
  go_wp2_with fail
  refine H.out.mono ?_
  intro e w1 hp
  obtain ⟨m, M, rfl, h1, h2, h3⟩ := hp
  go_wp2_with fail
  go_ret
  exact ⟨m, M, rfl, h1, h2, h3⟩

/-- the call's own slice of entries -/
def Own (w : World) (B : Nat) (v : Value) (L : List Ent) : Prop := w.ownsRow B 26 2 v L.length (flat L)

section
variable {w w' : World} {B : Nat} {v : Value} {L : List Ent}
theorem own_nil (w : World) (B : Nat) : Own w B (.slice none 0 0) [] := ⟨rfl, .inl ⟨rfl, rfl⟩⟩
theorem Own.shape (h : Own w B v L) : ∃ ao cap, v = .slice ao L.length cap ∧ cap ≤ maxLen ∧ L.length ≤ cap ∧ (0 < L.length → ∃ q, ao = some ⟨q, 0, none⟩ ∧ B ≤ q ∧ q < w.heap.size) := by
  obtain ⟨hl, ⟨rfl, h0⟩ | ⟨q, cap, cur, rfl, hb, hq, h1, h2, _⟩⟩ := h
  · exact ⟨none, 0, by rw [h0], by simp [maxLen], by omega, fun h => absurd h (by omega)⟩
  · exact ⟨_, cap, rfl, h2, h1, fun _ => ⟨q, rfl, hb, (Array.getElem?_eq_some_iff.1 hq).1⟩⟩
theorem Own.at' {ao : Option Addr} {cap q : Nat} (h : Own w B (.slice (some ⟨q, 0, none⟩) L.length cap) L) : ∃ cur, w.heap[q]? = some (.cells cur 26 (0, 0)) ∧ cur.size = cap * 2 ∧ cur.toList.take (L.length * 2) = flat L ∧ L.length ≤ cap := by
  obtain ⟨hl, ⟨h0, _⟩ | ⟨q', cap', cur, hv, hb, hq, h1, h2, h3, h4⟩⟩ := h
  · cases h0
  · cases hv; exact ⟨cur, hq, h3, h4, h1⟩
theorem Own.c {cap q : Nat} (h : Own w B (.slice (some ⟨q, 0, none⟩) L.length cap) L) {j : Nat} (hj : j < L.length * 2) : w.cell? ⟨q, j, none⟩ = (flat L)[j]? := by
  obtain ⟨cur, hq, h3, h4, _⟩ := h.at' (ao := none)
  rw [← h4, List.getElem?_take, if_pos hj]
  simp [World.cell?, hq]
theorem Own.c0 {cap q : Nat} (h : Own w B (.slice (some ⟨q, 0, none⟩) L.length cap) L) {k : Nat} (hk : k < L.length) : w.cell? ⟨q, k * 2, none⟩ = some (.string (key L k)) := by
  rw [h.c (by omega)]; exact flat_at0 L k hk
theorem Own.c1 {cap q : Nat} (h : Own w B (.slice (some ⟨q, 0, none⟩) L.length cap) L) {k : Nat} (hk : k < L.length) : w.cell? ⟨q, k * 2 + 1, none⟩ = some (.int .i64 (val L k)) := by
  rw [h.c (by omega)]; exact flat_at1 L k hk
theorem Own.fr {cap q : Nat} (h : Own w B (.slice (some ⟨q, 0, none⟩) L.length cap) L) (k : Nat) : w.frozen? ⟨q, k, none⟩ = false := by
  obtain ⟨cur, hq, _⟩ := h.at' (ao := none)
  simp [World.frozen?, hq]
theorem Own.drewN (h : Own w B v L) (k : Nat) : Own (w.drewN k) B v L := h
theorem Own.set1 {cap q : Nat} (h : Own w B (.slice (some ⟨q, 0, none⟩) L.length cap) L) {r : Nat} (hr : r < L.length) (x : Int) :
    Own (w.setCell ⟨q, r * 2 + 1, none⟩ (.int .i64 x)) B (.slice (some ⟨q, 0, none⟩) (L.set r (key L r, x)).length cap) (L.set r (key L r, x)) := by
  obtain ⟨hl, ⟨h0, _⟩ | ⟨q', cap', cur, hv, hb, hq, h1, h2, h3, h4⟩⟩ := h
  · cases h0
  · cases hv
    refine ⟨flat_len _, .inr ⟨q, cap, cur.setIfInBounds (r * 2 + 1) (.int .i64 x), rfl, hb, ?_, by simpa using h1, h2, by simpa using h3, ?_⟩⟩
    · simp [World.setCell, Array.getElem?_modify, hq]
    · rw [List.length_set, Array.toList_setIfInBounds, List.take_set, h4, flat_set1]
end

theorem set_len (L : List Ent) (r : Nat) (e : Ent) : (L.set r e).length = L.length := List.length_set

end Go.Proofs.Qxb6002616a
