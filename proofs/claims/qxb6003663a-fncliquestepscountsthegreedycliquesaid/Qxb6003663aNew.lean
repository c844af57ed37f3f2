import Derived.Test.Qxb6003663aBound
namespace Go.Proofs.Qxb6003663a
open Go.RowKit
set_option linter.unusedVariables false
set_option linter.unusedSimpArgs false

/-- The first k of the values f read as the rows of G, in blocks from lo on. -/
def Upto (w : World) (lo n : Nat) (f : Nat → Value) (k : Nat) (G : List (List Nat)) : Prop := ∀ t, t < k → NIds w lo w.heap.size n (f t) (G.getD t [])

theorem Upto.keep {w w' : World} {lo n : Nat} {f : Nat → Value} {k : Nat} {G : List (List Nat)} (h : Upto w lo n f k G) (hk : Kept lo w.heap.size w w') (hs : w.heap.size ≤ w'.heap.size) : Upto w' lo n f k G :=
  fun t ht => ((h t ht).keep hk).mono (Nat.le_refl _) hs

theorem Upto.step {w w1 : World} {lo n g : Nat} {f : Nat → Value} {k : Nat} {G : List (List Nat)} {v : Value} (h : Upto w lo n f k G) (hb : Below w.heap.size w w1) (hv : NIds w1 w.heap.size w1.heap.size n v (G.getD k [])) (hg : g < lo) (hlo : lo ≤ w.heap.size) :
    Upto (w1.setCell ⟨g, k, none⟩ v) lo n (fun j => if j = k then v else f j) (k + 1) G := by
  intro t ht
  have hk1 : Kept lo w1.heap.size w1 (w1.setCell ⟨g, k, none⟩ v) := (Kept.refl _ _ _).set (Or.inl hg) _
  by_cases e : t = k
  · subst e
    simp only [if_true]
    have := (hv.mono hlo (Nat.le_refl _)).keep hk1
    simpa using this
  · simp only [if_neg e]
    have h0 := ((h t (by omega)).keep (Kept.of_below hb)).mono (Nat.le_refl _) hb.size
    simpa using h0.keep hk1

theorem Upto.skip {w : World} {lo n : Nat} {f : Nat → Value} {k : Nat} {G : List (List Nat)} (h : Upto w lo n f k G) (hv : f k = .slice none 0 0) (hG : G.getD k [] = []) : Upto w lo n f (k + 1) G := by
  intro t ht
  by_cases e : t = k
  · subst e; rw [hv, hG]; exact NIds.nil _ _ _ _
  · exact h t (by omega)

/-- k edges rows, j waiters rows have been laid. -/
def NB (w : World) (S n : Nat) (lim : Int) (G H : List (List Nat)) (k j : Nat) (wr : World) : Prop :=
  Below S w wr ∧ S + 3 ≤ wr.heap.size ∧ SB wr S (.slice (some ⟨S + 1, 0, none⟩) n n) (.slice (some ⟨S + 1 + 1, 0, none⟩) n n) lim (.slice none 0 0) 0 (.slice none 0 0) (.slice none 0 0) (.slice none 0 0) (.slice none 0 0) (.slice none 0 0) (.slice none 0 0) (.slice none 0 0) (.slice none 0 0) 0 ∧
  ∃ fe fw, wr.rowIs (S + 1) 56 n fe ∧ wr.rowIs (S + 1 + 1) 56 n fw ∧ Upto wr (S + 3) n fe k G ∧ Upto wr (S + 3) n fw j H ∧ ∀ t, j ≤ t → fw t = .slice none 0 0

theorem nb_start (w : World) (n : Nat) (lim : Int) (G H : List (List Nat)) :
    NB w w.heap.size n lim G H 0 0 (((w.alloc (Obj.cells #[.slice (some ⟨w.heap.size + 1, 0, none⟩) n n, .slice (some ⟨w.heap.size + 1 + 1, 0, none⟩) n n, .int .i64 lim, .slice none 0 0, .int .i64 0, .slice none 0 0, .slice none 0 0, .slice none 0 0, .slice none 0 0, .slice none 0 0, .slice none 0 0, .slice none 0 0, .slice none 0 0, .int .i64 0] 59)).alloc (Obj.cells (madeCells #[.slice none 0 0] n) 56)).alloc (Obj.cells (madeCells #[.slice none 0 0] n) 56)) := by
  refine ⟨(((Below.refl _ _).alloc (Nat.le_refl _) _).alloc (by simp) _).alloc (by simp; omega) _, by simp, ?_, fun _ => .slice none 0 0, fun _ => .slice none 0 0, ?_, ?_, fun t ht => absurd ht (by omega), fun t ht => absurd ht (by omega), fun _ _ => rfl⟩
  · refine SB.alloc (SB.alloc ?_ _) _
    exact heap_alloc_new w _
  · have := World.rowIs_made (w.alloc (Obj.cells #[.slice (some ⟨w.heap.size + 1, 0, none⟩) n n, .slice (some ⟨w.heap.size + 1 + 1, 0, none⟩) n n, .int .i64 lim, .slice none 0 0, .int .i64 0, .slice none 0 0, .slice none 0 0, .slice none 0 0, .slice none 0 0, .slice none 0 0, .slice none 0 0, .slice none 0 0, .slice none 0 0, .int .i64 0] 59)) (.slice none 0 0) n 56
    rw [World.size_alloc] at this
    exact this.alloc _
  · have := World.rowIs_made ((w.alloc (Obj.cells #[.slice (some ⟨w.heap.size + 1, 0, none⟩) n n, .slice (some ⟨w.heap.size + 1 + 1, 0, none⟩) n n, .int .i64 lim, .slice none 0 0, .int .i64 0, .slice none 0 0, .slice none 0 0, .slice none 0 0, .slice none 0 0, .slice none 0 0, .slice none 0 0, .slice none 0 0, .slice none 0 0, .int .i64 0] 59)).alloc (Obj.cells (madeCells #[.slice none 0 0] n) 56)) (.slice none 0 0) n 56
    rw [World.size_alloc, World.size_alloc] at this
    exact this

theorem nb_edge {w wr w1 : World} {S n : Nat} {lim : Int} {G H : List (List Nat)} {k j : Nat} {v : Value} (h : NB w S n lim G H k j wr) (hb : Below wr.heap.size wr w1) (hv : NIds w1 wr.heap.size w1.heap.size n v (G.getD k [])) :
    NB w S n lim G H (k + 1) j (w1.setCell ⟨S + 1, k, none⟩ v) := by
  obtain ⟨h1, h2, h3, fe, fw, h4, h5, h6, h7, h8⟩ := h
  have hs := hb.size
  refine ⟨(h1.trans (hb.mono (by omega))).setCell (by simp) _, by simp; omega, (h3.of (hb.block S (by omega))).off (by simp) _, _, fw, (h4.of_block (hb.block _ (by omega))).set k v, (h5.of_block (hb.block _ (by omega))).setOther (by simp) _, h6.step hb hv (by omega) h2, ?_, h8⟩
  exact h7.keep ((Kept.of_below hb).set (Or.inl (by simp)) _) (by simp; omega)

theorem nb_wait {w wr w1 : World} {S n : Nat} {lim : Int} {G H : List (List Nat)} {k j : Nat} {v : Value} (h : NB w S n lim G H k j wr) (hb : Below wr.heap.size wr w1) (hv : NIds w1 wr.heap.size w1.heap.size n v (H.getD j [])) :
    NB w S n lim G H k (j + 1) (w1.setCell ⟨S + 1 + 1, j, none⟩ v) := by
  obtain ⟨h1, h2, h3, fe, fw, h4, h5, h6, h7, h8⟩ := h
  have hs := hb.size
  refine ⟨(h1.trans (hb.mono (by omega))).setCell (by simp; omega) _, by simp; omega, (h3.of (hb.block S (by omega))).off (by simp; omega) _, fe, _, (h4.of_block (hb.block _ (by omega))).setOther (by simp) _, (h5.of_block (hb.block _ (by omega))).set j v, ?_, h7.step hb hv (by omega) h2, fun t ht => by rw [if_neg (by omega)]; exact h8 t (by omega)⟩
  exact h6.keep ((Kept.of_below hb).set (Or.inl (by simp)) _) (by simp; omega)

theorem nb_skip {w wr : World} {S n : Nat} {lim : Int} {G H : List (List Nat)} {k j : Nat} (h : NB w S n lim G H k j wr) (hG : H.getD j [] = []) : NB w S n lim G H k (j + 1) wr := by
  obtain ⟨h1, h2, h3, fe, fw, h4, h5, h6, h7, h8⟩ := h
  exact ⟨h1, h2, h3, fe, fw, h4, h5, h6, h7.skip (h8 j (Nat.le_refl _)) hG, fun t ht => h8 t (by omega)⟩

theorem nb_drew {w wr : World} {S n : Nat} {lim : Int} {G H : List (List Nat)} {k j : Nat} (h : NB w S n lim G H k j wr) : NB w S n lim G H k j wr.drew := by
  obtain ⟨h1, h2, h3, fe, fw, h4, h5, h6, h7, h8⟩ := h
  exact ⟨h1.drew, h2, h3, fe, fw, h4, h5, h6, h7, h8⟩

theorem nb_call {w wr : World} {S n : Nat} {lim : Int} {G H : List (List Nat)} {k j : Nat} (h : NB w S n lim G H k j wr) (hk : k < n) {e : Ending} {w1 : World} (hp : VertPost wr.drew n (G.getD k []) e w1) :
    ∃ ao m c, e = .returned (.slice ao m c) ∧ NB w S n lim G H (k + 1) j (w1.setCell ⟨S + 1, k, none⟩ (.slice ao m c)) ∧ w1.cell? ⟨S, 0, none⟩ = some (.slice (some ⟨S + 1, 0, none⟩) n n) ∧ (∃ x, w1.cell? ⟨S + 1, k, none⟩ = some x) ∧ w1.frozen? ⟨S + 1, k, none⟩ = false := by
  obtain ⟨v, rfl, hv, hb⟩ := hp
  have h' := nb_drew h
  obtain ⟨ao, c, rfl, _⟩ := id hv
  refine ⟨ao, _, c, rfl, nb_edge h' hb hv, ?_⟩
  obtain ⟨h1, h2, h3, fe, fw, h4, h5, h6, h7, h8⟩ := h'
  exact ⟨(hb.cell (by simp at h2 ⊢; omega)).trans h3.c0, ⟨_, (hb.cell (by simp at h2 ⊢; omega)).trans (h4.cell hk)⟩, (hb.frozen (by simp at h2 ⊢; omega)).trans (h4.frozen k)⟩

/-- i of the five last blocks have been laid. -/
structure Stg (w wr : World) (S n : Nat) (lim : Int) (i : Nat) (lv qv nv bv av : Value) (wc : World) : Prop where
  bel : Below S w wc
  kept : Kept (S + 1) wr.heap.size wr wc
  size : wc.heap.size = wr.heap.size + i
  sb : SB wc S (.slice (some ⟨S + 1, 0, none⟩) n n) (.slice (some ⟨S + 1 + 1, 0, none⟩) n n) lim (.slice none 0 0) 0 lv (.slice none 0 0) (.slice none 0 0) qv nv (.slice none 0 0) bv av 0
  r0 : 0 < i → wc.rowIs (wr.heap.size + 0) 21 n (fun _ => .int .i32 0)
  rs : ∀ j, 0 < j → j < i → wc.rowIs (wr.heap.size + j) 3 n (fun _ => .int .i64 0)
  lt : S < wr.heap.size

theorem stg_start {w wr : World} {S n : Nat} {lim : Int} {G H : List (List Nat)} {k j : Nat} (h : NB w S n lim G H k j wr) :
    Stg w wr S n lim 0 (.slice none 0 0) (.slice none 0 0) (.slice none 0 0) (.slice none 0 0) (.slice none 0 0) wr :=
  ⟨h.1, Kept.refl _ _ _, rfl, h.2.2.1, fun h => absurd h (by omega), fun j _ h => absurd h (by omega), h.2.2.1.lt⟩

section
variable {w wr wc : World} {S n : Nat} {lim : Int} {i : Nat} {lv qv nv bv av : Value}
theorem Stg.cell (h : Stg w wr S n lim i lv qv nv bv av wc) (f : Nat) (v : Value) (o : Obj) :
    Below S w ((wc.setCell ⟨S, f, none⟩ v).alloc o) ∧ Kept (S + 1) wr.heap.size wr ((wc.setCell ⟨S, f, none⟩ v).alloc o) ∧ ((wc.setCell ⟨S, f, none⟩ v).alloc o).heap.size = wr.heap.size + (i + 1) ∧ ∀ b t n f', S < b → wc.rowIs b t n f' → ((wc.setCell ⟨S, f, none⟩ v).alloc o).rowIs b t n f' := by
  have hs := h.size
  have hl := h.lt
  refine ⟨(h.bel.setCell (by simp) _).alloc (by simp; omega) _, (h.kept.set (Or.inl (by simp)) _).alloc (by simp; omega) _, by simp; omega, fun b t n f' hb hr => (hr.setOther (by simp; omega) _).alloc _⟩
theorem Stg.newRow (h : Stg w wr S n lim i lv qv nv bv av wc) (f : Nat) (v z : Value) (t : TypeId) : ((wc.setCell ⟨S, f, none⟩ v).alloc (.cells (madeCells #[z] n) t)).rowIs (wr.heap.size + i) t n (fun _ => z) := by
  have := World.rowIs_made (wc.setCell ⟨S, f, none⟩ v) z n t
  rw [World.size_setCell, h.size] at this
  exact this
theorem Stg.step5 (h : Stg w wr S n lim 0 lv qv nv bv av wc) : Stg w wr S n lim (0 + 1) (.slice (some ⟨wr.heap.size + 0, 0, none⟩) n n) qv nv bv av ((wc.setCell ⟨S, 5, none⟩ (.slice (some ⟨wc.heap.size, 0, none⟩) n n)).alloc (.cells (madeCells #[.int .i32 0] n) 21)) := by
  obtain ⟨h1, h2, h3, h4⟩ := h.cell 5 (.slice (some ⟨wc.heap.size, 0, none⟩) n n) (.cells (madeCells #[.int .i32 0] n) 21)
  refine ⟨h1, h2, h3, ?_, fun _ => h.newRow _ _ _ _, fun j h0 hj => by omega, h.lt⟩
  have := (h.sb.s5 (.slice (some ⟨wc.heap.size, 0, none⟩) n n)).alloc (.cells (madeCells #[.int .i32 0] n) 21)
  rw [← h.size]; exact this
theorem Stg.rows (h : Stg w wr S n lim i lv qv nv bv av wc) (hi : 0 < i) (f : Nat) (v : Value) : (0 < i + 1 → ((wc.setCell ⟨S, f, none⟩ v).alloc (.cells (madeCells #[.int .i64 0] n) 3)).rowIs (wr.heap.size + 0) 21 n (fun _ => .int .i32 0)) ∧
    ∀ j, 0 < j → j < i + 1 → ((wc.setCell ⟨S, f, none⟩ v).alloc (.cells (madeCells #[.int .i64 0] n) 3)).rowIs (wr.heap.size + j) 3 n (fun _ => .int .i64 0) := by
  obtain ⟨h1, h2, h3, h4⟩ := h.cell f v (.cells (madeCells #[.int .i64 0] n) 3)
  have hl := h.lt
  refine ⟨fun _ => h4 _ _ _ _ (by omega) (h.r0 hi), fun j h0 hj => ?_⟩
  by_cases e : j = i
  · subst e; exact h.newRow _ _ _ _
  · exact h4 _ _ _ _ (by omega) (h.rs j h0 (by omega))
theorem Stg.step8 (h : Stg w wr S n lim 1 lv qv nv bv av wc) : Stg w wr S n lim (1 + 1) lv (.slice (some ⟨wr.heap.size + 1, 0, none⟩) n n) nv bv av ((wc.setCell ⟨S, 8, none⟩ (.slice (some ⟨wc.heap.size, 0, none⟩) n n)).alloc (.cells (madeCells #[.int .i64 0] n) 3)) := by
  obtain ⟨h1, h2, h3, h4⟩ := h.cell 8 (.slice (some ⟨wc.heap.size, 0, none⟩) n n) (.cells (madeCells #[.int .i64 0] n) 3)
  obtain ⟨r1, r2⟩ := h.rows (by omega) 8 (.slice (some ⟨wc.heap.size, 0, none⟩) n n)
  refine ⟨h1, h2, h3, ?_, r1, r2, h.lt⟩
  have := (h.sb.s8 (.slice (some ⟨wc.heap.size, 0, none⟩) n n)).alloc (.cells (madeCells #[.int .i64 0] n) 3)
  rw [← h.size]; exact this
theorem Stg.step9 (h : Stg w wr S n lim 2 lv qv nv bv av wc) : Stg w wr S n lim (2 + 1) lv qv (.slice (some ⟨wr.heap.size + 2, 0, none⟩) n n) bv av ((wc.setCell ⟨S, 9, none⟩ (.slice (some ⟨wc.heap.size, 0, none⟩) n n)).alloc (.cells (madeCells #[.int .i64 0] n) 3)) := by
  obtain ⟨h1, h2, h3, h4⟩ := h.cell 9 (.slice (some ⟨wc.heap.size, 0, none⟩) n n) (.cells (madeCells #[.int .i64 0] n) 3)
  obtain ⟨r1, r2⟩ := h.rows (by omega) 9 (.slice (some ⟨wc.heap.size, 0, none⟩) n n)
  refine ⟨h1, h2, h3, ?_, r1, r2, h.lt⟩
  have := (h.sb.s9 (.slice (some ⟨wc.heap.size, 0, none⟩) n n)).alloc (.cells (madeCells #[.int .i64 0] n) 3)
  rw [← h.size]; exact this
theorem Stg.step11 (h : Stg w wr S n lim 3 lv qv nv bv av wc) : Stg w wr S n lim (3 + 1) lv qv nv (.slice (some ⟨wr.heap.size + 3, 0, none⟩) n n) av ((wc.setCell ⟨S, 11, none⟩ (.slice (some ⟨wc.heap.size, 0, none⟩) n n)).alloc (.cells (madeCells #[.int .i64 0] n) 3)) := by
  obtain ⟨h1, h2, h3, h4⟩ := h.cell 11 (.slice (some ⟨wc.heap.size, 0, none⟩) n n) (.cells (madeCells #[.int .i64 0] n) 3)
  obtain ⟨r1, r2⟩ := h.rows (by omega) 11 (.slice (some ⟨wc.heap.size, 0, none⟩) n n)
  refine ⟨h1, h2, h3, ?_, r1, r2, h.lt⟩
  have := (h.sb.s11 (.slice (some ⟨wc.heap.size, 0, none⟩) n n)).alloc (.cells (madeCells #[.int .i64 0] n) 3)
  rw [← h.size]; exact this
theorem Stg.step12 (h : Stg w wr S n lim 4 lv qv nv bv av wc) : Stg w wr S n lim (4 + 1) lv qv nv bv (.slice (some ⟨wr.heap.size + 4, 0, none⟩) n n) ((wc.setCell ⟨S, 12, none⟩ (.slice (some ⟨wc.heap.size, 0, none⟩) n n)).alloc (.cells (madeCells #[.int .i64 0] n) 3)) := by
  obtain ⟨h1, h2, h3, h4⟩ := h.cell 12 (.slice (some ⟨wc.heap.size, 0, none⟩) n n) (.cells (madeCells #[.int .i64 0] n) 3)
  obtain ⟨r1, r2⟩ := h.rows (by omega) 12 (.slice (some ⟨wc.heap.size, 0, none⟩) n n)
  refine ⟨h1, h2, h3, ?_, r1, r2, h.lt⟩
  have := (h.sb.s12 (.slice (some ⟨wc.heap.size, 0, none⟩) n n)).alloc (.cells (madeCells #[.int .i64 0] n) 3)
  rw [← h.size]; exact this
end

/-- A fresh stepBound at block S: edges G, waiters H (rows beyond its end are empty), all else empty or zero. -/
def NewPost (w : World) (n : Nat) (lim : Int) (G H : List (List Nat)) (e : Ending) (w' : World) : Prop :=
  e = .returned (.pointer (some ⟨w.heap.size, 0, none⟩)) ∧ ∃ B, Below w.heap.size w w' ∧ w.heap.size + 3 ≤ B ∧ w'.heap.size = B + 5 ∧
    SB w' w.heap.size (.slice (some ⟨w.heap.size + 1, 0, none⟩) n n) (.slice (some ⟨w.heap.size + 1 + 1, 0, none⟩) n n) lim (.slice none 0 0) 0 (.slice (some ⟨B + 0, 0, none⟩) n n) (.slice none 0 0) (.slice none 0 0) (.slice (some ⟨B + 1, 0, none⟩) n n) (.slice (some ⟨B + 2, 0, none⟩) n n) (.slice none 0 0) (.slice (some ⟨B + 3, 0, none⟩) n n) (.slice (some ⟨B + 4, 0, none⟩) n n) 0 ∧
    NGrid w' (w.heap.size + 1) B n (.slice (some ⟨w.heap.size + 1, 0, none⟩) n n) ((List.range n).map (G.getD · [])) ∧ NGrid w' (w.heap.size + 1) B n (.slice (some ⟨w.heap.size + 1 + 1, 0, none⟩) n n) ((List.range n).map (H.getD · [])) ∧
    w'.rowIs (B + 0) 21 n (fun _ => .int .i32 0) ∧ ∀ j, 0 < j → j < 5 → w'.rowIs (B + j) 3 n (fun _ => .int .i64 0)

theorem range_getD (n : Nat) (G : List (List Nat)) (i : Nat) (h : i < n) : ((List.range n).map (G.getD · [])).getD i [] = G.getD i [] := by
  simp [List.getD_eq_getElem?_getD, h]

theorem new_done {w wr wc : World} {n : Nat} {lim : Int} {G H : List (List Nat)} (h : NB w w.heap.size n lim G H n n wr)
    (st : Stg w wr w.heap.size n lim 5 (.slice (some ⟨wr.heap.size + 0, 0, none⟩) n n) (.slice (some ⟨wr.heap.size + 1, 0, none⟩) n n) (.slice (some ⟨wr.heap.size + 2, 0, none⟩) n n) (.slice (some ⟨wr.heap.size + 3, 0, none⟩) n n) (.slice (some ⟨wr.heap.size + 4, 0, none⟩) n n) wc) (hm : n ≤ maxLen) :
    NewPost w n lim G H (.returned (.pointer (some ⟨w.heap.size, 0, none⟩))) wc := by
  obtain ⟨h1, h2, h3, fe, fw, h4, h5, h6, h7, h8⟩ := h
  refine ⟨rfl, wr.heap.size, st.bel, h2, st.size, st.sb, ?_, ?_, st.r0 (by omega), fun j h0 hj => st.rs j h0 hj⟩
  · refine ⟨_, _, _, by rw [List.length_map, List.length_range], by rw [List.length_map, List.length_range]; exact Nat.le_refl _, hm, Nat.le_refl _, h4.lt, fun i hi => ?_⟩
    rw [List.length_map, List.length_range] at hi
    refine ⟨fe i, ?_, ?_⟩
    · rw [Nat.zero_add, st.kept.cell (Nat.le_refl _) h4.lt]; exact h4.cell hi
    · rw [range_getD n G i hi]; exact ((h6 i hi).mono (by omega) (Nat.le_refl _)).keep st.kept
  · refine ⟨_, _, _, by rw [List.length_map, List.length_range], by rw [List.length_map, List.length_range]; exact Nat.le_refl _, hm, by omega, h5.lt, fun i hi => ?_⟩
    rw [List.length_map, List.length_range] at hi
    refine ⟨fw i, ?_, ?_⟩
    · rw [Nat.zero_add, st.kept.cell (by omega) h5.lt]; exact h5.cell hi
    · rw [range_getD n H i hi]; exact ((h7 i hi).mono (by omega) (Nat.le_refl _)).keep st.kept

set_option maxHeartbeats 2000000 in
theorem newCycle_any (G : List (List Nat)) (w : World) (lo hi n b off cap : Nat) (lim : Int) (hn : G.length = n) (hpos : 0 < n) (hnn : n ≤ 65536)
    (hhi : hi ≤ w.heap.size) (hbh : b < hi) (hlen : ∀ i, (G.getD i []).length ≤ 1048576)
    (hrow : ∀ i, i < n → ∃ u, w.cell? ⟨b, off + i, none⟩ = some u ∧ NIds w lo hi n u (G.getD i [])) :
    Calls Try.prog 32 #[.slice (some ⟨b, off, none⟩) n cap, .slice none 0 0, .int .i64 lim] w (NewPost w n lim G []) := by
  have hmk := run_make_row' (P := Try.prog) 55 56 (.slice none 0 0) 24 Try.underlying55 info56 rfl .i64 .i64 n (by omega) (by omega)
  go_enter Try.func32, Try.ntmps32
  go_wp2_with fail
  go_loopg [9] n (fun g i wr => ∃ k : Nat, g = n - k ∧ k ≤ n ∧ i = .int .i64 k ∧ NB w w.heap.size n lim G [] k k wr)
  case atStart => exact ⟨0, rfl, Nat.zero_le _, rfl, nb_start w n lim G []⟩
  case round =>
    obtain ⟨k, rfl, hk, rfl, hinv⟩ := hrel
    by_cases hlt : k < n
    · obtain ⟨h1, h2, h3, fe, fw, h4, h5, h6, h7, h8⟩ := hinv
      have hinv : NB w w.heap.size n lim G [] k k wr := ⟨h1, h2, h3, fe, fw, h4, h5, h6, h7, h8⟩
      obtain ⟨u, hu, hid⟩ := hrow k hlt
      have hu' : wr.cell? ⟨b, off + k, none⟩ = some u := (h1.cell (by simp; omega)).trans hu
      have hid' : NIds wr lo hi n u (G.getD k []) := hid.keep (Kept.of_below (h1.mono hhi))
      have c0 := h3.c0
      have ce := h4.cell hlt
      have fe' := h4.frozen k
      have hbs : b < wr.heap.size := by omega
      have HH : Hid (NB w w.heap.size n lim G [] k k wr) := hinv
      have HV := fun (wx : World) (hx : wx.heap = wr.heap) => vert_any (w := wx) (u := u) (l := G.getD k []) (lo := lo) (hi := hi) (n := n) (hid'.keep (fun i _ _ => by rw [hx])) (hlen k) (by rw [hx]; omega) hnn
      clear h1 h3 h4 h5 h6 h7 h8 hinv hu hid hrow hid'
      have hS3 : w.heap.size + 2 < wr.heap.size := h2
      go_upto_region 8 with fail
      go_cut [] (fun wc => NB w w.heap.size n lim G [] (k + 1) k wc)
      case first =>
        go_region_with (go_at_call 41; go_must (refine (HV wr.drew rfl).mono ?_; intro e w1 hp; obtain ⟨ao, m, c, rfl, R, c0', ⟨x, ce'⟩, fe''⟩ := nb_call HH.out hlt hp; clear hp))
        all_goals (go_wp2_with fail; go_meet; case rel => assumption)
      case rest =>
        have R := nb_skip hcut (by simp)
        clear hcut c0 ce fe' HV HH hu'
        go_wp2_with fail
        go_roundg (n - (k + 1))
        case measure => omega
        case rel => exact ⟨k + 1, rfl, by omega, by go_num, R⟩
    · have e : k = n := by omega
      subst e
      clear hrow
      have hmk21 := run_make_row' (P := Try.prog) 33 21 (.int .i32 0) 4 Try.underlying33 info21 rfl .i64 .i64 k (by omega) (by omega)
      have hmk3 := run_make_row' (P := Try.prog) 51 3 (.int .i64 0) 8 Try.underlying51 info3 rfl .i64 .i64 k (by omega) (by omega)
      have st0 := stg_start hinv
      go_upto_region 11 with fail
      go_cut [] (fun wc => Stg w wr w.heap.size k lim 1 (.slice (some ⟨wr.heap.size + 0, 0, none⟩) k k) (.slice none 0 0) (.slice none 0 0) (.slice none 0 0) (.slice none 0 0) wc)
      case first =>
        have hc := st0.sb.c5
        have hf := st0.sb.fr 5
        have hl := st0.sb.lt
        have R := st0.step5
        go_wp2_with fail
        go_meet
        case rel => exact R
      case rest =>
      have st1 := hcut
      clear hcut st0
      go_upto_region 12 with fail
      go_cut [] (fun wc => Stg w wr w.heap.size k lim 2 (.slice (some ⟨wr.heap.size + 0, 0, none⟩) k k) (.slice (some ⟨wr.heap.size + 1, 0, none⟩) k k) (.slice none 0 0) (.slice none 0 0) (.slice none 0 0) wc)
      case first =>
        have hc := st1.sb.c8
        have hf := st1.sb.fr 8
        have hl := st1.sb.lt
        have R := st1.step8
        go_wp2_with fail
        go_meet
        case rel => exact R
      case rest =>
      have st2 := hcut
      clear hcut st1
      go_upto_region 13 with fail
      go_cut [] (fun wc => Stg w wr w.heap.size k lim 3 (.slice (some ⟨wr.heap.size + 0, 0, none⟩) k k) (.slice (some ⟨wr.heap.size + 1, 0, none⟩) k k) (.slice (some ⟨wr.heap.size + 2, 0, none⟩) k k) (.slice none 0 0) (.slice none 0 0) wc)
      case first =>
        have hc := st2.sb.c9
        have hf := st2.sb.fr 9
        have hl := st2.sb.lt
        have R := st2.step9
        go_wp2_with fail
        go_meet
        case rel => exact R
      case rest =>
      have st3 := hcut
      clear hcut st2
      go_upto_region 14 with fail
      go_cut [] (fun wc => Stg w wr w.heap.size k lim 4 (.slice (some ⟨wr.heap.size + 0, 0, none⟩) k k) (.slice (some ⟨wr.heap.size + 1, 0, none⟩) k k) (.slice (some ⟨wr.heap.size + 2, 0, none⟩) k k) (.slice (some ⟨wr.heap.size + 3, 0, none⟩) k k) (.slice none 0 0) wc)
      case first =>
        have hc := st3.sb.c11
        have hf := st3.sb.fr 11
        have hl := st3.sb.lt
        have R := st3.step11
        go_wp2_with fail
        go_meet
        case rel => exact R
      case rest =>
      have st4 := hcut
      clear hcut st3
      go_upto_region 15 with fail
      go_cut [] (fun wc => Stg w wr w.heap.size k lim 5 (.slice (some ⟨wr.heap.size + 0, 0, none⟩) k k) (.slice (some ⟨wr.heap.size + 1, 0, none⟩) k k) (.slice (some ⟨wr.heap.size + 2, 0, none⟩) k k) (.slice (some ⟨wr.heap.size + 3, 0, none⟩) k k) (.slice (some ⟨wr.heap.size + 4, 0, none⟩) k k) wc)
      case first =>
        have hc := st4.sb.c12
        have hf := st4.sb.fr 12
        have hl := st4.sb.lt
        have R := st4.step12
        go_wp2_with fail
        go_meet
        case rel => exact R
      case rest =>
      have st5 := hcut
      clear hcut st4
      have R := new_done hinv st5 (by unfold maxLen; omega)
      clear st5 hinv
      go_wp2_with fail
      go_ret
      exact R

end Go.Proofs.Qxb6003663a
