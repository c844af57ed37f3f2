import Derived.Test.Qxb6003663aCycleWalk
namespace Go.Proofs.Qxb6003663a
open Go.RowKit
set_option linter.unusedVariables false
set_option linter.unusedSimpArgs false

theorem range_map_getD {n : Nat} {G : List (List Nat)} (h : G.length = n) : (List.range n).map (G.getD · []) = G := by
  subst h
  apply List.ext_getElem
  · simp
  · intro i h1 h2
    simp [List.getD_eq_getElem?_getD, h2]

/-- a fresh stepBound, as the cycle functions see it -/
theorem bd_new {w w' : World} {n : Nat} {lim : Int} {G H : List (List Nat)} {e : Ending} (h : NewPost w n lim G H e w') (hG : G.length = n) :
    e = .returned (.pointer (some ⟨w.heap.size, 0, none⟩)) ∧ Below w.heap.size w w' ∧ ∃ B wv bv av, BD w' w.heap.size B n lim G (fun _ => 0) (fun _ => 0) (fun _ => 0) [] [] (.slice none 0 0) (.slice none 0 0) 0 wv (.slice none 0 0) (.slice none 0 0) bv av 0 := by
  obtain ⟨rfl, B, hb, h1, h2, h3, h4, h5, h6, h7⟩ := h
  rw [range_map_getD hG] at h4
  refine ⟨rfl, hb, B, _, _, _, ⟨h3, h4, h6, h7 1 (by omega) (by omega), h7 2 (by omega) (by omega), World.ownsRow_nil _ _ _ _, World.ownsRow_nil _ _ _ _, by omega, by omega⟩⟩

/-- the graph as it was copied -/
structure Copied (w : World) (lo hi n b : Nat) (G : List (List Nat)) : Prop where
  grid : NGrid w lo hi n (.slice (some ⟨b, 0, none⟩) n n) G
  len : G.length = n
  pos : 0 < n
  small : n ≤ 65536
  rows : ∀ i, (G.getD i []).length ≤ 1048576
  hib : b < hi
  hhi : hi ≤ w.heap.size

theorem Copied.keep {w w' : World} {lo hi n b : Nat} {G : List (List Nat)} (h : Copied w lo hi n b G) (hb : Below w.heap.size w w') : Copied w' lo hi n b G :=
  ⟨h.grid.keep (Kept.of_below (hb.mono h.hhi)), h.len, h.pos, h.small, h.rows, h.hib, Nat.le_trans h.hhi hb.size⟩

theorem Copied.at' {w : World} {lo hi n b : Nat} {G : List (List Nat)} (h : Copied w lo hi n b G) : ∀ i, i < n → ∃ u, w.cell? ⟨b, 0 + i, none⟩ = some u ∧ NIds w lo hi n u (G.getD i []) := by
  obtain ⟨b2, off2, cap2, hsl, _, _, _, _, hrow⟩ := h.grid
  simp only [Value.slice.injEq, Option.some.injEq, Addr.mk.injEq, and_true] at hsl
  obtain ⟨⟨rfl, rfl⟩, hl, _⟩ := hsl
  intro i hi
  exact hrow i (by omega)

theorem tot_row_le (E : List (List Int)) (i : Nat) : (E.getD i []).length ≤ tot E := by
  rcases Nat.lt_or_ge i E.length with h | h
  · have h1 := tot_take_succ E i h
    have h2 := tot_take_le E (i + 1)
    omega
  · simp [List.getD_eq_getElem?_getD, List.getElem?_eq_none h]

theorem copied_of {w w' : World} {E : List (List Int)} (h : CopyInv w w.heap.size E E.length w') (hF : Fits E) (hp : 0 < E.length) : Copied w' w.heap.size w'.heap.size E.length w.heap.size (toG E) := by
  unfold Fits at hF
  have h1 := (copied h (by unfold maxLen; omega)).1
  obtain ⟨_, f, hf, _⟩ := h
  refine ⟨h1, toG_length E, hp, by omega, fun i => ?_, hf.lt, Nat.le_refl _⟩
  rw [toG_getD, List.length_map]
  have := tot_row_le E i
  omega

def StepsPost (w : World) (G : List (List Nat)) (lim : Int) (r n : Nat) (bk : Bool) (e : Ending) (w' : World) : Prop :=
  ∃ lf od, Ends G bk r lf od ∧ e = .returned (.int .i64 (answer G lim r n lf)) ∧ Below w.heap.size w w'

set_option maxRecDepth 100000 in
set_option maxHeartbeats 1000000 in
/-- ZZCycleSteps_b1 -/
theorem steps_any {w : World} {lo hi n b : Nat} {G : List (List Nat)} (h : Copied w lo hi n b G) (lim : Int) (r : Nat) (bk : Bool) (hr : r < n) (h0 : 0 ≤ lim) (h1 : lim + 1 ≤ 9223372036854775807) :
    Calls Try.prog 28 #[.slice (some ⟨b, 0, none⟩) n n, .int .i64 lim, .int .i32 (r : Int), .bool bk] w (StepsPost w G lim r n bk) := by
  have hnew := newCycle_any G w lo hi n b 0 n lim h.len h.pos h.small h.hhi h.hib h.rows h.at'
  have hG := h.len
  have hn := h.small
  clear h
  go_enter Try.func28, Try.ntmps28
  go_wp2_with fail
  refine hnew.mono ?_
  intro e w1 hp
  obtain ⟨rfl, hb1, B, wv, bv, av, hbd⟩ := bd_new hp hG
  have hcy := cycle_any w1 w.heap.size B n lim G (fun _ => 0) (fun _ => 0) (fun _ => 0) [] [] _ _ 0 wv _ _ bv av 0 hbd r bk hr hn (fun i hi => by simp at hi) (by simp) (fun v _ _ => ⟨rfl, rfl, rfl⟩) h0 h1
  have HB := hid hb1
  clear hnew hp hbd hb1
  go_wp2_with fail
  refine hcy.mono ?_
  intro e w2 hp
  obtain ⟨lf, od, he, rfl, hb2, _⟩ := hp
  have R := hid (show StepsPost w G lim r n bk (.returned (.int .i64 (answer G lim r n lf))) w2 from ⟨lf, od, he, rfl, HB.out.trans hb2⟩)
  clear hcy he hb2
  go_wp2_with fail
  go_ret
  exact R.out

set_option maxRecDepth 100000 in
set_option maxHeartbeats 4000000 in
theorem law7 {E : List (List Int)} {w : World} {v : Value} (h : Grid w 0 w.heap.size v E) (lim r : Int) (bk : Bool) (l1 : -9223372036854775808 ≤ lim) (l2 : lim ≤ 9223372036854775807) (r1 : -2147483648 ≤ r) (r2 : r ≤ 2147483647) :
    Calls Try.prog 7 #[v, .int .i64 lim, .int .i32 r, .bool bk] w fun e w' => e = .returned (.bool true) ∧ Below w.heap.size w w' := by
  have f1 := bytes27_any h lim r bk
  have f2 := fit_any h
  obtain ⟨ao, cap, rfl, h2, h3, h4⟩ := h
  unfold maxLen at h3
  go_enter Try.func7, Try.ntmps7
  go_wp2_with fail
  refine f1.mono ?_
  intro e w1 hp
  obtain ⟨t, rfl, rfl, _⟩ := hp
  clear f1
  cases t with
  | false =>
    clear f2 h4
    go_wp2_with fail
    go_ret
    exact ⟨rfl, Below.refl _ _⟩
  | true =>
  go_wp2_with fail
  refine f2.mono ?_
  intro e w1 hp
  obtain ⟨t, rfl, rfl, hfit⟩ := hp
  clear f2
  cases t with
  | false =>
    clear h4
    go_wp2_with fail
    go_ret
    exact ⟨rfl, Below.refl _ _⟩
  | true =>
  have HF := hid (hfit rfl)
  clear hfit
  by_cases a1 : lim < 0
  · clear h4
    go_wp2_with fail
    go_ret
    exact ⟨rfl, Below.refl _ _⟩
  by_cases a2 : lim < 9223372036854775807
  · have e2 : (lim == 9223372036854775807) = false := by rw [beq_eq_false_iff_ne]; omega
    by_cases a3 : r < 0
    · clear h4
      go_wp2_with fail
      go_ret
      exact ⟨rfl, Below.refl _ _⟩
    by_cases a4 : r < E.length
    · obtain ⟨rn, rfl⟩ : ∃ rn : Nat, r = rn := ⟨r.toNat, by omega⟩
      have a5 : rn < E.length := by omega
      rcases h4 with h4 | ⟨b, off, hao, h6, h7, h8⟩
      · subst h4; simp at a5
      subst hao
      have f3 := ids_pos E w 0 w.heap.size b off cap h2 (by unfold maxLen; omega) h8
      have H8 := hid h8
      clear h8
      go_wp2_with fail
      refine f3.mono ?_
      intro e w1 hp
      obtain ⟨t, rfl, rfl, hin⟩ := hp
      clear f3
      cases t with
      | false =>
        go_wp2_with fail
        go_ret
        exact ⟨rfl, Below.refl _ _⟩
      | true =>
      have HIN := hid (hin rfl)
      clear hin
      have hF := HF.out
      unfold Fits at hF
      have f4 := copy_any E w 0 w.heap.size b off cap h2 (by unfold maxLen; omega) (by omega) HF.out HIN.out (Nat.le_refl _) h7 H8.out
      clear hF
      go_wp2_with fail
      refine f4.mono ?_
      intro e w1 hp
      obtain ⟨rfl, hcp⟩ := hp
      have hC := copied_of hcp HF.out (by omega)
      have f5 := steps_any hC lim rn bk a5 (by omega) (by omega)
      have HC := hid hC
      have HB1 := hid (copied hcp (by have := HF.out; unfold Fits at this; unfold maxLen; omega)).2
      clear f4 hcp hC
      go_wp2_with fail
      refine f5.mono ?_
      intro e w2 hp
      obtain ⟨lf, od, he, rfl, hb2⟩ := hp
      have hC2 := HC.out.keep hb2
      have f6 := model_any w2 w.heap.size w1.heap.size E.length w.heap.size 0 E.length (toG E) bk lim rn hC2.small (by have := hC2.small; unfold maxLen; omega) hC2.grid hC2.len hC2.hib hC2.hhi a5 (by omega) (by omega)
      have HE := hid he
      have HB2 := hid hb2
      clear f5 he hb2 hC2 HC
      go_wp2_with fail
      refine f6.mono ?_
      intro e w3 hp
      obtain ⟨lf', od', he', rfl, hb3⟩ := hp
      obtain ⟨rfl, rfl⟩ := HE.out.unique he'
      have R := hid (show Below w.heap.size w w3 from HB1.out.trans ((HB2.out.mono HB1.out.size).trans (hb3.mono (Nat.le_trans HB1.out.size HB2.out.size))))
      clear f6 he' hb3
      go_wp2_with fail
      go_ret
      exact ⟨by simp, R.out⟩
    · have a4' : (E.length : Int) ≤ r := by omega
      clear h4
      go_wp2_with fail
      go_ret
      exact ⟨rfl, Below.refl _ _⟩
  · have e2 : (lim == 9223372036854775807) = true := by rw [beq_iff_eq]; omega
    clear h4
    go_wp2_with fail
    go_ret
    exact ⟨rfl, Below.refl _ _⟩

end Go.Proofs.Qxb6003663a
