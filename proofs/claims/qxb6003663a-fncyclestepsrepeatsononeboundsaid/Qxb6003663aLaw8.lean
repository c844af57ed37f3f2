import Derived.Test.Qxb6003663aLaw7
namespace Go.Proofs.Qxb6003663a
open Go.RowKit
set_option linter.unusedVariables false
set_option linter.unusedSimpArgs false

def TwicePost (w : World) (G : List (List Nat)) (lim : Int) (r : Nat) (bk : Bool) (r2 : Nat) (bk2 : Bool) (n : Nat) (e : Ending) (w' : World) : Prop :=
  ∃ lf od lf2 od2, Ends G bk r lf od ∧ Ends G bk2 r2 lf2 od2 ∧ e = .returned (.tuple #[.int .i64 (answer G lim r n lf), .int .i64 (answer G lim r2 n lf2)]) ∧ Below w.heap.size w w'

set_option maxRecDepth 100000 in
set_option maxHeartbeats 1000000 in
/-- ZZCycleStepsTwice_b1 -/
theorem twice_any {w : World} {lo hi n b : Nat} {G : List (List Nat)} (h : Copied w lo hi n b G) (lim : Int) (r : Nat) (bk : Bool) (r2 : Nat) (bk2 : Bool) (hr : r < n) (hr2 : r2 < n) (h0 : 0 ≤ lim) (h1 : lim + 1 ≤ 9223372036854775807) :
    Calls Try.prog 31 #[.slice (some ⟨b, 0, none⟩) n n, .int .i64 lim, .int .i32 (r : Int), .bool bk, .int .i32 (r2 : Int), .bool bk2] w (TwicePost w G lim r bk r2 bk2 n) := by
  have hnew := newCycle_any G w lo hi n b 0 n lim h.len h.pos h.small h.hhi h.hib h.rows h.at'
  have hG := h.len
  have hn := h.small
  clear h
  go_enter Try.func31, Try.ntmps31
  go_wp2_with fail
  refine hnew.mono ?_
  intro e w1 hp
  obtain ⟨rfl, hb1, B, wv, bv, av, hbd⟩ := bd_new hp hG
  have hcy := cycle_any w1 w.heap.size B n lim G (fun _ => 0) (fun _ => 0) (fun _ => 0) [] [] _ _ 0 wv _ _ bv av 0 hbd r bk hr hn (fun i hi => by simp at hi) (by simp) (fun v _ _ => ⟨rfl, rfl, rfl⟩) h0 h1
  have HB := hid hb1
  have HCH := hid (hbd.child_lt bk)
  clear hnew hp hbd hb1
  go_wp2_with fail
  refine hcy.mono ?_
  intro e w2 hp
  obtain ⟨lf, od, he, rfl, hb2, paths, len, ov, pv, work, hbd, hcl⟩ := hp
  have hl := he.left hr HCH.out
  have hcy2 := cycle_any w2 w.heap.size B n lim G lf paths len od [] ov pv work wv _ _ bv av 0 hbd r2 bk2 hr2 hn (fun i hi => (hl.at' i hi).1) hl.len hcl h0 h1
  have HE := hid he
  have HB2 := hid hb2
  clear hcy he hb2 hl hbd hcl HCH
  go_wp2_with fail
  refine hcy2.mono ?_
  intro e w3 hp
  obtain ⟨lf2, od2, he2, rfl, hb3, z⟩ := hp
  have R := hid (show TwicePost w G lim r bk r2 bk2 n (.returned (.tuple #[.int .i64 (answer G lim r n lf), .int .i64 (answer G lim r2 n lf2)])) w3 from ⟨lf, od, lf2, od2, HE.out, he2, rfl, HB.out.trans (HB2.out.trans hb3)⟩)
  clear hcy2 he2 hb3 z
  go_wp2_with fail
  go_ret2
  exact R.out

set_option maxRecDepth 100000 in
set_option maxHeartbeats 4000000 in
theorem law8 {E : List (List Int)} {w : World} {v : Value} (h : Grid w 0 w.heap.size v E) (lim r : Int) (bk : Bool) (s : Int) (bk2 : Bool) (l1 : -9223372036854775808 ≤ lim) (l2 : lim ≤ 9223372036854775807) (r1 : -2147483648 ≤ r) (r2 : r ≤ 2147483647) (s1 : -2147483648 ≤ s) (s2 : s ≤ 2147483647) :
    Calls Try.prog 8 #[v, .int .i64 lim, .int .i32 r, .bool bk, .int .i32 s, .bool bk2] w fun e w' => e = .returned (.bool true) ∧ Below w.heap.size w w' := by
  have f1 := bytes30_any h lim r bk s bk2
  have f2 := fit_any h
  obtain ⟨ao, cap, rfl, h2, h3, h4⟩ := h
  unfold maxLen at h3
  go_enter Try.func8, Try.ntmps8
  go_wp2_with fail
  refine f1.mono ?_
  intro e w1 hp
  obtain ⟨t, rfl, rfl, z⟩ := hp
  clear f1 z
  cases t with
  | false =>
    clear f2 h4
    go_wp2_with fail
    go_ret
    exact ⟨rfl, Below.refl _ _⟩
  | true =>
  go_wp2_with fail
  refine f2.mono ?_
  intro e w1 hp
  obtain ⟨t, rfl, rfl, hfit⟩ := hp
  clear f2
  cases t with
  | false =>
    clear h4
    go_wp2_with fail
    go_ret
    exact ⟨rfl, Below.refl _ _⟩
  | true =>
  have HF := hid (hfit rfl)
  clear hfit
  by_cases a1 : lim < 0
  · clear h4
    go_wp2_with fail
    go_ret
    exact ⟨rfl, Below.refl _ _⟩
  by_cases a2 : lim < 9223372036854775807
  · have e2 : (lim == 9223372036854775807) = false := by rw [beq_eq_false_iff_ne]; omega
    by_cases a3 : 0 ≤ r ∧ r < E.length ∧ 0 ≤ s ∧ s < E.length
    · obtain ⟨c1, c2, c3, c4⟩ := a3
      obtain ⟨rn, rfl⟩ : ∃ rn : Nat, r = rn := ⟨r.toNat, by omega⟩
      obtain ⟨sn, rfl⟩ : ∃ sn : Nat, s = sn := ⟨s.toNat, by omega⟩
      have a5 : rn < E.length := by omega
      have a6 : sn < E.length := by omega
      rcases h4 with h4 | ⟨b, off, hao, h6, h7, h8⟩
      · subst h4; simp at a5
      subst hao
      have f3 := ids_pos E w 0 w.heap.size b off cap h2 (by unfold maxLen; omega) h8
      have H8 := hid h8
      clear h8
      go_wp2_with fail
      refine f3.mono ?_
      intro e w1 hp
      obtain ⟨t, rfl, rfl, hin⟩ := hp
      clear f3
      cases t with
      | false =>
        go_wp2_with fail
        go_ret
        exact ⟨rfl, Below.refl _ _⟩
      | true =>
      have HIN := hid (hin rfl)
      clear hin
      have hF := HF.out
      unfold Fits at hF
      have f4 := copy_any E w 0 w.heap.size b off cap h2 (by unfold maxLen; omega) (by omega) HF.out HIN.out (Nat.le_refl _) h7 H8.out
      clear hF
      go_wp2_with fail
      refine f4.mono ?_
      intro e w1 hp
      obtain ⟨rfl, hcp⟩ := hp
      have hC := copied_of hcp HF.out (by omega)
      have f5 := twice_any hC lim rn bk sn bk2 a5 a6 (by omega) (by omega)
      have HC := hid hC
      have HB1 := hid (copied hcp (by have := HF.out; unfold Fits at this; unfold maxLen; omega)).2
      clear f4 hcp hC
      go_wp2_with fail
      refine f5.mono ?_
      intro e w2 hp
      obtain ⟨lf, od, lfb, odb, he, heb, rfl, hb2⟩ := hp
      have hC2 := HC.out.keep hb2
      have f6 := model_any w2 w.heap.size w1.heap.size E.length w.heap.size 0 E.length (toG E) bk lim rn hC2.small (by have := hC2.small; unfold maxLen; omega) hC2.grid hC2.len hC2.hib hC2.hhi a5 (by omega) (by omega)
      have HE := hid he
      have HEB := hid heb
      have HB2 := hid hb2
      have HC2 := hid hC2
      clear f5 he hb2 hC2 HC heb
      go_wp2_with fail
      refine f6.mono ?_
      intro e w3 hp
      obtain ⟨lf', od', he', rfl, hb3⟩ := hp
      obtain ⟨rfl, rfl⟩ := HE.out.unique he'
      have hC3 := HC2.out.keep hb3
      have f7 := model_any w3 w.heap.size w1.heap.size E.length w.heap.size 0 E.length (toG E) bk2 lim sn hC3.small (by have := hC3.small; unfold maxLen; omega) hC3.grid hC3.len hC3.hib hC3.hhi a6 (by omega) (by omega)
      have HB3 := hid hb3
      clear f6 he' hb3 hC3 HC2
      go_wp2_with fail
      refine f7.mono ?_
      intro e w4 hp
      obtain ⟨lf'', od'', he'', rfl, hb4⟩ := hp
      obtain ⟨rfl, rfl⟩ := HEB.out.unique he''
      have R := hid (show Below w.heap.size w w4 from
        HB1.out.trans ((HB2.out.mono HB1.out.size).trans ((HB3.out.mono (Nat.le_trans HB1.out.size HB2.out.size)).trans (hb4.mono (Nat.le_trans HB1.out.size (Nat.le_trans HB2.out.size HB3.out.size))))))
      clear f7 he'' hb4
      go_wp2_with fail
      go_ret
      exact ⟨by simp, R.out⟩
    · clear h4
      by_cases c1 : r < 0
      · go_wp2_with fail
        go_ret
        exact ⟨rfl, Below.refl _ _⟩
      by_cases c2 : (E.length : Int) ≤ r
      · go_wp2_with fail
        go_ret
        exact ⟨rfl, Below.refl _ _⟩
      by_cases c3 : s < 0
      · go_wp2_with fail
        go_ret
        exact ⟨rfl, Below.refl _ _⟩
      · have c4 : (E.length : Int) ≤ s := by omega
        clear a3
        go_wp2_with fail
        go_ret
        exact ⟨rfl, Below.refl _ _⟩
  · have e2 : (lim == 9223372036854775807) = true := by rw [beq_iff_eq]; omega
    clear h4
    go_wp2_with fail
    go_ret
    exact ⟨rfl, Below.refl _ _⟩

end Go.Proofs.Qxb6003663a
