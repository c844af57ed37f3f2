import Derived.Test.Qxb6003663aCLaw3
namespace Go.Proofs.Qxb6003663a
open Go.RowKit
set_option linter.unusedVariables false
set_option linter.unusedSimpArgs false

set_option maxRecDepth 100000 in
set_option maxHeartbeats 4000000 in
theorem law4 {E : List (List Int)} {w : World} {v : Value} (h : Grid w 0 w.heap.size v E) (lim r s : Int) (l1 : -9223372036854775808 ≤ lim) (l2 : lim ≤ 9223372036854775807) (r1 : -2147483648 ≤ r) (r2 : r ≤ 2147483647) (s1 : -2147483648 ≤ s) (s2 : s ≤ 2147483647) :
    Calls Try.prog 4 #[v, .int .i64 lim, .int .i32 r, .int .i32 s] w fun e w' => e = .returned (.bool true) ∧ Below w.heap.size w w' := by
  have f1 := bytes18_any h lim r s
  have f2 := fit_any h
  obtain ⟨ao, cap, rfl, h2, h3, h4⟩ := h
  unfold maxLen at h3
  go_enter Try.func4, Try.ntmps4
  go_wp2_with fail
  refine f1.mono ?_
  intro e w1 hp
  obtain ⟨t, rfl, rfl, z⟩ := hp
  clear f1 z
  cases t with
  | false =>
    clear f2 h4
    go_wp2_with fail
    go_ret
    exact ⟨rfl, Below.refl _ _⟩
  | true =>
  go_wp2_with fail
  refine f2.mono ?_
  intro e w1 hp
  obtain ⟨t, rfl, rfl, hfit⟩ := hp
  clear f2
  cases t with
  | false =>
    clear h4
    go_wp2_with fail
    go_ret
    exact ⟨rfl, Below.refl _ _⟩
  | true =>
  have HF := hid (hfit rfl)
  clear hfit
  by_cases a1 : lim < 0
  · clear h4
    go_wp2_with fail
    go_ret
    exact ⟨rfl, Below.refl _ _⟩
  by_cases a2 : lim < 9223372036854775807
  · have e2 : (lim == 9223372036854775807) = false := by rw [beq_eq_false_iff_ne]; omega
    by_cases a3 : 0 ≤ r ∧ r < E.length ∧ 0 ≤ s ∧ s < E.length
    · obtain ⟨c1, c2, c3, c4⟩ := a3
      obtain ⟨rn, rfl⟩ : ∃ rn : Nat, r = rn := ⟨r.toNat, by omega⟩
      obtain ⟨sn, rfl⟩ : ∃ sn : Nat, s = sn := ⟨s.toNat, by omega⟩
      have a5 : rn < E.length := by omega
      have a6 : sn < E.length := by omega
      rcases h4 with h4 | ⟨b, off, hao, h6, h7, h8⟩
      · subst h4; simp at a5
      subst hao
      have f3 := ids_pos E w 0 w.heap.size b off cap h2 (by unfold maxLen; omega) h8
      have H8 := hid h8
      clear h8
      go_wp2_with fail
      refine f3.mono ?_
      intro e w1 hp
      obtain ⟨t, rfl, rfl, hin⟩ := hp
      clear f3
      cases t with
      | false =>
        go_wp2_with fail
        go_ret
        exact ⟨rfl, Below.refl _ _⟩
      | true =>
      have HIN := hid (hin rfl)
      clear hin
      have f3b := self_pos E w 0 w.heap.size b off cap h2 (by unfold maxLen; omega) H8.out
      go_wp2_with fail
      refine f3b.mono ?_
      intro e w1 hp
      obtain ⟨t, rfl, rfl, hno⟩ := hp
      clear f3b
      cases t with
      | false =>
        go_wp2_with fail
        go_ret
        exact ⟨rfl, Below.refl _ _⟩
      | true =>
      have HNO := hid (noSelf_of HIN.out (hno rfl))
      clear hno
      have hF := HF.out
      unfold Fits at hF
      have f4 := copy_any E w 0 w.heap.size b off cap h2 (by unfold maxLen; omega) (by omega) HF.out HIN.out (Nat.le_refl _) h7 H8.out
      clear hF
      go_wp2_with fail
      refine f4.mono ?_
      intro e w1 hp
      obtain ⟨rfl, hcp⟩ := hp
      have hC := cpd_of hcp HF.out (by omega)
      have f5 := rev_both hC (by rw [totN_toG]; have := HF.out; unfold Fits at this; omega) HNO.out
      have HB1 := hid (copied hcp (by have := HF.out; unfold Fits at this; unfold maxLen; omega)).2
      clear f4 hcp hC
      go_wp2_with fail
      refine f5.mono ?_
      intro e w2 hp
      obtain ⟨H, rfl, hb2, hBo⟩ := hp
      have HB2 := hid (HB1.out.trans (hb2.mono HB1.out.size))
      have f6 := ctwice_any hBo lim rn sn a5 a6 (by omega) (by omega)
      have HBO := hid hBo
      clear f5 hb2 hBo HB1
      go_wp2_with fail
      refine f6.mono ?_
      intro e w3 hp
      obtain ⟨rfl, hb3⟩ := hp
      have hBo := HBO.out.keep hb3
      have HB3 := hid (HB2.out.trans (hb3.mono HB2.out.size))
      have f7 := greedy_both hBo rn a5
      have HBO3 := hid hBo
      clear f6 hb3 hBo HB2 HBO
      go_wp2_with fail
      refine f7.mono ?_
      intro e w4 hp
      obtain ⟨rfl, hb4⟩ := hp
      have hBo := HBO3.out.keep hb4
      have f8 := cmodel_both hBo rn lim w4 (by omega) (by omega)
      have HBO4 := hid hBo
      have HB4 := hid (HB3.out.trans (hb4.mono HB3.out.size))
      clear f7 hb4 hBo HB3 HBO3
      go_wp2_with fail
      refine f8.mono ?_
      intro e w5 hp
      obtain ⟨rfl, hb5⟩ := hp
      have hBo := HBO4.out.keep hb5
      have HB5 := hid (HB4.out.trans (hb5.mono HB4.out.size))
      have f9 := greedy_both hBo sn a6
      have HBO5 := hid hBo
      clear f8 hb5 hBo HB4 HBO4
      go_wp2_with fail
      refine f9.mono ?_
      intro e w6 hp
      obtain ⟨rfl, hb6⟩ := hp
      have hBo := HBO5.out.keep hb6
      have f10 := cmodel_both hBo sn lim w6 (by omega) (by omega)
      have HB6 := hid (HB5.out.trans (hb6.mono HB5.out.size))
      clear f9 hb6 hBo HB5 HBO5
      go_wp2_with fail
      refine f10.mono ?_
      intro e w7 hp
      obtain ⟨rfl, hb7⟩ := hp
      have R := hid (HB6.out.trans (hb7.mono HB6.out.size))
      obtain ⟨x, hx⟩ : ∃ x, x = cans (toG E) lim rn := ⟨_, rfl⟩
      obtain ⟨y, hy⟩ : ∃ y, y = cans (toG E) lim sn := ⟨_, rfl⟩
      rw [← hx, ← hy]
      clear f10 hb7 hx hy HB6
      go_wp2_with fail
      go_ret
      exact ⟨by simp, R.out⟩
    · clear h4
      by_cases c1 : r < 0
      · go_wp2_with fail
        go_ret
        exact ⟨rfl, Below.refl _ _⟩
      by_cases c2 : (E.length : Int) ≤ r
      · go_wp2_with fail
        go_ret
        exact ⟨rfl, Below.refl _ _⟩
      by_cases c3 : s < 0
      · go_wp2_with fail
        go_ret
        exact ⟨rfl, Below.refl _ _⟩
      · have c4 : (E.length : Int) ≤ s := by omega
        clear a3
        go_wp2_with fail
        go_ret
        exact ⟨rfl, Below.refl _ _⟩
  · have e2 : (lim == 9223372036854775807) = true := by rw [beq_iff_eq]; omega
    clear h4
    go_wp2_with fail
    go_ret
    exact ⟨rfl, Below.refl _ _⟩

end Go.Proofs.Qxb6003663a
