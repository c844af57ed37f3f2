import Derived.Test.Qxb6600443aPat
namespace Go.Proofs.Qxb6600443a
open Go.RowKit
set_option linter.unusedVariables false
set_option linter.unusedSimpArgs false

def patI : List Int := patL.map (fun c => (c.toNat : Int))

/-- the law's own scan, over a list: k the place, d the depth, ic inside a class -/
def chk (n : Int) : List Int → Int → Int → Bool → Bool
  | [], _, d, ic => d == 0 && !ic
  | c :: r, k, d, ic =>
    decide (33 ≤ c) && decide (c ≤ 126) && !(c == 92) && !(decide (65 ≤ c) && decide (c ≤ 90)) &&
    (if ic then (if c = 93 then chk n r (k + 1) d false else chk n r (k + 1) d true)
     else if c = 91 then chk n r (k + 1) d true
     else if c = 40 then r.getD 0 0 == 63 && r.getD 1 0 == 58 && decide (2 ≤ r.length) && chk n r (k + 1) (d + 1) false
     else if c = 41 then decide (1 ≤ d) && (!(d == 1) || k == n - 2) && chk n r (k + 1) (d - 1) false
     else if c = 94 then k == 0 && chk n r (k + 1) d false
     else if c = 36 then k == n - 1 && chk n r (k + 1) d false
     else chk n r (k + 1) d false)

theorem chk_ok : chk 348 patI 0 0 false = true := by kernel_rfl

theorem chk_cons {n c : Int} {r : List Int} {k d : Int} {ic : Bool} (h : chk n (c :: r) k d ic = true) :
    33 ≤ c ∧ c ≤ 126 ∧ c ≠ 92 ∧ ¬ (65 ≤ c ∧ c ≤ 90) ∧
    (ic = true → c = 93 → chk n r (k + 1) d false = true) ∧ (ic = true → c ≠ 93 → chk n r (k + 1) d true = true) ∧
    (ic = false → c = 91 → chk n r (k + 1) d true = true) ∧
    (ic = false → c = 40 → r.getD 0 0 = 63 ∧ r.getD 1 0 = 58 ∧ 2 ≤ r.length ∧ chk n r (k + 1) (d + 1) false = true) ∧
    (ic = false → c = 41 → 1 ≤ d ∧ (d = 1 → k = n - 2) ∧ chk n r (k + 1) (d - 1) false = true) ∧
    (ic = false → c = 94 → k = 0 ∧ chk n r (k + 1) d false = true) ∧
    (ic = false → c = 36 → k = n - 1 ∧ chk n r (k + 1) d false = true) ∧
    (ic = false → c ≠ 91 → c ≠ 40 → c ≠ 41 → c ≠ 94 → c ≠ 36 → chk n r (k + 1) d false = true) := by
  unfold chk at h
  simp only [Bool.and_eq_true, decide_eq_true_eq, Bool.not_eq_true', beq_eq_false_iff_ne, Bool.and_eq_false_iff, decide_eq_false_iff_not] at h
  obtain ⟨⟨⟨⟨h1, h2⟩, h3⟩, h4⟩, h5⟩ := h
  refine ⟨h1, h2, h3, by omega, ?_, ?_, ?_, ?_, ?_, ?_, ?_, ?_⟩
  · intro e1 e2; simpa [e1, e2] using h5
  · intro e1 e2; simpa [e1, e2] using h5
  · intro e1 e2; simpa [e1, e2] using h5
  · intro e1 e2
    rw [e1, e2] at h5
    simp only [Bool.false_eq_true, if_false, if_true, show ¬ (40 : Int) = 91 by omega, Bool.and_eq_true, beq_iff_eq, decide_eq_true_eq] at h5
    exact ⟨h5.1.1.1, h5.1.1.2, h5.1.2, h5.2⟩
  · intro e1 e2
    rw [e1, e2] at h5
    simp only [Bool.false_eq_true, if_false, if_true, show ¬ (41 : Int) = 91 by omega, show ¬ (41 : Int) = 40 by omega, Bool.and_eq_true, Bool.or_eq_true, Bool.not_eq_true', beq_eq_false_iff_ne, beq_iff_eq, decide_eq_true_eq] at h5
    refine ⟨h5.1.1, fun e => ?_, h5.2⟩
    rcases h5.1.2 with h | h
    · exact absurd e h
    · exact h
  · intro e1 e2
    rw [e1, e2] at h5
    simp only [Bool.false_eq_true, if_false, if_true, show ¬ (94 : Int) = 91 by omega, show ¬ (94 : Int) = 40 by omega, show ¬ (94 : Int) = 41 by omega, Bool.and_eq_true, beq_iff_eq] at h5
    exact h5
  · intro e1 e2
    rw [e1, e2] at h5
    simp only [Bool.false_eq_true, if_false, if_true, show ¬ (36 : Int) = 91 by omega, show ¬ (36 : Int) = 40 by omega, show ¬ (36 : Int) = 41 by omega, show ¬ (36 : Int) = 94 by omega, Bool.and_eq_true, beq_iff_eq] at h5
    exact h5
  · intro e1 a1 a2 a3 a4 a5
    rw [e1] at h5
    simpa only [Bool.false_eq_true, if_false, if_neg a1, if_neg a2, if_neg a3, if_neg a4, if_neg a5] using h5

theorem pat_at (k : Nat) (h : k < pat.size) : ((pat[k]'h).toNat : Int) = patI.getD k 0 := by
  have h' : k < patL.length := h
  simp [patI, List.getD_eq_getElem?_getD, h', pat, ByteArray.getElem_eq_getElem_data]

theorem drop_cons {L : List Int} {k : Nat} (h : k < L.length) : L.drop k = L.getD k 0 :: L.drop (k + 1) := by
  rw [List.drop_eq_getElem_cons h, List.getD_eq_getElem?_getD, List.getElem?_eq_getElem h]; rfl

theorem getD_drop (L : List Int) (m j : Nat) : (L.drop m).getD j 0 = L.getD (m + j) 0 := by
  simp [List.getD_eq_getElem?_getD, List.getElem?_drop]

theorem patI_len : patI.length = 348 := by kernel_rfl

set_option maxRecDepth 100000 in
set_option maxHeartbeats 4000000 in
theorem lawA (w : World) : Calls Try.prog 3 #[] w fun e w' => e = .returned (.bool true) ∧ w = w' := by
  have hp := fun w => zzpattern_any w
  have hat := pat_at
  have hsz : pat.size = 348 := by kernel_rfl
  obtain ⟨s, hs⟩ : ∃ s, s = pat := ⟨_, rfl⟩
  rw [← hs] at hp hat hsz
  have hz1 : 348 ≤ s.size := by omega
  have hz2 : s.size ≤ 348 := by omega
  obtain ⟨B, hBB⟩ : ∃ B : Nat → Int, B = fun k => patI.getD k 0 := ⟨_, rfl⟩
  have hB : ∀ k (h : k < s.size), ((s[k]'h).toNat : Int) = B k := fun k h => by rw [hBB]; exact hat k h
  have b0 : B 0 = 94 := by rw [hBB]; kernel_rfl
  have b1 : B 1 = 40 := by rw [hBB]; kernel_rfl
  have b2 : B 2 = 63 := by rw [hBB]; kernel_rfl
  have b3 : B 3 = 58 := by rw [hBB]; kernel_rfl
  have b4 : B (s.size - 2) = 41 := by rw [hBB, hsz]; kernel_rfl
  have b5 : B (s.size - 1) = 36 := by rw [hBB, hsz]; kernel_rfl
  have HS := hid hs
  have HB := hid hBB
  have HZ := hid hsz
  clear hs hBB hat hsz
  go_enter Try.func3, Try.ntmps3
  go_wp2_with (go_at_call 7; refine (hp _).mono ?_; rintro e w' ⟨rfl, rfl⟩)
  go_loopg [3, 4, 5] 348 (fun gk dv cv iv wx => ∃ (k : Nat) (d : Int) (ic : Bool), gk = 348 - k ∧ k ≤ 348 ∧ dv = .int .i64 d ∧ cv = .bool ic ∧ iv = .int .i64 (k : Int) ∧ 0 ≤ d ∧ d ≤ k ∧ chk 348 (patI.drop k) (k : Int) d ic = true ∧ wx = w')
  case atStart => exact ⟨0, 0, false, rfl, by omega, rfl, rfl, rfl, by omega, by omega, chk_ok, rfl⟩
  case round =>
    obtain ⟨k, d, ic, rfl, hk, rfl, rfl, rfl, hd0, hdk, hc, rfl⟩ := hrel
    clear b0 b1 b2 b3 b4 b5
    by_cases hlt : k < s.size
    · have hkl : k < patI.length := by rw [patI_len]; omega
      have hc0 := hc
      rw [drop_cons hkl] at hc
      obtain ⟨h1, h2, h3, h4, h5, h6, h7, h8, h9, h10, h11, h12⟩ := chk_cons hc
      rw [show patI.getD k 0 = B k by rw [HB.out]] at h1 h2 h3 h4 h5 h6 h7 h8 h9 h10 h11 h12
      have hcast : ((k + 1 : Nat) : Int) = (k : Int) + 1 := by omega
      have n92 : (B k == 92) = false := by rw [beq_eq_false_iff_ne]; exact h3
      have h4' : B k < 65 ∨ 90 < B k := by omega
      have H5 := hid h5
      have H6 := hid h6
      have H7 := hid h7
      have H8 := hid h8
      have H9 := hid h9
      have H10 := hid h10
      have H11 := hid h11
      have H12 := hid h12
      clear hc hc0 h3 h4 h5 h6 h7 h8 h9 h10 h11 h12
      cases ic with
      | true =>
        by_cases e : B k = 93
        · have R := hid (H5.out rfl e)
          have n93 : (B k == 93) = true := by rw [beq_iff_eq]; omega
          clear e
          rcases h4' with h4 | h4
          · go_wp2_with fail
            go_roundg (348 - (k + 1))
            case measure => omega
            case rel => exact ⟨k + 1, d, false, rfl, by omega, by go_num, rfl, by go_num, by omega, by omega, by rw [hcast]; exact R.out, rfl⟩
          · go_wp2_with fail
            go_roundg (348 - (k + 1))
            case measure => omega
            case rel => exact ⟨k + 1, d, false, rfl, by omega, by go_num, rfl, by go_num, by omega, by omega, by rw [hcast]; exact R.out, rfl⟩
        · have R := hid (H6.out rfl e)
          have n93 : (B k == 93) = false := by rw [beq_eq_false_iff_ne]; omega
          clear e
          rcases h4' with h4 | h4
          · go_wp2_with fail
            go_roundg (348 - (k + 1))
            case measure => omega
            case rel => exact ⟨k + 1, d, true, rfl, by omega, by go_num, rfl, by go_num, by omega, by omega, by rw [hcast]; exact R.out, rfl⟩
          · go_wp2_with fail
            go_roundg (348 - (k + 1))
            case measure => omega
            case rel => exact ⟨k + 1, d, true, rfl, by omega, by go_num, rfl, by go_num, by omega, by omega, by rw [hcast]; exact R.out, rfl⟩
      | false =>
        by_cases e91 : B k = 91
        · have R := hid (H7.out rfl e91)
          have n91 : (B k == 91) = true := by rw [beq_iff_eq]; omega
          clear e91
          rcases h4' with h4 | h4
          · go_wp2_with fail
            go_roundg (348 - (k + 1))
            case measure => omega
            case rel => exact ⟨k + 1, d, true, rfl, by omega, by go_num, rfl, by go_num, by omega, by omega, by rw [hcast]; exact R.out, rfl⟩
          · go_wp2_with fail
            go_roundg (348 - (k + 1))
            case measure => omega
            case rel => exact ⟨k + 1, d, true, rfl, by omega, by go_num, rfl, by go_num, by omega, by omega, by rw [hcast]; exact R.out, rfl⟩
        by_cases e40 : B k = 40
        · obtain ⟨g1, g2, g3, g4⟩ := H8.out rfl e40
          rw [getD_drop, show patI.getD (k + 1 + 0) 0 = B (k + 1) by rw [HB.out]] at g1
          rw [getD_drop, show patI.getD (k + 1 + 1) 0 = B (k + 2) by rw [HB.out]] at g2
          rw [List.length_drop, patI_len] at g3
          have m1 : (B (k + 1) != 63) = false := by simp [g1]
          have m2 : (B (k + 2) != 58) = false := by simp [g2]
          have hk2 : k + 2 < s.size := by omega
          have R := hid g4
          clear g1 g2 g4
          have n91 : (B k == 91) = false := by rw [beq_eq_false_iff_ne]; omega
          have n40 : (B k == 40) = true := by rw [beq_iff_eq]; omega
          clear e40 e91
          rcases h4' with h4 | h4
          · go_wp2_with fail
            go_roundg (348 - (k + 1))
            case measure => omega
            case rel => exact ⟨k + 1, d + 1, false, rfl, by omega, by go_num, rfl, by go_num, by omega, by omega, by rw [hcast]; exact R.out, rfl⟩
          · go_wp2_with fail
            go_roundg (348 - (k + 1))
            case measure => omega
            case rel => exact ⟨k + 1, d + 1, false, rfl, by omega, by go_num, rfl, by go_num, by omega, by omega, by rw [hcast]; exact R.out, rfl⟩
        by_cases e41 : B k = 41
        · obtain ⟨g1, g2, g3⟩ := H9.out rfl e41
          have R := hid g3
          by_cases d1 : d = 1
          · have ek := g2 d1
            have ek' : ((k : Int) != (s.size : Int) - 2) = false := by rw [bne_eq_false_iff_eq]; omega
            subst d1
            clear g2 g3 g1 ek
            have n91 : (B k == 91) = false := by rw [beq_eq_false_iff_ne]; omega
            have n40 : (B k == 40) = false := by rw [beq_eq_false_iff_ne]; omega
            have n41 : (B k == 41) = true := by rw [beq_iff_eq]; omega
            clear e41 e40 e91
            rcases h4' with h4 | h4
            · go_wp2_with fail
              go_roundg (348 - (k + 1))
              case measure => omega
              case rel => exact ⟨k + 1, 1 - 1, false, rfl, by omega, by go_num, rfl, by go_num, by omega, by omega, by rw [hcast]; exact R.out, rfl⟩
            · go_wp2_with fail
              go_roundg (348 - (k + 1))
              case measure => omega
              case rel => exact ⟨k + 1, 1 - 1, false, rfl, by omega, by go_num, rfl, by go_num, by omega, by omega, by rw [hcast]; exact R.out, rfl⟩
          · have d1' : (d - 1 == 0) = false := by rw [beq_eq_false_iff_ne]; omega
            clear g2 g3
            have n91 : (B k == 91) = false := by rw [beq_eq_false_iff_ne]; omega
            have n40 : (B k == 40) = false := by rw [beq_eq_false_iff_ne]; omega
            have n41 : (B k == 41) = true := by rw [beq_iff_eq]; omega
            clear e41 e40 e91
            rcases h4' with h4 | h4
            · go_wp2_with fail
              go_roundg (348 - (k + 1))
              case measure => omega
              case rel => exact ⟨k + 1, d - 1, false, rfl, by omega, by go_num, rfl, by go_num, by omega, by omega, by rw [hcast]; exact R.out, rfl⟩
            · go_wp2_with fail
              go_roundg (348 - (k + 1))
              case measure => omega
              case rel => exact ⟨k + 1, d - 1, false, rfl, by omega, by go_num, rfl, by go_num, by omega, by omega, by rw [hcast]; exact R.out, rfl⟩
        by_cases e94 : B k = 94
        · obtain ⟨g1, g2⟩ := H10.out rfl e94
          have k0 : ((k : Int) != 0) = false := by rw [bne_eq_false_iff_eq]; omega
          have R := hid g2
          clear g1 g2
          have n91 : (B k == 91) = false := by rw [beq_eq_false_iff_ne]; omega
          have n40 : (B k == 40) = false := by rw [beq_eq_false_iff_ne]; omega
          have n41 : (B k == 41) = false := by rw [beq_eq_false_iff_ne]; omega
          have n94 : (B k == 94) = true := by rw [beq_iff_eq]; omega
          clear e94 e41 e40 e91
          rcases h4' with h4 | h4
          · go_wp2_with fail
            go_roundg (348 - (k + 1))
            case measure => omega
            case rel => exact ⟨k + 1, d, false, rfl, by omega, by go_num, rfl, by go_num, by omega, by omega, by rw [hcast]; exact R.out, rfl⟩
          · go_wp2_with fail
            go_roundg (348 - (k + 1))
            case measure => omega
            case rel => exact ⟨k + 1, d, false, rfl, by omega, by go_num, rfl, by go_num, by omega, by omega, by rw [hcast]; exact R.out, rfl⟩
        by_cases e36 : B k = 36
        · obtain ⟨g1, g2⟩ := H11.out rfl e36
          have k0 : ((k : Int) != (s.size : Int) - 1) = false := by rw [bne_eq_false_iff_eq]; omega
          have R := hid g2
          clear g1 g2
          have n91 : (B k == 91) = false := by rw [beq_eq_false_iff_ne]; omega
          have n40 : (B k == 40) = false := by rw [beq_eq_false_iff_ne]; omega
          have n41 : (B k == 41) = false := by rw [beq_eq_false_iff_ne]; omega
          have n94 : (B k == 94) = false := by rw [beq_eq_false_iff_ne]; omega
          have n36 : (B k == 36) = true := by rw [beq_iff_eq]; omega
          clear e36 e94 e41 e40 e91
          rcases h4' with h4 | h4
          · go_wp2_with fail
            go_roundg (348 - (k + 1))
            case measure => omega
            case rel => exact ⟨k + 1, d, false, rfl, by omega, by go_num, rfl, by go_num, by omega, by omega, by rw [hcast]; exact R.out, rfl⟩
          · go_wp2_with fail
            go_roundg (348 - (k + 1))
            case measure => omega
            case rel => exact ⟨k + 1, d, false, rfl, by omega, by go_num, rfl, by go_num, by omega, by omega, by rw [hcast]; exact R.out, rfl⟩
        · have R := hid (H12.out rfl e91 e40 e41 e94 e36)
          have n91 : (B k == 91) = false := by rw [beq_eq_false_iff_ne]; omega
          have n40 : (B k == 40) = false := by rw [beq_eq_false_iff_ne]; omega
          have n41 : (B k == 41) = false := by rw [beq_eq_false_iff_ne]; omega
          have n94 : (B k == 94) = false := by rw [beq_eq_false_iff_ne]; omega
          have n36 : (B k == 36) = false := by rw [beq_eq_false_iff_ne]; omega
          clear e36 e94 e41 e40 e91
          rcases h4' with h4 | h4
          · go_wp2_with fail
            go_roundg (348 - (k + 1))
            case measure => omega
            case rel => exact ⟨k + 1, d, false, rfl, by omega, by go_num, rfl, by go_num, by omega, by omega, by rw [hcast]; exact R.out, rfl⟩
          · go_wp2_with fail
            go_roundg (348 - (k + 1))
            case measure => omega
            case rel => exact ⟨k + 1, d, false, rfl, by omega, by go_num, rfl, by go_num, by omega, by omega, by rw [hcast]; exact R.out, rfl⟩
    · have e : k = 348 := by omega
      subst e
      rw [List.drop_of_length_le (by rw [patI_len]; omega)] at hc
      simp only [chk, Bool.and_eq_true, beq_iff_eq, Bool.not_eq_true'] at hc
      obtain ⟨rfl, rfl⟩ := hc
      go_wp2_with fail
      go_ret
      exact ⟨rfl, rfl⟩

end Go.Proofs.Qxb6600443a
