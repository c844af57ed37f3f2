import Derived.Test.Qxb6003663aMul
namespace Go.Proofs.Qxb6003663a
open Go.RowKit
set_option linter.unusedVariables false
set_option linter.unusedSimpArgs false

theorem ch_over : ∀ k j, k < j → ch k j = 0 := by
  intro k
  induction k with
  | zero => intro j h; cases j with
    | zero => omega
    | succ j => rfl
  | succ k ih => intro j h; cases j with
    | zero => omega
    | succ j => rw [ch, ih _ (by omega), ih _ (by omega)]

theorem fac_pred {j : Nat} (h : 1 ≤ j) : fac (j - 1) * j = fac j := by
  obtain ⟨i, rfl⟩ : ∃ i, j = i + 1 := ⟨j - 1, by omega⟩
  rw [Nat.add_sub_cancel]; rfl

def CModelPost (w : World) (k : Nat) (lim : Int) (e : Ending) (w' : World) : Prop := e = .returned (.int .i64 (sat (lim + 1) ((upto k k : Nat) : Int))) ∧ Below w.heap.size w w'

/-- the row of Pascal's triangle: above j that of m + 1, from j down that of m -/
def Pas (w : World) (g k : Nat) (c : Int) (m j : Nat) (wr : World) : Prop :=
  Below g w wr ∧ wr.rowIs g 3 (k + 1) (fun i => .int .i64 (sat c ((if j < i then ch (m + 1) i else ch m i : Nat) : Int)))

theorem pas_step {w wr : World} {g k : Nat} {c : Int} (hc : 0 ≤ c) {m j : Nat} (h : Pas w g k c m (j + 1) wr) : Pas w g k c m j (wr.setCell ⟨g, j + 1, none⟩ (.int .i64 (sat c (sat c ((ch m (j + 1) : Nat) : Int) + sat c ((ch m j : Nat) : Int))))) := by
  refine ⟨h.1.setCell (Nat.le_refl _) _, (h.2.set (j + 1) _).congr fun i hi => ?_⟩
  by_cases e : i = j + 1
  · subst e
    rw [if_pos rfl, if_pos (by omega), sat_sat hc, ch]
  · rw [if_neg e]
    by_cases h1 : j < i
    · rw [if_pos h1, if_pos (by omega)]
    · rw [if_neg h1, if_neg (by omega)]
theorem pas_next {w wr : World} {g k : Nat} {c : Int} {m : Nat} (h : Pas w g k c m 0 wr) : Pas w g k c (m + 1) (m + 2) wr := by
  refine ⟨h.1, h.2.congr fun i hi => ?_⟩
  by_cases h1 : 0 < i
  · rw [if_pos h1]
    by_cases h2 : m + 2 < i
    · rw [if_pos h2, ch_over (m + 1) i (by omega), ch_over (m + 1 + 1) i (by omega)]
    · rw [if_neg h2]
  · have : i = 0 := by omega
    subst this
    rw [if_neg h1, if_neg (by omega), ch_zero, ch_zero]
theorem pas_start (w : World) (k : Nat) {c : Int} (hc : 1 ≤ c) : Pas w w.heap.size k c 0 1 (w.alloc (.cells ((madeCells #[.int .i64 0] (k + 1)).setIfInBounds 0 (.int .i64 1)) 3)) := by
  have hs : ((madeCells #[.int .i64 0] (k + 1)).setIfInBounds 0 (.int .i64 1)).size = k + 1 := by simp [size_madeCells]
  have h := World.rowIs_alloc w ((madeCells #[.int .i64 0] (k + 1)).setIfInBounds 0 (.int .i64 1)) 3 (fun i => .int .i64 (sat c ((if 1 < i then ch (0 + 1) i else ch 0 i : Nat) : Int))) (fun i hi => by
    rw [hs] at hi
    rw [Array.getElem?_setIfInBounds]
    by_cases e : i = 0
    · subst e
      rw [if_pos rfl, if_pos (by rw [size_madeCells]; omega), if_neg (by omega), ch_zero, sat_nat c 1 (by omega)]; rfl
    · rw [if_neg (by omega)]
      have h1 : (if 1 < i then ch (0 + 1) i else ch 0 i : Nat) = 0 := by
        split
        · exact ch_over _ _ (by omega)
        · exact ch_over _ _ (by omega)
      rw [h1, sat_nat c 0 (by omega)]
      simp [madeCells, hi, Nat.mod_one])
  rw [hs] at h
  exact ⟨(Below.refl _ _).alloc (Nat.le_refl _) _, h⟩

set_option maxRecDepth 100000 in
set_option maxHeartbeats 2000000 in
theorem cmodel_any (k : Nat) (lim : Int) (w : World) (hk : 1 ≤ k) (hk2 : k ≤ 1048577) (h0 : 0 ≤ lim) (h1 : lim + 1 ≤ 9223372036854775807) :
    Calls Try.prog 16 #[.int .i64 (k : Int), .int .i64 lim] w (CModelPost w k lim) := by
  have hmk := run_make_row' (P := Try.prog) 51 3 (.int .i64 0) 8 Try.underlying51 info3 rfl .i64 .i64 (k + 1) (by omega) (by omega)
  have hmk' : ∀ w, (Instr.makeSlice 51 (.int .i64 ((k : Int) + 1)) (.int .i64 ((k : Int) + 1))).run Try.prog w = .ok (.slice (some ⟨w.heap.size, 0, none⟩) (k + 1) (k + 1)) (w.alloc (.cells (madeCells #[.int .i64 0] (k + 1)) 3)) := hmk
  clear hmk
  obtain ⟨c, hc⟩ : ∃ c, c = lim + 1 := ⟨_, rfl⟩
  have START := hid (pas_start w k (c := c) (by omega))
  have HCC := hid hc
  have hc1 : 1 ≤ c := by omega
  have hc2 : c ≤ 9223372036854775807 := by omega
  have c0 : (w.alloc (.cells (madeCells #[.int .i64 0] (k + 1)) 3)).cell? ⟨w.heap.size, 0, none⟩ = some (.int .i64 0) := (World.rowIs_made w (.int .i64 0) (k + 1) 3).cell (by omega)
  have f0 : (w.alloc (.cells (madeCells #[.int .i64 0] (k + 1)) 3)).frozen? ⟨w.heap.size, 0, none⟩ = false := (World.rowIs_made w (.int .i64 0) (k + 1) 3).frozen 0
  clear hc
  go_enter Try.func16, Try.ntmps16
  go_wp2_with fail
  rw [← HCC.out]
  obtain ⟨g, hg⟩ : ∃ g, g = w.heap.size := ⟨_, rfl⟩
  rw [← hg] at START
  rw [← hg]
  have HG := hid hg
  clear c0 f0 hmk' hg
  go_loopg [7] k (fun gk mv wr => ∃ m, gk = k - m ∧ m ≤ k ∧ mv = .int .i64 ((m : Int) + 1) ∧ Pas w g k c m (m + 1) wr)
  case atStart => exact ⟨0, rfl, Nat.zero_le _, rfl, START.out⟩
  case round =>
    obtain ⟨m, rfl, hm, rfl, hp⟩ := hrel
    by_cases hlt : m < k
    · have HP := hid hp
      have hd : decide ((m : Int) + 1 ≤ (k : Int)) = true := by rw [decide_eq_true_eq]; omega
      clear hp START
      go_wp2_with fail
      go_loopg [8] (m + 1) (fun gk jv wr => ∃ j, gk = j ∧ j ≤ m + 1 ∧ jv = .int .i64 (j : Int) ∧ Pas w g k c m j wr)
      case atStart => exact ⟨m + 1, rfl, Nat.le_refl _, by go_num, HP.out⟩
      case round =>
        obtain ⟨j, rfl, hj, rfl, hp⟩ := hrel
        by_cases hj0 : gk = 0
        · subst hj0
          have R := hid (pas_next hp)
          clear hp
          go_wp2_with fail
          go_roundg (k - (m + 1))
          case measure => omega
          case rel => exact ⟨m + 1, rfl, by omega, by go_num, R.out⟩
        · obtain ⟨j, hjj⟩ : ∃ j, gk = j + 1 := ⟨gk - 1, by omega⟩
          have hp1 := hp
          rw [hjj] at hp1
          have R := hid (pas_step (by omega) (show Pas w g k c m (j + 1) wr.drew from ⟨hp1.1.drew, hp1.2.drew⟩))
          have k1 := hp1.2.cell (i := j + 1) (by omega)
          have k0 := hp1.2.cell (i := j) (by omega)
          rw [if_neg (by omega)] at k1 k0
          have fr := hp1.2.frozen (j + 1)
          have i1 := inC_nat (c := c) (by omega) (ch m (j + 1))
          have i0 := inC_nat (c := c) (by omega) (ch m j)
          obtain ⟨x, hx⟩ : ∃ x, x = sat c ((ch m (j + 1) : Nat) : Int) := ⟨_, rfl⟩
          obtain ⟨y, hy⟩ : ∃ y, y = sat c ((ch m j : Nat) : Int) := ⟨_, rfl⟩
          rw [← hx] at k1 i1
          rw [← hy] at k0 i0
          rw [← hx, ← hy] at R
          rw [← hjj] at k1 fr R
          have hj1 : j = gk - 1 := by omega
          rw [hj1] at k0 R
          have b1 : 1 ≤ gk := by omega
          have b8 : IntKind.i64.wrap ((gk : Int) - 1) = (gk : Int) - 1 := IntWalk.i64_in _ (by omega)
          clear hx hy hp hp1 HP hjj hj0 hj1 j
          go_upto_region 10 with fail
          go_region_with (go_at_call 34; go_must (refine (satAdd_q i1 i0 hc2).mono ?_; rintro e w1 ⟨rfl, rfl⟩))
          all_goals
            go_wp2_with fail
            go_roundg (gk - 1)
            case measure => omega
            case rel => exact ⟨gk - 1, rfl, by omega, by go_num, R.out⟩
    · have e : m = k := by omega
      subst e
      have HP := hid hp
      clear hp START
      go_wp2_with fail
      go_loopg [9, 10, 11] (m - 1) (fun gk sv fv jv wr => ∃ j, gk = m - j ∧ j ≤ m ∧ 1 ≤ j ∧ jv = .int .i64 ((j : Int) + 1) ∧ sv = .int .i64 (sat c ((upto m j : Nat) : Int)) ∧ fv = .int .i64 (sat c ((fac (j - 1) : Nat) : Int)) ∧ Pas w g m c m (m + 1) wr)
      case atStart => exact ⟨1, rfl, hk, Nat.le_refl _, rfl, by rw [show upto m 1 = 0 from rfl, sat_nat c 0 (by omega)]; rfl, by rw [show fac (1 - 1) = 1 from rfl, sat_nat c 1 (by omega)]; rfl, HP.out⟩
      case round =>
        obtain ⟨j, rfl, hj, hj1, rfl, rfl, rfl, hp⟩ := hrel
        by_cases hlt2 : j < m
        · have k1 := hp.2.cell (i := j + 1) (by omega)
          rw [if_neg (by omega)] at k1
          have i1 := inC_nat (c := c) (by omega) (ch m (j + 1))
          have if1 := inC_nat (c := c) (by omega) (fac (j - 1))
          have is := inC_nat (c := c) (by omega) (upto m j)
          have if2 := inC_nat (c := c) (by omega) (fac j)
          have it1 := inC_nat (c := c) (by omega) (ch m (j + 1) * fac j)
          have it2 := inC_nat (c := c) (by omega) (ch m (j + 1) * fac j * (j + 2))
          have E1 := hid (sat_mul hc1 (fac (j - 1)) j)
          have E1' := hid (fac_pred hj1)
          rw [E1'.out] at E1
          have E2 := hid (sat_mul2 hc1 (ch m (j + 1)) (fac j))
          have E3 := hid (sat_mul hc1 (ch m (j + 1) * fac j) (j + 2))
          have E4 := hid (sat_sat (c := c) (by omega) (a := upto m j) (b := ch m (j + 1) * fac j * (j + 2)))
          have E5 := hid (show upto m j + ch m (j + 1) * fac j * (j + 2) = upto m (j + 1) from by rw [upto_succ m (j + 1) (by omega)]; rfl)
          rw [E5.out] at E4
          have HP2 := hid hp
          obtain ⟨cr, hcr⟩ : ∃ x, x = sat c ((ch m (j + 1) : Nat) : Int) := ⟨_, rfl⟩
          obtain ⟨f1, hf1⟩ : ∃ x, x = sat c ((fac (j - 1) : Nat) : Int) := ⟨_, rfl⟩
          obtain ⟨f2, hf2⟩ : ∃ x, x = sat c ((fac j : Nat) : Int) := ⟨_, rfl⟩
          obtain ⟨s1, hs1⟩ : ∃ x, x = sat c ((upto m j : Nat) : Int) := ⟨_, rfl⟩
          obtain ⟨t1, ht1⟩ : ∃ x, x = sat c ((ch m (j + 1) * fac j : Nat) : Int) := ⟨_, rfl⟩
          obtain ⟨t2, ht2⟩ : ∃ x, x = sat c ((ch m (j + 1) * fac j * (j + 2) : Nat) : Int) := ⟨_, rfl⟩
          rw [← hcr] at k1 i1 E2
          rw [← hf1] at if1 E1
          rw [← hf2] at if2 E1 E2
          rw [← hs1] at is E4
          rw [← ht1] at it1 E2 E3
          rw [← ht2] at it2 E3 E4
          rw [← hf1, ← hs1]
          have HF2 := hid hf2
          have hf12 : j = 1 → f1 = f2 := fun e => by subst e; rw [hf1, hf2]; rfl
          clear hcr hf1 hf2 hs1 ht1 ht2 hp E1' E5
          have HA := hid (fun (w0 : World) => by
            have := satMul_q (w := w0) (b := (j : Int)) if1 (by omega) (by omega) hc1 hc2
            rw [E1.out] at this
            exact this)
          have HB := hid (fun (w0 : World) => by
            have := satMul_q (w := w0) i1 if2.1 (Int.le_trans if2.2 hc2) hc1 hc2
            rw [E2.out] at this
            exact this)
          have HC := hid (fun (w0 : World) => by
            have := satMul_q (w := w0) (b := ((j + 2 : Nat) : Int)) it1 (by omega) (by omega) hc1 hc2
            rw [E3.out] at this
            exact this)
          have HD := hid (fun (w0 : World) => by
            have := satAdd_q (w := w0) is it2 hc2
            rw [E4.out] at this
            exact this)
          have HC1 := hid (fun (w0 : World) => by
            have := HC.out w0
            rw [show ((j + 2 : Nat) : Int) = (j : Int) + 2 by omega] at this
            exact this)
          rw [show ((j + 2 : Nat) : Int) = (j : Int) + 1 + 1 by omega] at HC
          by_cases hj2 : 1 < j
          · clear hf12
            go_wp2_with fail
            refine (HA.out _).mono ?_
            rintro e w1 ⟨rfl, rfl⟩
            go_wp2_with fail
            refine (HB.out _).mono ?_
            rintro e w2 ⟨rfl, rfl⟩
            go_wp2_with fail
            first
              | refine (HC1.out _).mono ?_
              | refine (HC.out _).mono ?_
            rintro e w3 ⟨rfl, rfl⟩
            go_wp2_with fail
            refine (HD.out _).mono ?_
            rintro e w4 ⟨rfl, rfl⟩
            go_wp2_with fail
            go_roundg (m - (j + 1))
            case measure => omega
            case rel => exact ⟨j + 1, rfl, by omega, by omega, by go_num, rfl, by rw [Nat.add_sub_cancel, ← HF2.out], HP2.out⟩
          · have e12 := hf12 (by omega)
            subst e12
            clear hf12 HA
            go_wp2_with fail
            refine (HB.out _).mono ?_
            rintro e w2 ⟨rfl, rfl⟩
            go_wp2_with fail
            first
              | refine (HC1.out _).mono ?_
              | refine (HC.out _).mono ?_
            rintro e w3 ⟨rfl, rfl⟩
            go_wp2_with fail
            refine (HD.out _).mono ?_
            rintro e w4 ⟨rfl, rfl⟩
            go_wp2_with fail
            go_roundg (m - (j + 1))
            case measure => omega
            case rel => exact ⟨j + 1, rfl, by omega, by omega, by go_num, rfl, by rw [Nat.add_sub_cancel, ← HF2.out], HP2.out⟩
        · have e : j = m := by omega
          subst e
          have R := hid (show CModelPost w j lim (.returned (.int .i64 (sat c ((upto j j : Nat) : Int)))) wr from ⟨by rw [HCC.out], by rw [← HG.out]; exact hp.1⟩)
          clear hp HP
          go_wp2_with fail
          go_ret
          exact R.out

end Go.Proofs.Qxb6003663a
