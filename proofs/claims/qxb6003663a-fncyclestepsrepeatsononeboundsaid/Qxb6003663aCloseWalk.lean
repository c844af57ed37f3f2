import Derived.Test.Qxb6003663aClose
namespace Go.Proofs.Qxb6003663a
open Go.RowKit
set_option linter.unusedVariables false
set_option linter.unusedSimpArgs false

theorem int_ne {r y : Nat} (h : y ≠ r) : (((y : Nat) : Int) == ((r : Nat) : Int)) = false := by
  rw [beq_eq_false_iff_ne]; omega

theorem getD_mem {l : List Nat} {t : Nat} (h : t < l.length) : l.getD t 0 ∈ l := by
  rw [List.getD_eq_getElem?_getD, List.getElem?_eq_getElem h]; exact List.getElem_mem h

theorem close_drewN {w wr : World} {lo hi L A n b off cap : Nat} {G : List (List Nat)} {lf : Nat → Int} {c : Int} {N S : Nat → Nat} {od : List Nat} {nw es : Nat → Int} {dn : Nat → Bool} {i r t : Nat} {cv sv : Value} (h : CloseInv w lo hi L A n b off cap G lf c N S od nw es dn i r t cv sv wr) (k : Nat) :
    CloseInv w lo hi L A n b off cap G lf c N S od nw es dn i r t cv sv (wr.drewN k) := by
  obtain ⟨nw', es', dn', a1, a2, a3, a4, a5, a6, a7⟩ := h
  exact ⟨nw', es', dn', a1.drewN k, bel_drewN a2 k, a3, a4, a5, a6, a7⟩

set_option maxRecDepth 100000 in
set_option maxHeartbeats 4000000 in
theorem close_any (lo hi L A n b off cap : Nat) (G : List (List Nat)) (lf : Nat → Int) (c : Int) (N S : Nat → Nat) (od : List Nat) (r : Nat) (hn : n ≤ 65536) (hcap : cap ≤ maxLen) (hc : 1 ≤ c) (hc2 : c ≤ 9223372036854775807) (hrn : r < n)
    (hl : Left G n lf od) (hN : ∀ i, i < od.length → tally N S lf r (od.getD i 0) (row G (od.getD i 0)) = (N (od.getD i 0), S (od.getD i 0))) (k : Nat) : ∀ (w : World) (nw es : Nat → Int) (dn : Nat → Bool) (i : Nat), i < k → i < od.length → CW w lo hi L A n b off cap G lf nw es dn → Right c N S od nw es dn i →
    Calls Try.prog 40 #[.slice (some ⟨b, off, none⟩) n cap, .int .i32 (r : Int), .slice (some ⟨L, 0, none⟩) n n, .int .i32 ((od.getD i 0 : Nat) : Int), .int .i64 c, .slice (some ⟨A, 0, none⟩) n n, .slice (some ⟨A + 1, 0, none⟩) n n, .slice (some ⟨A + 2, 0, none⟩) n n] w (ClosePost w lo hi L A n b off cap G lf c N S od nw es dn i) := by
  unfold maxLen at hcap
  induction k with
  | zero => intro w nw es dn i hk; omega
  | succ k ih =>
    intro w nw es dn i hk hio h hright
    have hst := close_start (r := r) (by omega : 0 ≤ c) h hl hio hright
    have hv := (hl.at' i hio).1
    obtain ⟨ao, capr, hrow, hr1, hr2, hr3⟩ := h.grid.edges (v := od.getD i 0) (by rw [h.glen]; exact hv)
    unfold maxLen at hr1
    have hdone := fun (wr : World) (t : Nat) (x y : Int) (hh : CloseInv w lo hi L A n b off cap G lf c N S od nw es dn i r t (.int .i64 x) (.int .i64 y) wr) ht => close_done hl hio (hN i hio) hh ht
    obtain ⟨v, hvv⟩ : ∃ v, v = od.getD i 0 := ⟨_, rfl⟩
    rw [← hvv] at hst hv hrow hr2 hr3 hdone
    rw [← hvv]
    have HV := hid hvv
    have d1 := h.rd.cell hv
    have d2 := h.rd.frozen v
    have hbL : b < L := by have := h.lt; have := h.hib; omega
    have hLA := h.la
    have neL : A + 2 ≠ b := by omega
    obtain ⟨m, hmm⟩ : ∃ m, m = (row G v).length := ⟨_, rfl⟩
    rw [← hmm] at hrow hr2 hr3
    have HM := hid hmm
    have HI := hid ih
    have HST := hid hst
    have HR3 := hid hr3
    have HD := hid hdone
    have HL := hid hl
    clear ih hst h hmm hr3 hvv hdone hright hN hl
    go_enter Try.func40, Try.ntmps40
    go_wp2_with fail
    go_loopg [16, 17, 28] m (fun gk cv sv i' wr => ∃ t, gk = m - t ∧ t ≤ m ∧ i' = .int .i64 (t : Int) ∧ ∃ x y, cv = .int .i64 x ∧ sv = .int .i64 y ∧ InC c x ∧ InC c y ∧ CloseInv w lo hi L A n b off cap G lf c N S od nw es dn i r t cv sv wr)
    case atStart => exact ⟨0, rfl, Nat.zero_le _, rfl, 0, 0, rfl, rfl, inC_zero (by omega), inC_zero (by omega), HST.out⟩
    case round =>
      obtain ⟨t, rfl, htm, rfl, x, y, rfl, rfl, hx, hy, hinv⟩ := hrel
      obtain ⟨nw1, es1, dn1, h1, h2, h3, h4, h5, z6, z7⟩ := id hinv
      clear z6 z7
      by_cases hlt : t < m
      · obtain ⟨b3, off3, hao, hb31, hb32, hb33⟩ := HR3.out (by omega)
        subst hao
        have hltL : hi ≤ L := h1.lt
        obtain ⟨u, huu⟩ : ∃ u, u = (row G v).getD t 0 := ⟨_, rfl⟩
        have hc1 : wr.cell? ⟨b3, off3 + t, none⟩ = some (.int .i32 (u : Int)) := by
          rw [h2.cell (by simp; omega), (hb33 t hlt).1, huu]
        have hun : u < n := by rw [huu]; exact (hb33 t hlt).2
        have HU := hid huu
        have HH := hid hinv
        have A3 := hid h3
        have A4 := hid h4
        have A5 := hid h5
        have A1 := hid h1
        have k1 := h1.rl.cell hun
        have k2 := h1.rl.cell hv
        have k3 := h1.rd.cell hun
        clear hb33 huu HR3 hinv h2 h3 h4 h5 d1 d2 hrow h1
        have ht' : t < (row G (od.getD i 0)).length := by rw [← HV.out, ← HM.out]; exact hlt
        by_cases hur : u = r
        · subst hur
          have R := close_root hc HH.out ht' (by rw [← HV.out]; exact HU.out.symm)
          go_wp2_with fail
          refine (satAdd_q hx (inC_one hc) hc2).mono ?_
          rintro e w1 ⟨rfl, rfl⟩
          go_wp2_with fail
          refine (satAdd_q hy (inC_one hc) hc2).mono ?_
          rintro e w2 ⟨rfl, rfl⟩
          go_wp2_with fail
          go_roundg (m - (t + 1))
          case measure => omega
          case rel => exact ⟨t + 1, rfl, by omega, by go_num, _, _, rfl, rfl, inC_add hx (inC_one hc), inC_add hy (inC_one hc), R⟩
        · have hne := int_ne hur
          by_cases hlu : lf u < lf v
          · obtain ⟨j, hj, hju⟩ := HL.out.into i hio u (by rw [← HV.out, HU.out]; exact getD_mem (by rw [← HM.out]; exact hlt))
            have hji : j < i := by
              have e1 := (HL.out.at' i hio).2
              have e2 := (HL.out.at' j hj).2
              rw [← HV.out] at e1; rw [hju] at e2; omega
            have HJ := hid hju
            clear hju
            go_upto_region 9 with fail
            go_quiet (fail)
            go_upto_if 54 with fail
            go_cut [] (fun wc => ∃ nw' es' dn', CW wc lo hi L A n b off cap G lf nw' es' dn' ∧ Right c N S od nw' es' dn' i ∧ dn' u = true ∧ CloseInv w lo hi L A n b off cap G lf c N S od nw es dn i r t (.int .i64 x) (.int .i64 y) wc)
            case first =>
              have HHq := hid (close_drewN HH.out nq)
              cases hd : dn1 u with
              | true =>
                rw [hd] at k3
                go_wp2_with fail
                go_meet
                case rel => exact ⟨nw1, es1, dn1, A1.out.drewN _, A3.out, hd, HHq.out⟩
              | false =>
                rw [hd] at k3
                have IHj := HI.out (wr.drewN nq) nw1 es1 dn1 j (by omega) hj (A1.out.drewN _) (fun j' hj' => A3.out j' (by omega))
                rw [HJ.out] at IHj
                go_wp2_with fail
                refine IHj.mono ?_
                intro e w1 hp
                obtain ⟨rfl, nw', es', dn', g1, g2, g3, g4, g5, g6⟩ := close_call HL.out hio hji HHq.out (A1.out.drewN _) A3.out A4.out A5.out hp
                rw [HJ.out] at g5
                have G1 := hid g1
                have G2 := hid g2
                have G5 := hid g5
                have G6 := hid g6
                clear g1 g2 g3 g4 g5 g6 hp
                go_wp2_with fail
                go_meet
                case rel => exact ⟨nw', es', dn', G1.out, G2.out, G5.out, G6.out⟩
            case rest =>
            obtain ⟨nw2, es2, dn2, g1, g2, g3, g4⟩ := hcut
            obtain ⟨e1, e2⟩ := g2 j hji (by rw [HJ.out]; exact g3)
            rw [HJ.out] at e1 e2
            have n1 := g1.rn.cell hun
            have n2 := g1.re.cell hun
            obtain ⟨a, haa⟩ : ∃ a, a = nw2 u := ⟨_, rfl⟩
            obtain ⟨q, hqq⟩ : ∃ q, q = es2 u := ⟨_, rfl⟩
            rw [← haa] at n1 e1
            rw [← hqq] at n2 e2
            have ha : InC c a := by rw [e1]; exact inC_nat (by omega) _
            have hq : InC c q := by rw [e2]; exact inC_nat (by omega) _
            have R := fun kk => close_on (by omega : 0 ≤ c) g4 ht' (by rw [← HV.out, ← HU.out]; exact hur) (by rw [← HV.out, ← HU.out]; exact hlu) (a := a) (e := q) (by rw [← HV.out, ← HU.out]; exact e1) (by rw [← HV.out, ← HU.out]; exact e2) kk
            have HR := hid R
            clear haa hqq e1 e2 g1 g2 g3 g4 k1 k2 k3 hc1 R HH A1 A3 A4 A5 hlu hur hne
            go_wp2_with fail
            refine (satAdd_q hx ha hc2).mono ?_
            rintro e w1 ⟨rfl, rfl⟩
            go_upto_region 13 with fail
            go_quiet (first | (go_at_call_of 34 (Value.int IntKind.i64 q); exact Calls.quiet_of_same (satAdd_q hq ha hc2)) | (go_at_call 34; exact Calls.quiet_of_same (satAdd_q hy (inC_add hq ha) hc2)))
            go_wp2_with fail
            go_roundg (m - (t + 1))
            case measure => omega
            case rel => exact ⟨t + 1, rfl, by omega, by go_num, _, _, rfl, rfl, inC_add hx ha, inC_add hy (inC_add hq ha), HR.out _⟩
          · have R := close_skip HL.out hio HH.out ht' (by rw [← HV.out, ← HU.out]; exact hur) (by rw [← HV.out, ← HU.out]; exact hlu)
            have hlu' : decide (lf u < lf v) = false := by simpa using hlu
            have HR := hid (fun k => close_drewN R k)
            clear R HH A1 A3 A4 A5
            go_upto_region 9 with fail
            go_quiet (fail)
            go_wp2_with fail
            go_roundg (m - (t + 1))
            case measure => omega
            case rel => exact ⟨t + 1, rfl, by omega, by go_num, _, _, rfl, rfl, hx, hy, HR.out _⟩
      · have R := hid (HD.out wr t x y hinv (by rw [← HM.out]; exact hlt))
        have n1 := h1.rn.cell hv
        have n2 := h1.rn.frozen v
        have m1 := h1.re.cell hv
        have m2 := h1.re.frozen v
        clear hinv h1 h2 h3 h4 h5 d1 d2 hrow HR3 HD
        go_wp2_with fail
        go_end0
        exact R.out

end Go.Proofs.Qxb6003663a
