import Derived.Test.Qxb6003663aSearch
import Derived.Test.Qxb6003663aCycle
namespace Go.Proofs.Qxb6003663a
open Go.RowKit
set_option linter.unusedVariables false
set_option linter.unusedSimpArgs false

/-- behind the call: the steps; the stepBound again, its last search in it -/
def CycPost (w : World) (S B n : Nat) (lim : Int) (G : List (List Nat)) (wv rv cv bv av : Value) (mark : Int) (r : Nat) (bk : Bool) (e : Ending) (w' : World) : Prop :=
  ∃ lf od, Ends G bk r lf od ∧ e = .returned (.int .i64 (answer G lim r n lf)) ∧ Below S w w' ∧ ∃ paths len ov pv work, BD w' S B n lim G lf paths len od [] ov pv work wv rv cv bv av mark ∧ Clean n lf paths len od

theorem edg_drewN {S B n : Nat} {lim : Int} {G : List (List Nat)} {lf : Nat → Int} {od : List Nat} {ov pv wv rv cv bv av : Value} {mark : Int} {N Sx : Nat → Nat} {Y : Nat} {w wx : World} {i r p q t : Nat} {sv : Value} (h : EdgInv S B n lim G lf od ov pv wv rv cv bv av mark N Sx Y w i r p q t sv wx) (k : Nat) :
    EdgInv S B n lim G lf od ov pv wv rv cv bv av mark N Sx Y w i r p q t sv (wx.drewN k) := by
  obtain ⟨T, P, Ln, work, a1, a2, a3, a4, a5⟩ := h
  exact ⟨T, P, Ln, work, a1, a2.drewN k, bel_drewN a3 k, a4, a5⟩

set_option maxRecDepth 100000 in
set_option maxHeartbeats 4000000 in
theorem cycle_any (w : World) (S B n : Nat) (lim : Int) (G : List (List Nat)) (left paths len : Nat → Int) (order : List Nat) (path : List (Nat × Nat)) (ov pv : Value) (work : Int) (wv rv cv bv av : Value) (mark : Int)
    (h : BD w S B n lim G left paths len order path ov pv work wv rv cv bv av mark) (r : Nat) (bk : Bool) (hr : r < n) (hn : n ≤ 65536) (hord : ∀ i, i < order.length → order.getD i 0 < n) (hol : order.length ≤ n) (hcl : Clean n left paths len order) (h0 : 0 ≤ lim) (h1 : lim + 1 ≤ 9223372036854775807) :
    Calls Try.prog 39 #[.pointer (some ⟨S, 0, none⟩), .int .i32 (r : Int), .bool bk] w (CycPost w S B n lim G wv rv cv bv av mark r bk) := by
  have hs := search_any w S B n lim G left paths len order path ov pv work wv rv cv bv av mark h r bk hr hn hord hol hcl
  go_enter Try.func39, Try.ntmps39
  go_wp2_with fail
  refine hs.mono ?_
  intro e w1 hp
  obtain ⟨rfl, lf, od, ov1, pv1, work1, hends, hgood, hb, hbel⟩ := hp
  have hends' : Ends G bk r lf od := hends
  have hch := hb.child_lt bk
  have hl := hends'.left hr hch
  obtain ⟨i0, hi0, hir⟩ := hends'.root hr hch
  have hlen := hl.len
  obtain ⟨g, cap, hv⟩ := own_pos hb.ro (by omega)
  subst hv
  have c6 := hb.sb.c6
  have c8 := hb.sb.c8
  have q1 := hb.rp.cell hr
  have q2 := hb.rp.frozen r
  have hSB := hb.lt
  have hgb := own_low hb.ro g rfl
  have ne1 : B + 1 ≠ S := by omega
  have ost := owed_start hl (NN G lf r n) (SS G lf r n) hi0
  rw [hir] at ost
  have R0 := hid (show CycInv S B n lim G lf od (.slice (some ⟨g, 0, none⟩) od.length cap) pv1 wv rv cv bv av mark (NN G lf r n) (SS G lf r n) (SS G lf r n r + NN G lf r n r) w od.length (.int .i64 0) (w1.setCell ⟨B + 1, r, none⟩ (.int .i64 1)) from by
    refine ⟨0, updN (fun _ => 0) r 1, fun _ => 0, work1, by rw [show ((0 : Nat) : Int) = 0 from rfl, sat_zero (by omega)], ?_, hbel.setCell (by simp; omega) _, fun v hv => ⟨by simp only [updN]; rw [if_neg (fun e => hv (by rw [e, ← hir]; exact getD_mem hi0))], rfl⟩, by rw [ost]; omega⟩
    refine (hb.setP r 1).congr (fun _ _ => rfl) (fun v _ => ?_) (fun v _ => ?_)
    · unfold upd satF updN
      split
      · exact (sat_one (by omega)).symm
      · exact (sat_zero (by omega)).symm
    · exact (sat_zero (by omega)).symm)
  have HE := hid hends'
  have HL := hid hl
  have HZ := hid (show ∀ v, v ∉ od → lf v = 0 from fun v hv => by
    rcases hgood.pos v with h' | h' | ⟨i, hi, e⟩
    · exact h'
    · obtain ⟨t, ht⟩ := hgood.neg v h'; simp at ht
    · exact absurd (by rw [← e]; exact getD_mem hi) hv)
  clear hs h hends hgood hb hbel hends' hl ost hir hcl hord
  go_wp2_with fail
  go_loopg [7, 8] od.length (fun gk sv iv wx => iv = .int .i64 ((gk : Int) - 1) ∧ gk ≤ od.length ∧ CycInv S B n lim G lf od (.slice (some ⟨g, 0, none⟩) od.length cap) pv1 wv rv cv bv av mark (NN G lf r n) (SS G lf r n) (SS G lf r n r + NN G lf r n r) w gk sv wx)
  case atStart => exact ⟨rfl, Nat.le_refl _, R0.out⟩
  case round =>
    obtain ⟨rfl, hgk, T, P, Ln, work2, rfl, hb, hbel, hz, hX⟩ := hrel
    clear c6 c8 q1 q2 R0
    cases gk with
    | zero =>
      have R := hid (show CycPost w S B n lim G wv rv cv bv av mark r bk (.returned (.int .i64 (sat (lim + 1) (T : Int)))) wr from by
        refine ⟨lf, od, HE.out, ret_int ?_, hbel, _, _, _, _, work2, hb, fun v _ hv => ⟨HZ.out v hv, ?_, ?_⟩⟩
        · unfold answer; simp only [owed, Nat.add_zero] at hX; rw [hX]
        · unfold satF; rw [(hz v hv).1]; exact sat_zero (by omega)
        · unfold satF; rw [(hz v hv).2]; exact sat_zero (by omega))
      clear hX hz hb
      go_wp2_with fail
      go_ret
      exact R.out
    | succ i =>
      have hi : i < od.length := by omega
      have hvn := (HL.out.at' i hi).1
      have c6 := hb.sb.c6
      have c8 := hb.sb.c8
      have c9 := hb.sb.c9
      have c4 := hb.sb.c4
      have c0 := hb.sb.c0
      have fr := hb.sb.fr
      have o1 : wr.cell? ⟨g, i, none⟩ = some (.int .i32 ((od.getD i 0 : Nat) : Int)) := by
        rw [hb.ro.cellAt i (by omega), List.getElem?_map]
        simp [List.getElem?_eq_getElem hi, vtx]
      obtain ⟨v, hvv⟩ : ∃ v, v = od.getD i 0 := ⟨_, rfl⟩
      rw [← hvv] at o1 hvn
      obtain ⟨ao2, capr, hrow, hr1, hr2, hr3⟩ := hb.edges hvn
      unfold maxLen at hr1
      have p1 := hb.rp.cell hvn
      have n1 := hb.rn.cell hvn
      obtain ⟨m, hmm⟩ : ∃ m, m = (row G v).length := ⟨_, rfl⟩
      rw [← hmm] at hrow hr2 hr3
      have hgi : ((i + 1 : Nat) : Int) - 1 = (i : Int) := by omega
      rw [hgi]
      obtain ⟨p, hpp⟩ : ∃ p, p = satF (lim + 1) P v := ⟨_, rfl⟩
      obtain ⟨q, hqq⟩ : ∃ q, q = satF (lim + 1) Ln v := ⟨_, rfl⟩
      rw [← hpp] at p1
      rw [← hqq] at n1
      have HV := hid hvv
      have HM := hid hmm
      have HP := hid hpp
      have HQ := hid hqq
      have HB := hid hb
      have HX := hid hX
      have HZ2 := hid hz
      have HR3 := hid hr3
      clear hvv hmm hpp hqq hb hX hz hr3 hgi
      go_upto_region 8 with fail
      go_quiet (fail)
      go_upto_region 9 with fail
      go_cut [] (fun wc => ∃ work', BD wc S B n lim G lf (satF (lim + 1) P) (satF (lim + 1) Ln) od [] (.slice (some ⟨g, 0, none⟩) od.length cap) pv1 work' wv rv cv bv av mark ∧ Below S w wc)
      case first =>
        go_region
        go_wp2_with fail
        go_meet
        case rel => exact ⟨_, (HB.out.drewN _).setWork _, (bel_drewN hbel _).setCell (by simp) _⟩
      case rest =>
      obtain ⟨work3, hb, hbel3⟩ := hcut
      clear c6 c8 c9 c4 c0 fr o1 p1 n1 hrow HB hbel
      obtain ⟨ao3, capr3, hrow, hs1, hs2, hs3⟩ := hb.edges hvn
      unfold maxLen at hs1
      rw [← HM.out] at hrow hs2 hs3
      have c0 := hb.sb.c0
      have E0 := hid (show EdgInv S B n lim G lf od (.slice (some ⟨g, 0, none⟩) od.length cap) pv1 wv rv cv bv av mark (NN G lf r n) (SS G lf r n) (T + owed (NN G lf r n) (SS G lf r n) od P Ln i) w i r (P v) (Ln v) 0 (.int .i64 (sat (lim + 1) (T : Int))) wc from
        ⟨T, P, Ln, work3, rfl, hb, hbel3, HZ2.out, by simp [tally]⟩)
      have HS3 := hid hs3
      have hSw : ∀ wx (T' : Nat) (P' Ln' : Nat → Nat) (work' : Int), BD wx S B n lim G lf (satF (lim + 1) P') (satF (lim + 1) Ln') od [] (.slice (some ⟨g, 0, none⟩) od.length cap) pv1 work' wv rv cv bv av mark → Kept (S + 1) B wc wx → True := fun _ _ _ _ _ _ _ => trivial
      clear hb hs3 hbel3 HR3 hSw
      go_wp2_with fail
      go_loopg [7, 79] m (fun gk sv iv wx => ∃ t, gk = m - t ∧ t ≤ m ∧ iv = .int .i64 (t : Int) ∧ Kept (S + 1) B wc wx ∧ EdgInv S B n lim G lf od (.slice (some ⟨g, 0, none⟩) od.length cap) pv1 wv rv cv bv av mark (NN G lf r n) (SS G lf r n) (T + owed (NN G lf r n) (SS G lf r n) od P Ln i) w i r (P v) (Ln v) t sv wx)
      case atStart => exact ⟨0, rfl, Nat.zero_le _, rfl, Kept.refl _ _ _, E0.out⟩
      case round =>
        obtain ⟨t, rfl, htm, rfl, hkept, T', P', Ln', work4, rfl, hb, hbel4, hz4, hY⟩ := hrel
        by_cases hlt : t < m
        · obtain ⟨b3, off3, hao, hb31, hb32, hb33⟩ := HS3.out (by omega)
          subst hao
          obtain ⟨u, huu⟩ : ∃ u, u = (row G v).getD t 0 := ⟨_, rfl⟩
          have hu1 : wr.cell? ⟨b3, off3 + t, none⟩ = some (.int .i32 (u : Int)) := by
            rw [hkept.cell (by omega) hb32, (hb33 t hlt).1, huu]
          have hun : u < n := by rw [huu]; exact (hb33 t hlt).2
          have ht' : t < (row G (od.getD i 0)).length := by rw [← HV.out, ← HM.out]; exact hlt
          have c2 := hb.sb.c2
          have ipp : InC (lim + 1) p := by rw [HP.out]; exact inC_nat (by omega) _
          have iqq : InC (lim + 1) q := by rw [HQ.out]; exact inC_nat (by omega) _
          have iT : InC (lim + 1) (sat (lim + 1) (T' : Int)) := inC_nat (by omega) _
          have HU := hid huu
          clear hb33 huu c0 hrow E0
          by_cases hur : u = r
          · subst hur
            have R := hid (edg_root h0 HL.out hi hb hbel4 hz4 hY ht' (by rw [← HV.out]; exact HU.out.symm))
            rw [show sat (lim + 1) ((P v : Nat) : Int) = p from HP.out.symm, show sat (lim + 1) ((Ln v : Nat) : Int) = q from HQ.out.symm] at R
            obtain ⟨tv, htv⟩ : ∃ tv, tv = sat (lim + 1) (T' : Int) := ⟨_, rfl⟩
            rw [← htv] at R iT
            rw [← htv]
            have HK := hid hkept
            clear htv hb hbel4 hz4 hY hkept
            go_wp2_with fail
            refine (add_q c2 iqq ipp h0 h1).mono ?_
            rintro e wy ⟨rfl, rfl⟩
            go_wp2_with fail
            refine (add_q c2 (inC_add iqq ipp) ipp h0 h1).mono ?_
            rintro e wy ⟨rfl, rfl⟩
            go_wp2_with fail
            refine (add_q c2 iT (inC_add (inC_add iqq ipp) ipp) h0 h1).mono ?_
            rintro e wy ⟨rfl, rfl⟩
            go_wp2_with fail
            go_roundg (m - (t + 1))
            case measure => omega
            case rel => exact ⟨t + 1, rfl, by omega, by go_num, HK.out, R.out⟩
          · have hne := int_ne hur
            have c5 := hb.sb.c5
            have k1 := hb.rl.cell hun
            have k2 := hb.rl.cell hvn
            have hSs := hb.sb.lt
            by_cases hlu : lf u < lf v
            · have c8 := hb.sb.c8
              have p1 := hb.rp.cell hun
              have p2 := hb.rp.frozen u
              obtain ⟨pu, hpu⟩ : ∃ pu, pu = satF (lim + 1) P' u := ⟨_, rfl⟩
              have ipu : InC (lim + 1) pu := by rw [hpu]; exact inC_nat (by omega) _
              rw [← hpu] at p1
              have HPU := hid hpu
              have HB := hid hb
              have HK := hid hkept
              have HY := hid hY
              clear hpu hb hkept hY
              go_upto_region 15 with fail
              go_quiet (fail)
              go_upto_region 16 with fail
              go_cut [] (fun wc2 => BD wc2 S B n lim G lf (upd (satF (lim + 1) P') u (sat (lim + 1) (pu + p))) (satF (lim + 1) Ln') od [] (.slice (some ⟨g, 0, none⟩) od.length cap) pv1 work4 wv rv cv bv av mark ∧ Below S w wc2 ∧ Kept (S + 1) B wc wc2)
              case first =>
                go_region_with (go_at_call 43; go_must (refine (add_q (by exact c2) ipu ipp h0 h1).mono ?_; rintro e wy ⟨rfl, rfl⟩))
                all_goals (go_wp2_with fail; go_meet; case rel => exact ⟨(HB.out.drewN _).setP u _, (bel_drewN hbel4 _).setCell (by simp; omega) _, Kept.set HK.out (Or.inr (by simp)) _⟩)
              case rest =>
              obtain ⟨hb, hbel5, hkept⟩ := hcut
              clear c8 p1 p2 c2 c5 k1 k2 hu1 HB hbel4 HK hSs
              have c2 := hb.sb.c2
              have c9 := hb.sb.c9
              have n1 := hb.rn.cell hun
              have n2 := hb.rn.frozen u
              obtain ⟨nu, hnu⟩ : ∃ nu, nu = satF (lim + 1) Ln' u := ⟨_, rfl⟩
              have inu : InC (lim + 1) nu := by rw [hnu]; exact inC_nat (by omega) _
              rw [← hnu] at n1
              have HNU := hid hnu
              have HB := hid hb
              have HK := hid hkept
              have FIN := hid (fun (wx : World) (hx : BD wx S B n lim G lf (upd (satF (lim + 1) P') u (sat (lim + 1) (pu + p))) (upd (satF (lim + 1) Ln') u (sat (lim + 1) (nu + sat (lim + 1) (q + p)))) od [] (.slice (some ⟨g, 0, none⟩) od.length cap) pv1 work4 wv rv cv bv av mark) (hbx : Below S w wx) =>
                edg_on (N := NN G lf r n) (Sx := SS G lf r n) (u := u) h0 HL.out hi (by rw [show sat (lim + 1) ((P' u : Nat) : Int) = pu from HPU.out.symm, show sat (lim + 1) ((Ln' u : Nat) : Int) = nu from HNU.out.symm, show sat (lim + 1) ((P v : Nat) : Int) = p from HP.out.symm, show sat (lim + 1) ((Ln v : Nat) : Int) = q from HQ.out.symm]; exact hx) hbx hz4 HY.out ht' (by rw [← HV.out]; exact HU.out) hur (by rw [← HV.out]; exact hlu))
              clear hnu hb hkept
              go_upto_region 17 with fail
              go_region_with (first | (go_at_call_of 43 (Value.int IntKind.i64 nu); go_must (refine (add_q (by exact c2) inu (inC_add iqq ipp) h0 h1).mono ?_; rintro e wy ⟨rfl, rfl⟩)) | (go_at_call 43; go_must (refine (add_q (by exact c2) iqq ipp h0 h1).mono ?_; rintro e wy ⟨rfl, rfl⟩)))
              all_goals
                go_wp2_with fail
                go_roundg (m - (t + 1))
                case measure => omega
                case rel => exact ⟨t + 1, rfl, by omega, by go_num, Kept.set HK.out (Or.inr (by simp)) _, FIN.out _ (HB.out.drew.setN u _) (hbel5.drew.setCell (by simp; omega) _)⟩
            · have R := hid (edg_skip HL.out hi hb hbel4 hz4 hY ht' (by rw [← HV.out, ← HU.out]; exact hur) (by rw [← HV.out, ← HU.out]; exact hlu))
              have hlu' : decide (lf u < lf v) = false := by simpa using hlu
              have HK := hid hkept
              clear hb hkept hY hbel4
              go_upto_region 15 with fail
              go_quiet (fail)
              go_wp2_with fail
              go_roundg (m - (t + 1))
              case measure => omega
              case rel => exact ⟨t + 1, rfl, by omega, by go_num, HK.out, edg_drewN R.out _⟩
        · have R := hid (show CycInv S B n lim G lf od (.slice (some ⟨g, 0, none⟩) od.length cap) pv1 wv rv cv bv av mark (NN G lf r n) (SS G lf r n) (SS G lf r n r + NN G lf r n r) w i (.int .i64 (sat (lim + 1) (T' : Int))) wr from by
            refine ⟨T', P', Ln', work4, rfl, hb, hbel4, hz4, ?_⟩
            have e := cnt_eq (r := r) HL.out i hi
            rw [List.take_of_length_le (by rw [← HV.out, ← HM.out]; omega), e, ← HV.out] at hY
            have hx := HX.out
            simp only [owed, ← HV.out] at hx
            dsimp only at hY
            rw [hY]; omega)
          clear hb hY hz4 hbel4 hkept c0 hrow E0
          go_wp2_with fail
          go_roundg i
          case measure => omega
          case rel => exact ⟨by go_num, by omega, R.out⟩

end Go.Proofs.Qxb6003663a
