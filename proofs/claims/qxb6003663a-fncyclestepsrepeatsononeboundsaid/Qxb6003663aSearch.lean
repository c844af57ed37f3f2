import Derived.Test.Qxb6003663aState
namespace Go.Proofs.Qxb6003663a
open Go.RowKit
set_option linter.unusedVariables false
set_option linter.unusedSimpArgs false

theorem info65 : (Try.prog.info? 65).map (fun i => (i.zero, i.size, i.bytes)) = some (some (.agg #[.int .i32 0, .int .i64 0]), 2, 16) := by kernel_rfl

/-- zero at the listed vertices -/
def wipe (f : Nat → Int) : List Nat → (Nat → Int)
  | [] => f
  | v :: r => wipe (upd f v 0) r

theorem wipe_snoc (f : Nat → Int) (l : List Nat) (v : Nat) : wipe f (l ++ [v]) = upd (wipe f l) v 0 := by
  induction l generalizing f with
  | nil => rfl
  | cons a r ih => exact ih _

theorem wipe_out (f : Nat → Int) (l : List Nat) (v : Nat) (h : v ∉ l) : wipe f l v = f v := by
  induction l generalizing f with
  | nil => rfl
  | cons a r ih =>
    simp only [List.mem_cons, not_or] at h
    rw [wipe, ih _ h.2, upd_other _ _ h.1]
theorem wipe_in (f : Nat → Int) (l : List Nat) (v : Nat) (h : v ∈ l) : wipe f l v = 0 := by
  induction l generalizing f with
  | nil => simp at h
  | cons a r ih =>
    by_cases e : v ∈ r
    · exact ih _ e
    · rw [wipe, wipe_out _ _ _ e]
      simp only [List.mem_cons, e, or_false] at h
      subst h; exact upd_same _ _ _

/-- what was not reached is zero -/
def Clean (n : Nat) (left paths len : Nat → Int) (order : List Nat) : Prop := ∀ v, v < n → v ∉ order → left v = 0 ∧ paths v = 0 ∧ len v = 0

theorem wipe_zero {n : Nat} {f : Nat → Int} {l : List Nat} (h : ∀ v, v < n → v ∉ l → f v = 0) : ∀ v, v < n → wipe f l v = 0 := by
  intro v hv
  by_cases e : v ∈ l
  · exact wipe_in _ _ _ e
  · rw [wipe_out _ _ _ e]; exact h v hv e

def start (r : Nat) : MS := ⟨[(r, 0)], upd (fun _ => 0) r (-1), []⟩

def SearchPost (w : World) (S B n : Nat) (lim : Int) (G : List (List Nat)) (wv rv cv bv av : Value) (mark : Int) (r : Nat) (bk : Bool) (e : Ending) (w' : World) : Prop :=
  e = .returned (.tuple #[]) ∧ ∃ lf od ov pv work, Runs G bk (start r) ⟨[], lf, od⟩ ∧ Good G bk n ⟨[], lf, od⟩ ∧ BD w' S B n lim G lf (fun _ => 0) (fun _ => 0) od [] ov pv work wv rv cv bv av mark ∧ Below S w w'

theorem take_snoc {l : List Nat} {k : Nat} (h : k < l.length) : l.take (k + 1) = l.take k ++ [l.getD k 0] := by
  rw [List.take_succ_eq_append_getElem h, List.getD_eq_getElem?_getD, List.getElem?_eq_getElem h]; rfl

theorem own_opt {w : World} {base : Nat} {e : TypeId} {size : Nat} {v : Value} {m : Nat} {xs : List Value} (h : w.ownsRow base e size v m xs) :
    ∃ ao cap, v = .slice ao m cap ∧ m ≤ cap ∧ cap ≤ maxLen ∧ (0 < m → ∃ g, ao = some ⟨g, 0, none⟩) := by
  rcases own_shape h with ⟨rfl, rfl, _⟩ | ⟨g, cap, rfl, _, h1, h2⟩
  · exact ⟨none, 0, rfl, Nat.le_refl _, Nat.zero_le _, fun h => absurd h (by omega)⟩
  · exact ⟨_, cap, rfl, h1, h2, fun _ => ⟨g, rfl⟩⟩

set_option maxRecDepth 100000 in
set_option maxHeartbeats 8000000 in
theorem search_any (w : World) (S B n : Nat) (lim : Int) (G : List (List Nat)) (left paths len : Nat → Int) (order : List Nat) (path : List (Nat × Nat)) (ov pv : Value) (work : Int) (wv rv cv bv av : Value) (mark : Int)
    (h : BD w S B n lim G left paths len order path ov pv work wv rv cv bv av mark) (r : Nat) (bk : Bool) (hr : r < n) (hn : n ≤ 65536) (hord : ∀ i, i < order.length → order.getD i 0 < n) (hol : order.length ≤ n) (hcl : Clean n left paths len order) :
    Calls Try.prog 36 #[.pointer (some ⟨S, 0, none⟩), .int .i32 (r : Int), .bool bk] w (SearchPost w S B n lim G wv rv cv bv av mark r bk) := by
  have c6 := h.sb.c6
  obtain ⟨ao, cap, hv, hm1, hm2, hao⟩ := own_opt h.ro
  rw [hv] at c6
  have H := h
  unfold maxLen at hm2
  have HAO := hid hao
  clear h hao
  go_enter Try.func36, Try.ntmps36
  go_wp2_with fail
  go_loopg [17] order.length (fun gk i wr => ∃ k : Nat, gk = order.length - k ∧ k ≤ order.length ∧ i = .int .i64 k ∧ BD wr S B n lim G (wipe left (order.take k)) (wipe paths (order.take k)) (wipe len (order.take k)) order path ov pv work wv rv cv bv av mark ∧ Below S w wr)
  case atStart => exact ⟨0, rfl, Nat.zero_le _, rfl, H, Below.refl _ _⟩
  case round =>
    obtain ⟨k, rfl, hk, rfl, hb, hbel⟩ := hrel
    by_cases hlt : k < order.length
    · as_aux_lemma =>
        obtain ⟨g, hg⟩ := HAO.out (by omega)
        have hvn := hord k hlt
        have cv : wr.cell? ⟨g, k, none⟩ = some (.int .i32 ((order.getD k 0 : Nat) : Int)) := by
          have := hb.ro
          rw [hv, hg] at this
          rw [this.cellAt k (by omega), List.getElem?_map]
          simp [List.getElem?_eq_getElem hlt, vtx]
        obtain ⟨v, hvv⟩ : ∃ v, v = order.getD k 0 := ⟨_, rfl⟩
        rw [← hvv] at cv hvn
        have c5 := hb.sb.c5
        have c8 := hb.sb.c8
        have c9 := hb.sb.c9
        have l1 := hb.rl.cell hvn
        have l2 := hb.rl.frozen v
        have p1 := hb.rp.cell hvn
        have p2 := hb.rp.frozen v
        have n1 := hb.rn.cell hvn
        have n2 := hb.rn.frozen v
        have hSB := hb.lt
        have HB := hid hb
        have HV := hid hvv
        clear hb hvv H
        subst hg
        clear hv HAO c6
        go_upto_region 3 with fail
        go_region
        go_wp2_with fail
        go_roundg (order.length - (k + 1))
        case measure => omega
        case rel =>
          refine ⟨k + 1, rfl, by omega, by go_num, ?_, ((hbel.setCell (by simp; omega) _).setCell (by simp; omega) _).setCell (by simp; omega) _ |>.drew⟩
          rw [take_snoc hlt, ← HV.out, wipe_snoc, wipe_snoc, wipe_snoc]
          exact (((HB.out.setL v 0).setP v 0).setN v 0).drew
    · have e : k = order.length := by omega
      subst e
      have c5 := hb.sb.c5
      have c6 := hb.sb.c6
      have c7 := hb.sb.c7
      have fr := hb.sb.fr
      have l1 := hb.rl.cell hr
      have l2 := hb.rl.frozen r
      rw [hv] at c6
      have HB := hid hb
      clear hb H
      go_upto_region 5 with fail
      go_cut [] (fun wc => ∃ ov', BD wc S B n lim G (wipe left order) (wipe paths order) (wipe len order) [] path ov' pv work wv rv cv bv av mark ∧ Below S w wc)
      case first =>
        as_aux_lemma =>
          cases ao with
          | none =>
            have R := hid HB.out
            rw [hv] at R
            go_wp2_with fail
            go_meet
            case rel => exact ⟨_, by have := R.out.cutOrder; simpa using this, hbel.setCell (by simp) _⟩
          | some ad =>
            have R := hid HB.out
            rw [hv] at R
            go_wp2_with fail
            go_meet
            case rel => exact ⟨_, by have := R.out.cutOrder; simpa using this, hbel.setCell (by simp) _⟩
      case rest =>
      obtain ⟨ov0, hb, hbel'⟩ := hcut
      clear c5 c6 c7 fr l1 l2 HB
      have c5 := hb.sb.c5
      have c7 := hb.sb.c7
      have fr := hb.sb.fr
      have l1 := hb.rl.cell hr
      have l2 := hb.rl.frozen r
      have hSB := hb.lt
      have HB := hid hb
      clear hb
      go_upto_region 7 with fail
      go_cut [] (fun wc => ∃ pv' work', BD wc S B n lim G (upd (wipe left order) r (-1)) (wipe paths order) (wipe len order) [] [(r, 0)] ov0 pv' work' wv rv cv bv av mark ∧ Below S w wc)
      case first =>
        as_aux_lemma =>
          obtain ⟨ap, capp, hpv, hp1, hp2, hp3⟩ := own_opt HB.out.rs
          rw [hpv] at c7
          unfold maxLen at hp2
          have R1 := hid (HB.out.setL r (-1))
          rw [hpv] at R1
          obtain ⟨i0, hi, hz0, hz1, hz2⟩ := info_parts info65
          clear hp3 c5
          have ne4 : B ≠ S := by omega
          have hsz := HB.out.sz
          cases ap with
          | none =>
            go_wp2_with (at_builtin; go_must (refine wpList_append_own _ rfl (.tmp 59) (.tmp 62) 57 rfl (B + 5) 65 i0 (.agg #[.int .i32 0, .int .i64 0]) 2 16 Try.underlying57 hi hz0 hz1 hz2 rfl (by decide) _ _ _ rfl ((own_cut0 R1.out.rs).alloc _) ⟨wc.heap.size, 0, none⟩ 1 1 [.int .i32 r, .int .i64 0] rfl rfl (new_two _ _ (by simp) _ _ _) (one_two _ _ _ _) (by simp [maxLen]) (by simp) (by simp; omega) ?_))
            intro v' w1 hown' hgrow _
            obtain ⟨g', cap', R2, B2, S2, hv'⟩ := R1.out.freshPath (hbel'.setCell (p := ⟨B, r, none⟩) (by simp; omega) _) hown' hgrow
            subst hv'
            have c7' := S2.c7
            have fr' := S2.fr
            clear S2 hown' hgrow c7 fr l1 l2
            go_wp2_with fail
            go_meet
            case rel => exact ⟨_, _, R2, B2⟩
          | some ad =>
            go_wp2_with (at_builtin; go_must (refine wpList_append_own _ rfl (.tmp 59) (.tmp 62) 57 rfl (B + 5) 65 i0 (.agg #[.int .i32 0, .int .i64 0]) 2 16 Try.underlying57 hi hz0 hz1 hz2 rfl (by decide) _ _ _ rfl ((own_cut0 R1.out.rs).alloc _) ⟨wc.heap.size, 0, none⟩ 1 1 [.int .i32 r, .int .i64 0] rfl rfl (new_two _ _ (by simp) _ _ _) (one_two _ _ _ _) (by simp [maxLen]) (by simp) (by simp; omega) ?_))
            intro v' w1 hown' hgrow _
            obtain ⟨g', cap', R2, B2, S2, hv'⟩ := R1.out.freshPath (hbel'.setCell (p := ⟨B, r, none⟩) (by simp; omega) _) hown' hgrow
            subst hv'
            have c7' := S2.c7
            have fr' := S2.fr
            clear S2 hown' hgrow c7 fr l1 l2
            go_wp2_with fail
            go_meet
            case rel => exact ⟨_, _, R2, B2⟩
      case rest =>
      clear c5 c7 fr l1 l2 HB hbel'
      obtain ⟨pv1, work1, hb1, hbel1⟩ := hcut
      go_wp2_with fail
      go_loopg [] (mu G n (start r)) (fun gk wx => ∃ s ov' pv' work', gk = mu G n s ∧ Runs G bk (start r) s ∧ Good G bk n s ∧ BD wx S B n lim G s.left (fun _ => 0) (fun _ => 0) s.order s.stack ov' pv' work' wv rv cv bv av mark ∧ Below S w wx)
      case atStart =>
        refine ⟨start r, ov0, pv1, work1, rfl, Runs.refl _ _ _, good_start G bk n r hr, hb1.congr (fun v hv' => ?_) (wipe_zero fun v hv' ho => (hcl v hv' ho).2.1) (wipe_zero fun v hv' ho => (hcl v hv' ho).2.2), hbel1⟩
        show upd (wipe left order) r (-1) v = upd (fun _ => 0) r (-1) v
        unfold upd
        split
        · rfl
        · exact wipe_zero (fun v hv' ho => (hcl v hv' ho).1) v hv'
      case round =>
        obtain ⟨s, ov2, pv2, work2, rfl, hruns, hgood, hb, hbel2⟩ := hrel
        obtain ⟨st, lf, od⟩ := s
        cases st with
        | nil =>
          as_aux_lemma =>
            have R := hid (show SearchPost w S B n lim G wv rv cv bv av mark r bk (.returned (.tuple #[])) wr from ⟨rfl, lf, od, ov2, pv2, work2, hruns, hgood, hb, hbel2⟩)
            have c7 := hb.sb.c7
            obtain ⟨ap, capp, hpv, _⟩ := own_opt hb.rs
            rw [hpv] at c7
            clear hgood hruns hb hpv
            go_wp2_with fail
            go_end0
            exact R.out
        | cons p K =>
          obtain ⟨v, t⟩ := p
          have hch := hb.child_lt bk
          obtain ⟨hvn, hlv, htl, hbef⟩ := hgood.stk v t (by simp)
          have hcnt := hgood.cnt
          simp only [List.length_cons] at hcnt
          obtain ⟨g, cap2, hpv, hg5, hK1, hK2⟩ : ∃ g cap, pv2 = .slice (some ⟨g, 0, none⟩) (K.length + 1) cap ∧ B + 5 ≤ g ∧ K.length + 1 ≤ cap ∧ cap ≤ maxLen := by
            rcases own_shape hb.rs with ⟨_, h, _⟩ | h
            · simp at h
            · simpa using h
          subst hpv
          unfold maxLen at hK2
          obtain ⟨q0, q1, q2, _⟩ := hb.cells rfl rfl
          rw [vtx_def] at q0
          obtain ⟨ao2, capr, hrow, hr1, hr2, hr3⟩ := hb.edges hvn
          unfold maxLen at hr1
          have c0 := hb.sb.c0
          have c7 := hb.sb.c7
          have fr := hb.sb.fr
          have hSB := hb.lt
          obtain ⟨m, hmm⟩ : ∃ m, m = (row G v).length := ⟨_, rfl⟩
          rw [← hmm] at htl hrow hr2 hr3
          have HM := hid hmm
          have HB := hid hb
          have HR3 := hid hr3
          have HG := hid hgood
          clear hb hmm hr3 hgood hbef
          by_cases htm : t < m
          · obtain ⟨b3, off3, hao, hb31, hb32, hb33⟩ := HR3.out (by omega)
            subst hao
            have hx := place_lt (bk := bk) htm
            obtain ⟨x, hxx⟩ : ∃ x, x = place bk m t := ⟨_, rfl⟩
            rw [← hxx] at hx
            obtain ⟨hc1, hc2⟩ := hb33 x hx
            obtain ⟨y, hyy⟩ : ∃ y, y = child G bk v t := ⟨_, rfl⟩
            have hcy : (row G v).getD x 0 = y := by rw [hyy]; unfold child; rw [← HM.out, ← hxx]
            rw [hcy] at hc1 hc2
            have HX := hid hxx
            have HY := hid hyy
            clear hb33 hcy hxx hyy HR3
            go_upto_region 9 with fail
            go_quiet (fail)
            go_upto_region 10 with fail
            go_quiet (fail)
            go_upto_if 104 with fail
            go_cut [10] (fun i wc => i = .int .i64 (x : Int) ∧ BD wc S B n lim G lf (fun _ => 0) (fun _ => 0) od ((v, t) :: K) ov2 (.slice (some ⟨g, 0, none⟩) (K.length + 1) cap2) work2 wv rv cv bv av mark ∧ Below S w wc ∧ wc.heap = wr.heap)
            case first =>
              as_aux_lemma =>
                cases bk with
                | false =>
                  have HX' := hid (show x = t from by rw [HX.out]; rfl)
                  go_wp2_with fail
                  go_meet
                  case rel => exact ⟨by rw [HX'.out], HB.out.drewN _, bel_drewN hbel2 _, rfl⟩
                | true =>
                  have HX' := hid (show ((x : Nat) : Int) = (m : Int) - 1 - (t : Int) from by rw [HX.out]; unfold place; simp; omega)
                  go_wp2_with fail
                  go_meet
                  case rel => exact ⟨by rw [HX'.out], HB.out.drewN _, bel_drewN hbel2 _, rfl⟩
            case rest =>
            obtain ⟨hi10, hb, hbel3, hheap⟩ := hcut
            subst hi10
            have hc1' : wc.cell? ⟨b3, off3 + x, none⟩ = some (.int .i32 (y : Int)) := by rw [← hc1]; simp [World.cell?, hheap]
            clear hc1 q0 q1 q2 c0 c7 fr hrow HB hheap hbel2
            obtain ⟨q0, q1, q2, _⟩ := hb.cells rfl rfl
            have c5 := hb.sb.c5
            have c7 := hb.sb.c7
            have fr := hb.sb.fr
            have l1 := hb.rl.cell hc2
            have l2 := hb.rl.frozen y
            have ne1 : g ≠ b3 := by omega
            have ne2 : g ≠ S := by omega
            have ne3 : g ≠ B := by omega
            have ne4 : B ≠ S := by omega
            have HB := hid hb
            clear hb
            by_cases hz : lf y = 0
            · as_aux_lemma =>
                have HS := hid (step_push (G := G) (bk := bk) (v := v) (t := t) (K := K) (l := lf) (o := od) (by rw [← HM.out]; exact htm) (by rw [← HY.out]; exact hz))
                have R1 := hid (HB.out.take.setL y (-1))
                have hz' : (lf y == 0) = true := by simpa using hz
                obtain ⟨i0, hi, hz0, hz1, hz2⟩ := info_parts info65
                clear hz
                go_wp2_with (at_builtin; go_must (refine wpList_append_own _ rfl (.tmp 139) (.tmp 142) 57 rfl (B + 5) 65 i0 (.agg #[.int .i32 0, .int .i64 0]) 2 16 Try.underlying57 hi hz0 hz1 hz2 rfl (by decide) _ _ _ rfl (R1.out.rs.alloc _) ⟨wc.heap.size, 0, none⟩ 1 1 [.int .i32 y, .int .i64 0] rfl rfl (new_two _ _ (by simp) _ _ _) (one_two _ _ _ _) (by simp [maxLen]; omega) (by simp; omega) (by have := R1.out.sz; simp at this ⊢; omega) ?_))
                intro v' w1 hown' hgrow _
                obtain ⟨g', cap', hv'⟩ := own_pos hown' (by omega)
                subst hv'
                have R2 := hid (R1.out.pushPath (v := y) hown' hgrow)
                have B2 := hid (bel_push R1.out ((hbel3.setCell (by simp; omega) _).setCell (by simp; omega) _) hgrow (own_low R1.out.rs) 7 (.slice (some ⟨g', 0, none⟩) (K.length + 1 + 1) cap'))
                have S2 := R1.out.grownSB hgrow (own_low R1.out.rs)
                have c7' := S2.c7
                have fr' := S2.fr
                clear S2 hown' hgrow c7 fr c5 l1 l2 q0 q1 q2 hc1'
                go_wp2_with fail
                go_roundg (mu G n ⟨(y, 0) :: (v, t + 1) :: K, upd lf y (-1), od⟩)
                case measure =>
                  have := mu_step (bk := bk) (n := n) (s := ⟨(v, t) :: K, lf, od⟩) (by simp) hch
                  rw [HS.out, ← HY.out] at this
                  exact this
                case rel =>
                  have e := HS.out
                  rw [← HY.out] at e
                  exact ⟨_, ov2, _, work2, rfl, by rw [← e]; exact hruns.next, by rw [← e]; exact good_step HG.out hch, R2.out, B2.out⟩
            · as_aux_lemma =>
                have HS := hid (step_pass (G := G) (bk := bk) (v := v) (t := t) (K := K) (l := lf) (o := od) (by rw [← HM.out]; exact htm) (by rw [← HY.out]; exact hz))
                have R := hid (HB.out.take)
                have hz' : (lf y == 0) = false := by simpa using hz
                clear hz
                go_wp2_with fail
                go_roundg (mu G n ⟨(v, t + 1) :: K, lf, od⟩)
                case measure =>
                  have := mu_step (bk := bk) (n := n) (s := ⟨(v, t) :: K, lf, od⟩) (by simp) hch
                  rw [HS.out] at this
                  exact this
                case rel => exact ⟨_, ov2, _, work2, rfl, by rw [← HS.out]; exact hruns.next, by rw [← HS.out]; exact good_step HG.out hch, R.out, hbel3.setCell (by simp; omega) _⟩
          · clear HR3
            have c4 := HB.out.sb.c4
            go_upto_region 9 with fail
            go_quiet (fail)
            go_upto_region 10 with fail
            go_quiet (fail)
            go_upto_region 20 with fail
            go_cut [] (fun wc => ∃ work', BD wc S B n lim G lf (fun _ => 0) (fun _ => 0) od ((v, t) :: K) ov2 (.slice (some ⟨g, 0, none⟩) (K.length + 1) cap2) work' wv rv cv bv av mark ∧ Below S w wc)
            case first =>
              as_aux_lemma =>
                go_wp2_with fail
                go_meet
                case rel => exact ⟨_, (HB.out.drewN _).setWork _, (bel_drewN hbel2 _).setCell (by simp) _⟩
            case rest =>
            obtain ⟨work3, hb, hbel3⟩ := hcut
            clear c4 q0 q1 q2 c0 c7 fr hrow HB hbel2
            obtain ⟨q0, q1, q2, _⟩ := hb.cells rfl rfl
            rw [vtx_def] at q0
            have c6 := hb.sb.c6
            have fr := hb.sb.fr
            have ne2 : g ≠ S := by omega
            have HB := hid hb
            have hsz := hb.sz
            have hSs := hb.sb.lt
            obtain ⟨i0, hi, hz0, hz1, hz2⟩ := info_parts info50
            clear hb
            go_upto_region 21 with fail
            go_cut [] (fun wc => ∃ ov', BD wc S B n lim G lf (fun _ => 0) (fun _ => 0) (od ++ [v]) ((v, t) :: K) ov' (.slice (some ⟨g, 0, none⟩) (K.length + 1) cap2) work3 wv rv cv bv av mark ∧ Below S w wc)
            case first =>
              go_region_law (refine step_append_own rfl (.tmp 160) (.tmp 165) 56 rfl (B + 5) 50 i0 (.int .i32 0) 1 4 Try.underlying56 hi hz0 hz1 hz2 rfl (by decide) ov2 _ _ (by simp [Act.eval, Act.put]) (HB.out.ro.alloc (.cells #[.int .i32 (v : Int)] 50)) ⟨wc.heap.size, 0, none⟩ 1 1 [.int .i32 (v : Int)] (by simp [Act.eval, Act.put]) rfl (new_one wc _ rfl _ _) (one_one _ _) (by unfold maxLen; omega) (by omega) (by simp; omega) ?_; intro v' w1 hown' hgrow; obtain ⟨g', cap', R2, B2, S2, hv'⟩ := HB.out.drew.pushedOrder hbel3.drew hown' hgrow; subst hv'; have c6' := S2.c6; have fr' := S2.fr; clear S2 hown' hgrow)
              all_goals (go_wp2_with fail; go_meet; case rel => exact ⟨_, R2, B2⟩)
            case rest =>
            obtain ⟨ov3, hb, hbel4⟩ := hcut
            clear q0 q1 q2 fr HB hbel3 c6 hsz
            obtain ⟨q0, q1, q2, _⟩ := hb.cells rfl rfl
            rw [vtx_def] at q0
            have c5 := hb.sb.c5
            obtain ⟨g3, cap3, hv3⟩ := own_pos hb.ro (by simp)
            subst hv3
            have c6 := hb.sb.c6
            have l1 := hb.rl.cell hvn
            have l2 := hb.rl.frozen v
            have R := hid (hb.setL v ((od.length : Int) + 1))
            have hol2 : (od ++ [v]).length = od.length + 1 := by simp
            rw [hol2] at c6
            have HB := hid hb
            clear hb hol2
            go_upto_region 22 with fail
            go_cut [] (fun wc => BD wc S B n lim G (upd lf v ((od.length : Int) + 1)) (fun _ => 0) (fun _ => 0) (od ++ [v]) ((v, t) :: K) (.slice (some ⟨g3, 0, none⟩) (od ++ [v]).length cap3) (.slice (some ⟨g, 0, none⟩) (K.length + 1) cap2) work3 wv rv cv bv av mark ∧ Below S w wc)
            case first =>
              as_aux_lemma =>
                go_region
                go_wp2_with fail
                go_meet
                case rel => exact ⟨R.out.drew, (hbel4.setCell (by simp; omega) _).drew⟩
            case rest =>
            obtain ⟨hb, hbel5⟩ := hcut
            clear q0 q1 q2 HB R hbel4 c6 c5 l1 l2
            have c7 := hb.sb.c7
            have fr := hb.sb.fr
            have R := hid hb.popPath
            have HS := hid (step_pop (G := G) (bk := bk) (v := v) (t := t) (K := K) (l := lf) (o := od) (by rw [← HM.out]; exact htm))
            clear hb
            go_upto_region 23 with fail
            go_region
            go_wp2_with fail
            go_roundg (mu G n ⟨K, upd lf v ((od.length : Int) + 1), od ++ [v]⟩)
            case measure =>
              have := mu_step (bk := bk) (n := n) (s := ⟨(v, t) :: K, lf, od⟩) (by simp) hch
              rw [HS.out] at this
              exact this
            case rel => exact ⟨_, _, _, work3, rfl, by rw [← HS.out]; exact hruns.next, by rw [← HS.out]; exact good_step HG.out hch, R.out.drew, (hbel5.setCell (by simp) _).drew⟩

end Go.Proofs.Qxb6003663a
