import Derived.Test.Qxb6003663aNew
import Derived.Test.Qxb6003663aState
namespace Go.Proofs.Qxb6003663a
open Go.RowKit
set_option linter.unusedVariables false
set_option linter.unusedSimpArgs false

theorem nb_call2 {w wr : World} {S n : Nat} {lim : Int} {G H : List (List Nat)} {k j : Nat} (h : NB w S n lim G H k j wr) (hk : j < n) {e : Ending} {w1 : World} (hp : VertPost wr.drew n (H.getD j []) e w1) :
    ∃ ao m c, e = .returned (.slice ao m c) ∧ NB w S n lim G H k (j + 1) (w1.setCell ⟨S + 1 + 1, j, none⟩ (.slice ao m c)) ∧ w1.cell? ⟨S, 1, none⟩ = some (.slice (some ⟨S + 1 + 1, 0, none⟩) n n) ∧ (∃ x, w1.cell? ⟨S + 1 + 1, j, none⟩ = some x) ∧ w1.frozen? ⟨S + 1 + 1, j, none⟩ = false := by
  obtain ⟨v, rfl, hv, hb⟩ := hp
  have h' := nb_drew h
  obtain ⟨ao, c, rfl, _⟩ := id hv
  refine ⟨ao, _, c, rfl, nb_wait h' hb hv, ?_⟩
  obtain ⟨h1, h2, h3, fe, fw, h4, h5, h6, h7, h8⟩ := h'
  exact ⟨(hb.cell (by simp at h2 ⊢; omega)).trans h3.c1, ⟨_, (hb.cell (by simp at h2 ⊢; omega)).trans (h5.cell hk)⟩, (hb.frozen (by simp at h2 ⊢; omega)).trans (h5.frozen j)⟩

set_option maxRecDepth 100000 in
set_option maxHeartbeats 2000000 in
theorem newBoth_any (G H : List (List Nat)) (w : World) (lo hi n b off cap lo2 hi2 b2 cap2 : Nat) (lim : Int) (hn : G.length = n) (hpos : 0 < n) (hnn : n ≤ 65536)
    (hhi : hi ≤ w.heap.size) (hbh : b < hi) (hlen : ∀ i, (G.getD i []).length ≤ 1048576)
    (hrow : ∀ i, i < n → ∃ u, w.cell? ⟨b, off + i, none⟩ = some u ∧ NIds w lo hi n u (G.getD i []))
    (hhi2 : hi2 ≤ w.heap.size) (hbh2 : b2 < hi2) (hlen2 : ∀ i, (H.getD i []).length ≤ 1048576)
    (hrow2 : ∀ i, i < n → ∃ u, w.cell? ⟨b2, 0 + i, none⟩ = some u ∧ NIds w lo2 hi2 n u (H.getD i [])) :
    Calls Try.prog 32 #[.slice (some ⟨b, off, none⟩) n cap, .slice (some ⟨b2, 0, none⟩) n cap2, .int .i64 lim] w (NewPost w n lim G H) := by
  have HROW2 := hid hrow2
  clear hrow2
  have hmk := run_make_row' (P := Try.prog) 55 56 (.slice none 0 0) 24 Try.underlying55 info56 rfl .i64 .i64 n (by omega) (by omega)
  go_enter Try.func32, Try.ntmps32
  go_wp2_with fail
  go_loopg [9] n (fun g i wr => ∃ k : Nat, g = n - k ∧ k ≤ n ∧ i = .int .i64 k ∧ NB w w.heap.size n lim G H k k wr)
  case atStart => exact ⟨0, rfl, Nat.zero_le _, rfl, nb_start w n lim G H⟩
  case round =>
    obtain ⟨k, rfl, hk, rfl, hinv⟩ := hrel
    by_cases hlt : k < n
    · obtain ⟨h1, h2, h3, fe, fw, h4, h5, h6, h7, h8⟩ := hinv
      have hinv : NB w w.heap.size n lim G H k k wr := ⟨h1, h2, h3, fe, fw, h4, h5, h6, h7, h8⟩
      obtain ⟨u, hu, hid⟩ := hrow k hlt
      have hu' : wr.cell? ⟨b, off + k, none⟩ = some u := (h1.cell (by simp; omega)).trans hu
      have hid' : NIds wr lo hi n u (G.getD k []) := hid.keep (Kept.of_below (h1.mono hhi))
      have c0 := h3.c0
      have ce := h4.cell hlt
      have fe' := h4.frozen k
      have hbs : b < wr.heap.size := by omega
      have HH : Hid (NB w w.heap.size n lim G H k k wr) := hinv
      have HV := fun (wx : World) (hx : wx.heap = wr.heap) => vert_any (w := wx) (u := u) (l := G.getD k []) (lo := lo) (hi := hi) (n := n) (hid'.keep (fun i _ _ => by rw [hx])) (hlen k) (by rw [hx]; omega) hnn
      clear h1 h3 h4 h5 h6 h7 h8 hinv hu hid hrow hid'
      have hS3 : w.heap.size + 2 < wr.heap.size := h2
      go_upto_region 8 with fail
      go_cut [] (fun wc => NB w w.heap.size n lim G H (k + 1) k wc)
      case first =>
        go_region_with (go_at_call 41; go_must (refine (HV wr.drew rfl).mono ?_; intro e w1 hp; obtain ⟨ao, m, c, rfl, R, c0', ⟨x, ce'⟩, fe''⟩ := nb_call HH.out hlt hp; clear hp))
        all_goals (go_wp2_with fail; go_meet; case rel => assumption)
      case rest =>
        have hinv2 := hcut
        clear hcut c0 ce fe' HV HH hu'
        obtain ⟨h1, h2, h3, fe, fw, h4, h5, h6, h7, h8⟩ := id hinv2
        obtain ⟨u2, hu2, hid2⟩ := HROW2.out k hlt
        rw [Nat.zero_add] at hu2
        have hu2' : wc.cell? ⟨b2, k, none⟩ = some u2 := (h1.cell (by simp; omega)).trans hu2
        have hid2' : NIds wc lo2 hi2 n u2 (H.getD k []) := hid2.keep (Kept.of_below (h1.mono hhi2))
        have c1 := h3.c1
        have cw := h5.cell hlt
        have fw' := h5.frozen k
        have hbs2 : b2 < wc.heap.size := by omega
        have HH2 : Hid (NB w w.heap.size n lim G H (k + 1) k wc) := hinv2
        have HV2 := fun (wx : World) (hx : wx.heap = wc.heap) => vert_any (w := wx) (u := u2) (l := H.getD k []) (lo := lo2) (hi := hi2) (n := n) (hid2'.keep (fun i _ _ => by rw [hx])) (hlen2 k) (by rw [hx]; omega) hnn
        clear h1 h3 h4 h5 h6 h7 h8 hinv2 hu2 hid2 hid2'
        have hS4 : w.heap.size + 2 < wc.heap.size := h2
        go_upto_region 10 with fail
        go_region_with (go_at_call 41; go_must (refine (HV2 wc.drew rfl).mono ?_; intro e w1 hp; obtain ⟨ao, m, c, rfl, R, c1', ⟨x, cw'⟩, fw''⟩ := nb_call2 HH2.out hlt hp; clear hp; have RR := hid R; clear R))
        all_goals
          go_wp2_with fail
          go_roundg (n - (k + 1))
          case measure => omega
          case rel => exact ⟨k + 1, rfl, by omega, by go_num, RR.out⟩
    · have e : k = n := by omega
      subst e
      clear hrow
      have hmk21 := run_make_row' (P := Try.prog) 33 21 (.int .i32 0) 4 Try.underlying33 info21 rfl .i64 .i64 k (by omega) (by omega)
      have hmk3 := run_make_row' (P := Try.prog) 51 3 (.int .i64 0) 8 Try.underlying51 info3 rfl .i64 .i64 k (by omega) (by omega)
      have st0 := stg_start hinv
      go_upto_region 11 with fail
      go_cut [] (fun wc => Stg w wr w.heap.size k lim 1 (.slice (some ⟨wr.heap.size + 0, 0, none⟩) k k) (.slice none 0 0) (.slice none 0 0) (.slice none 0 0) (.slice none 0 0) wc)
      case first =>
        have hc := st0.sb.c5
        have hf := st0.sb.fr 5
        have hl := st0.sb.lt
        have R := st0.step5
        go_wp2_with fail
        go_meet
        case rel => exact R
      case rest =>
      have st1 := hcut
      clear hcut st0
      go_upto_region 12 with fail
      go_cut [] (fun wc => Stg w wr w.heap.size k lim 2 (.slice (some ⟨wr.heap.size + 0, 0, none⟩) k k) (.slice (some ⟨wr.heap.size + 1, 0, none⟩) k k) (.slice none 0 0) (.slice none 0 0) (.slice none 0 0) wc)
      case first =>
        have hc := st1.sb.c8
        have hf := st1.sb.fr 8
        have hl := st1.sb.lt
        have R := st1.step8
        go_wp2_with fail
        go_meet
        case rel => exact R
      case rest =>
      have st2 := hcut
      clear hcut st1
      go_upto_region 13 with fail
      go_cut [] (fun wc => Stg w wr w.heap.size k lim 3 (.slice (some ⟨wr.heap.size + 0, 0, none⟩) k k) (.slice (some ⟨wr.heap.size + 1, 0, none⟩) k k) (.slice (some ⟨wr.heap.size + 2, 0, none⟩) k k) (.slice none 0 0) (.slice none 0 0) wc)
      case first =>
        have hc := st2.sb.c9
        have hf := st2.sb.fr 9
        have hl := st2.sb.lt
        have R := st2.step9
        go_wp2_with fail
        go_meet
        case rel => exact R
      case rest =>
      have st3 := hcut
      clear hcut st2
      go_upto_region 14 with fail
      go_cut [] (fun wc => Stg w wr w.heap.size k lim 4 (.slice (some ⟨wr.heap.size + 0, 0, none⟩) k k) (.slice (some ⟨wr.heap.size + 1, 0, none⟩) k k) (.slice (some ⟨wr.heap.size + 2, 0, none⟩) k k) (.slice (some ⟨wr.heap.size + 3, 0, none⟩) k k) (.slice none 0 0) wc)
      case first =>
        have hc := st3.sb.c11
        have hf := st3.sb.fr 11
        have hl := st3.sb.lt
        have R := st3.step11
        go_wp2_with fail
        go_meet
        case rel => exact R
      case rest =>
      have st4 := hcut
      clear hcut st3
      go_upto_region 15 with fail
      go_cut [] (fun wc => Stg w wr w.heap.size k lim 5 (.slice (some ⟨wr.heap.size + 0, 0, none⟩) k k) (.slice (some ⟨wr.heap.size + 1, 0, none⟩) k k) (.slice (some ⟨wr.heap.size + 2, 0, none⟩) k k) (.slice (some ⟨wr.heap.size + 3, 0, none⟩) k k) (.slice (some ⟨wr.heap.size + 4, 0, none⟩) k k) wc)
      case first =>
        have hc := st4.sb.c12
        have hf := st4.sb.fr 12
        have hl := st4.sb.lt
        have R := st4.step12
        go_wp2_with fail
        go_meet
        case rel => exact R
      case rest =>
      have st5 := hcut
      clear hcut st4
      have R := new_done hinv st5 (by unfold maxLen; omega)
      clear st5 hinv
      go_wp2_with fail
      go_ret
      exact R

end Go.Proofs.Qxb6003663a
