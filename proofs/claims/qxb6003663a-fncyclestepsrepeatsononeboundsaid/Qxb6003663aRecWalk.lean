import Derived.Test.Qxb6003663aRec
namespace Go.Proofs.Qxb6003663a
open Go.RowKit
set_option linter.unusedVariables false
set_option linter.unusedSimpArgs false

theorem dfs_pass {w wr : World} {lo hi L n b off cap : Nat} {G : List (List Nat)} {bk : Bool} {left : Nat → Int} {order : List Nat} {v t : Nat} {left' : Nat → Int} {order' : List Nat} {ov' : Value}
    (h1 : DW wr lo hi L n b off cap G left' order' ov') (h2 : Below L w wr) (h3 : ∀ K, Runs G bk ⟨(v, 0) :: K, upd left v (-1), order⟩ ⟨(v, t) :: K, left', order'⟩) (h4 : ∀ u, left u ≠ 0 → left' u ≠ 0) (h5 : order'.length + 1 + zsum (fun _ => 1) left' n ≤ order.length + zsum (fun _ => 1) left n) (h6 : left' v ≠ 0)
    (ht : t < (row G v).length) (hz : left' (child G bk v t) ≠ 0) : DfsInv w lo hi L n b off cap G bk left order v (t + 1) ov' wr := by
  refine ⟨left', order', h1, h2, fun K => ?_, h4, h5, h6⟩
  have := (h3 K).next
  rw [step_pass ht hz] at this
  exact this

theorem dfs_deep {w wr w2 : World} {lo hi L n b off cap : Nat} {G : List (List Nat)} {bk : Bool} {left : Nat → Int} {order : List Nat} {v t : Nat} {left' : Nat → Int} {order' : List Nat} {ov' : Value} {e : Ending}
    (h1 : DW wr lo hi L n b off cap G left' order' ov') (h2 : Below L w wr) (h3 : ∀ K, Runs G bk ⟨(v, 0) :: K, upd left v (-1), order⟩ ⟨(v, t) :: K, left', order'⟩) (h4 : ∀ u, left u ≠ 0 → left' u ≠ 0) (h5 : order'.length + 1 + zsum (fun _ => 1) left' n ≤ order.length + zsum (fun _ => 1) left n) (h6 : left' v ≠ 0)
    (ht : t < (row G v).length) (hz : left' (child G bk v t) = 0) (hp : DfsPost wr lo hi L n b off cap G bk left' order' (child G bk v t) e w2) :
    ∃ ov2, e = .returned ov2 ∧ DfsInv w lo hi L n b off cap G bk left order v (t + 1) ov2 w2 := by
  obtain ⟨ov2, l2, o2, rfl, a1, a2, a3, a4, a5⟩ := hp
  refine ⟨ov2, rfl, l2, o2, a1, h2.trans a2, fun K => ?_, fun u hu => a4 u (h4 u hu), by omega, a4 v h6⟩
  have := (h3 K).next
  rw [step_push ht hz] at this
  exact this.trans (a3 ((v, t + 1) :: K))

set_option maxRecDepth 100000 in
set_option maxHeartbeats 4000000 in
theorem dfs_any (lo hi L n b off cap : Nat) (G : List (List Nat)) (bk : Bool) (hn : n ≤ 65536) (hcap : cap ≤ maxLen) (k : Nat) : ∀ (w : World) (left : Nat → Int) (order : List Nat) (ov : Value) (v : Nat), DW w lo hi L n b off cap G left order ov → v < n → left v = 0 →
    zsum (fun _ => 1) left n ≤ k → order.length + zsum (fun _ => 1) left n ≤ n →
    Calls Try.prog 22 #[.slice (some ⟨b, off, none⟩) n cap, .int .i32 (v : Int), .bool bk, .slice (some ⟨L, 0, none⟩) n n, ov] w (DfsPost w lo hi L n b off cap G bk left order v) := by
  unfold maxLen at hcap
  induction k with
  | zero =>
    intro w left order ov v h hv h0 hz _
    have := zsum_upd (fun _ => 1) left n v (-1) hv h0 (by omega)
    omega
  | succ k ih =>
    intro w left order ov v h hv h0 hz hcnt
    have hst := dfs_start (bk := bk) h hv h0
    have l1 := h.rl.cell hv
    have l2 := h.rl.frozen v
    have hbL : b < L := by have := h.lt; have := h.hib; omega
    have neL : L ≠ b := by omega
    obtain ⟨ao, capr, hrow, hr1, hr2, hr3⟩ := h.grid.edges (v := v) (by rw [h.glen]; exact hv)
    unfold maxLen at hr1
    obtain ⟨m, hmm⟩ : ∃ m, m = (row G v).length := ⟨_, rfl⟩
    rw [← hmm] at hrow hr2 hr3
    have HM := hid hmm
    have HI := hid ih
    have HST := hid hst
    have HH := hid h
    have HR3 := hid hr3
    clear ih hst h hmm hr3
    go_enter Try.func22, Try.ntmps22
    go_wp2_with fail
    go_loopg [4, 12] m (fun gk o i wr => ∃ t, gk = m - t ∧ t ≤ m ∧ i = .int .i64 (t : Int) ∧ DfsInv w lo hi L n b off cap G bk left order v t o wr)
    case atStart => exact ⟨0, rfl, Nat.zero_le _, rfl, HST.out⟩
    case round =>
      obtain ⟨t, rfl, htm, rfl, left', order', h1, h2, h3, h4, h5, h6⟩ := hrel
      by_cases hlt : t < m
      · have hch := h1.grid.child_lt bk v t (by rw [← HM.out]; exact hlt)
        obtain ⟨b3, off3, hao, hb31, hb32, hb33⟩ := HR3.out (by omega)
        subst hao
        have hx := place_lt (bk := bk) hlt
        obtain ⟨x, hxx⟩ : ∃ x, x = place bk m t := ⟨_, rfl⟩
        rw [← hxx] at hx
        obtain ⟨y, hyy⟩ : ∃ y, y = child G bk v t := ⟨_, rfl⟩
        have hcy : (row G v).getD x 0 = y := by rw [hyy]; unfold child; rw [← HM.out, ← hxx]
        have hltL : hi ≤ L := h1.lt
        have hc1 : wr.cell? ⟨b3, off3 + x, none⟩ = some (.int .i32 (y : Int)) := by
          rw [h2.cell (by simp; omega), (hb33 x hx).1, hcy]
        rw [← hyy] at hch
        have k1 := h1.rl.cell hch
        have HX := hid hxx
        have HY := hid hyy
        have A1 := hid h1
        have A2 := hid h2
        have A3 := hid h3
        have A4 := hid h4
        have A5 := hid h5
        have A6 := hid h6
        clear hb33 hcy hxx hyy HR3 h1 h2 h3 h4 h5 h6 l1 l2 hrow
        go_upto_if 29 with fail
        go_cut [13] (fun i wc => i = .int .i64 (x : Int) ∧ wr = wc)
        case first =>
          cases bk with
          | false =>
            have HX' := hid (show x = t from by rw [HX.out]; rfl)
            go_wp2_with fail
            go_meet
            case rel => exact ⟨by rw [HX'.out], rfl⟩
          | true =>
            have HX' := hid (show ((x : Nat) : Int) = (m : Int) - 1 - (t : Int) from by rw [HX.out]; unfold place; simp; omega)
            go_wp2_with fail
            go_meet
            case rel => exact ⟨by rw [HX'.out], rfl⟩
        case rest =>
        obtain ⟨hi13, hwc⟩ := hcut
        subst hi13
        subst hwc
        by_cases hzy : left' y = 0
        · have hz' : (left' y == 0) = true := by simpa using hzy
          have HZ := hid hzy
          clear hzy
          have hzs : zsum (fun _ => 1) left' n ≤ k := by
            have e1 := zsum_upd (fun _ => 1) left n v (-1) hv h0 (by omega)
            have e2 := zsum_le (fun _ => 1) (upd left v (-1)) left' n (fun u _ hu => by
              by_cases e : u = v
              · subst e; exact A6.out
              · rw [upd_other _ _ e] at hu; exact A4.out u hu)
            omega
          have hzc : order'.length + zsum (fun _ => 1) left' n ≤ n := by have := A5.out; omega
          go_wp2_with (go_at_call 22; go_must (refine (HI.out _ left' order' _ y A1.out hch HZ.out hzs hzc).mono ?_; intro e w1 hp; obtain ⟨ov2, rfl, R⟩ := dfs_deep A1.out A2.out A3.out A4.out A5.out A6.out (by rw [← HM.out]; exact hlt) (by rw [← HY.out]; exact HZ.out) (by rw [← HY.out]; exact hp); clear hp))
          go_roundg (m - (t + 1))
          case measure => omega
          case rel => exact ⟨t + 1, rfl, by omega, by go_num, R⟩
        · have hz' : (left' y == 0) = false := by simpa using hzy
          have R := dfs_pass A1.out A2.out A3.out A4.out A5.out A6.out (by rw [← HM.out]; exact hlt) (by rw [← HY.out]; exact hzy)
          clear hzy
          go_wp2_with fail
          go_roundg (m - (t + 1))
          case measure => omega
          case rel => exact ⟨t + 1, rfl, by omega, by go_num, R⟩
      · have k1 := h1.rl.cell hv
        have k2 := h1.rl.frozen v
        have A1 := hid h1
        have A2 := hid h2
        have A3 := hid h3
        have A4 := hid h4
        have A5 := hid h5
        have A6 := hid h6
        have hL := h1.rl.lt
        obtain ⟨i0, hi0, hz0, hz1, hz2⟩ := info_parts info21
        clear h1 h2 h3 h4 h5 h6 l1 l2 hrow HR3
        have hbd : order'.length + 1 ≤ n := by have := A5.out; omega
        go_wp2_with (at_builtin; go_must (refine wpList_append_own _ rfl (.tmp 50) (.tmp 52) 33 rfl (L + 1) 21 i0 (.int .i32 0) 1 4 Try.underlying33 hi0 hz0 hz1 hz2 rfl (by decide) _ _ _ rfl (A1.out.ro.alloc _) ⟨wr.heap.size, 0, none⟩ 1 1 [.int .i32 v] rfl rfl (new_one _ _ rfl _ _) (one_one _ _) (by unfold maxLen; omega) (by omega) (by simp; omega) ?_))
        intro v' w1 hown' hgrow _
        obtain ⟨g', cap', hv'⟩ := own_pos hown' (by omega)
        subst hv'
        have R := dfs_done A1.out A2.out A3.out A4.out A5.out A6.out (by rw [← HM.out]; exact hlt) hown' hgrow
        have hb1 := (A1.out.push A2.out (v := v) hown' hgrow).1
        have k1' := hb1.rl.cell hv
        have k2' := hb1.rl.frozen v
        clear hb1 hown' hgrow k1 k2
        go_wp2_with fail
        go_ret
        exact R

end Go.Proofs.Qxb6003663a
