import Derived.Test.Qxb6003663aRecWalk
import Derived.Test.Qxb6003663aCloseWalk
namespace Go.Proofs.Qxb6003663a
open Go.RowKit
set_option linter.unusedVariables false
set_option linter.unusedSimpArgs false

theorem good_iter {G : List (List Nat)} {bk : Bool} {n : Nat} (hch : ∀ v t, t < (row G v).length → child G bk v t < n) (m : Nat) : ∀ s, Good G bk n s → Good G bk n (iter G bk m s) := by
  induction m with
  | zero => intro s h; exact h
  | succ m ih => intro s h; exact ih _ (good_step h hch)
theorem good_runs {G : List (List Nat)} {bk : Bool} {n : Nat} (hch : ∀ v t, t < (row G v).length → child G bk v t < n) {s t : MS} (h : Runs G bk s t) (hs : Good G bk n s) : Good G bk n t := by
  obtain ⟨m, rfl⟩ := h; exact good_iter hch m s hs

theorem step_keeps (G : List (List Nat)) (bk : Bool) (s : MS) (u : Nat) (h : s.left u ≠ 0) : (step G bk s).left u ≠ 0 := by
  obtain ⟨st, l, o⟩ := s
  cases st with
  | nil => exact h
  | cons p K =>
    obtain ⟨v, t⟩ := p
    by_cases ht : t < (row G v).length
    · by_cases h0 : l (child G bk v t) = 0
      · rw [step_push ht h0]
        show upd l _ _ u ≠ 0
        unfold upd; split
        · omega
        · exact h
      · rw [step_pass ht h0]; exact h
    · rw [step_pop ht]
      show upd l _ _ u ≠ 0
      unfold upd; split
      · omega
      · exact h
theorem runs_keeps {G : List (List Nat)} {bk : Bool} {s t : MS} (h : Runs G bk s t) (u : Nat) (h0 : s.left u ≠ 0) : t.left u ≠ 0 := by
  obtain ⟨m, rfl⟩ := h
  induction m generalizing s with
  | zero => exact h0
  | succ m ih => exact ih (step_keeps G bk s u h0)

/-- THE END OF THE SEARCH FROM r: the marks and the order that it leaves -/
def Ends (G : List (List Nat)) (bk : Bool) (r : Nat) (lf : Nat → Int) (od : List Nat) : Prop := Runs G bk ⟨[(r, 0)], upd (fun _ => 0) r (-1), []⟩ ⟨[], lf, od⟩

theorem Ends.unique {G : List (List Nat)} {bk : Bool} {r : Nat} {lf lf' : Nat → Int} {od od' : List Nat} (h : Ends G bk r lf od) (h' : Ends G bk r lf' od') : lf = lf' ∧ od = od' := by
  have := Runs.unique h h' rfl rfl
  simp only [MS.mk.injEq, true_and] at this
  exact this

theorem Ends.good {G : List (List Nat)} {bk : Bool} {r n : Nat} {lf : Nat → Int} {od : List Nat} (h : Ends G bk r lf od) (hr : r < n) (hch : ∀ v t, t < (row G v).length → child G bk v t < n) : Good G bk n ⟨[], lf, od⟩ :=
  good_runs hch h (good_start G bk n r hr)

theorem Ends.left {G : List (List Nat)} {bk : Bool} {r n : Nat} {lf : Nat → Int} {od : List Nat} (h : Ends G bk r lf od) (hr : r < n) (hch : ∀ v t, t < (row G v).length → child G bk v t < n) : Left G n lf od := left_of_good (h.good hr hch)

theorem Ends.root {G : List (List Nat)} {bk : Bool} {r n : Nat} {lf : Nat → Int} {od : List Nat} (h : Ends G bk r lf od) (hr : r < n) (hch : ∀ v t, t < (row G v).length → child G bk v t < n) : ∃ i, i < od.length ∧ od.getD i 0 = r := by
  have hg := h.good hr hch
  have h0 : lf r ≠ 0 := runs_keeps h r (by show upd (fun _ => 0) r (-1) r ≠ 0; rw [upd_same]; omega)
  rcases hg.pos r with h1 | h1 | h1
  · exact absurd h1 h0
  · obtain ⟨t, ht⟩ := hg.neg r h1; simp at ht
  · exact h1

/-- what both ways of counting come to -/
def answer (G : List (List Nat)) (lim : Int) (r n : Nat) (lf : Nat → Int) : Int := sat (lim + 1) ((SS G lf r n r + NN G lf r n r : Nat) : Int)

theorem info4 : (Try.prog.info? 4).map (fun i => (i.zero, i.size, i.bytes)) = some (some (.bool false), 1, 1) := by kernel_rfl

def ModelPost (w : World) (G : List (List Nat)) (lim : Int) (r n : Nat) (bk : Bool) (e : Ending) (w' : World) : Prop :=
  ∃ lf od, Ends G bk r lf od ∧ e = .returned (.int .i64 (answer G lim r n lf)) ∧ Below w.heap.size w w'

theorem dw_start {w : World} {lo hi n b off cap : Nat} {G : List (List Nat)} (h : NGrid w lo hi n (.slice (some ⟨b, off, none⟩) n cap) G) (hg : G.length = n) (hb : b < hi) (hhi : hi ≤ w.heap.size) :
    DW (w.alloc (.cells (madeCells #[.int .i32 0] n) 21)) lo hi w.heap.size n b off cap G (fun _ => 0) [] (.slice none 0 0) :=
  ⟨h.keep ((Kept.refl _ _ _).alloc hhi _), hg, World.rowIs_made w _ _ _, World.ownsRow_nil _ _ _ _, hb, hhi⟩

theorem cw_start {w : World} {lo hi L n b off cap : Nat} {G : List (List Nat)} {lf : Nat → Int} {order : List Nat} {ov : Value} (h : DW w lo hi L n b off cap G lf order ov) :
    CW (((w.alloc (.cells (madeCells #[.int .i64 0] n) 3)).alloc (.cells (madeCells #[.int .i64 0] n) 3)).alloc (.cells (madeCells #[.bool false] n) 4)) lo hi L w.heap.size n b off cap G lf (fun _ => 0) (fun _ => 0) (fun _ => false) := by
  have hL := h.rl.lt
  have hl := h.lt
  refine ⟨h.grid.keep ((((Kept.refl _ _ _).alloc (by omega) _).alloc (by simp; omega) _).alloc (by simp; omega) _), h.glen, ((h.rl.alloc _).alloc _).alloc _, ((World.rowIs_made w _ _ _).alloc _).alloc _, ?_, ?_, h.hib, hl, hL⟩
  · have := World.rowIs_made (w.alloc (.cells (madeCells #[.int .i64 0] n) 3)) (.int .i64 0) n 3
    rw [World.size_alloc] at this
    exact this.alloc _
  · have := World.rowIs_made ((w.alloc (.cells (madeCells #[.int .i64 0] n) 3)).alloc (.cells (madeCells #[.int .i64 0] n) 3)) (.bool false) n 4
    rw [World.size_alloc, World.size_alloc] at this
    exact this

set_option maxRecDepth 100000 in
set_option maxHeartbeats 4000000 in
theorem model_any (w : World) (lo hi n b off cap : Nat) (G : List (List Nat)) (bk : Bool) (lim : Int) (r : Nat) (hn : n ≤ 65536) (hcap : cap ≤ maxLen) (h : NGrid w lo hi n (.slice (some ⟨b, off, none⟩) n cap) G) (hg : G.length = n) (hb : b < hi) (hhi : hi ≤ w.heap.size) (hr : r < n) (h0 : 0 ≤ lim) (h1 : lim + 1 ≤ 9223372036854775807) :
    Calls Try.prog 29 #[.slice (some ⟨b, off, none⟩) n cap, .int .i32 (r : Int), .bool bk, .int .i64 lim] w (ModelPost w G lim r n bk) := by
  have hmk21 := run_make_row' (P := Try.prog) 33 21 (.int .i32 0) 4 Try.underlying33 info21 rfl .i64 .i64 n (by omega) (by omega)
  have hmk3 := run_make_row' (P := Try.prog) 51 3 (.int .i64 0) 8 Try.underlying51 info3 rfl .i64 .i64 n (by omega) (by omega)
  have hmk4 := run_make_row' (P := Try.prog) 40 4 (.bool false) 1 Try.underlying40 info4 rfl .i64 .i64 n (by omega) (by omega)
  have hdw := dw_start h hg hb hhi
  have hch := h.child_lt bk
  have hdfs := dfs_any lo hi w.heap.size n b off cap G bk hn hcap n _ (fun _ => 0) [] (.slice none 0 0) r hdw hr rfl (by rw [zsum_one]; exact Nat.le_refl _) (by rw [zsum_one]; simp)
  go_enter Try.func29, Try.ntmps29
  go_wp2_with fail
  refine hdfs.mono ?_
  intro e w1 hp
  obtain ⟨ov', lf, od, rfl, g1, g2, g3, g4, g5⟩ := hp
  have hends : Ends G bk r lf od := g3 []
  have hl := hends.left hr hch
  obtain ⟨i, hi', hir⟩ := hends.root hr hch
  have hcw := cw_start g1
  have hcl := close_any lo hi w.heap.size w1.heap.size n b off cap G lf (lim + 1) (NN G lf r n) (SS G lf r n) od r hn hcap (by omega) h1 hr hl (fun i hi' => cnt_eq hl i hi') (i + 1) _ _ _ _ i (by omega) hi' hcw (fun j _ hd => by simp at hd)
  rw [hir] at hcl
  have HE := hid hends
  have HIR := hid hir
  have HG2 := hid g2
  clear hdfs hdw h g1 g2 g3 g4 g5 hends hl hcw hir hch
  go_wp2_with fail
  refine hcl.mono ?_
  intro e w2 hp
  obtain ⟨nw', es', dn', rfl, k1, k2, k3, k4, k5⟩ := hp
  obtain ⟨e1, e2⟩ := k3 i (by omega) k4
  rw [HIR.out] at e1 e2
  have n1 := k1.rn.cell hr
  have n2 := k1.re.cell hr
  obtain ⟨a, haa⟩ : ∃ a, a = nw' r := ⟨_, rfl⟩
  obtain ⟨q, hqq⟩ : ∃ q, q = es' r := ⟨_, rfl⟩
  rw [← haa] at n1 e1
  rw [← hqq] at n2 e2
  have ha : InC (lim + 1) a := by rw [e1]; exact inC_nat (by omega) _
  have hq : InC (lim + 1) q := by rw [e2]; exact inC_nat (by omega) _
  have HA := hid e1
  have HQ := hid e2
  have HK2 := hid k2
  clear hcl haa hqq e1 e2 k1 k2 k3 k4 k5
  go_upto_region 9 with fail
  go_quiet ((go_at_call 34; exact Calls.quiet_of_same (satAdd_q hq ha h1)))
  go_wp2_with fail
  go_ret
  refine ⟨lf, od, HE.out, ret_int ?_, bel_drewN ?_ _⟩
  · rw [HA.out, HQ.out, sat_sat (by omega)]; rfl
  · have z1 := HG2.out
    have z2 := HK2.out
    have hs := z1.size
    rw [World.size_alloc] at hs
    refine Below.trans (Below.alloc (Below.alloc (Below.alloc (Below.trans ((Below.refl _ _).alloc (Nat.le_refl _) _) z1) (by omega) _) (by simp; omega) _) (by simp; omega) _) (z2.mono (by omega))

end Go.Proofs.Qxb6003663a
