import Derived.Test.Qxb6002616aMap
namespace Go.Proofs.Qxb6002616a
open Go.RowKit
set_option linter.unusedVariables false
set_option linter.unusedSimpArgs false

theorem ms_acc_old {es M : List Ent} {k m r : Nat} (h : MS es k m M) (hk : k < es.length) (hr : r < m) (hi : ix (acc es k) (key es k).toList = r) : acc es (k + 1) = (acc es k).set r (key (acc es k) r, val es k) := by
  have hl : (acc es k).length = m := h.ml.symm
  rw [acc_succ hk]
  unfold put
  have e1 : ix (acc es k) (es.getD k e0).1.toList = r := hi
  rw [e1, if_pos (by omega)]
  rfl
theorem ms_acc_new {es M : List Ent} {k m : Nat} (h : MS es k m M) (hk : k < es.length) (hi : ix (acc es k) (key es k).toList = m) : acc es (k + 1) = acc es k ++ [(key es k, val es k)] := by
  have hl : (acc es k).length = m := h.ml.symm
  rw [acc_succ hk]
  unfold put
  have e1 : ix (acc es k) (es.getD k e0).1.toList = m := hi
  rw [e1, if_neg (by omega)]
  rfl

def BelowRow (w : World) (g : Nat) (es : List Ent) (b : Nat) (wr : World) : Prop := Below g w wr ∧ Row wr g 27 es ∧ MB wr b 0 (acc es 0)
theorem start_map (w : World) (g : Nat) (es : List Ent) (h : Row w g 27 es) : BelowRow w g es w.heap.size (w.alloc (.map #[] 0)) :=
  ⟨(Below.refl _ _).alloc (Nat.le_of_lt h.lt) _, h.alloc _, by rw [acc_zero]; exact mb_made w⟩

set_option maxRecDepth 100000 in
set_option maxHeartbeats 2000000 in
theorem map_any (es : List Ent) (w : World) (g n : Nat) (hn : n = es.length) (hr : Row w g 27 es) (hks : ∀ j, (key es j).size ≤ maxLen) (h16 : 16 < n) (hnx : n ≤ 1024) :
    Calls Try.prog 6 #[.slice (some ⟨g, 0, none⟩) n n] w (MergedPost w g es) := by
  have hmm := fun w => mk_any (n : Int) w
  have HN := hid hn
  have HR := hid hr
  have HK := hid hks
  have hg := hr.lt
  clear hn hr hks
  have hd : decide ((n : Int) ≤ 16) = false := by rw [decide_eq_false_iff_not]; omega
  obtain ⟨b, hb⟩ : ∃ b, b = w.heap.size := ⟨_, rfl⟩
  have HBB := hid hb
  have hgb : g < b := by omega
  have START := hid (show BelowRow w g es b (w.alloc (.map #[] 0)) from by rw [hb]; exact start_map w g es HR.out)
  clear hb
  go_enter Try.func6, Try.ntmps6
  go_wp2_with fail
  rw [← HBB.out]
  go_loopg [3, 45] n (fun gk v iv wr => Below g w wr ∧ ∃ k m M, gk = n - k ∧ k ≤ n ∧ m ≤ k ∧ iv = .int .i64 (k : Int) ∧ v = .slice (some ⟨g, 0, none⟩) m n ∧ Row wr g 27 M ∧ MS es k m M ∧ MB wr b k (acc es k))
  case atStart => exact ⟨START.out.1, 0, 0, es, rfl, Nat.zero_le _, Nat.le_refl _, rfl, rfl, START.out.2.1, ms_start es, START.out.2.2⟩
  case round =>
    obtain ⟨hb, k, m, M, rfl, hk, hmk, rfl, rfl, hrow, hms, hmb⟩ := hrel
    have HB := hid hb
    have HRW := hid hrow
    have HM := hid hms
    have HMB := hid hmb
    have hgs := hrow.lt
    have hbs := hmb.lt
    by_cases hlt : k < n
    · have hML : M.length = n := hms.len.trans HN.out.symm
      have hkn : k < es.length := by rw [← HN.out]; exact hlt
      have hsz := HK.out k
      have c0 := hrow.c0 (k := k) (by omega)
      have c1 := hrow.c1 (k := k) (by omega)
      rw [(hms.dr k (Nat.le_refl _)).1] at c0
      rw [(hms.dr k (Nat.le_refl _)).2] at c1
      have hml := hms.ml
      have HOLD := hid (fun r (hr : r < m) (hi : ix (acc es k) (key es k).toList = r) => And.intro (ms_old hms hkn hr hi) (ms_acc_old hms hkn hr hi))
      have HNEW := hid (fun (hi : ix (acc es k) (key es k).toList = m) => And.intro (ms_new hms hkn hi) (ms_acc_new hms hkn hi))
      have hxle := ix_le (acc es k) (key es k).toList
      obtain ⟨r, hrr⟩ : ∃ r, r = ix (acc es k) (key es k).toList := ⟨_, rfl⟩
      obtain ⟨s, hs⟩ : ∃ s, s = key es k := ⟨_, rfl⟩
      obtain ⟨x, hx⟩ : ∃ x, x = val es k := ⟨_, rfl⟩
      obtain ⟨L, hL⟩ : ∃ L, L = acc es k := ⟨_, rfl⟩
      rw [← hrr] at hxle
      rw [← hL] at hml hrr HOLD HNEW HMB hxle
      rw [← hs] at c0 hsz hrr HOLD HNEW
      rw [← hx] at c1 HOLD HNEW
      have HML := hid hML
      have HLL := hid hml
      have HRR := hid hrr
      have HSZ := hid hsz
      have hrm1 : r ≤ m := by omega
      clear hs hx hb hrow hms hML hL hmb hml hrr hkn hsz hxle
      have hsz2 : (wr.alloc (.cells #[.string s, .int .i64 x] 27)).heap.size = wr.heap.size + 1 := by simp
      by_cases hrm : r < m
      · have f1 := (HRW.out.alloc (.cells #[.string s, .int .i64 x] 27)).fr (r * 2 + 1)
        have f2 := (HRW.out.alloc (.cells #[.string s, .int .i64 x] 27)).c1 (k := r) (by rw [HML.out]; omega)
        have R := hid ((HRW.out.set1 r x).alloc (.cells #[.string s, .int .i64 x] 27))
        have RM := hid (HOLD.out r hrm HRR.out.symm)
        clear HOLD HNEW
        go_wp2_with (at_lookup; refine look_hit _ rfl _ _ rfl b k L rfl (HMB.out.alloc _) s rfl HSZ.out r HRR.out.symm (by rw [← HLL.out]; exact hrm) ?_)
        go_roundg (n - (k + 1))
        case measure => omega
        case rel => exact ⟨(HB.out.setCell (Nat.le_refl _) _).alloc (by simp [World.setCell]; omega) _, k + 1, m, _, rfl, by omega, by omega, by go_num, rfl, R.out, RM.out.1, by rw [RM.out.2]; exact (((HMB.out.setCell (by simp; omega) _).alloc _).mono (by omega)).old r x⟩
      · have hrm2 : r = m := by omega
        have RM := hid (HNEW.out (HRR.out.symm.trans hrm2))
        have HRL := hid (show ix L s.toList = L.length from by rw [← HRR.out, hrm2, HLL.out])
        clear HOLD HNEW hrm2
        have hm9 : m ≤ 1048576 := by omega
        have HD := hid (fun (w1 : World) (hg : (wr.alloc (.cells #[.string s, .int .i64 x] 27)).grownBy w1 (some b)) => And.intro (show w1.cell? ⟨wr.heap.size, 0, none⟩ = some (.string s) from by
          rw [World.cell?_of_block (hg.block wr.heap.size (by omega) (by intro e; have := Option.some.inj e; omega)), World.cell?_alloc_new]; rfl) (show w1.cell? ⟨wr.heap.size, 1, none⟩ = some (.int .i64 x) from by
          rw [World.cell?_of_block (hg.block wr.heap.size (by omega) (by intro e; have := Option.some.inj e; omega)), World.cell?_alloc_new]; rfl))
        go_wp2_with first
          | (at_lookup; refine look_miss _ rfl _ _ rfl b k L rfl (HMB.out.alloc _) s rfl HSZ.out HRL.out ?_)
          | (at_mapUpdate; refine store_new _ rfl _ _ _ rfl b k L rfl (HMB.out.alloc _) (by omega) s x rfl HSZ.out HRL.out m HLL.out.symm hm9 rfl ?_; intro w1 hmb1 hgrow1; have d0 := (HD.out w1 hgrow1).1; have d1 := (HD.out w1 hgrow1).2)
          | (at_builtin; refine wpList_append_row _ rfl _ _ rfl g m n M rfl ((Row.of (HRW.out.alloc _) (hgrow1.block g (by omega) (by intro e; have := Option.some.inj e; omega))).alloc _) (by rw [HML.out]; omega) (by omega) ⟨w1.heap.size, 0, none⟩ 1 s x rfl (cell_two_new _ _ _ _) ?_; intro w2 hrow2 hgrow2)
        go_roundg (n - (k + 1))
        case measure => omega
        case rel =>
          have s1 := hgrow1.size
          have HB1 := (HB.out.alloc (by omega) (.cells #[.string s, .int .i64 x] 27)).grown hgrow1 (by omega) (fun j hj => by cases hj; omega)
          exact ⟨(HB1.alloc (by omega) _).grown hgrow2 (by simp; omega) (fun j hj => by cases hj; exact Nat.le_refl _), k + 1, m + 1, _, rfl, by omega, by omega, by go_num, rfl, hrow2, RM.out.1, by rw [RM.out.2]; exact (hmb1.alloc _).kept hgrow2 (by intro e; have := Option.some.inj e; omega)⟩
    · have e : k = n := by omega
      subst e
      go_wp2_with fail
      go_ret
      exact ⟨m, M, by rw [← HN.out]; rfl, HRW.out, by rw [← HN.out]; exact HM.out, HB.out⟩

end Go.Proofs.Qxb6002616a
