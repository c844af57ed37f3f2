import Derived.Test.Qxb6002616aMerge
namespace Go.Proofs.Qxb6002616a
open Go.RowKit
set_option linter.unusedVariables false
set_option linter.unusedSimpArgs false

def MergedPost (w : World) (g : Nat) (es : List Ent) (e : Ending) (w' : World) : Prop :=
  ∃ m M, e = .returned (.slice (some ⟨g, 0, none⟩) m es.length) ∧ Row w' g 27 M ∧ MS es es.length m M ∧ Below g w w'

set_option maxRecDepth 100000 in
set_option maxHeartbeats 2000000 in
theorem lin_any (es : List Ent) (w : World) (g n : Nat) (hn : n = es.length) (hr : Row w g 27 es) (h16 : n ≤ 16) :
    Calls Try.prog 6 #[.slice (some ⟨g, 0, none⟩) n n] w (MergedPost w g es) := by
  have hmf : ∀ (fn : Fn) (first cap : Array Value) (w : World), (Instr.makeFunc fn first cap).run Try.prog w = .ok (.func fn first cap) w := fun _ _ _ _ => rfl
  have HN := hid hn
  have HR := hid hr
  have hg := hr.lt
  clear hn hr
  have hd : decide ((n : Int) ≤ 16) = true := by rw [decide_eq_true_eq]; omega
  go_enter Try.func6, Try.ntmps6
  go_wp2_with fail
  go_loopg [3, 19] n (fun gk v iv wr => Below g w wr ∧ ∃ k m M, gk = n - k ∧ k ≤ n ∧ m ≤ k ∧ iv = .int .i64 (k : Int) ∧ v = .slice (some ⟨g, 0, none⟩) m n ∧ Row wr g 27 M ∧ MS es k m M)
  case atStart => exact ⟨Below.refl _ _, 0, 0, es, rfl, Nat.zero_le _, Nat.le_refl _, rfl, rfl, HR.out, ms_start es⟩
  case round =>
    obtain ⟨hb, k, m, M, rfl, hk, hmk, rfl, rfl, hrow, hms⟩ := hrel
    have HB := hid hb
    have HRW := hid hrow
    have HM := hid hms
    have hgs := hrow.lt
    by_cases hlt : k < n
    · have hML : M.length = n := hms.len.trans HN.out.symm
      have c0 := hrow.c0 (k := k) (by omega)
      have c1 := hrow.c1 (k := k) (by omega)
      rw [(hms.dr k (Nat.le_refl _)).1] at c0
      rw [(hms.dr k (Nat.le_refl _)).2] at c1
      obtain ⟨s, hs⟩ : ∃ s, s = key es k := ⟨_, rfl⟩
      obtain ⟨x, hx⟩ : ∃ x, x = val es k := ⟨_, rfl⟩
      rw [← hs] at c0
      rw [← hx] at c1
      have HS := hid hs
      have HX := hid hx
      have HML := hid hML
      clear hs hx hb hrow hms hML
      go_wp2_with fail
      have al0 : (wr.alloc (.cells #[.string s, .int .i64 x] 27)).cell? ⟨wr.heap.size, 0, none⟩ = some (.string s) := by rw [World.cell?_alloc_new]; rfl
      have al1 : (wr.alloc (.cells #[.string s, .int .i64 x] 27)).cell? ⟨wr.heap.size, 1, none⟩ = some (.int .i64 x) := by rw [World.cell?_alloc_new]; rfl
      have hsz : (wr.alloc (.cells #[.string s, .int .i64 x] 27)).heap.size = wr.heap.size + 1 := by simp
      refine (find_any M g wr.heap.size m n s (wr.alloc (.cells #[.string s, .int .i64 x] 27)) (HRW.out.alloc _) (by rw [HML.out]; omega) (by omega) (by omega) (by omega) al0).mono ?_
      intro e w1 hp
      obtain ⟨r, hr1, hr2, hr3, rfl, hb1⟩ := hp
      have HB0 := hid ((HB.out.alloc (Nat.le_of_lt hgs) (.cells #[.string s, .int .i64 x] 27)).trans (hb1.mono (by omega)))
      have HR1 := hid ((HRW.out.alloc (.cells #[.string s, .int .i64 x] 27)).below hb1 (by omega))
      have d0 : w1.cell? ⟨wr.heap.size, 0, none⟩ = some (.string s) := by rw [hb1.cell (by simp)]; exact al0
      have d1 : w1.cell? ⟨wr.heap.size, 1, none⟩ = some (.int .i64 x) := by rw [hb1.cell (by simp)]; exact al1
      have hgs1 := HR1.out.lt
      have hkn : k < es.length := by rw [← HN.out]; exact hlt
      have HIX := hid (ms_ix HM.out hkn hr1 (by rw [← HS.out]; exact hr2) (by rw [← HS.out]; exact hr3))
      clear hr2 hr3 al0 al1 hb1 hsz c0 c1 hkn
      by_cases hrm : r < m
      · rw [if_pos hrm]
        have f1 := HR1.out.fr (r * 2 + 1)
        have f2 := HR1.out.c1 (k := r) (by rw [HML.out]; omega)
        have R := hid (HR1.out.set1 r x)
        have RM := hid (ms_old HM.out (by rw [← HN.out]; exact hlt) hrm HIX.out)
        rw [← HX.out] at RM
        go_wp2_with fail
        go_roundg (n - (k + 1))
        case measure => omega
        case rel => exact ⟨HB0.out.setCell (Nat.le_refl _) _, k + 1, m, _, rfl, by omega, by omega, by go_num, rfl, R.out, RM.out⟩
      · rw [if_neg hrm]
        have hrm' : r = m := by omega
        have HIX2 := hid (HIX.out.trans hrm')
        have RM := hid (ms_new HM.out (by rw [← HN.out]; exact hlt) HIX2.out)
        rw [← HX.out, ← HS.out] at RM
        clear hrm'
        go_wp2_with (at_builtin; refine wpList_append_row _ rfl _ _ rfl g m n M rfl (HR1.out.alloc _) (by rw [HML.out]; omega) (by omega) ⟨w1.heap.size, 0, none⟩ 1 s x rfl (cell_two_new _ _ _ _) ?_; intro w2 hrow2 hgrow2)
        go_roundg (n - (k + 1))
        case measure => omega
        case rel => exact ⟨(HB0.out.alloc (by omega) _).grown hgrow2 (by simp; omega) (fun j hj => by cases hj; exact Nat.le_refl _), k + 1, m + 1, _, rfl, by omega, by omega, by go_num, rfl, hrow2, RM.out⟩
    · have e : k = n := by omega
      subst e
      go_wp2_with fail
      go_ret
      exact ⟨m, M, by rw [← HN.out]; rfl, HRW.out, by rw [← HN.out]; exact HM.out, HB.out⟩

end Go.Proofs.Qxb6002616a
