import Derived.Test.Qxb6002616aRow
namespace Go.Proofs.Qxb6002616a
open Go.RowKit
set_option linter.unusedVariables false
set_option linter.unusedSimpArgs false

/-- the closure: is the entry's key that of the captured entry? -/
theorem same_any (s : ByteArray) (x : Int) (p : Nat) (k : ByteArray) (w : World) (hp : p < w.heap.size) (hc : w.cell? ⟨p, 0, none⟩ = some (.string k)) :
    Calls Try.prog 8 #[.agg #[.string s, .int .i64 x], .pointer (some ⟨p, 0, none⟩)] w (fun e w' => e = .returned (.bool (s.toList == k.toList)) ∧ Below w.heap.size w w') := by
  go_enter Try.func8, Try.ntmps8
  go_wp2
  go_ret
  exact ⟨rfl, (Below.refl _ _).alloc (Nat.le_refl _) _⟩

def FindPost (w : World) (M : List Ent) (m : Nat) (k : ByteArray) (e : Ending) (w' : World) : Prop :=
  ∃ r, r ≤ m ∧ (∀ j, j < r → (key M j).toList ≠ k.toList) ∧ (r < m → (key M r).toList = k.toList) ∧ e = .returned (.int .i64 (if r < m then (r : Int) else -1)) ∧ Below w.heap.size w w'

set_option maxHeartbeats 1000000 in
theorem find_any (M : List Ent) (g p m cap : Nat) (k : ByteArray) (w : World) (hr : Row w g 27 M) (hm : m ≤ M.length) (hcap : m ≤ cap) (hmx : cap ≤ 1048576) (hp : p < w.heap.size) (hc : w.cell? ⟨p, 0, none⟩ = some (.string k)) :
    Calls Try.prog 7 #[.slice (some ⟨g, 0, none⟩) m cap, .func (.func 8) #[] #[.pointer (some ⟨p, 0, none⟩)]] w (FindPost w M m k) := by
  have hg := hr.lt
  have HR := hid hr
  have HC := hid hc
  clear hr hc
  go_enter Try.func7, Try.ntmps7
  go_wp2_with fail
  go_loopg [8] m (fun gk iv wr => Below w.heap.size w wr ∧ ∃ i : Nat, gk = m - i ∧ i ≤ m ∧ iv = .int .i64 (i : Int) ∧ ∀ j, j < i → (key M j).toList ≠ k.toList)
  case atStart => exact ⟨Below.refl _ _, 0, rfl, Nat.zero_le _, rfl, fun j hj => absurd hj (by omega)⟩
  case round =>
    obtain ⟨hb, i, rfl, hi, rfl, hall⟩ := hrel
    have HB := hid hb
    have HA := hid hall
    clear hb hall
    by_cases hlt : i < m
    · have hrow := HR.out.below HB.out hg
      have c0 := hrow.c0 (k := i) (by omega)
      have c1 := hrow.c1 (k := i) (by omega)
      have hsame := same_any (key M i) (val M i) p k wr (Nat.lt_of_lt_of_le hp HB.out.size) (by rw [HB.out.cell hp]; exact HC.out)
      clear hrow
      obtain ⟨s, hs⟩ : ∃ s, s = key M i := ⟨_, rfl⟩
      obtain ⟨x, hx⟩ : ∃ x, x = val M i := ⟨_, rfl⟩
      rw [← hs] at c0 hsame
      rw [← hx] at c1 hsame
      have HS := hid hs
      clear hs hx
      by_cases heq : s.toList = k.toList
      · rw [beq_iff_eq.2 heq] at hsame
        have HE := hid heq
        clear heq
        go_wp2_with (go_at_call 8; refine hsame.mono ?_; rintro e w1 ⟨rfl, hb1⟩)
        go_ret
        exact ⟨i, by omega, HA.out, fun _ => by rw [← HS.out]; exact HE.out, by rw [if_pos hlt]; rfl, HB.out.trans (hb1.mono HB.out.size)⟩
      · rw [beq_eq_false_iff_ne.2 heq] at hsame
        have HE := hid heq
        clear heq
        go_wp2_with (go_at_call 8; refine hsame.mono ?_; rintro e w1 ⟨rfl, hb1⟩)
        go_roundg (m - (i + 1))
        case measure => omega
        case rel => exact ⟨HB.out.trans (hb1.mono HB.out.size), i + 1, rfl, by omega, by go_num, fun j hj => by
            by_cases e : j = i
            · subst e; rw [← HS.out]; exact HE.out
            · exact HA.out j (by omega)⟩
    · go_wp2_with fail
      go_ret
      exact ⟨m, Nat.le_refl _, fun j hj => HA.out j (by omega), fun h => absurd h (by omega), by rw [if_neg (by omega)]; rfl, HB.out⟩

end Go.Proofs.Qxb6002616a
