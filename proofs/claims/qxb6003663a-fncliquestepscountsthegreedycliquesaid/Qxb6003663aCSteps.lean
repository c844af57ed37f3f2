import Derived.Test.Qxb6003663aCliqueWalk
import Derived.Test.Qxb6003663aCCop
namespace Go.Proofs.Qxb6003663a
open Go.RowKit
set_option linter.unusedVariables false
set_option linter.unusedSimpArgs false

/-- what cliqueSteps answers -/
def cans (G : List (List Nat)) (lim : Int) (r : Nat) : Int := sat (lim + 1) ((upto (cliq G r) (cliq G r) : Nat) : Int)

/-- a fresh stepBound, as cliqueSteps sees it -/
theorem cst_new {w w' : World} {n : Nat} {lim : Int} {G H : List (List Nat)} {e : Ending} (h : NewPost w n lim G H e w') (hG : G.length = n) (hH : H.length = n) :
    e = .returned (.pointer (some ⟨w.heap.size, 0, none⟩)) ∧ Below w.heap.size w w' ∧ ∃ B rv lv ov pv qv nv, CSt w.heap.size B n lim G H (fun _ => 0) (fun _ => 0) [] (.slice none 0 0) 0 0 rv lv ov pv qv nv w' w' := by
  obtain ⟨rfl, B, hb, h1, h2, h3, h4, h5, h6, h7⟩ := h
  rw [rangeMapGetD hG] at h4
  rw [rangeMapGetD hH] at h5
  exact ⟨rfl, hb, B, _, _, _, _, _, _, ⟨h3, h4, h5, h7 3 (by omega) (by omega), h7 4 (by omega) (by omega), by omega, by omega⟩, World.ownsRow_nil _ _ _ _, Below.refl _ _⟩

theorem clique_both {w w0 : World} {lo hi b lo2 hi2 b2 n : Nat} {G H : List (List Nat)} (h : Both w0 lo hi b lo2 hi2 b2 n G H) {S B : Nat} {lim : Int} {bl wt : Nat → Int} {K : List Nat} {cv : Value} {work mark : Int} {rv lv ov pv qv nv : Value} {wp : World}
    (hc : CSt S B n lim G H bl wt K cv work mark rv lv ov pv qv nv wp w) (r : Nat) (hr : r < n) (m0 : 0 ≤ mark) (m1 : mark ≤ 1099511627776) (hmk : ∀ v, bl v ≤ mark ∧ wt v ≤ mark) (h0 : 0 ≤ lim) (h1 : lim + 1 ≤ 9223372036854775807) :
    Calls Try.prog 33 #[.pointer (some ⟨S, 0, none⟩), .int .i32 (r : Int)] w (fun e w' => e = .returned (.int .i64 (cans G lim r)) ∧ Below S w w' ∧ ∃ K cv work mark' bl wt, CSt S B n lim G H bl wt K cv work mark' rv lv ov pv qv nv w w' ∧ 0 ≤ mark' ∧ mark' ≤ mark + 1048578 ∧ ∀ v, bl v ≤ mark' ∧ wt v ≤ mark') := by
  refine (clique_any w S B n lim G H bl wt K cv work mark rv lv ov pv qv nv r ⟨hc.1, hc.2.1, Below.refl _ _⟩ h.eg.len h.wg.len hr h.eg.small h.eg.rows h.wg.rows h.rev h.ns m0 m1 hmk h0 h1).mono ?_
  intro e w' hp
  obtain ⟨rfl, K', cv', work', mark', bl', wt', hs, hm⟩ := hp
  exact ⟨rfl, hs.2.2, K', cv', work', mark', bl', wt', hs, hm⟩

def CStepsPost (w : World) (G : List (List Nat)) (lim : Int) (r : Nat) (e : Ending) (w' : World) : Prop :=
  e = .returned (.int .i64 (cans G lim r)) ∧ Below w.heap.size w w'

set_option maxRecDepth 100000 in
set_option maxHeartbeats 1000000 in
/-- ZZCliqueSteps_b1 -/
theorem csteps_any {w : World} {lo hi b lo2 hi2 b2 n : Nat} {G H : List (List Nat)} (h : Both w lo hi b lo2 hi2 b2 n G H) (lim : Int) (r : Nat) (hr : r < n) (h0 : 0 ≤ lim) (h1 : lim + 1 ≤ 9223372036854775807) :
    Calls Try.prog 15 #[.slice (some ⟨b, 0, none⟩) n n, .slice (some ⟨b2, 0, none⟩) n n, .int .i64 lim, .int .i32 (r : Int)] w (CStepsPost w G lim r) := by
  have hnew := newBoth_both h lim
  have hn := h.eg.small
  have HH := hid h
  clear h
  go_enter Try.func15, Try.ntmps15
  go_wp2_with fail
  refine hnew.mono ?_
  intro e w1 hp
  obtain ⟨rfl, hb1, B, rv, lv, ov, pv, qv, nv, hst⟩ := cst_new hp HH.out.eg.len HH.out.wg.len
  have hcl := clique_both HH.out hst r hr (Int.le_refl _) (by omega) (fun v => ⟨Int.le_refl _, Int.le_refl _⟩) h0 h1
  have HB := hid hb1
  clear hnew hp hst hb1
  go_wp2_with fail
  refine hcl.mono ?_
  intro e w2 hp
  obtain ⟨rfl, hb2, z⟩ := hp
  have R := hid (show CStepsPost w G lim r (.returned (.int .i64 (cans G lim r))) w2 from ⟨rfl, HB.out.trans hb2⟩)
  clear hcl hb2 z
  go_wp2_with fail
  go_ret
  exact R.out

def CTwicePost (w : World) (G : List (List Nat)) (lim : Int) (r s : Nat) (e : Ending) (w' : World) : Prop :=
  e = .returned (.tuple #[.int .i64 (cans G lim r), .int .i64 (cans G lim s)]) ∧ Below w.heap.size w w'

set_option maxRecDepth 100000 in
set_option maxHeartbeats 1000000 in
/-- ZZCliqueStepsTwice_b1 -/
theorem ctwice_any {w : World} {lo hi b lo2 hi2 b2 n : Nat} {G H : List (List Nat)} (h : Both w lo hi b lo2 hi2 b2 n G H) (lim : Int) (r s : Nat) (hr : r < n) (hs : s < n) (h0 : 0 ≤ lim) (h1 : lim + 1 ≤ 9223372036854775807) :
    Calls Try.prog 19 #[.slice (some ⟨b, 0, none⟩) n n, .slice (some ⟨b2, 0, none⟩) n n, .int .i64 lim, .int .i32 (r : Int), .int .i32 (s : Int)] w (CTwicePost w G lim r s) := by
  have hnew := newBoth_both h lim
  have hn := h.eg.small
  have HH := hid h
  clear h
  go_enter Try.func19, Try.ntmps19
  go_wp2_with fail
  refine hnew.mono ?_
  intro e w1 hp
  obtain ⟨rfl, hb1, B, rv, lv, ov, pv, qv, nv, hst⟩ := cst_new hp HH.out.eg.len HH.out.wg.len
  have hcl := clique_both HH.out hst r hr (Int.le_refl _) (by omega) (fun v => ⟨Int.le_refl _, Int.le_refl _⟩) h0 h1
  have HB := hid hb1
  clear hnew hp hst hb1
  go_wp2_with fail
  refine hcl.mono ?_
  intro e w2 hp
  obtain ⟨rfl, hb2, K, cv, work, mark, bl, wt, hst, m0, m1, hmk⟩ := hp
  have hcl2 := clique_both HH.out hst s hs m0 (by omega) hmk h0 h1
  have HB2 := hid hb2
  clear hcl hb2 hst m0 m1 hmk
  go_wp2_with fail
  refine hcl2.mono ?_
  intro e w3 hp
  obtain ⟨rfl, hb3, z⟩ := hp
  have R := hid (show CTwicePost w G lim r s (.returned (.tuple #[.int .i64 (cans G lim r), .int .i64 (cans G lim s)])) w3 from ⟨rfl, HB.out.trans (HB2.out.trans hb3)⟩)
  clear hcl2 hb3 z
  go_wp2_with fail
  go_ret2
  exact R.out

end Go.Proofs.Qxb6003663a
