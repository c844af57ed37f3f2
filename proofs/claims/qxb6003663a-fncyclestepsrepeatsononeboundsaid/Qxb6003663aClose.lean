import Derived.Test.Qxb6003663aSat
import Derived.Test.Qxb6003663aCount
import Derived.Test.Qxb6003663aRec
namespace Go.Proofs.Qxb6003663a
open Go.RowKit
set_option linter.unusedVariables false
set_option linter.unusedSimpArgs false

def updB (f : Nat → Bool) (i : Nat) (x : Bool) : Nat → Bool := fun j => if j = i then x else f j

/-- the memory of the backward counts: the graph in lo .. hi - 1, the marks at L, then nWalks, eSteps, done at A, A + 1, A + 2 -/
structure CW (w : World) (lo hi L A n b off cap : Nat) (G : List (List Nat)) (lf : Nat → Int) (nw es : Nat → Int) (dn : Nat → Bool) : Prop where
  grid : NGrid w lo hi n (.slice (some ⟨b, off, none⟩) n cap) G
  glen : G.length = n
  rl : w.rowIs L 21 n (fun i => .int .i32 (lf i))
  rn : w.rowIs A 3 n (fun i => .int .i64 (nw i))
  re : w.rowIs (A + 1) 3 n (fun i => .int .i64 (es i))
  rd : w.rowIs (A + 2) 4 n (fun i => .bool (dn i))
  hib : b < hi
  lt : hi ≤ L
  la : L < A

section
variable {w : World} {lo hi L A n b off cap : Nat} {G : List (List Nat)} {lf : Nat → Int} {nw es : Nat → Int} {dn : Nat → Bool}
theorem CW.setN (h : CW w lo hi L A n b off cap G lf nw es dn) (i : Nat) (x : Int) : CW (w.setCell ⟨A, i, none⟩ (.int .i64 x)) lo hi L A n b off cap G lf (upd nw i x) es dn := by
  have h1 := h.lt; have h2 := h.la
  refine ⟨h.grid.keep ((Kept.refl _ _ _).set (Or.inr (by simp; omega)) _), h.glen, h.rl.setOther (by simp; omega) _, (h.rn.set i _).congr (fun j _ => ?_), h.re.setOther (by simp) _, h.rd.setOther (by simp) _, h.hib, h1, h2⟩
  unfold upd; split <;> rfl
theorem CW.setE (h : CW w lo hi L A n b off cap G lf nw es dn) (i : Nat) (x : Int) : CW (w.setCell ⟨A + 1, i, none⟩ (.int .i64 x)) lo hi L A n b off cap G lf nw (upd es i x) dn := by
  have h1 := h.lt; have h2 := h.la
  refine ⟨h.grid.keep ((Kept.refl _ _ _).set (Or.inr (by simp; omega)) _), h.glen, h.rl.setOther (by simp; omega) _, h.rn.setOther (by simp) _, (h.re.set i _).congr (fun j _ => ?_), h.rd.setOther (by simp) _, h.hib, h1, h2⟩
  unfold upd; split <;> rfl
theorem CW.setD (h : CW w lo hi L A n b off cap G lf nw es dn) (i : Nat) (x : Bool) : CW (w.setCell ⟨A + 2, i, none⟩ (.bool x)) lo hi L A n b off cap G lf nw es (updB dn i x) := by
  have h1 := h.lt; have h2 := h.la
  refine ⟨h.grid.keep ((Kept.refl _ _ _).set (Or.inr (by simp; omega)) _), h.glen, h.rl.setOther (by simp; omega) _, h.rn.setOther (by simp) _, h.re.setOther (by simp) _, (h.rd.set i _).congr (fun j _ => ?_), h.hib, h1, h2⟩
  unfold updB; split <;> rfl
theorem CW.drewN (h : CW w lo hi L A n b off cap G lf nw es dn) (k : Nat) : CW (w.drewN k) lo hi L A n b off cap G lf nw es dn := ⟨h.grid, h.glen, h.rl, h.rn, h.re, h.rd, h.hib, h.lt, h.la⟩
end

/-- of the first i of the order, those that are done have their counts -/
def Right (c : Int) (N S : Nat → Nat) (od : List Nat) (nw es : Nat → Int) (dn : Nat → Bool) (i : Nat) : Prop :=
  ∀ j, j < i → dn (od.getD j 0) = true → nw (od.getD j 0) = sat c ((N (od.getD j 0) : Nat) : Int) ∧ es (od.getD j 0) = sat c ((S (od.getD j 0) : Nat) : Int)

/-- nothing but the first i of the order has turned -/
def Rest (od : List Nat) (nw es : Nat → Int) (dn : Nat → Bool) (nw' es' : Nat → Int) (dn' : Nat → Bool) (i : Nat) : Prop :=
  ∀ u, (∀ j, j < i → u ≠ od.getD j 0) → nw' u = nw u ∧ es' u = es u ∧ dn' u = dn u

def ClosePost (w : World) (lo hi L A n b off cap : Nat) (G : List (List Nat)) (lf : Nat → Int) (c : Int) (N S : Nat → Nat) (od : List Nat) (nw es : Nat → Int) (dn : Nat → Bool) (i : Nat) (e : Ending) (w' : World) : Prop :=
  ∃ nw' es' dn', e = .returned (.tuple #[]) ∧ CW w' lo hi L A n b off cap G lf nw' es' dn' ∧ Below A w w' ∧ Right c N S od nw' es' dn' (i + 1) ∧ dn' (od.getD i 0) = true ∧ Rest od nw es dn nw' es' dn' (i + 1)

/-- inside the call at the i-th of the order: t of its edges have been counted -/
def CloseInv (w : World) (lo hi L A n b off cap : Nat) (G : List (List Nat)) (lf : Nat → Int) (c : Int) (N S : Nat → Nat) (od : List Nat) (nw es : Nat → Int) (dn : Nat → Bool) (i r t : Nat) (cv sv : Value) (wr : World) : Prop :=
  ∃ nw' es' dn', CW wr lo hi L A n b off cap G lf nw' es' dn' ∧ Below A w wr ∧ Right c N S od nw' es' dn' i ∧ dn' (od.getD i 0) = true ∧ Rest od nw es dn nw' es' dn' (i + 1) ∧
    cv = .int .i64 (sat c (((tally N S lf r (od.getD i 0) ((row G (od.getD i 0)).take t)).1 : Nat) : Int)) ∧ sv = .int .i64 (sat c (((tally N S lf r (od.getD i 0) ((row G (od.getD i 0)).take t)).2 : Nat) : Int))

section
variable {w wr : World} {lo hi L A n b off cap : Nat} {G : List (List Nat)} {lf : Nat → Int} {c : Int} {N S : Nat → Nat} {od : List Nat} {nw es : Nat → Int} {dn : Nat → Bool} {i r t : Nat} {cv sv : Value} {x y : Int}

theorem close_start (hc : 0 ≤ c) (h : CW w lo hi L A n b off cap G lf nw es dn) (hl : Left G n lf od) (hi' : i < od.length) (hr : Right c N S od nw es dn i) :
    CloseInv w lo hi L A n b off cap G lf c N S od nw es dn i r 0 (.int .i64 0) (.int .i64 0) (w.setCell ⟨A + 2, od.getD i 0, none⟩ (.bool true)) := by
  refine ⟨nw, es, _, h.setD (od.getD i 0) true, (Below.refl _ _).setCell (by simp) _, fun j hj hd => ?_, by simp [updB], fun u hu => ⟨rfl, rfl, ?_⟩, ?_, ?_⟩
  · refine hr j hj ?_
    have : od.getD j 0 ≠ od.getD i 0 := fun e => by have := left_inj hl (by omega) hi' e; omega
    simp only [updB, if_neg this] at hd; exact hd
  · have := hu i (by omega)
    simp only [updB, if_neg this]
  · simp [tally, sat_zero hc]
  · simp [tally, sat_zero hc]

/-- the t-th edge adds nothing -/
theorem close_skip (hl : Left G n lf od) (hi' : i < od.length) (h : CloseInv w lo hi L A n b off cap G lf c N S od nw es dn i r t cv sv wr) (ht : t < (row G (od.getD i 0)).length)
    (h1 : (row G (od.getD i 0)).getD t 0 ≠ r) (h2 : ¬ lf ((row G (od.getD i 0)).getD t 0) < lf (od.getD i 0)) : CloseInv w lo hi L A n b off cap G lf c N S od nw es dn i r (t + 1) cv sv wr := by
  obtain ⟨nw', es', dn', a1, a2, a3, a4, a5, a6, a7⟩ := h
  refine ⟨nw', es', dn', a1, a2, a3, a4, a5, ?_, ?_⟩
  · rw [takeSnoc ht, tally_snoc, edge, if_neg h1, if_neg h2]; exact a6
  · rw [takeSnoc ht, tally_snoc, edge, if_neg h1, if_neg h2]; exact a7

/-- the t-th edge closes at r -/
theorem close_root (hc : 1 ≤ c) (h : CloseInv w lo hi L A n b off cap G lf c N S od nw es dn i r t (.int .i64 x) (.int .i64 y) wr) (ht : t < (row G (od.getD i 0)).length)
    (h1 : (row G (od.getD i 0)).getD t 0 = r) : CloseInv w lo hi L A n b off cap G lf c N S od nw es dn i r (t + 1) (.int .i64 (sat c (x + 1))) (.int .i64 (sat c (y + 1))) wr := by
  obtain ⟨nw', es', dn', a1, a2, a3, a4, a5, a6, a7⟩ := h
  have s1 : (1 : Int) = sat c ((1 : Nat) : Int) := (sat_one hc).symm
  simp only [Value.int.injEq, true_and] at a6 a7
  refine ⟨nw', es', dn', a1, a2, a3, a4, a5, ?_, ?_⟩
  · rw [takeSnoc ht, tally_snoc, edge, if_pos h1, a6, s1, sat_sat (by omega)]
  · rw [takeSnoc ht, tally_snoc, edge, if_pos h1, a7, s1, sat_sat (by omega)]

/-- the t-th edge leads on to w, which is done -/
theorem close_on (hc : 0 ≤ c) (h : CloseInv w lo hi L A n b off cap G lf c N S od nw es dn i r t (.int .i64 x) (.int .i64 y) wr) (ht : t < (row G (od.getD i 0)).length)
    (h1 : (row G (od.getD i 0)).getD t 0 ≠ r) (h2 : lf ((row G (od.getD i 0)).getD t 0) < lf (od.getD i 0)) {a e : Int} (ha : a = sat c ((N ((row G (od.getD i 0)).getD t 0) : Nat) : Int)) (he : e = sat c ((S ((row G (od.getD i 0)).getD t 0) : Nat) : Int)) (k : Nat) :
    CloseInv w lo hi L A n b off cap G lf c N S od nw es dn i r (t + 1) (.int .i64 (sat c (x + a))) (.int .i64 (sat c (y + sat c (e + a)))) (wr.drewN k) := by
  obtain ⟨nw', es', dn', a1, a2, a3, a4, a5, a6, a7⟩ := h
  simp only [Value.int.injEq, true_and] at a6 a7
  refine ⟨nw', es', dn', a1.drewN k, bel_drewN a2 k, a3, a4, a5, ?_, ?_⟩
  · rw [takeSnoc ht, tally_snoc, edge, if_neg h1, if_pos h2, a6, ha, sat_sat hc]
  · rw [takeSnoc ht, tally_snoc, edge, if_neg h1, if_pos h2, a7, ha, he, sat_sat hc, sat_sat hc]

/-- a call at w, the j-th of the order -/
theorem close_call (hl : Left G n lf od) (hi' : i < od.length) {j : Nat} (hj : j < i) (h : CloseInv w lo hi L A n b off cap G lf c N S od nw es dn i r t cv sv wr) {nw1 es1 : Nat → Int} {dn1 : Nat → Bool} {e : Ending} {w2 : World}
    (hcw : CW wr lo hi L A n b off cap G lf nw1 es1 dn1) (hr : Right c N S od nw1 es1 dn1 i) (hd : dn1 (od.getD i 0) = true) (hrest : Rest od nw es dn nw1 es1 dn1 (i + 1))
    (hp : ClosePost wr lo hi L A n b off cap G lf c N S od nw1 es1 dn1 j e w2) : e = .returned (.tuple #[]) ∧ ∃ nw' es' dn', CW w2 lo hi L A n b off cap G lf nw' es' dn' ∧ Right c N S od nw' es' dn' i ∧ dn' (od.getD i 0) = true ∧ Rest od nw es dn nw' es' dn' (i + 1) ∧ dn' (od.getD j 0) = true ∧
      CloseInv w lo hi L A n b off cap G lf c N S od nw es dn i r t cv sv w2 := by
  obtain ⟨nw', es', dn', rfl, b1, b2, b3, b4, b5⟩ := hp
  have hne : ∀ m, j < m → m < od.length → ∀ m', m' < j + 1 → od.getD m 0 ≠ od.getD m' 0 := fun m h1 h2 m' h3 e => by have := left_inj hl h2 (by omega) e; omega
  have R1 : Right c N S od nw' es' dn' i := by
    intro m hm hdm
    rcases Nat.lt_or_ge m (j + 1) with h' | h'
    · exact b3 m h' hdm
    · obtain ⟨e1, e2, e3⟩ := b5 (od.getD m 0) (hne m (by omega) (by omega))
      rw [e1, e2]; rw [e3] at hdm
      exact hr m hm hdm
  have D1 : dn' (od.getD i 0) = true := by rw [(b5 (od.getD i 0) (hne i hj hi')).2.2]; exact hd
  have T1 : Rest od nw es dn nw' es' dn' (i + 1) := by
    intro u hu
    obtain ⟨e1, e2, e3⟩ := b5 u (fun m hm => hu m (by omega))
    obtain ⟨f1, f2, f3⟩ := hrest u hu
    exact ⟨e1.trans f1, e2.trans f2, e3.trans f3⟩
  obtain ⟨_, _, _, _, a2, _, _, _, a6, a7⟩ := h
  exact ⟨rfl, nw', es', dn', b1, R1, D1, T1, b4, nw', es', dn', b1, a2.trans b2, R1, D1, T1, a6, a7⟩

/-- all edges have been counted -/
theorem close_done (hl : Left G n lf od) (hi' : i < od.length) (hN : tally N S lf r (od.getD i 0) (row G (od.getD i 0)) = (N (od.getD i 0), S (od.getD i 0))) (h : CloseInv w lo hi L A n b off cap G lf c N S od nw es dn i r t (.int .i64 x) (.int .i64 y) wr) (ht : ¬ t < (row G (od.getD i 0)).length) :
    ClosePost w lo hi L A n b off cap G lf c N S od nw es dn i (.returned (.tuple #[])) ((wr.setCell ⟨A, od.getD i 0, none⟩ (.int .i64 x)).setCell ⟨A + 1, od.getD i 0, none⟩ (.int .i64 y)) := by
  obtain ⟨nw', es', dn', a1, a2, a3, a4, a5, a6, a7⟩ := h
  rw [List.take_of_length_le (by omega), hN] at a6 a7
  simp only [Value.int.injEq, true_and] at a6 a7
  refine ⟨_, _, dn', rfl, (a1.setN _ x).setE _ y, (a2.setCell (by simp) _).setCell (by simp) _, fun j hj hd => ?_, a4, fun u hu => ?_⟩
  · by_cases e : j = i
    · subst e; rw [upd_same, upd_same]; exact ⟨a6, a7⟩
    · have hne : od.getD j 0 ≠ od.getD i 0 := fun e' => e (left_inj hl (by omega) hi' e')
      rw [upd_other _ _ hne, upd_other _ _ hne]
      exact a3 j (by omega) hd
  · have hne := hu i (by omega)
    rw [upd_other _ _ hne, upd_other _ _ hne]
    exact a5 u hu
end

end Go.Proofs.Qxb6003663a
