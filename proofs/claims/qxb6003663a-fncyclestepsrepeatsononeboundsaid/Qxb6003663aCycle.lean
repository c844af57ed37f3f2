import Derived.Test.Qxb6003663aState
import Derived.Test.Qxb6003663aModel
namespace Go.Proofs.Qxb6003663a
open Go.RowKit
set_option linter.unusedVariables false
set_option linter.unusedSimpArgs false

def satF (c : Int) (P : Nat → Nat) : Nat → Int := fun v => sat c ((P v : Nat) : Int)

theorem satF_upd {c : Int} (hc : 0 ≤ c) (P : Nat → Nat) (w p : Nat) : upd (satF c P) w (sat c (sat c ((P w : Nat) : Int) + sat c ((p : Nat) : Int))) = satF c (updN P w (P w + p)) := by
  funext v
  unfold upd satF updN
  split
  · rename_i e; subst e; rw [sat_sat hc]
  · rfl

/-- what is not of the order is not counted -/
def Zero (od : List Nat) (P Ln : Nat → Nat) : Prop := ∀ v, v ∉ od → P v = 0 ∧ Ln v = 0

theorem getD_mem' {l : List Nat} {t : Nat} (h : t < l.length) : l.getD t 0 ∈ l := getD_mem h

/-- i of the order are still to be taken: what has been counted and what is owed make X -/
def CycInv (S B n : Nat) (lim : Int) (G : List (List Nat)) (lf : Nat → Int) (od : List Nat) (ov pv wv rv cv bv av : Value) (mark : Int) (N Sx : Nat → Nat) (X : Nat) (w : World) (i : Nat) (sv : Value) (wx : World) : Prop :=
  ∃ (T : Nat) (P Ln : Nat → Nat) (work : Int), sv = .int .i64 (sat (lim + 1) (T : Int)) ∧ BD wx S B n lim G lf (satF (lim + 1) P) (satF (lim + 1) Ln) od [] ov pv work wv rv cv bv av mark ∧ Below S w wx ∧ Zero od P Ln ∧ T + owed N Sx od P Ln i = X

/-- inside the i-th vertex v = od[i], with p paths of length q in all: t of its edges have been taken -/
def EdgInv (S B n : Nat) (lim : Int) (G : List (List Nat)) (lf : Nat → Int) (od : List Nat) (ov pv wv rv cv bv av : Value) (mark : Int) (N Sx : Nat → Nat) (Y : Nat) (w : World) (i r p q t : Nat) (sv : Value) (wx : World) : Prop :=
  ∃ (T : Nat) (P Ln : Nat → Nat) (work : Int), sv = .int .i64 (sat (lim + 1) (T : Int)) ∧ BD wx S B n lim G lf (satF (lim + 1) P) (satF (lim + 1) Ln) od [] ov pv work wv rv cv bv av mark ∧ Below S w wx ∧ Zero od P Ln ∧
    T + owed N Sx od P Ln i = Y + (p * ((tally N Sx lf r (od.getD i 0) ((row G (od.getD i 0)).take t)).2 + (tally N Sx lf r (od.getD i 0) ((row G (od.getD i 0)).take t)).1) + q * (tally N Sx lf r (od.getD i 0) ((row G (od.getD i 0)).take t)).1)

section
variable {S B n : Nat} {lim : Int} {G : List (List Nat)} {lf : Nat → Int} {od : List Nat} {ov pv wv rv cv bv av : Value} {mark : Int} {N Sx : Nat → Nat} {Y : Nat} {w wx : World} {i r p q t : Nat} {T : Nat} {P Ln : Nat → Nat} {work : Int}

/-- the t-th edge: r -/
theorem edg_root (h0 : 0 ≤ lim) (hl : Left G n lf od) (hi : i < od.length) (hb : BD wx S B n lim G lf (satF (lim + 1) P) (satF (lim + 1) Ln) od [] ov pv work wv rv cv bv av mark) (hbel : Below S w wx) (hz : Zero od P Ln)
    (hY : T + owed N Sx od P Ln i = Y + (p * ((tally N Sx lf r (od.getD i 0) ((row G (od.getD i 0)).take t)).2 + (tally N Sx lf r (od.getD i 0) ((row G (od.getD i 0)).take t)).1) + q * (tally N Sx lf r (od.getD i 0) ((row G (od.getD i 0)).take t)).1))
    (ht : t < (row G (od.getD i 0)).length) (hr : (row G (od.getD i 0)).getD t 0 = r) :
    EdgInv S B n lim G lf od ov pv wv rv cv bv av mark N Sx Y w i r p q (t + 1) (.int .i64 (sat (lim + 1) (sat (lim + 1) (T : Int) + sat (lim + 1) (sat (lim + 1) (sat (lim + 1) (q : Int) + sat (lim + 1) (p : Int)) + sat (lim + 1) (p : Int))))) wx := by
  have := fwd_step (r := r) hl hi (p := p) (q := q) (s := (T, P, Ln)) (w := (row G (od.getD i 0)).getD t 0) (getD_mem ht) hY
  rw [← tally_snoc, ← takeSnoc ht] at this
  simp only [fwd, if_pos hr] at this
  refine ⟨_, _, _, work, ?_, hb, hbel, hz, this⟩
  rw [sat_sat (by omega), sat_sat (by omega), sat_sat (by omega)]

/-- the t-th edge: neither r nor one that was left earlier -/
theorem edg_skip (hl : Left G n lf od) (hi : i < od.length) (hb : BD wx S B n lim G lf (satF (lim + 1) P) (satF (lim + 1) Ln) od [] ov pv work wv rv cv bv av mark) (hbel : Below S w wx) (hz : Zero od P Ln)
    (hY : T + owed N Sx od P Ln i = Y + (p * ((tally N Sx lf r (od.getD i 0) ((row G (od.getD i 0)).take t)).2 + (tally N Sx lf r (od.getD i 0) ((row G (od.getD i 0)).take t)).1) + q * (tally N Sx lf r (od.getD i 0) ((row G (od.getD i 0)).take t)).1))
    (ht : t < (row G (od.getD i 0)).length) (hr : (row G (od.getD i 0)).getD t 0 ≠ r) (hlt : ¬ lf ((row G (od.getD i 0)).getD t 0) < lf (od.getD i 0)) :
    EdgInv S B n lim G lf od ov pv wv rv cv bv av mark N Sx Y w i r p q (t + 1) (.int .i64 (sat (lim + 1) (T : Int))) wx := by
  have := fwd_step (r := r) hl hi (p := p) (q := q) (s := (T, P, Ln)) (w := (row G (od.getD i 0)).getD t 0) (getD_mem ht) hY
  rw [← tally_snoc, ← takeSnoc ht] at this
  simp only [fwd, if_neg hr, if_neg hlt] at this
  exact ⟨_, _, _, work, rfl, hb, hbel, hz, this⟩

/-- the t-th edge leads on to u -/
theorem edg_on (h0 : 0 ≤ lim) (hl : Left G n lf od) (hi : i < od.length) {u : Nat} (hb : BD wx S B n lim G lf (upd (satF (lim + 1) P) u (sat (lim + 1) (sat (lim + 1) ((P u : Nat) : Int) + sat (lim + 1) (p : Int)))) (upd (satF (lim + 1) Ln) u (sat (lim + 1) (sat (lim + 1) ((Ln u : Nat) : Int) + sat (lim + 1) (sat (lim + 1) (q : Int) + sat (lim + 1) (p : Int))))) od [] ov pv work wv rv cv bv av mark) (hbel : Below S w wx) (hz : Zero od P Ln)
    (hY : T + owed N Sx od P Ln i = Y + (p * ((tally N Sx lf r (od.getD i 0) ((row G (od.getD i 0)).take t)).2 + (tally N Sx lf r (od.getD i 0) ((row G (od.getD i 0)).take t)).1) + q * (tally N Sx lf r (od.getD i 0) ((row G (od.getD i 0)).take t)).1))
    (ht : t < (row G (od.getD i 0)).length) (hu : u = (row G (od.getD i 0)).getD t 0) (hr : u ≠ r) (hlt : lf u < lf (od.getD i 0)) :
    EdgInv S B n lim G lf od ov pv wv rv cv bv av mark N Sx Y w i r p q (t + 1) (.int .i64 (sat (lim + 1) (T : Int))) wx := by
  subst hu
  have := fwd_step (r := r) hl hi (p := p) (q := q) (s := (T, P, Ln)) (w := (row G (od.getD i 0)).getD t 0) (getD_mem ht) hY
  rw [← tally_snoc, ← takeSnoc ht] at this
  simp only [fwd, if_neg hr, if_pos hlt] at this
  rw [sat_sat (by omega) (a := q), satF_upd (by omega), satF_upd (by omega)] at hb
  refine ⟨_, _, _, work, rfl, hb, hbel, fun v hv => ?_, this⟩
  obtain ⟨k, hk, hku⟩ := hl.into i hi _ (getD_mem ht)
  have hne : v ≠ (row G (od.getD i 0)).getD t 0 := fun e => hv (by rw [e, ← hku]; exact getD_mem hk)
  simp only [updN, if_neg hne]
  exact hz v hv
end

end Go.Proofs.Qxb6003663a
