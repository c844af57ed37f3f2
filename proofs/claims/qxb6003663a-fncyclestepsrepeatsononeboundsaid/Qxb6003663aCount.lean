/-
  PLAIN: the walks that close at r, counted backwards and forwards. Nothing of the program here.
-/
import Derived.Test.Qxb6003663aDfs
namespace Go.Proofs.Qxb6003663a

/-- one edge v -> w: the walks through it and their edges in all are added to acc -/
def edge (N S : Nat → Nat) (lf : Nat → Int) (r v : Nat) (acc : Nat × Nat) (w : Nat) : Nat × Nat :=
  if w = r then (acc.1 + 1, acc.2 + 1) else if lf w < lf v then (acc.1 + N w, acc.2 + (S w + N w)) else acc

def tally (N S : Nat → Nat) (lf : Nat → Int) (r v : Nat) (l : List Nat) : Nat × Nat := l.foldl (edge N S lf r v) (0, 0)

theorem tally_snoc (N S : Nat → Nat) (lf : Nat → Int) (r v : Nat) (l : List Nat) (w : Nat) : tally N S lf r v (l ++ [w]) = edge N S lf r v (tally N S lf r v l) w := by simp [tally]

theorem tally_congr {N S N' S' : Nat → Nat} {lf : Nat → Int} {r v : Nat} {l : List Nat} (h : ∀ w ∈ l, lf w < lf v → N w = N' w ∧ S w = S' w) : tally N S lf r v l = tally N' S' lf r v l := by
  unfold tally
  generalize (0, 0) = a
  induction l generalizing a with
  | nil => rfl
  | cons w r' ih =>
    simp only [List.foldl_cons]
    have e : edge N S lf r v a w = edge N' S' lf r v a w := by
      unfold edge
      by_cases h1 : w = r
      · simp [h1]
      · by_cases h2 : lf w < lf v
        · obtain ⟨e1, e2⟩ := h w (by simp) h2
          simp [h1, h2, e1, e2]
        · simp [h1, h2]
    rw [e]
    exact ih (fun w hw => h w (by simp [hw])) _

/-- the closing walks from v and their edges, for v with lf v ≤ k -/
def cnt (G : List (List Nat)) (lf : Nat → Int) (r : Nat) : Nat → Nat → Nat × Nat
  | 0, _ => (0, 0)
  | k + 1, v => tally (fun w => (cnt G lf r k w).1) (fun w => (cnt G lf r k w).2) lf r v (row G v)

/-- what the search leaves: every vertex of the order has its place as its mark; its edges lead into the order -/
structure Left (G : List (List Nat)) (n : Nat) (lf : Nat → Int) (od : List Nat) : Prop where
  len : od.length ≤ n
  at' : ∀ i, i < od.length → od.getD i 0 < n ∧ lf (od.getD i 0) = (i : Int) + 1
  into : ∀ i, i < od.length → ∀ w, w ∈ row G (od.getD i 0) → ∃ k, k < od.length ∧ od.getD k 0 = w

theorem left_of_good {G : List (List Nat)} {bk : Bool} {n : Nat} {lf : Nat → Int} {od : List Nat} (h : Good G bk n ⟨[], lf, od⟩) : Left G n lf od := by
  refine ⟨by have := h.cnt; simp only [List.length_nil] at this; omega, h.ord, fun i hi w hw => ?_⟩
  obtain ⟨j, hj, rfl⟩ := List.getElem_of_mem hw
  have e : child G bk (od.getD i 0) (place bk (row G (od.getD i 0)).length j) = (row G (od.getD i 0))[j] := by
    unfold child
    rw [place_place hj, List.getD_eq_getElem?_getD, List.getElem?_eq_getElem hj]; rfl
  have h0 := h.clo i hi _ (place_lt (bk := bk) hj)
  simp only [e] at h0
  rcases h.pos ((row G (od.getD i 0))[j]) with h1 | h1 | h1
  · exact absurd h1 h0
  · obtain ⟨t, ht⟩ := h.neg _ h1; simp at ht
  · exact h1

theorem cnt_stable {G : List (List Nat)} {n r : Nat} {lf : Nat → Int} {od : List Nat} (h : Left G n lf od) : ∀ k i, i < od.length → i < k → cnt G lf r (k + 1) (od.getD i 0) = cnt G lf r k (od.getD i 0) := by
  intro k
  induction k with
  | zero => intro i _ hk; omega
  | succ k ih =>
    intro i hi hk
    show tally _ _ lf r _ _ = tally _ _ lf r _ _
    refine tally_congr (fun w hw hlt => ?_)
    obtain ⟨j, hj, rfl⟩ := h.into i hi w hw
    have e1 := (h.at' i hi).2
    have e2 := (h.at' j hj).2
    have := ih j hj (by omega)
    rw [this]; exact ⟨rfl, rfl⟩

def NN (G : List (List Nat)) (lf : Nat → Int) (r n v : Nat) : Nat := (cnt G lf r (n + 1) v).1
def SS (G : List (List Nat)) (lf : Nat → Int) (r n v : Nat) : Nat := (cnt G lf r (n + 1) v).2

theorem cnt_eq {G : List (List Nat)} {n r : Nat} {lf : Nat → Int} {od : List Nat} (h : Left G n lf od) (i : Nat) (hi : i < od.length) :
    tally (NN G lf r n) (SS G lf r n) lf r (od.getD i 0) (row G (od.getD i 0)) = (NN G lf r n (od.getD i 0), SS G lf r n (od.getD i 0)) := by
  show _ = cnt G lf r (n + 1) (od.getD i 0)
  show _ = tally _ _ lf r _ _
  refine tally_congr (fun w hw hlt => ?_)
  obtain ⟨j, hj, rfl⟩ := h.into i hi w hw
  have hl := h.len
  have := cnt_stable (r := r) h n j hj (by omega)
  unfold NN SS
  rw [this]; exact ⟨rfl, rfl⟩

/-! ### forwards -/

def updN (f : Nat → Nat) (i x : Nat) : Nat → Nat := fun j => if j = i then x else f j

/-- what is still owed to the first i of the order -/
def owed (N S : Nat → Nat) (od : List Nat) (P L : Nat → Nat) : Nat → Nat
  | 0 => 0
  | i + 1 => owed N S od P L i + (P (od.getD i 0) * (S (od.getD i 0) + N (od.getD i 0)) + L (od.getD i 0) * N (od.getD i 0))

theorem owed_same {N S : Nat → Nat} {od : List Nat} {P L P' L' : Nat → Nat} {i : Nat} (h : ∀ j, j < i → P (od.getD j 0) = P' (od.getD j 0) ∧ L (od.getD j 0) = L' (od.getD j 0)) : owed N S od P L i = owed N S od P' L' i := by
  induction i with
  | zero => rfl
  | succ i ih =>
    obtain ⟨e1, e2⟩ := h i (by omega)
    simp only [owed]
    rw [ih (fun j hj => h j (by omega)), e1, e2]

theorem owed_upd {N S : Nat → Nat} {od : List Nat} {P L : Nat → Nat} {i k p q : Nat} (hk : k < i) (hinj : ∀ j, j < i → od.getD j 0 = od.getD k 0 → j = k) :
    owed N S od (updN P (od.getD k 0) (P (od.getD k 0) + p)) (updN L (od.getD k 0) (L (od.getD k 0) + q)) i = owed N S od P L i + (p * (S (od.getD k 0) + N (od.getD k 0)) + q * N (od.getD k 0)) := by
  induction i with
  | zero => omega
  | succ i ih =>
    simp only [owed]
    by_cases e : k = i
    · subst e
      rw [owed_same (P' := P) (L' := L) (fun j hj => by
        have : od.getD j 0 ≠ od.getD k 0 := fun e => by have := hinj j (by omega) e; omega
        simp only [updN, if_neg this]; exact ⟨trivial, trivial⟩)]
      simp only [updN, if_true, Nat.add_mul]
      omega
    · rw [ih (by omega) (fun j hj => hinj j (by omega))]
      have : od.getD i 0 ≠ od.getD k 0 := fun e' => e (hinj i (by omega) e').symm
      simp only [updN, if_neg this]
      omega

theorem left_inj {G : List (List Nat)} {n : Nat} {lf : Nat → Int} {od : List Nat} (h : Left G n lf od) {i j : Nat} (hi : i < od.length) (hj : j < od.length) (e : od.getD i 0 = od.getD j 0) : i = j := by
  have e1 := (h.at' i hi).2
  have e2 := (h.at' j hj).2
  rw [e] at e1
  omega

/-- the start: one path, to r -/
theorem owed_start {G : List (List Nat)} {n : Nat} {lf : Nat → Int} {od : List Nat} (h : Left G n lf od) (N S : Nat → Nat) {k : Nat} (hk : k < od.length) :
    owed N S od (updN (fun _ => 0) (od.getD k 0) 1) (fun _ => 0) od.length = S (od.getD k 0) + N (od.getD k 0) := by
  have h0 : ∀ i, owed N S od (fun _ => 0) (fun _ => 0) i = 0 := by
    intro i
    induction i with
    | zero => rfl
    | succ i ih => simp [owed, ih]
  have := owed_upd (N := N) (S := S) (od := od) (P := fun _ => 0) (L := fun _ => 0) (p := 1) (q := 0) hk (fun j hj e => left_inj h hj hk e)
  have e : owed N S od (updN (fun _ => 0) (od.getD k 0) 1) (fun _ => 0) od.length = owed N S od (updN (fun _ => 0) (od.getD k 0) (0 + 1)) (updN (fun _ => 0) (od.getD k 0) (0 + 0)) od.length := by
    apply owed_same
    intro j _
    constructor
    · rfl
    · simp [updN]
  rw [h0] at this
  rw [e, this]
  simp

/-- one edge, forwards: the state is (steps, P, L) -/
def fwd (lf : Nat → Int) (r v p q : Nat) (s : Nat × (Nat → Nat) × (Nat → Nat)) (w : Nat) : Nat × (Nat → Nat) × (Nat → Nat) :=
  if w = r then (s.1 + (q + p + p), s.2.1, s.2.2) else if lf w < lf v then (s.1, updN s.2.1 w (s.2.1 w + p), updN s.2.2 w (s.2.2 w + (q + p))) else s

/-- INSIDE ONE VERTEX: what has gone to the steps and to the others is what its edges so far are worth. -/
theorem fwd_step {G : List (List Nat)} {n r : Nat} {lf : Nat → Int} {od : List Nat} (h : Left G n lf od) {i : Nat} (hi : i < od.length) {N S : Nat → Nat} {p q : Nat} {s : Nat × (Nat → Nat) × (Nat → Nat)} {acc : Nat × Nat} {X : Nat} {w : Nat} (hw : w ∈ row G (od.getD i 0))
    (hs : s.1 + owed N S od s.2.1 s.2.2 i = X + (p * (acc.2 + acc.1) + q * acc.1)) :
    (fwd lf r (od.getD i 0) p q s w).1 + owed N S od (fwd lf r (od.getD i 0) p q s w).2.1 (fwd lf r (od.getD i 0) p q s w).2.2 i
      = X + (p * ((edge N S lf r (od.getD i 0) acc w).2 + (edge N S lf r (od.getD i 0) acc w).1) + q * (edge N S lf r (od.getD i 0) acc w).1) := by
  unfold fwd edge
  by_cases h1 : w = r
  · simp only [if_pos h1]
    have e : p * (acc.2 + 1 + (acc.1 + 1)) = p * (acc.2 + acc.1) + p + p := by
      rw [show acc.2 + 1 + (acc.1 + 1) = (acc.2 + acc.1) + 1 + 1 from by omega, Nat.mul_add, Nat.mul_add, Nat.mul_one]
    have e' : q * (acc.1 + 1) = q * acc.1 + q := by rw [Nat.mul_add, Nat.mul_one]
    rw [e, e']
    omega
  · by_cases h2 : lf w < lf (od.getD i 0)
    · simp only [if_neg h1, if_pos h2]
      obtain ⟨k, hk, rfl⟩ := h.into i hi w hw
      have e1 := (h.at' i hi).2
      have e2 := (h.at' k hk).2
      rw [owed_upd (by omega) (fun j hj e => left_inj h (by omega) hk e)]
      have e3 : p * (acc.2 + (S (od.getD k 0) + N (od.getD k 0)) + (acc.1 + N (od.getD k 0))) = p * (acc.2 + acc.1) + (p * (S (od.getD k 0) + N (od.getD k 0)) + p * N (od.getD k 0)) := by
        rw [← Nat.mul_add, ← Nat.mul_add]; congr 1; omega
      rw [e3, Nat.mul_add q, Nat.add_mul q p]
      omega
    · simp only [if_neg h1, if_neg h2]
      exact hs

theorem fwd_keeps {lf : Nat → Int} {r v p q : Nat} {s : Nat × (Nat → Nat) × (Nat → Nat)} {w u : Nat} (hu : ¬ lf u < lf v) : (fwd lf r v p q s w).2.1 u = s.2.1 u ∧ (fwd lf r v p q s w).2.2 u = s.2.2 u := by
  unfold fwd
  split
  · exact ⟨rfl, rfl⟩
  · split
    · rename_i h
      have : u ≠ w := fun e => hu (by rw [e]; exact h)
      simp [updN, this]
    · exact ⟨rfl, rfl⟩

end Go.Proofs.Qxb6003663a
