import Derived.Test.Qxb6003663aSat
import Derived.Test.Qxb6003663aDfs
namespace Go.Proofs.Qxb6003663a
open Go.RowKit
set_option linter.unusedVariables false
set_option linter.unusedSimpArgs false

/-! ### the greedy clique -/

/-- t waits for c and c waits for t -/
def mtl (G : List (List Nat)) (t c : Nat) : Bool := decide (c ∈ row G t) && decide (t ∈ row G c)

/-- one pass: how many of the candidates are taken -/
def gre (G : List (List Nat)) : List Nat → List Nat → Nat
  | _, [] => 0
  | T, c :: cs => if T.all (mtl G · c) then gre G (T ++ [c]) cs + 1 else gre G T cs

/-- .. with none taken before -/
def cl (G : List (List Nat)) (l : List Nat) : Nat := gre G [] l

theorem gre_split (G : List (List Nat)) (T : List Nat) (cs : List Nat) : ∀ U, gre G (T ++ U) cs = gre G U (cs.filter (fun c => T.all (mtl G · c))) := by
  induction cs with
  | nil => intro U; simp [gre]
  | cons c cs ih =>
    intro U
    have h0 : (T ++ U).all (mtl G · c) = (T.all (mtl G · c) && U.all (mtl G · c)) := List.all_append
    by_cases h : T.all (mtl G · c) = true
    · rw [List.filter_cons_of_pos (by simpa using h)]
      unfold gre
      rw [h0, h, Bool.true_and, List.append_assoc, ih, ih]
    · have h' : T.all (mtl G · c) = false := by simpa using h
      rw [List.filter_cons_of_neg (by simpa using h), ← ih]
      rw [gre, h0, h', Bool.false_and]
      rfl

theorem cl_nil (G : List (List Nat)) : cl G [] = 0 := rfl
theorem cl_cons (G : List (List Nat)) (c : Nat) (cs : List Nat) : cl G (c :: cs) = cl G (cs.filter (mtl G c ·)) + 1 := by
  have h := gre_split G [c] cs []
  have e : cs.filter (fun x => [c].all (mtl G · x)) = cs.filter (mtl G c ·) := List.filter_congr (fun x _ => by simp)
  rw [e] at h
  unfold cl
  rw [gre]
  simpa using h
theorem gre_cl (G : List (List Nat)) (cs : List Nat) (T : List Nat) : gre G T cs = cl G (cs.filter (fun c => T.all (mtl G · c))) := by
  have := gre_split G T cs []
  rwa [List.append_nil] at this

/-- no list holds its own number -/
def NoSelf (G : List (List Nat)) : Prop := ∀ v, v ∉ row G v

theorem mtl_self {G : List (List Nat)} (h : NoSelf G) (c : Nat) : mtl G c c = false := by
  unfold mtl; simp [h c]

/-- the size of the clique -/
def cliq (G : List (List Nat)) (r : Nat) : Nat := cl G ((row G r).filter (mtl G r ·)) + 1

theorem cliq_gre (G : List (List Nat)) (r : Nat) : cliq G r = gre G [r] (row G r) + 1 := by
  unfold cliq
  rw [gre_cl]
  congr 2
  apply List.filter_congr
  intro x _
  simp

/-- one round: of the kept the first is taken -/
theorem cl_next {G : List (List Nat)} (h : NoSelf G) (c : Nat) (rest : List Nat) : cl G (c :: rest) = cl G ((c :: rest).filter (mtl G c ·)) + 1 := by
  rw [cl_cons, List.filter_cons_of_neg (by simp [mtl_self h])]

theorem cl_le (G : List (List Nat)) : ∀ (m : Nat) (l : List Nat), l.length ≤ m → cl G l ≤ l.length := by
  intro m
  induction m with
  | zero => intro l hl; have : l = [] := List.eq_nil_of_length_eq_zero (by omega); subst this; simp [cl_nil]
  | succ m ih =>
    intro l hl
    cases l with
    | nil => simp [cl_nil]
    | cons c cs =>
      rw [cl_cons]
      have h1 := List.length_filter_le (mtl G c ·) cs
      simp only [List.length_cons] at *
      have h2 := ih (cs.filter (mtl G c ·)) (by omega)
      omega
theorem cliq_le (G : List (List Nat)) (r : Nat) : cliq G r ≤ (row G r).length + 1 := by
  unfold cliq
  have h1 := cl_le G _ ((row G r).filter (mtl G r ·)) (Nat.le_refl _)
  have h2 := List.length_filter_le (mtl G r ·) (row G r)
  omega

/-! ### the numbers -/
def ch : Nat → Nat → Nat
  | _, 0 => 1
  | 0, _ + 1 => 0
  | k + 1, j + 1 => ch k (j + 1) + ch k j
def fac : Nat → Nat
  | 0 => 1
  | j + 1 => fac j * (j + 1)
/-- the orders of j of k -/
def ff (k : Nat) : Nat → Nat
  | 0 => 1
  | j + 1 => ff k j * (k - j)

theorem ch_zero (k : Nat) : ch k 0 = 1 := by cases k <;> rfl
theorem fac_pos : ∀ j, 0 < fac j
  | 0 => Nat.one_pos
  | j + 1 => Nat.mul_pos (fac_pos j) (by omega)
theorem ff_succ (k : Nat) : ∀ j, ff (k + 1) (j + 1) = (k + 1) * ff k j
  | 0 => by simp [ff]
  | j + 1 => by
    rw [ff, ff_succ k j, ff, show k + 1 - (j + 1) = k - j by omega, Nat.mul_assoc]
theorem ff_zero : ∀ (k j : Nat), k < j → ff k j = 0 := by
  intro k j h
  induction j with
  | zero => omega
  | succ j ih =>
    rw [ff]
    by_cases e : k = j
    · subst e; simp
    · rw [ih (by omega)]; simp
theorem ff_ch : ∀ k j, ff k j = ch k j * fac j := by
  intro k
  induction k with
  | zero =>
    intro j
    cases j with
    | zero => simp [ff, ch, fac]
    | succ j => rw [ff_zero 0 (j + 1) (by omega)]; simp [ch]
  | succ k ih =>
    intro j
    cases j with
    | zero => simp [ff, ch, fac]
    | succ j =>
      have h2 : ch (k + 1) (j + 1) * fac (j + 1) = ch k (j + 1) * fac (j + 1) + ch k j * fac (j + 1) := by rw [ch, Nat.add_mul]
      rw [ff_succ, h2, ← ih (j + 1), ff]
      have h1 : ch k j * fac (j + 1) = ff k j * (j + 1) := by rw [ih j, fac, Nat.mul_assoc]
      rw [h1, ← Nat.mul_add, Nat.mul_comm (k + 1)]
      by_cases e : j ≤ k
      · congr 1; omega
      · rw [ff_zero k j (by omega)]; simp
theorem ff_div (k j : Nat) (hj : 0 < j) : ff k j / j = ch k j * fac (j - 1) := by
  obtain ⟨i, rfl⟩ : ∃ i, j = i + 1 := ⟨j - 1, by omega⟩
  rw [ff_ch, fac, Nat.add_sub_cancel, ← Nat.mul_assoc]
  exact Nat.mul_div_cancel _ (by omega)

/-- the steps of the cycles of length j -/
def term (k j : Nat) : Nat := ch k j * fac (j - 1) * (j + 1)
/-- the steps of the cycles of lengths 2 .. j -/
def upto (k : Nat) : Nat → Nat
  | 0 => 0
  | 1 => 0
  | j + 2 => upto k (j + 1) + term k (j + 2)

theorem term_ge (k j : Nat) (hj : 0 < j) : ff k j ≤ term k j := by
  obtain ⟨i, rfl⟩ : ∃ i, j = i + 1 := ⟨j - 1, by omega⟩
  unfold term
  rw [ff_ch, fac, Nat.add_sub_cancel, ← Nat.mul_assoc]
  exact Nat.mul_le_mul_left _ (by omega)

theorem upto_mono (k i j : Nat) (h : i ≤ j) : upto k i ≤ upto k j := by
  induction j with
  | zero => have : i = 0 := by omega
            subst this; exact Nat.le_refl _
  | succ j ih =>
    by_cases e : i = j + 1
    · subst e; exact Nat.le_refl _
    · have h1 := ih (by omega)
      cases j with
      | zero => have : i = 0 := by omega
                subst this; exact Nat.zero_le _
      | succ j => rw [upto]; omega
theorem upto_succ (k j : Nat) (h : 2 ≤ j) : upto k j = upto k (j - 1) + term k j := by
  obtain ⟨i, rfl⟩ : ∃ i, j = i + 2 := ⟨j - 2, by omega⟩
  rw [upto]; rfl

/-! ### saturated products -/
theorem sat_nat (c : Int) (a : Nat) (h : (a : Int) ≤ c) : sat c (a : Int) = a := by unfold sat; rw [if_neg (by omega)]
theorem sat_over (c : Int) (a : Nat) (h : c ≤ (a : Int)) : sat c (a : Int) = c := by unfold sat; split <;> omega
theorem sat_lt {c : Int} {a : Nat} (h : sat c (a : Int) < c) : sat c (a : Int) = a ∧ (a : Int) < c := by unfold sat at *; split at h <;> simp_all <;> omega

theorem sat_mul {c : Int} (hc : 1 ≤ c) (a b : Nat) : sat c (sat c (a : Int) * (b : Int)) = sat c ((a * b : Nat) : Int) := by
  by_cases h : (a : Int) ≤ c
  · rw [sat_nat c a h, Int.natCast_mul]
  · rw [sat_over c a (by omega)]
    rcases Nat.eq_zero_or_pos b with h0 | h0
    · subst h0; simp
    · have h1 : c ≤ c * (b : Int) := by
        have := Int.mul_le_mul_of_nonneg_left (show (1 : Int) ≤ b by omega) (show 0 ≤ c by omega)
        omega
      have h2 : c ≤ ((a * b : Nat) : Int) := by
        rw [Int.natCast_mul]
        have := Int.mul_le_mul (show c ≤ (a : Int) by omega) (show (1 : Int) ≤ b by omega) (by omega) (by omega)
        omega
      rw [sat_over _ _ h2]
      unfold sat; split <;> omega
theorem sat_mul2 {c : Int} (hc : 1 ≤ c) (a b : Nat) : sat c (sat c (a : Int) * sat c (b : Int)) = sat c ((a * b : Nat) : Int) := by
  by_cases h : (b : Int) ≤ c
  · rw [sat_nat c b h, sat_mul hc]
  · rw [sat_over c b (by omega)]
    obtain ⟨d, hd⟩ : ∃ d : Nat, c = (d : Int) := ⟨c.toNat, by omega⟩
    subst hd
    rw [sat_mul hc]
    rcases Nat.eq_zero_or_pos a with h0 | h0
    · subst h0; simp
    · rw [sat_over _ (a * d) (by rw [Int.natCast_mul]; have := Int.mul_le_mul (show (1 : Int) ≤ a by omega) (Int.le_refl (d : Int)) (by omega) (by omega); omega),
        sat_over _ (a * b) (by rw [Int.natCast_mul]; have := Int.mul_le_mul (show (1 : Int) ≤ a by omega) (show (d : Int) ≤ b by omega) (by omega) (by omega); omega)]

end Go.Proofs.Qxb6003663a
