import Derived.Test.Qxb6600443aLawB
namespace Go.Proofs.Qxb6600443a
open Go.RowKit
set_option linter.unusedVariables false
set_option linter.unusedSimpArgs false

def innL : List UInt8 := (patL.drop 4).take 342
def inn : ByteArray := ⟨innL.toArray⟩

/-- the law's own state -/
structure BS where
  alts : Int
  lit : Int
  depth : Int
  ic : Bool
  start : Nat
  seen : List Int

def altOf (s : BS) (i : Nat) : List UInt8 := (innL.drop s.start).take (i - s.start)
def cutB (s : BS) (i : Nat) : Option BS :=
  if plainB (altOf s i) then
    if idxB (altOf s i) < 0 then none
    else some { s with alts := s.alts + 1, lit := s.lit + 1, start := i + 1, seen := s.seen.set (idxB (altOf s i)).toNat (s.seen.getD (idxB (altOf s i)).toNat 0 + 1) }
  else some { s with alts := s.alts + 1, start := i + 1 }
def charB (i : Nat) : Int := ((innL.getD i 0).toNat : Int)
def stepB (i : Nat) (s : BS) : Option BS :=
  if i < 342 then
    if s.ic then (if charB i = 93 then some { s with ic := false } else some s)
    else if charB i = 91 then some { s with ic := true }
    else if charB i = 40 then some { s with depth := s.depth + 1 }
    else if charB i = 41 then some { s with depth := s.depth - 1 }
    else if charB i ≠ 124 ∨ s.depth ≠ 0 then some s
    else cutB s i
  else cutB s i
def runB : Nat → Option BS
  | 0 => some ⟨0, 0, 0, false, 0, [0, 0, 0, 0, 0, 0, 0, 0, 0, 0, 0, 0, 0, 0, 0, 0, 0]⟩
  | i + 1 => (runB i).bind (stepB i)

theorem run_final : (runB 343).map (fun s => (s.alts, s.lit, s.seen)) = some (19, 17, [1, 1, 1, 1, 1, 1, 1, 1, 1, 1, 1, 1, 1, 1, 1, 1, 1]) := by kernel_rfl

theorem run_none (i m : Nat) (h : runB i = none) : runB (i + m) = none := by
  induction m with
  | zero => exact h
  | succ m ih => show (runB (i + m)).bind _ = none; rw [ih]; rfl

theorem run_next {i : Nat} {s : BS} (h : runB i = some s) (hi : i < 343) : ∃ s', stepB i s = some s' ∧ runB (i + 1) = some s' := by
  have e : runB (i + 1) = stepB i s := by show (runB i).bind _ = _; rw [h]; rfl
  cases h' : runB (i + 1) with
  | none =>
    have := run_none (i + 1) (342 - i) h'
    rw [show i + 1 + (342 - i) = 343 by omega] at this
    have hf := run_final
    rw [this] at hf; simp at hf
  | some s' => exact ⟨s', by rw [← e, h'], rfl⟩

theorem idx_range (l : List UInt8) : -1 ≤ idxB l ∧ idxB l ≤ 16 := by
  unfold idxB
  repeat (split; omega)
  omega

/-- bounds by which nothing wraps -/
structure BOk (i : Nat) (s : BS) : Prop where
  a0 : 0 ≤ s.alts
  a1 : s.alts ≤ i
  l0 : 0 ≤ s.lit
  l1 : s.lit ≤ i
  d0 : -(i : Int) ≤ s.depth
  d1 : s.depth ≤ i
  st : s.start ≤ i
  len : s.seen.length = 17
  sn : ∀ j, j < 17 → 0 ≤ s.seen.getD j 0 ∧ s.seen.getD j 0 ≤ i

theorem getD_set (l : List Int) (k j : Nat) (x : Int) : (l.set k x).getD j 0 = if j = k ∧ k < l.length then x else l.getD j 0 := by
  simp only [List.getD_eq_getElem?_getD, List.getElem?_set]
  by_cases e : k = j
  · subst e
    by_cases h : k < l.length <;> simp [h]
  · simp [e, Ne.symm e]

theorem bok_cut {i : Nat} {s s' : BS} (h : BOk i s) (hs : cutB s i = some s') : BOk (i + 1) s' := by
  obtain ⟨a0, a1, l0, l1, d0, d1, st, len, sn⟩ := h
  unfold cutB at hs
  split at hs
  · split at hs
    · cases hs
    · cases hs
      refine ⟨by (try simp) <;> omega, by (try simp) <;> omega, by (try simp) <;> omega, by (try simp) <;> omega, by (try simp) <;> omega, by (try simp) <;> omega, Nat.le_refl _, by simpa using len, fun j hj => ?_⟩
      have hr := idx_range (altOf s i)
      have h1 := sn j hj
      have h2 := sn (idxB (altOf s i)).toNat (by omega)
      show 0 ≤ (s.seen.set _ _).getD j 0 ∧ (s.seen.set _ _).getD j 0 ≤ _
      rw [getD_set]
      split
      · omega
      · omega
  · cases hs
    exact ⟨by (try simp) <;> omega, by (try simp) <;> omega, by (try simp) <;> omega, by (try simp) <;> omega, by (try simp) <;> omega, by (try simp) <;> omega, Nat.le_refl _, len, fun j hj => by have := sn j hj; simp only; omega⟩

theorem bok_step {i : Nat} {s s' : BS} (h : BOk i s) (hs : stepB i s = some s') : BOk (i + 1) s' := by
  have hc := fun h' => bok_cut h h' (s' := s')
  obtain ⟨a0, a1, l0, l1, d0, d1, st, len, sn⟩ := h
  have hs1 : ∀ j, j < 17 → 0 ≤ s.seen.getD j 0 ∧ s.seen.getD j 0 ≤ ((i + 1 : Nat) : Int) := fun j hj => by have := sn j hj; omega
  unfold stepB at hs
  split at hs
  · split at hs
    · split at hs <;> (cases hs; exact ⟨a0, by (try simp) <;> omega, l0, by (try simp) <;> omega, by (try simp) <;> omega, by (try simp) <;> omega, by (try simp) <;> omega, len, hs1⟩)
    · split at hs
      · cases hs; exact ⟨a0, by (try simp) <;> omega, l0, by (try simp) <;> omega, by (try simp) <;> omega, by (try simp) <;> omega, by (try simp) <;> omega, len, hs1⟩
      · split at hs
        · cases hs; exact ⟨a0, by (try simp) <;> omega, l0, by (try simp) <;> omega, by (try simp) <;> omega, by (try simp) <;> omega, by (try simp) <;> omega, len, hs1⟩
        · split at hs
          · cases hs; exact ⟨a0, by (try simp) <;> omega, l0, by (try simp) <;> omega, by (try simp) <;> omega, by (try simp) <;> omega, by (try simp) <;> omega, len, hs1⟩
          · split at hs
            · cases hs; exact ⟨a0, by (try simp) <;> omega, l0, by (try simp) <;> omega, by (try simp) <;> omega, by (try simp) <;> omega, by (try simp) <;> omega, len, hs1⟩
            · exact hc hs
  · exact hc hs

end Go.Proofs.Qxb6600443a
