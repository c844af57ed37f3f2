import Derived.Test.Qxb6002616aFind
import Derived.Maps.Own
import Derived.Maps.OwnSet
import Derived.Maps.Views
namespace Go.Proofs.Qxb6002616a
open Go.RowKit
set_option linter.unusedVariables false
set_option linter.unusedSimpArgs false

def ix (L : List Ent) (s : List UInt8) : Nat := L.findIdx (fun x => x.1.toList == s)
def put (L : List Ent) (e : Ent) : List Ent := if ix L e.1.toList < L.length then L.set (ix L e.1.toList) (key L (ix L e.1.toList), e.2) else L ++ [e]
def acc (es : List Ent) (k : Nat) : List Ent := (es.take k).foldl put []

theorem acc_zero (es : List Ent) : acc es 0 = [] := by simp [acc]
theorem acc_succ {es : List Ent} {k : Nat} (h : k < es.length) : acc es (k + 1) = put (acc es k) (es.getD k e0) := by
  have : es.take (k + 1) = es.take k ++ [es.getD k e0] := by
    rw [List.take_add_one, List.getElem?_eq_getElem h, List.getD_eq_getElem?_getD, List.getElem?_eq_getElem h]; rfl
  unfold acc
  rw [this, List.foldl_append]; rfl

theorem ix_le (L : List Ent) (s : List UInt8) : ix L s ≤ L.length := List.findIdx_le_length
theorem ix_at {L : List Ent} {s : List UInt8} (h : ix L s < L.length) : (key L (ix L s)).toList = s := by
  have := List.findIdx_getElem (w := h)
  unfold ix at h
  unfold key ix
  rw [List.getD_eq_getElem?_getD, List.getElem?_eq_getElem h]
  simpa using this
theorem ix_before {L : List Ent} {s : List UInt8} {j : Nat} (h : j < ix L s) : (key L j).toList ≠ s := by
  have hj : j < L.length := Nat.lt_of_lt_of_le h (ix_le L s)
  have := List.not_of_lt_findIdx h
  unfold key
  rw [List.getD_eq_getElem?_getD, List.getElem?_eq_getElem hj]
  simpa using this
theorem ix_eq {L : List Ent} {s : List UInt8} {r : Nat} (hr : r ≤ L.length) (h1 : ∀ j, j < r → (key L j).toList ≠ s) (h2 : r < L.length → (key L r).toList = s) : ix L s = r := by
  rcases Nat.lt_trichotomy (ix L s) r with h | h | h
  · exact absurd (ix_at (Nat.lt_of_lt_of_le h hr)) (h1 _ h)
  · exact h
  · exact absurd (h2 (Nat.lt_of_lt_of_le h (ix_le L s))) (ix_before h)

theorem key_take (L : List Ent) (m j : Nat) (h : j < m) : key (L.take m) j = key L j := by
  unfold key; rw [List.getD_eq_getElem?_getD, List.getElem?_take, if_pos h, List.getD_eq_getElem?_getD]

/-- the whole array behind k rounds: its first m entries are the answer so far, its last ones stand as they came -/
structure MS (es : List Ent) (k m : Nat) (M : List Ent) : Prop where
  len : M.length = es.length
  ml : m = (acc es k).length
  mle : m ≤ k
  tk : M.take m = acc es k
  dr : ∀ j, k ≤ j → key M j = key es j ∧ val M j = val es j

theorem ms_start (es : List Ent) : MS es 0 0 es := ⟨rfl, by simp [acc_zero], Nat.le_refl _, by simp [acc_zero], fun _ _ => ⟨rfl, rfl⟩⟩

theorem getD_set {L : List Ent} {i j : Nat} {e : Ent} (h : i ≠ j) : (L.set i e).getD j e0 = L.getD j e0 := by
  rw [List.getD_eq_getElem?_getD, List.getElem?_set, if_neg h, List.getD_eq_getElem?_getD]

theorem ms_ix {es M : List Ent} {k m r : Nat} (h : MS es k m M) (hk : k < es.length) (hr : r ≤ m) (h1 : ∀ j, j < r → (key M j).toList ≠ (key es k).toList) (h2 : r < m → (key M r).toList = (key es k).toList) :
    ix (acc es k) (key es k).toList = r := by
  have hl : (acc es k).length = m := h.ml.symm
  refine ix_eq (by omega) (fun j hj => ?_) (fun hh => ?_)
  · rw [← h.tk, key_take _ _ _ (by omega)]; exact h1 j hj
  · rw [← h.tk, key_take _ _ _ (by omega)]; exact h2 (by omega)

theorem ms_old {es M : List Ent} {k m r : Nat} (h : MS es k m M) (hk : k < es.length) (hr : r < m) (hi : ix (acc es k) (key es k).toList = r) :
    MS es (k + 1) m (M.set r (key M r, val es k)) := by
  have hl : (acc es k).length = m := h.ml.symm
  have ha : acc es (k + 1) = (acc es k).set r (key M r, val es k) := by
    rw [acc_succ hk]
    unfold put
    have e1 : ix (acc es k) (es.getD k e0).1.toList = r := hi
    rw [e1, if_pos (by omega)]
    congr 2
    rw [← h.tk, key_take _ _ _ hr]
  have hmk := h.mle
  refine ⟨by rw [List.length_set]; exact h.len, by rw [ha, List.length_set]; exact h.ml, by omega, ?_, fun j hj => ?_⟩
  · rw [ha, ← h.tk, List.take_set]
  · unfold key val
    rw [getD_set (by omega)]
    exact h.dr j (by omega)

theorem ms_new {es M : List Ent} {k m : Nat} (h : MS es k m M) (hk : k < es.length) (hi : ix (acc es k) (key es k).toList = m) :
    MS es (k + 1) (m + 1) (M.set m (key es k, val es k)) := by
  have hl : (acc es k).length = m := h.ml.symm
  have hmk := h.mle
  have hlen := h.len
  have ha : acc es (k + 1) = acc es k ++ [(key es k, val es k)] := by
    rw [acc_succ hk]
    unfold put
    have e1 : ix (acc es k) (es.getD k e0).1.toList = m := hi
    rw [e1, if_neg (by omega)]
    rfl
  refine ⟨by rw [List.length_set]; exact h.len, by rw [ha, List.length_append, hl]; rfl, by omega, ?_, fun j hj => ?_⟩
  · rw [ha, ← h.tk, List.take_add_one, List.take_set_of_le (Nat.le_refl _), List.getElem?_set, if_pos rfl, if_pos (by omega)]; rfl
  · unfold key val
    rw [getD_set (by omega)]
    exact h.dr j (by omega)

/-! the map beside it -/
open Maps in
structure Mp (D : DataW Unit) (L : List Ent) : Prop where
  is : IsMap D
  has : ∀ s, has D (.string s) = decide (ix L s < L.length)
  at' : ∀ s, ix L s < L.length → ∀ z, D.atKey (.string s) z = .lit (.int .i64 (ix L s : Int))

open Maps in
theorem mp_start : Mp (.map []) [] := ⟨by first | exact ⟨_, rfl⟩ | trivial, fun s => by simp [Maps.has, ix], fun s h => by simp [ix] at h⟩

theorem key_snoc_lt {L : List Ent} {e : Ent} {j : Nat} (h : j < L.length) : key (L ++ [e]) j = key L j := by
  unfold key; rw [List.getD_eq_getElem?_getD, List.getElem?_append_left h, List.getD_eq_getElem?_getD]
theorem key_snoc_eq (L : List Ent) (e : Ent) : key (L ++ [e]) L.length = e.1 := by
  unfold key; rw [List.getD_eq_getElem?_getD, List.getElem?_append_right (Nat.le_refl _)]; simp
theorem ix_snoc (L : List Ent) (e : Ent) (s : List UInt8) : ix (L ++ [e]) s = if ix L s < L.length then ix L s else if e.1.toList = s then L.length else L.length + 1 := by
  have hl : (L ++ [e]).length = L.length + 1 := by simp
  have hle := ix_le L s
  by_cases h : ix L s < L.length
  · rw [if_pos h]
    exact ix_eq (by omega) (fun j hj => by rw [key_snoc_lt (by omega)]; exact ix_before hj) (fun _ => by rw [key_snoc_lt h]; exact ix_at h)
  · rw [if_neg h]
    have hb : ∀ j, j < L.length → (key (L ++ [e]) j).toList ≠ s := fun j hj => by rw [key_snoc_lt hj]; exact ix_before (by omega)
    by_cases h2 : e.1.toList = s
    · rw [if_pos h2]
      exact ix_eq (by omega) hb (fun _ => by rw [key_snoc_eq]; exact h2)
    · rw [if_neg h2]
      refine ix_eq (by omega) (fun j hj => ?_) (fun h' => absurd h' (by omega))
      by_cases e' : j = L.length
      · subst e'; rw [key_snoc_eq]; exact h2
      · exact hb j (by omega)

theorem ix_set (L : List Ent) (r : Nat) (x : Int) (s : List UInt8) : ix (L.set r (key L r, x)) s = ix L s := by
  have hl : (L.set r (key L r, x)).length = L.length := List.length_set
  have hk : ∀ j, key (L.set r (key L r, x)) j = key L j := by
    intro j
    by_cases hr : r < L.length
    · rw [key_set _ _ _ _ hr]; split
      · subst r; rfl
      · rfl
    · rw [List.set_eq_of_length_le (by omega)]
  refine ix_eq (by rw [hl]; exact ix_le _ _) (fun j hj => by rw [hk]; exact ix_before hj) (fun h => by rw [hk]; exact ix_at (by rw [hl] at h; exact h))

theorem mp_old {D : DataW Unit} {L : List Ent} (h : Mp D L) (r : Nat) (x : Int) : Mp D (L.set r (key L r, x)) :=
  ⟨h.is, fun s => by rw [h.has, ix_set, List.length_set], fun s hs z => by rw [ix_set, List.length_set] at hs; rw [ix_set]; exact h.at' s hs z⟩

theorem mp_new {D : DataW Unit} {L : List Ent} {e : Ent} (h : Mp D L) (hi : ix L e.1.toList = L.length) : Mp (D.put (.string e.1.toList) (.lit (.int .i64 (L.length : Int)))) (L ++ [e]) := by
  refine ⟨?_, fun s => ?_, fun s hs z => ?_⟩
  · exact Maps.IsMap.put h.is _ _
  · by_cases es : s = e.1.toList
    · subst es
      rw [Maps.has_put_same h.is (by simp [WideAt.IsKeyLit]), ix_snoc, hi]
      simp
    · rw [Maps.has_put_other (by simpa using es), h.has, ix_snoc]
      have hle := ix_le L s
      by_cases h1 : ix L s < L.length
      · simp [h1]; omega
      · simp [h1, Ne.symm es]
  · by_cases es : s = e.1.toList
    · subst es
      rw [Maps.atKey_put_same h.is (by simp [WideAt.IsKeyLit]), ix_snoc, hi]
      simp
    · rw [ix_snoc] at hs ⊢
      by_cases h1 : ix L s < L.length
      · simp only [if_pos h1]
        rw [Maps.atKey_put_other (by simpa using es)]
        exact h.at' s h1 z
      · simp [h1, Ne.symm es] at hs

end Go.Proofs.Qxb6002616a
