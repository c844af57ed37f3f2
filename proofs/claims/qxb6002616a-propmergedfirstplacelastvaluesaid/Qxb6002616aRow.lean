import Derived.Test.Qxb6002616aBase
namespace Go.Proofs.Qxb6002616a
open Go.RowKit
set_option linter.unusedVariables false
set_option linter.unusedSimpArgs false

def flat : List Ent → List Value
  | [] => []
  | e :: L => .string e.1 :: .int .i64 e.2 :: flat L

theorem flat_len : ∀ L : List Ent, (flat L).length = L.length * 2
  | [] => rfl
  | e :: L => by simp only [flat, List.length_cons, flat_len L]; omega
theorem flat_append : ∀ A B : List Ent, flat (A ++ B) = flat A ++ flat B
  | [], B => rfl
  | e :: A, B => by simp [flat, flat_append A B]
theorem flat_take : ∀ (L : List Ent) (k : Nat), flat (L.take k) = (flat L).take (k * 2)
  | [], k => by simp [flat]
  | e :: L, 0 => by simp [flat]
  | e :: L, k + 1 => by rw [show (k + 1) * 2 = k * 2 + 1 + 1 by omega]; simp [flat, flat_take L k]
theorem flat_drop : ∀ (L : List Ent) (k : Nat), flat (L.drop k) = (flat L).drop (k * 2)
  | [], k => by simp [flat]
  | e :: L, 0 => by simp [flat]
  | e :: L, k + 1 => by rw [show (k + 1) * 2 = k * 2 + 1 + 1 by omega]; simp [flat, flat_drop L k]
theorem flat_at0 : ∀ (L : List Ent) (k : Nat), k < L.length → (flat L)[k * 2]? = some (.string (key L k))
  | e :: L, 0, _ => by simp [flat, key]
  | e :: L, k + 1, h => by
    have := flat_at0 L k (by simpa using h)
    rw [show (k + 1) * 2 = k * 2 + 1 + 1 by omega]; simpa [flat, key] using this
theorem flat_at1 : ∀ (L : List Ent) (k : Nat), k < L.length → (flat L)[k * 2 + 1]? = some (.int .i64 (val L k))
  | e :: L, 0, _ => by simp [flat, val]
  | e :: L, k + 1, h => by
    have := flat_at1 L k (by simpa using h)
    rw [show (k + 1) * 2 + 1 = k * 2 + 1 + 1 + 1 by omega]; simpa [flat, val] using this
theorem flat_set1 : ∀ (L : List Ent) (k : Nat) (x : Int), (flat L).set (k * 2 + 1) (.int .i64 x) = flat (L.set k (key L k, x))
  | [], k, x => by simp [flat]
  | e :: L, 0, x => by simp [flat, key]
  | e :: L, k + 1, x => by
    have := flat_set1 L k x
    rw [show (k + 1) * 2 + 1 = k * 2 + 1 + 1 + 1 by omega]; simpa [flat, key] using this
theorem flat_set0 : ∀ (L : List Ent) (k : Nat) (s : ByteArray), (flat L).set (k * 2) (.string s) = flat (L.set k (s, val L k))
  | [], k, x => by simp [flat]
  | e :: L, 0, x => by simp [flat, val]
  | e :: L, k + 1, x => by
    have := flat_set0 L k x
    rw [show (k + 1) * 2 = k * 2 + 1 + 1 by omega]; simpa [flat, val] using this
theorem flat_put (L : List Ent) (k : Nat) (e : Ent) (h : k < L.length) : (flat L).take (k * 2) ++ [.string e.1, .int .i64 e.2] ++ (flat L).drop (k * 2 + 2) = flat (L.set k e) := by
  rw [show k * 2 + 2 = (k + 1) * 2 by omega, ← flat_take, ← flat_drop, show [Value.string e.1, .int .i64 e.2] = flat [e] from rfl, ← flat_append, ← flat_append]
  congr 1
  rw [List.set_eq_take_append_cons_drop, if_pos h]
  simp

/-- block g is the row of the entries L, whole -/
def Row (w : World) (g : Nat) (t : TypeId) (L : List Ent) : Prop := w.heap[g]? = some (.cells (flat L).toArray t (0, 0))

section
variable {w w' : World} {g : Nat} {t : TypeId} {L : List Ent}
theorem Row.c0 (h : Row w g t L) {k : Nat} (hk : k < L.length) : w.cell? ⟨g, k * 2, none⟩ = some (.string (key L k)) := by
  unfold Row at h
  have := flat_at0 L k hk
  simp [World.cell?, h, this]
theorem Row.c1 (h : Row w g t L) {k : Nat} (hk : k < L.length) : w.cell? ⟨g, k * 2 + 1, none⟩ = some (.int .i64 (val L k)) := by
  unfold Row at h
  have := flat_at1 L k hk
  simp [World.cell?, h, this]
theorem Row.fr (h : Row w g t L) (k : Nat) : w.frozen? ⟨g, k, none⟩ = false := by unfold Row at h; simp [World.frozen?, h]
theorem Row.lt (h : Row w g t L) : g < w.heap.size := (Array.getElem?_eq_some_iff.1 h).1
theorem Row.of (h : Row w g t L) (e : w'.heap[g]? = w.heap[g]?) : Row w' g t L := e.trans h
theorem Row.below {B : Nat} (h : Row w g t L) (hb : Below B w w') (hg : g < B) : Row w' g t L := h.of (hb.block g hg)
theorem Row.alloc (h : Row w g t L) (o : Obj) : Row (w.alloc o) g t L := h.of (Below.heap_alloc _ _ _ h.lt)
theorem Row.other (h : Row w g t L) {a : Addr} (ha : g ≠ a.block) (v : Value) : Row (w.setCell a v) g t L := h.of (Below.heap_setCell _ _ _ _ ha)
theorem Row.drewN (h : Row w g t L) (k : Nat) : Row (w.drewN k) g t L := h
theorem Row.set1 (h : Row w g t L) (k : Nat) (x : Int) : Row (w.setCell ⟨g, k * 2 + 1, none⟩ (.int .i64 x)) g t (L.set k (key L k, x)) := by
  unfold Row at *
  rw [← flat_set1]
  simp [World.setCell, Array.getElem?_modify, h]
theorem Row.set0 (h : Row w g t L) (k : Nat) (s : ByteArray) : Row (w.setCell ⟨g, k * 2, none⟩ (.string s)) g t (L.set k (s, val L k)) := by
  unfold Row at *
  rw [← flat_set0]
  simp [World.setCell, Array.getElem?_modify, h]
end

theorem key_set (L : List Ent) (i j : Nat) (e : Ent) (h : i < L.length) : key (L.set i e) j = if i = j then e.1 else key L j := by
  unfold key
  rw [List.getD_eq_getElem?_getD, List.getElem?_set, List.getD_eq_getElem?_getD]
  by_cases e' : i = j
  · subst e'; simp [h]
  · simp [e']

/-- both cells of the k-th entry -/
theorem Row.set2 {w : World} {g : Nat} {t : TypeId} {L : List Ent} (h : Row w g t L) {k : Nat} (hk : k < L.length) (s : ByteArray) (x : Int) :
    Row ((w.setCell ⟨g, k * 2, none⟩ (.string s)).setCell ⟨g, k * 2 + 1, none⟩ (.int .i64 x)) g t (L.set k (s, x)) := by
  have := (h.set0 k s).set1 k x
  rw [key_set _ _ _ _ hk, if_pos rfl, List.set_set] at this
  exact this

/-- what make lays -/
def zeroE : Ent := (⟨#[]⟩, 0)
theorem made_flat : ∀ n, (madeCells #[.string ⟨#[]⟩, .int .i64 0] (n * 2)).toList = flat (List.replicate n zeroE) := by
  intro n
  apply List.ext_getElem?
  intro j
  have h1 : (madeCells #[Value.string ⟨#[]⟩, .int .i64 0] (n * 2)).toList[j]? = if j < n * 2 then some ((#[Value.string ⟨#[]⟩, .int .i64 0] : Array Value)[j % 2]!) else none := by
    simp only [madeCells, Array.toList_map, Array.toList_range, List.getElem?_map, List.getElem?_range']
    by_cases h : j < n * 2
    · simp [h]
    · simp [h]
  rw [h1]
  by_cases h : j < n * 2
  · rw [if_pos h]
    have hj : j = (j / 2) * 2 + j % 2 := by omega
    have hq : j / 2 < (List.replicate n zeroE).length := by simp; omega
    rcases Nat.mod_two_eq_zero_or_one j with h0 | h0
    · have := flat_at0 _ _ hq
      rw [show j / 2 * 2 = j by omega] at this
      rw [this, h0]
      have hk : key (List.replicate n zeroE) (j / 2) = ⟨#[]⟩ := by
        unfold key; rw [List.getD_eq_getElem?_getD, List.getElem?_replicate, if_pos (by omega)]; rfl
      rw [hk]; rfl
    · have := flat_at1 _ _ hq
      rw [show j / 2 * 2 + 1 = j by omega] at this
      rw [this, h0]
      have hk : val (List.replicate n zeroE) (j / 2) = 0 := by
        unfold val; rw [List.getD_eq_getElem?_getD, List.getElem?_replicate, if_pos (by omega)]; rfl
      rw [hk]; rfl
  · rw [if_neg h, List.getElem?_eq_none (by rw [flat_len]; simp; omega)]

theorem info27 : (Try.prog.info? 27).map (fun i => (i.zero, i.size, i.bytes)) = some (some (.agg #[.string ⟨#[]⟩, .int .i64 0]), 2, 24) := by kernel_rfl
theorem info26 : (Try.prog.info? 26).map (fun i => (i.zero, i.size, i.bytes)) = some (some (.agg #[.string ⟨#[]⟩, .int .i64 0]), 2, 24) := by kernel_rfl

theorem make_any (n : Nat) (hn : n ≤ 1048576) (w : World) :
    (Instr.makeSlice 24 (.int .i64 (n : Int)) (.int .i64 (n : Int))).run Try.prog w = .ok (.slice (some ⟨w.heap.size, 0, none⟩) n n) (w.alloc (.cells (flat (List.replicate n zeroE)).toArray 27)) := by
  obtain ⟨i, hi, hzz⟩ := Option.map_eq_some_iff.1 info27
  simp only [Prod.mk.injEq] at hzz
  obtain ⟨hz, hs, hb⟩ := hzz
  have hr := run_make (P := Try.prog) w 24 27 i _ Try.underlying24 hi hz .i64 .i64 n n (by omega) (Int.le_refl _) (by rw [hb]; omega) (by omega)
  simp only [Int.toNat_natCast, hs] at hr
  rw [hr]
  have : madeCells (Value.agg #[.string ⟨#[]⟩, .int .i64 0]).cells (n * 2) = (flat (List.replicate n zeroE)).toArray := by
    have h := made_flat n
    rw [← h]; rfl
  rw [this]

theorem row_made (w : World) (n : Nat) : Row (w.alloc (.cells (flat (List.replicate n zeroE)).toArray 27)) w.heap.size 27 (List.replicate n zeroE) := Go.Deep.blk_alloc_new _ _

end Go.Proofs.Qxb6002616a
