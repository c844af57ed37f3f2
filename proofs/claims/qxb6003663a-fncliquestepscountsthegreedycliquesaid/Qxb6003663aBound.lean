import Derived.Test.Qxb6003663aVert
import Derived.Deep.QuietTactic
import Derived.BigQuiet
import Derived.BigRegion
import Derived.Deep.RegionWith
import Derived.Deep.DeepCutAuto
import Derived.Deep.LoopGhost
import Derived.Deep.DeepMust
namespace Go.Proofs.Qxb6003663a
open Go.RowKit
set_option linter.unusedVariables false
set_option linter.unusedSimpArgs false

theorem info56 : (Try.prog.info? 56).map (fun i => (i.zero, i.size, i.bytes)) = some (some (.slice none 0 0), 1, 24) := by kernel_rfl
theorem info3 : (Try.prog.info? 3).map (fun i => (i.zero, i.size, i.bytes)) = some (some (.int .i64 0), 1, 8) := by kernel_rfl

/-- Block S is a stepBound, its fields in their order. -/
def SB (w : World) (S : Nat) (ev wv : Value) (lim : Int) (rv : Value) (work : Int) (lv ov pv qv nv cv bv av : Value) (mark : Int) : Prop :=
  w.heap[S]? = some (.cells #[ev, wv, .int .i64 lim, rv, .int .i64 work, lv, ov, pv, qv, nv, cv, bv, av, .int .i64 mark] 59 (0, 0))

section
variable {w : World} {S : Nat} {ev wv : Value} {lim : Int} {rv : Value} {work : Int} {lv ov pv qv nv cv bv av : Value} {mark : Int}
theorem SB.c0 (h : SB w S ev wv lim rv work lv ov pv qv nv cv bv av mark) : w.cell? ⟨S, 0, none⟩ = some ev := by unfold SB at h; simp [World.cell?, h]
theorem SB.c1 (h : SB w S ev wv lim rv work lv ov pv qv nv cv bv av mark) : w.cell? ⟨S, 1, none⟩ = some wv := by unfold SB at h; simp [World.cell?, h]
theorem SB.c2 (h : SB w S ev wv lim rv work lv ov pv qv nv cv bv av mark) : w.cell? ⟨S, 2, none⟩ = some (.int .i64 lim) := by unfold SB at h; simp [World.cell?, h]
theorem SB.c4 (h : SB w S ev wv lim rv work lv ov pv qv nv cv bv av mark) : w.cell? ⟨S, 4, none⟩ = some (.int .i64 work) := by unfold SB at h; simp [World.cell?, h]
theorem SB.c5 (h : SB w S ev wv lim rv work lv ov pv qv nv cv bv av mark) : w.cell? ⟨S, 5, none⟩ = some lv := by unfold SB at h; simp [World.cell?, h]
theorem SB.c6 (h : SB w S ev wv lim rv work lv ov pv qv nv cv bv av mark) : w.cell? ⟨S, 6, none⟩ = some ov := by unfold SB at h; simp [World.cell?, h]
theorem SB.c7 (h : SB w S ev wv lim rv work lv ov pv qv nv cv bv av mark) : w.cell? ⟨S, 7, none⟩ = some pv := by unfold SB at h; simp [World.cell?, h]
theorem SB.c8 (h : SB w S ev wv lim rv work lv ov pv qv nv cv bv av mark) : w.cell? ⟨S, 8, none⟩ = some qv := by unfold SB at h; simp [World.cell?, h]
theorem SB.c9 (h : SB w S ev wv lim rv work lv ov pv qv nv cv bv av mark) : w.cell? ⟨S, 9, none⟩ = some nv := by unfold SB at h; simp [World.cell?, h]
theorem SB.c10 (h : SB w S ev wv lim rv work lv ov pv qv nv cv bv av mark) : w.cell? ⟨S, 10, none⟩ = some cv := by unfold SB at h; simp [World.cell?, h]
theorem SB.c11 (h : SB w S ev wv lim rv work lv ov pv qv nv cv bv av mark) : w.cell? ⟨S, 11, none⟩ = some bv := by unfold SB at h; simp [World.cell?, h]
theorem SB.c12 (h : SB w S ev wv lim rv work lv ov pv qv nv cv bv av mark) : w.cell? ⟨S, 12, none⟩ = some av := by unfold SB at h; simp [World.cell?, h]
theorem SB.c13 (h : SB w S ev wv lim rv work lv ov pv qv nv cv bv av mark) : w.cell? ⟨S, 13, none⟩ = some (.int .i64 mark) := by unfold SB at h; simp [World.cell?, h]
theorem SB.fr (h : SB w S ev wv lim rv work lv ov pv qv nv cv bv av mark) (i : Nat) : w.frozen? ⟨S, i, none⟩ = false := by unfold SB at h; simp [World.frozen?, h]
theorem SB.lt (h : SB w S ev wv lim rv work lv ov pv qv nv cv bv av mark) : S < w.heap.size := (Array.getElem?_eq_some_iff.1 h).1
theorem SB.of {w' : World} (h : SB w S ev wv lim rv work lv ov pv qv nv cv bv av mark) (e : w'.heap[S]? = w.heap[S]?) : SB w' S ev wv lim rv work lv ov pv qv nv cv bv av mark := e.trans h
theorem SB.off (h : SB w S ev wv lim rv work lv ov pv qv nv cv bv av mark) {a : Addr} (ha : S ≠ a.block) (v : Value) : SB (w.setCell a v) S ev wv lim rv work lv ov pv qv nv cv bv av mark := h.of (Below.heap_setCell _ _ _ _ ha)
theorem SB.alloc (h : SB w S ev wv lim rv work lv ov pv qv nv cv bv av mark) (o : Obj) : SB (w.alloc o) S ev wv lim rv work lv ov pv qv nv cv bv av mark := h.of (Below.heap_alloc _ _ _ h.lt)
theorem SB.s4 (h : SB w S ev wv lim rv work lv ov pv qv nv cv bv av mark) (x : Int) : SB (w.setCell ⟨S, 4, none⟩ (.int .i64 x)) S ev wv lim rv x lv ov pv qv nv cv bv av mark := by unfold SB at *; simp [World.setCell, Array.getElem?_modify, h]
theorem SB.s5 (h : SB w S ev wv lim rv work lv ov pv qv nv cv bv av mark) (x : Value) : SB (w.setCell ⟨S, 5, none⟩ x) S ev wv lim rv work x ov pv qv nv cv bv av mark := by unfold SB at *; simp [World.setCell, Array.getElem?_modify, h]
theorem SB.s6 (h : SB w S ev wv lim rv work lv ov pv qv nv cv bv av mark) (x : Value) : SB (w.setCell ⟨S, 6, none⟩ x) S ev wv lim rv work lv x pv qv nv cv bv av mark := by unfold SB at *; simp [World.setCell, Array.getElem?_modify, h]
theorem SB.s7 (h : SB w S ev wv lim rv work lv ov pv qv nv cv bv av mark) (x : Value) : SB (w.setCell ⟨S, 7, none⟩ x) S ev wv lim rv work lv ov x qv nv cv bv av mark := by unfold SB at *; simp [World.setCell, Array.getElem?_modify, h]
theorem SB.s8 (h : SB w S ev wv lim rv work lv ov pv qv nv cv bv av mark) (x : Value) : SB (w.setCell ⟨S, 8, none⟩ x) S ev wv lim rv work lv ov pv x nv cv bv av mark := by unfold SB at *; simp [World.setCell, Array.getElem?_modify, h]
theorem SB.s9 (h : SB w S ev wv lim rv work lv ov pv qv nv cv bv av mark) (x : Value) : SB (w.setCell ⟨S, 9, none⟩ x) S ev wv lim rv work lv ov pv qv x cv bv av mark := by unfold SB at *; simp [World.setCell, Array.getElem?_modify, h]
theorem SB.s10 (h : SB w S ev wv lim rv work lv ov pv qv nv cv bv av mark) (x : Value) : SB (w.setCell ⟨S, 10, none⟩ x) S ev wv lim rv work lv ov pv qv nv x bv av mark := by unfold SB at *; simp [World.setCell, Array.getElem?_modify, h]
theorem SB.s11 (h : SB w S ev wv lim rv work lv ov pv qv nv cv bv av mark) (x : Value) : SB (w.setCell ⟨S, 11, none⟩ x) S ev wv lim rv work lv ov pv qv nv cv x av mark := by unfold SB at *; simp [World.setCell, Array.getElem?_modify, h]
theorem SB.s12 (h : SB w S ev wv lim rv work lv ov pv qv nv cv bv av mark) (x : Value) : SB (w.setCell ⟨S, 12, none⟩ x) S ev wv lim rv work lv ov pv qv nv cv bv x mark := by unfold SB at *; simp [World.setCell, Array.getElem?_modify, h]
theorem SB.s13 (h : SB w S ev wv lim rv work lv ov pv qv nv cv bv av mark) (x : Int) : SB (w.setCell ⟨S, 13, none⟩ (.int .i64 x)) S ev wv lim rv work lv ov pv qv nv cv bv av x := by unfold SB at *; simp [World.setCell, Array.getElem?_modify, h]
end

end Go.Proofs.Qxb6003663a
