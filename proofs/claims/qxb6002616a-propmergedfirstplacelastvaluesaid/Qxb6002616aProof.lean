import Derived.Test.Qxb6002616aLaw
import Derived.WalkKit
import Derived.ProofKit
import Derived.OpenShut
import Derived.ShutString
import Derived.ChangeOld
import Derived.Below
import Derived.Carry
import Derived.Deep.SlicePairs
namespace Go.Proofs.Qxb6002616a.propMergedFirstPlaceLastValue
open Go.ChangeShapes Go.WideShapes Go.ChangeAt Go.RowKit
open Go.ChangeMaps (open_string shut_string)
set_option linter.unusedVariables false

theorem own : ownKnob Try.prog.godebug = none := by kernel_rfl
theorem laidOut : laidOutB Try.prog = true := by kernel_rfl
theorem cells26 : Try.prog.cellsOf 26 = 2 := by kernel_rfl
theorem cells9 : Try.prog.cellsOf 9 = 1 := by kernel_rfl
theorem cells3 : Try.prog.cellsOf 3 = 1 := by kernel_rfl

def strOf : Value → ByteArray
  | .string s => s
  | _ => ⟨#[]⟩
def numOf : Value → Int
  | .int _ n => n
  | _ => 0
def esOf (V0 V1 : Nat → Value) (len : Nat) : List Ent := (List.range len).map fun i => (strOf (V0 i), numOf (V1 i))
theorem esOf_at {V0 V1 : Nat → Value} {len i : Nat} (h : i < len) : (esOf V0 V1 len).getD i e0 = (strOf (V0 i), numOf (V1 i)) := by
  simp [esOf, List.getD_eq_getElem?_getD, h]

theorem addr_of {w : World} {a : Addr} {v : Value} (h : w.cell? (a.add 0) = some v) : ∃ b off, a = ⟨b, off, none⟩ ∧ b < w.heap.size := by
  obtain ⟨b, off, spot⟩ := a
  have hspot : spot = none := by simpa [Addr.add] using World.cell?_spot h
  subst hspot
  exact ⟨b, off, rfl, by have := World.block_lt_of_cell? _ _ h; simpa [Addr.add] using this⟩

theorem ins_open {w : World} {a : Addr} {len cap : Nat} {V0 V1 : Nat → Value} (hl : len ≤ cap) (hm : cap ≤ maxLen)
    (h : ∀ i, i < len → w.cell? (a.add (i * 2)) = some (V0 i) ∧ w.cell? (a.add (i * 2 + 1)) = some (V1 i) ∧ (∃ s : ByteArray, V0 i = .string s ∧ s.size ≤ maxLen) ∧ ∃ n, V1 i = .int .i64 n) :
    Ins w w.heap.size (.slice (some a) len cap) (esOf V0 V1 len) ∧ ∀ j, (key (esOf V0 V1 len) j).size ≤ maxLen := by
  have hlen : (esOf V0 V1 len).length = len := by simp [esOf]
  refine ⟨⟨some a, cap, by rw [hlen], by rw [hlen]; exact hl, hm, ?_⟩, fun j => ?_⟩
  · rcases Nat.eq_zero_or_pos len with h0 | h0
    · left; exact List.eq_nil_of_length_eq_zero (by rw [hlen]; exact h0)
    · right
      obtain ⟨b, off, rfl, hb⟩ := addr_of (h 0 h0).1
      refine ⟨b, off, rfl, hb, fun j hj => ?_⟩
      rw [hlen] at hj
      obtain ⟨h1, h2, ⟨s, h3, _⟩, n, h4⟩ := h j hj
      rw [Addr.add_lit] at h1 h2
      rw [← Nat.add_assoc] at h2
      rw [h1, h2]
      unfold key val
      rw [esOf_at hj, h3, h4]
      exact ⟨rfl, rfl⟩
  · by_cases hj : j < len
    · obtain ⟨h1, h2, ⟨s, h3, h5⟩, n, h4⟩ := h j hj
      unfold key
      rw [esOf_at hj, h3]
      exact h5
    · unfold key
      rw [List.getD_eq_getElem?_getD, List.getElem?_eq_none (by rw [hlen]; omega)]
      exact Nat.zero_le _

set_option maxRecDepth 100000 in
theorem lifted (os : Os) (started : os.Started) (H : Type) (enc : TypeId × Value → H) :
    ReturnsInHanded {} Try.checked os 3 .any (Rows.propMergedFirstPlaceLastValueSpec.pre6 enc Try.prog Try.f3 Rows.propMergedFirstPlaceLastValueRow.domain false) (Rows.propMergedFirstPlaceLastValueSpec.post enc Try.prog Try.f3 false true false false) := by
  refine returnsInHanded_of_change (C := Try.checked) own started (by kernel_rfl) Try.func3
    (ChangeSpec.witness6 (enc := enc) (C := Try.checked) false ⟨#[], #[.slice none 0 0], []⟩ 8 (by kernel_rfl) (by kernel_rfl) (by kernel_rfl) (by kernel_rfl)) ?_
  intro W base args ds gs before hval0 hW hcnd _
  have hval : ∀ (j : Nat) t v, Try.f3.params[j]? = some t → args[j]? = some v → Value.okWide Try.prog W .any base t v := hval0
  have hW' := hW
  obtain ⟨p, q, hA0, hV, rfl, hfz, hnd⟩ := hW
  have hA : DataW.TrodAll enc Try.prog W 0 (fun _ => true) true Try.f3.params.toList args.toList ds p := hA0
  rw [Try.params3] at hA hval
  obtain ⟨v0, vs0, d0, ds0, p0, q0, hargs, rfl, rfl, h0, r0⟩ := trodAll_cons hA
  obtain ⟨rfl, rfl, rfl⟩ := trodAll_nil r0
  obtain rfl : args = #[v0] := by cases args; simp_all
  obtain ⟨rfl, rfl⟩ := trodVars_none hV
  obtain ⟨a0, len0, cap0, rfl⟩ := okWide_slice Try.underlying22 (hval 0 22 v0 rfl rfl)
  have k0 := h0
  have lt0 : ∀ x ∈ p0, x.block < W.heap.size := by obtain ⟨m, hm⟩ := k0; exact DataW.trod_lt m _ _ _ hm
  obtain ⟨E, hins, hks⟩ : ∃ E, Ins W W.heap.size (.slice a0 len0 cap0) E ∧ ∀ j, (key E j).size ≤ maxLen := by
    obtain ⟨fuel, hf⟩ := h0
    rcases Go.Deep.open_slice_pairs Try.underlying22 Try.underlying26 cells26 rfl rfl cells9 cells3 hf with ⟨hcs, _⟩ | ⟨a, len, cap, m, n, V0, V1, D0, D1, P0, P1, hcs, _, hl, hm, hmm, _, hrow⟩
    · simp [Value.cells] at hcs
      obtain ⟨rfl, rfl, rfl⟩ := hcs
      exact ⟨[], ⟨none, 0, rfl, Nat.le_refl _, Nat.zero_le _, .inl rfl⟩, fun j => Nat.zero_le _⟩
    · simp [Value.cells] at hcs
      obtain ⟨rfl, rfl, rfl⟩ := hcs
      have hlm : len0 ≤ m := by rw [hmm]; split <;> omega
      refine ⟨_, ins_open (V0 := V0) (V1 := V1) hl hm fun i hi => ?_⟩
      obtain ⟨g1, g2, g3, g4⟩ := hrow i (by omega)
      obtain ⟨s, hs, _, hsz⟩ := DataW.trod_string Try.underlying9 g3
      obtain ⟨x, hx, _, _⟩ := DataW.trod_int Try.underlying3 g4
      exact ⟨g1, g2, ⟨s, by simpa using hs, hsz⟩, x, by simpa using hx⟩
  clear hA0 hval0
  refine (law_any W E _ hins hks).mono fun e W' ⟨he, bel⟩ => ?_
  subst he
  exact ⟨_, rfl, _, _, _, [], _, [], hW', trodAll_mk1 (shut_bool Try.underlying4 _), (trodAll_cons_mk (Below.trod laidOut (by kernel_rfl) (of_decide_eq_true (by kernel_rfl)) k0 bel lt0) trodAll_mk0), rfl, bel.frame _, fun h => by cases h⟩

theorem over : Rows.propMergedFirstPlaceLastValueRow.holds Try.pinned (OpenSpec.ofChange Rows.propMergedFirstPlaceLastValueSpec) :=
  OpenClaim.holds_of_wide 3 Try.f3 rfl rfl rfl rfl rfl rfl rfl ⟨rfl, rfl, rfl, rfl, rfl⟩ rfl rfl rfl rfl rfl (by kernel_rfl) Try.func3 (by kernel_rfl)
    (of_decide_eq_true (by kernel_rfl)) (by unfold Func.isWrapper; first | (rw [if_pos (by decide +kernel)]; kernel_rfl) | (rw [if_neg (by decide +kernel)]; exact ⟨rfl, rfl⟩))
    (fun os started H enc _ => lifted os started H enc)

/-- THE STATEMENT -/
theorem proved : Rows.PropMergedFirstPlaceLastValueSaid := over
end Go.Proofs.Qxb6002616a.propMergedFirstPlaceLastValue
