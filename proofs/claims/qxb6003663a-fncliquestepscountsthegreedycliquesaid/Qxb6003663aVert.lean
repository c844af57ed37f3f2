import Derived.Test.Qxb6003663aCopy
namespace Go.Proofs.Qxb6003663a
open Go.RowKit
set_option linter.unusedVariables false
set_option linter.unusedSimpArgs false

theorem info50 : (Try.prog.info? 50).map (fun i => (i.zero, i.size, i.bytes)) = some (some (.int .i32 0), 1, 4) := by kernel_rfl

def VertPost (w : World) (n : Nat) (l : List Nat) (e : Ending) (w' : World) : Prop :=
  ∃ v, e = .returned v ∧ NIds w' w.heap.size w'.heap.size n v l ∧ Below w.heap.size w w'

def VertInv (w : World) (l : List Nat) (k : Nat) (wr : World) : Prop :=
  Below w.heap.size w wr ∧ ∃ f, wr.rowIs w.heap.size 50 l.length f ∧ ∀ t, t < k → f t = .int .i32 ((l.getD t 0 : Nat) : Int)

theorem vert_start (w : World) (l : List Nat) : VertInv w l 0 (w.alloc (.cells (madeCells #[.int .i32 0] l.length) 50)) :=
  ⟨(Below.refl _ _).alloc (Nat.le_refl _) _, _, World.rowIs_made w _ _ _, fun t ht => absurd ht (by omega)⟩

theorem vert_step {w wr : World} {l : List Nat} {k : Nat} (h : VertInv w l k wr) : VertInv w l (k + 1) (wr.setCell ⟨w.heap.size, k, none⟩ (.int .i32 ((l.getD k 0 : Nat) : Int))) := by
  obtain ⟨hb, f, hf, h1⟩ := h
  refine ⟨hb.setCell (by simp) _, _, hf.set k _, fun t ht => ?_⟩
  by_cases e : t = k
  · subst e; simp
  · rw [if_neg e]; exact h1 t (by omega)

theorem vert_done {w wr : World} {l : List Nat} {n : Nat} (h : VertInv w l l.length wr) (hm : l.length ≤ maxLen) (hn : ∀ j, j < l.length → l.getD j 0 < n) :
    VertPost w n l (.returned (.slice (some ⟨w.heap.size, 0, none⟩) l.length l.length)) wr := by
  obtain ⟨hb, f, hf, h1⟩ := h
  refine ⟨_, rfl, ⟨_, _, rfl, Nat.le_refl _, hm, hn, (fun h => by cases h), .inr ⟨_, _, rfl, Nat.le_refl _, hf.lt, fun j hj => ?_⟩⟩, hb⟩
  rw [← h1 j hj]
  simpa using hf.cell hj

set_option maxHeartbeats 1000000 in
theorem vert_any {l : List Nat} {w : World} {lo hi n : Nat} {u : Value} (h : NIds w lo hi n u l) (hl : l.length ≤ 1048576) (hhi : hi ≤ w.heap.size) (hnn : n ≤ 65536) :
    Calls Try.prog 41 #[u] w (VertPost w n l) := by
  obtain ⟨ao, cap, rfl, h2, h3, hx, hy, h4⟩ := h
  unfold maxLen at h3
  have hmk := run_make_row' (P := Try.prog) 56 50 (.int .i32 0) 4 Try.underlying56 info50 rfl .i64 .i64 l.length (by omega) (by omega)
  have hq1 := fun a l c w => Go.Lib.run_eql_slice_nil (P := Try.prog) w 33 21 a l c 0 0 Try.underlying33
  cases ao with
  | none =>
    obtain rfl := hy rfl
    clear h4 hx hy
    go_enter Try.func41, Try.ntmps41
    go_wp2
    go_ret
    exact ⟨_, rfl, NIds.nil _ _ _ _, Below.refl _ _⟩
  | some ad =>
    have H4 : Hid (l = [] ∨ ∃ b off, some ad = some ⟨b, off, none⟩ ∧ lo ≤ b ∧ b < hi ∧ ∀ j, j < l.length → w.cell? ⟨b, off + j, none⟩ = some (.int .i32 ((l.getD j 0 : Nat) : Int))) := h4
    have HX : Hid (∀ j, j < l.length → l.getD j 0 < n) := hx
    clear h4 hx hy
    rcases H4.out with h0 | ⟨b, off, hb, h6, h7, h8⟩
    · have hz : l.length ≤ 0 := by rw [h0]; simp
      clear h0
      go_enter Try.func41, Try.ntmps41
      go_wp2
      go_loopw [4] (fun i wr => ∃ k : Nat, k ≤ l.length ∧ i = .int .i64 k ∧ VertInv w l k wr) (fun i _ => l.length - (intOf i).toNat)
      case atStart => exact ⟨0, Nat.zero_le _, rfl, vert_start w l⟩
      case round =>
        obtain ⟨k, hk, rfl, hinv⟩ := hrel
        have hkl : ¬ k < l.length := by omega
        have R : VertPost w n l (.returned (.slice (some ⟨w.heap.size, 0, none⟩) l.length l.length)) wr := vert_done (by rw [show l.length = k from by omega]; exact hinv) (by unfold maxLen; omega) HX.out
        go_wp2
        go_ret
        exact R
    · cases hb
      go_enter Try.func41, Try.ntmps41
      go_wp2
      go_loopw [4] (fun i wr => ∃ k : Nat, k ≤ l.length ∧ i = .int .i64 k ∧ VertInv w l k wr) (fun i _ => l.length - (intOf i).toNat)
      case atStart => exact ⟨0, Nat.zero_le _, rfl, vert_start w l⟩
      case round =>
        obtain ⟨k, hk, rfl, hinv⟩ := hrel
        by_cases hlt : k < l.length
        · obtain ⟨f, hf, _⟩ := hinv.2
          have hcf := hf.cell hlt
          have hff := hf.frozen k
          have hu' : wr.cell? ⟨b, off + k, none⟩ = some (.int .i32 ((l.getD k 0 : Nat) : Int)) := (hinv.1.cell (by simp; omega)).trans (h8 k hlt)
          have R := vert_step hinv
          obtain ⟨x, hxx⟩ : ∃ x : Nat, x = l.getD k 0 := ⟨_, rfl⟩
          have hxn : x < n := by rw [hxx]; exact HX.out k hlt
          rw [← hxx] at hu' R
          clear hxx hinv hf h8
          go_wp2
          go_roundw
          case rel => exact ⟨k + 1, by omega, by go_num, R⟩
          case measure => simp [intOf]; omega
        · have e : k = l.length := by omega
          subst e
          clear h8
          go_wp2
          go_ret
          exact vert_done hinv (by unfold maxLen; omega) HX.out

end Go.Proofs.Qxb6003663a
