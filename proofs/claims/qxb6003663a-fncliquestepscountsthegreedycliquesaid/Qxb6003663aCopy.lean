import Derived.Test.Qxb6003663aReads2
namespace Go.Proofs.Qxb6003663a
open Go.RowKit
set_option linter.unusedVariables false
set_option linter.unusedSimpArgs false

theorem info33 : (Try.prog.info? 33).map (fun i => (i.zero, i.size, i.bytes)) = some (some (.slice none 0 0), 1, 24) := by kernel_rfl
theorem info21 : (Try.prog.info? 21).map (fun i => (i.zero, i.size, i.bytes)) = some (some (.int .i32 0), 1, 4) := by kernel_rfl
theorem size21 : (Try.prog.info? 21).map (·.size) = some 1 := by kernel_rfl

/-- The first k rows have been copied: block g holds the outer row. -/
def CopyInv (w : World) (g : Nat) (E : List (List Int)) (k : Nat) (wr : World) : Prop :=
  Below g w wr ∧ ∃ f, wr.rowIs g 33 E.length f ∧ (∀ t, t < k → NIds wr (g + 1) wr.heap.size E.length (f t) ((toG E).getD t [])) ∧ ∀ t, k ≤ t → f t = .slice none 0 0

theorem copy_start (w : World) (E : List (List Int)) : CopyInv w w.heap.size E 0 (w.alloc (.cells (madeCells #[.slice none 0 0] E.length) 33)) :=
  ⟨(Below.refl _ _).alloc (Nat.le_refl _) _, _, World.rowIs_made w _ _ _, fun t ht => absurd ht (by omega), fun _ _ => rfl⟩

theorem copy_skip {w wr : World} {g : Nat} {E : List (List Int)} {k : Nat} (h : CopyInv w g E k wr) (he : E.getD k [] = []) : CopyInv w g E (k + 1) wr := by
  obtain ⟨hb, f, hf, h1, h2⟩ := h
  refine ⟨hb, f, hf, fun t ht => ?_, fun t ht => h2 t (by omega)⟩
  by_cases e : t = k
  · subst e
    rw [h2 t (Nat.le_refl _), toG_getD, he]
    exact NIds.nil _ _ _ _
  · exact h1 t (by omega)

theorem copy_row {w wr w2 : World} {g : Nat} {E : List (List Int)} {k : Nat} (h : CopyInv w g E k wr) (hk : k < E.length) (hin : InR E.length (E.getD k [])) (hm : (E.getD k []).length ≤ maxLen)
    (hb : Below wr.heap.size wr w2) (hr : w2.heap[wr.heap.size]? = some (.cells ((E.getD k []).map (Value.int .i32)).toArray 21 (0, 0))) :
    CopyInv w g E (k + 1) (w2.setCell ⟨g, k, none⟩ (.slice (some ⟨wr.heap.size, 0, none⟩) (E.getD k []).length (E.getD k []).length)) := by
  obtain ⟨hbw, f, hf, h1, h2⟩ := h
  have hlt := hf.lt
  have hs2 : wr.heap.size < w2.heap.size := (Array.getElem?_eq_some_iff.1 hr).1
  have hf2 : w2.rowIs g 33 E.length f := hf.of_block (hb.block g hlt)
  refine ⟨(hbw.trans (hb.mono (by omega))).setCell (by simp) _, _, hf2.set k _, fun t ht => ?_, fun t ht => ?_⟩
  · by_cases e : t = k
    · subst e
      simp only [if_true]
      rw [toG_getD]
      refine ⟨some ⟨wr.heap.size, 0, none⟩, _, by rw [List.length_map], by simp, hm, fun j hj => ?_, (fun h => by cases h), ?_⟩
      · rw [getD_toNat]
        have := hin j (by simpa using hj)
        omega
      · right
        refine ⟨wr.heap.size, 0, rfl, by omega, by simpa using hs2, fun j hj => ?_⟩
        rw [World.cell?_setCell_other _ _ _ _ (by intro h; injection h; omega), getD_toNat]
        simp only [List.length_map] at hj
        have := hin j hj
        rw [Int.toNat_of_nonneg this.1]
        generalize hl : E.getD t [] = l at *
        simp [World.cell?, hr, hj]
    · rw [if_neg e]
      have hk' : Kept (g + 1) wr.heap.size wr (w2.setCell ⟨g, k, none⟩ (.slice (some ⟨wr.heap.size, 0, none⟩) (E.getD k []).length (E.getD k []).length)) :=
        (Kept.of_below hb).set (Or.inl (by simp)) _
      exact ((h1 t (by omega)).keep hk').mono (Nat.le_refl _) (by simp; omega)
  · rw [if_neg (by omega)]; exact h2 t (by omega)

theorem tot_take_le (E : List (List Int)) (k : Nat) : tot (E.take k) ≤ tot E := by
  induction E generalizing k with
  | nil => simp
  | cons l r ih => cases k with
    | zero => simp [tot]
    | succ k => simp only [List.take_succ_cons, tot]; have := ih k; omega

theorem made_row (w : World) (z : Value) (n : Nat) (Z : List Value) (hZ : Z = List.replicate n z) (t : TypeId) : (w.alloc (.cells (madeCells #[z] n) t)).heap[w.heap.size]? = some (.cells Z.toArray t (0, 0)) := by
  rw [heap_alloc_new]
  congr 2
  subst hZ
  apply Array.ext
  · simp [madeCells]
  · intro i h1 h2; simp [madeCells, Nat.mod_one]

theorem below_size {B : Nat} {w w' : World} (h : Below B w w') : w.heap.size ≤ w'.heap.size := h.size

set_option maxHeartbeats 1000000 in
theorem copy_any (E : List (List Int)) (w : World) (lo hi b off cap : Nat) (hc : E.length ≤ cap) (hm : cap ≤ maxLen) (hpos : 0 < E.length) (hF : Fits E) (hin : AllIn E.length E)
    (hhi : hi ≤ w.heap.size) (hbh : b < hi)
    (hrow : ∀ i, i < E.length → ∃ u, w.cell? ⟨b, off + i, none⟩ = some u ∧ Ids w lo hi u (E.getD i [])) :
    Calls Try.prog 13 #[.slice (some ⟨b, off, none⟩) E.length cap] w fun e w' => e = .returned (.slice (some ⟨w.heap.size, 0, none⟩) E.length E.length) ∧ CopyInv w w.heap.size E E.length w' := by
  unfold Fits at hF
  unfold maxLen at hm
  have hmk := run_make_row' (P := Try.prog) 22 33 (.slice none 0 0) 24 Try.underlying22 info33 rfl .i64 .i64 E.length (by omega) (by omega)
  have hq1 := fun a l c w => Go.Lib.run_eql_slice_nil (P := Try.prog) w 22 33 a l c 0 0 Try.underlying22
  go_enter Try.func13, Try.ntmps13
  go_wp2
  go_loopw [4] (fun i wr => ∃ k : Nat, k ≤ E.length ∧ i = .int .i64 k ∧ CopyInv w w.heap.size E k wr) (fun i _ => E.length - (intOf i).toNat)
  case atStart => exact ⟨0, Nat.zero_le _, rfl, copy_start w E⟩
  case round =>
    obtain ⟨k, hk, rfl, hinv⟩ := hrel
    by_cases hlt : k < E.length
    · obtain ⟨u, hu, hid⟩ := hrow k hlt
      have hbw := hinv.1
      obtain ⟨f, hf, _⟩ := hinv.2
      have hcf := hf.cell hlt
      have hff := hf.frozen k
      have hgl := hf.lt
      have hu' : wr.cell? ⟨b, off + k, none⟩ = some u := (hbw.cell (by simp; omega)).trans hu
      have hid' : Ids wr lo hi u (E.getD k []) := hid.keep (Kept.of_below (hbw.mono hhi))
      have hink := hin k hlt
      have hlen : (E.getD k []).length ≤ 1048576 := by
        have h1 := tot_take_succ E k hlt
        have h2 := tot_take_le E (k + 1)
        omega
      obtain ⟨l, hl⟩ : ∃ l, l = E.getD k [] := ⟨_, rfl⟩
      rw [← hl] at hid' hink hlen
      have HL : Hid (l = E.getD k []) := hl
      clear hl hu hid hrow hin
      obtain ⟨ao, cap', rfl, h2, h3, h32, h4⟩ := hid'
      cases ao with
      | none =>
        have hl0 : l = [] := by rcases h4 with h4 | ⟨_, _, h, _⟩; exact h4; cases h
        have R := copy_skip hinv (HL.out.symm.trans hl0)
        clear h4 hl0 hink h32 hf hbw hinv
        go_wp2
        go_roundw
        case rel => exact ⟨k + 1, by omega, by go_num, R⟩
        case measure => simp [intOf]; omega
      | some ad =>
        have hmk2 := run_make_row' (P := Try.prog) 33 21 (.int .i32 0) 4 Try.underlying33 info21 rfl .i64 .i64 l.length (by omega) (by omega)
        have hH : Hid (CopyInv w w.heap.size E k wr) := hinv
        have hI : Hid (InR E.length l) := hink
        have h4' : Hid (l = [] ∨ ∃ b off, some ad = some ⟨b, off, none⟩ ∧ lo ≤ b ∧ b < hi ∧ ∀ j, j < l.length → wr.cell? ⟨b, off + j, none⟩ = some (.int .i32 (l.getD j 0))) := h4
        have hbl : b < wr.heap.size := by omega
        obtain ⟨Z, hZ⟩ : ∃ Z : List Value, Z = List.replicate l.length (.int .i32 0) := ⟨_, rfl⟩
        obtain ⟨cs, hcs⟩ : ∃ cs : List Value, cs = l.map (Value.int .i32) := ⟨_, rfl⟩
        have H1 : Hid ((wr.alloc (Obj.cells (madeCells #[Value.int IntKind.i32 0] l.length) 21)).heap[wr.heap.size]? = some (.cells Z.toArray 21 (0, 0))) := made_row _ _ _ _ hZ _
        have H2 : Hid (Below wr.heap.size wr (wr.alloc (Obj.cells (madeCells #[Value.int IntKind.i32 0] l.length) 21))) := (Below.refl _ _).alloc (Nat.le_refl _) _
        have H3 : Hid (cs.length = l.length ∧ Z.length = l.length ∧ splice Z 0 cs = cs ∧ (∀ v ∈ cs, v.oneCell' = true)) := by
          subst hcs; subst hZ; exact ⟨by simp, by simp, by simp [splice], by simp [Value.oneCell']⟩
        have H4 : Hid (0 < cs.length → ∃ a', (some ad = some a') ∧ ∀ j v, cs[j]? = some v → (wr.alloc (Obj.cells (madeCells #[Value.int IntKind.i32 0] l.length) 21)).cell? (a'.add j) = some v) := by
          intro hp
          rcases h4 with h4 | ⟨b', off', hb', _, hb2, hcell⟩
          · subst h4; subst hcs; simp at hp
          · refine ⟨_, hb', fun j v hj => ?_⟩
            rw [Addr.add_lit, World.cell?_alloc_lt _ _ _ (by simp; omega)]
            subst hcs
            rw [List.getElem?_map] at hj
            obtain ⟨x, hx, rfl⟩ := Option.map_eq_some_iff.1 hj
            have hjl : j < l.length := (List.getElem?_eq_some_iff.1 hx).1
            rw [hcell j hjl, List.getD_eq_getElem?_getD, hx]; rfl
        have HC : Hid (cs = l.map (Value.int .i32)) := hcs
        clear hinv hink h4 h32 hZ hcs
        go_wp2_with (refine wpList_copy_splice rfl (.tmp 28) (.tmp 32) 33 33 rfl 21 Try.underlying33 size21 _ _ _ _ _ _ rfl rfl wr.heap.size 0 Z 21 H1.out cs ?c1 ?c2 ?c3 H3.out.2.2.2 wr.heap.size wr H2.out (Nat.le_refl _) ?_)
        case c1 => have := H3.out.1; simp [Nat.min_def]; omega
        case c2 => intro hp; obtain ⟨a', ha, hc'⟩ := H4.out hp; cases ha; exact hc'
        case c3 => have := H3.out; omega
        intro w2 HG2 hB2
        have R := copy_row hH.out hlt (by rw [← HL.out]; exact hI.out) (by rw [← HL.out]; unfold maxLen; omega) hB2 (by rw [← HL.out, ← HC.out]; have := HG2.out; rw [H3.out.2.2.1] at this; exact this)
        rw [← HL.out] at R
        have hcf2 : w2.cell? ⟨w.heap.size, k, none⟩ = some (f k) := (hB2.cell (by simp; omega)).trans hcf
        have hff2 : w2.frozen? ⟨w.heap.size, k, none⟩ = false := (hB2.frozen (by simp; omega)).trans hff
        clear HG2 hB2 H1 H2 H3 H4 hcf hff hf
        go_wp2
        go_roundw
        case rel => exact ⟨k + 1, by omega, by go_num, R⟩
        case measure => simp [intOf]; omega
    · have e : k = E.length := by omega
      subst e
      go_wp2
      go_ret
      exact ⟨rfl, hinv⟩

theorem copied {w w' : World} {E : List (List Int)} (h : CopyInv w w.heap.size E E.length w') (hm : E.length ≤ maxLen) :
    NGrid w' w.heap.size w'.heap.size E.length (.slice (some ⟨w.heap.size, 0, none⟩) E.length E.length) (toG E) ∧ Below w.heap.size w w' := by
  obtain ⟨hb, f, hf, h1, _⟩ := h
  refine ⟨⟨w.heap.size, 0, E.length, by rw [toG_length], by rw [toG_length]; exact Nat.le_refl _, hm, Nat.le_refl _, hf.lt, fun i hi => ?_⟩, hb⟩
  rw [toG_length] at hi
  exact ⟨f i, by simpa using hf.cell hi, (h1 i hi).mono (by omega) (Nat.le_refl _)⟩

end Go.Proofs.Qxb6003663a
