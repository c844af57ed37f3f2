import Derived.Test.Qxb6003663aSelf
import Derived.Test.Qxb6003663aCPlain
import Derived.Maps.AppendAt
namespace Go.Proofs.Qxb6003663a
open Go.RowKit
set_option linter.unusedVariables false
set_option linter.unusedSimpArgs false

def totN : List (List Nat) → Nat
  | [] => 0
  | l :: r => l.length + totN r
theorem totN_take_succ (G : List (List Nat)) (k : Nat) (h : k < G.length) : totN (G.take (k + 1)) = totN (G.take k) + (row G k).length := by
  induction G generalizing k with
  | nil => simp at h
  | cons l r ih =>
    cases k with
    | zero => simp [totN, row]
    | succ k =>
      simp only [List.take_succ_cons, totN]
      rw [ih k (by simpa using h)]
      unfold row
      simp only [List.getD_cons_succ]
      omega
theorem totN_take_le (G : List (List Nat)) (k : Nat) : totN (G.take k) ≤ totN G := by
  induction G generalizing k with
  | nil => simp
  | cons l r ih => cases k with
    | zero => simp [totN]
    | succ k => simp only [List.take_succ_cons, totN]; have := ih k; omega
theorem totN_toG (E : List (List Int)) : totN (toG E) = tot E := by
  induction E with
  | nil => rfl
  | cons l r ih =>
    have : toG (l :: r) = l.map Int.toNat :: toG r := rfl
    rw [this, totN, tot, ih, List.length_map]

/-- the rows as reversed, t edges of row k being done -/
structure RevOk (G : List (List Nat)) (k t : Nat) (R : Nat → List Nat) : Prop where
  mem : ∀ u v, v ∈ R u ↔ (v < k ∧ u ∈ row G v) ∨ (v = k ∧ u ∈ (row G k).take t)
  len : ∀ u, (R u).length ≤ totN (G.take k) + t

def push (R : Nat → List Nat) (x v : Nat) : Nat → List Nat := fun u => if u = x then R x ++ [v] else R u

theorem rev_start (G : List (List Nat)) : RevOk G 0 0 (fun _ => []) := ⟨fun u v => by simp, fun u => by simp⟩
theorem rev_step {G : List (List Nat)} {k t : Nat} {R : Nat → List Nat} (h : RevOk G k t R) (ht : t < (row G k).length) : RevOk G k (t + 1) (push R ((row G k).getD t 0) k) := by
  have e : (row G k).take (t + 1) = (row G k).take t ++ [(row G k).getD t 0] := by
    rw [List.take_add_one, List.getElem?_eq_getElem ht, List.getD_eq_getElem?_getD, List.getElem?_eq_getElem ht]; rfl
  refine ⟨fun u v => ?_, fun u => ?_⟩
  · rw [e]
    unfold push
    by_cases h1 : u = (row G k).getD t 0
    · rw [if_pos h1, ← h1, List.mem_append, h.mem]
      simp only [List.mem_append, List.mem_singleton]
      constructor
      · rintro ((h2 | ⟨h2, h3⟩) | h2)
        · exact .inl h2
        · exact .inr ⟨h2, .inl h3⟩
        · exact .inr ⟨h2, .inr trivial⟩
      · rintro (h2 | ⟨h2, h3 | h3⟩)
        · exact .inl (.inl h2)
        · exact .inl (.inr ⟨h2, h3⟩)
        · exact .inr h2
    · rw [if_neg h1, h.mem]
      simp only [List.mem_append, List.mem_singleton]
      constructor
      · rintro (h2 | ⟨h2, h3⟩)
        · exact .inl h2
        · exact .inr ⟨h2, .inl h3⟩
      · rintro (h2 | ⟨h2, h3 | h3⟩)
        · exact .inl h2
        · exact .inr ⟨h2, h3⟩
        · exact absurd h3 h1
  · unfold push
    have h1 := h.len u
    have h2 := h.len ((row G k).getD t 0)
    split
    · rw [List.length_append, List.length_singleton]; omega
    · omega
theorem rev_next {G : List (List Nat)} {k : Nat} {R : Nat → List Nat} (h : RevOk G k (row G k).length R) (hk : k < G.length) : RevOk G (k + 1) 0 R := by
  refine ⟨fun u v => ?_, fun u => ?_⟩
  · rw [h.mem, List.take_length]
    constructor
    · rintro (⟨h1, h2⟩ | ⟨h1, h2⟩)
      · exact .inl ⟨by omega, h2⟩
      · subst h1; exact .inl ⟨by omega, h2⟩
    · rintro (⟨h1, h2⟩ | ⟨h1, h2⟩)
      · by_cases e : v = k
        · subst e; exact .inr ⟨rfl, h2⟩
        · exact .inl ⟨by omega, h2⟩
      · simp at h2
  · have := h.len u
    rw [totN_take_succ G k hk]; omega
theorem rev_end {G : List (List Nat)} {R : Nat → List Nat} (h : RevOk G G.length 0 R) : ∀ u v, v ∈ R u ↔ u ∈ row G v := by
  intro u v
  rw [h.mem]
  constructor
  · rintro (⟨_, h2⟩ | ⟨_, h2⟩)
    · exact h2
    · simp at h2
  · intro h2
    refine .inl ⟨?_, h2⟩
    rcases Nat.lt_or_ge v G.length with h3 | h3
    · exact h3
    · exfalso
      unfold row at h2
      rw [List.getD_eq_getElem?_getD, List.getElem?_eq_none h3] at h2
      simp at h2

/-- the memory of the reversed rows: block g the outer row, each row a block of its own -/
def RV (w : World) (g n : Nat) (R : Nat → List Nat) (f : Nat → Value) (wr : World) : Prop :=
  Below g w wr ∧ wr.rowIs g 33 n f ∧ (∀ u, u < n → wr.ownsRow (g + 1) 21 1 (f u) (R u).length ((R u).map vtx)) ∧ ∀ u u' q, u < n → u' < n → u ≠ u' → (f u).ownBlock = some q → (f u').ownBlock ≠ some q

theorem rv_start (w : World) (n : Nat) : RV w w.heap.size n (fun _ => []) (fun _ => .slice none 0 0) (w.alloc (.cells (madeCells #[.slice none 0 0] n) 33)) :=
  ⟨(Below.refl _ _).alloc (Nat.le_refl _) _, World.rowIs_made w _ _ _, fun u _ => World.ownsRow_nil _ _ _ _, fun u u' q _ _ _ h => by cases h⟩

theorem rv_push {w wr w2 : World} {g n : Nat} {R : Nat → List Nat} {f : Nat → Value} (h : RV w g n R f wr) {x v : Nat} (hx : x < n) {o : Obj} {v' : Value}
    (hown : w2.ownsRow (g + 1) 21 1 v' ((R x).length + 1) ((R x).map vtx ++ [vtx v])) (hg : (wr.alloc o).grownBy w2 (f x).ownBlock) (hat : v'.ownBlock = (f x).ownBlock ∨ v'.ownBlock = some (wr.alloc o).heap.size) :
    RV w g n (push R x v) (fun u => if u = x then v' else f u) (w2.setCell ⟨g, x, none⟩ v') := by
  obtain ⟨h1, h2, h3, h4⟩ := h
  have hlow : ∀ k, (f x).ownBlock = some k → g + 1 ≤ k := own_low (h3 x hx)
  have hgl := h2.lt
  have hrow : w2.rowIs g 33 n f := (h2.alloc o).of_block (hg.block g (by simp; omega) (fun e => by have := hlow g e.symm; omega))
  refine ⟨((h1.alloc (by omega) o).grown hg (by simp; omega) (fun k hk => by have := hlow k hk; omega)).setCell (Nat.le_refl _) _, hrow.set x _, fun u hu => ?_, fun u u' q hu hu' hne hq => ?_⟩
  · unfold push
    by_cases e : u = x
    · subst e
      simp only [if_true]
      rw [List.length_append, List.length_singleton, List.map_append]
      exact own_set hown (by show g < g + 1; omega) _
    · simp only [if_neg e]
      refine own_set (((h3 u hu).alloc o).kept hg ?_) (by show g < g + 1; omega) _
      cases hq : (f u).ownBlock with
      | none => exact .inl rfl
      | some q => exact .inr (fun e2 => h4 u x q hu hx e hq e2.symm)
  · dsimp only at hq ⊢
    by_cases e : u = x
    · subst e
      simp only [if_true] at hq
      rw [if_neg (Ne.symm hne)]
      intro hq'
      rcases hat with h5 | h5
      · rw [h5] at hq
        exact h4 u u' q hu hu' hne hq hq'
      · rw [h5] at hq
        have h6 := ((h3 u' hu').lt q hq').2
        have h7 : (wr.alloc o).heap.size = wr.heap.size + 1 := by simp
        have h8 := Option.some.inj hq
        omega
    · rw [if_neg e] at hq
      by_cases e' : u' = x
      · subst e'
        rw [if_pos rfl]
        intro hq'
        rcases hat with h5 | h5
        · rw [h5] at hq'
          exact h4 u u' q hu hu' hne hq hq'
        · rw [h5] at hq'
          have h6 := ((h3 u hu).lt q hq).2
          have h7 : (wr.alloc o).heap.size = wr.heap.size + 1 := by simp
          have h8 := Option.some.inj hq'
          omega
      · rw [if_neg e']; exact h4 u u' q hu hu' hne hq

theorem own_opt2 {w : World} {base : Nat} {e : TypeId} {size : Nat} {v : Value} {m : Nat} {xs : List Value} (h : w.ownsRow base e size v m xs) : ∃ ao cap, v = .slice ao m cap ∧ cap ≤ maxLen ∧ m ≤ cap := by
  obtain ⟨hl, ⟨rfl, rfl⟩ | ⟨g, cap, cur, rfl, hb, _, h1, h2, _⟩⟩ := h
  · exact ⟨none, 0, rfl, by simp [maxLen], Nat.le_refl _⟩
  · exact ⟨_, cap, rfl, h2, h1⟩

/-- what zzReverse answers -/
def RevPost (w : World) (n : Nat) (G : List (List Nat)) (e : Ending) (w' : World) : Prop :=
  ∃ H : List (List Nat), e = .returned (.slice (some ⟨w.heap.size, 0, none⟩) n n) ∧ Below w.heap.size w w' ∧ H.length = n ∧ (∀ u v, u < n → (v ∈ row H u ↔ u ∈ row G v)) ∧ (∀ u, (row H u).length ≤ totN G) ∧ NGrid w' w.heap.size w'.heap.size n (.slice (some ⟨w.heap.size, 0, none⟩) n n) H ∧ w.heap.size < w'.heap.size

theorem rv_done {w wr : World} {n : Nat} {G : List (List Nat)} {R : Nat → List Nat} {f : Nat → Value} (h : RV w w.heap.size n R f wr) (hr : RevOk G n 0 R) (hG : G.length = n) (hn : n ≤ maxLen) :
    RevPost w n G (.returned (.slice (some ⟨w.heap.size, 0, none⟩) n n)) wr := by
  obtain ⟨h1, h2, h3, h4⟩ := h
  rw [← hG] at hr
  have hm := rev_end hr
  rw [hG] at hr
  have hrow : ∀ u, u < n → row ((List.range n).map R) u = R u := fun u hu => by simp [row, List.getD_eq_getElem?_getD, hu]
  refine ⟨(List.range n).map R, rfl, h1, by simp, fun u v hu => by rw [hrow u hu]; exact hm u v, fun u => ?_, ?_, h2.lt⟩
  · by_cases hu : u < n
    · rw [hrow u hu]
      have := hr.len u
      have h5 := totN_take_le G n
      omega
    · simp [row, List.getD_eq_getElem?_getD, hu]
  · refine ⟨w.heap.size, 0, n, by simp, by simp, hn, Nat.le_refl _, h2.lt, fun i hi => ?_⟩
    simp only [List.length_map, List.length_range] at hi
    refine ⟨f i, by simpa using h2.cell hi, ?_⟩
    have e := hrow i hi
    unfold row at e
    rw [e]
    have ho := h3 i hi
    obtain ⟨hl, hh⟩ := id ho
    rcases hh with ⟨hv, h0⟩ | ⟨q, cap, cur, hv, hb, hq, hc1, hc2, hc3, hc4⟩
    · have : R i = [] := List.eq_nil_of_length_eq_zero h0
      rw [hv, this]; exact NIds.nil _ _ _ _
    · refine ⟨some ⟨q, 0, none⟩, cap, hv, hc1, hc2, fun j hj => ?_, (fun h => by cases h), .inr ⟨q, 0, rfl, by omega, (Array.getElem?_eq_some_iff.1 hq).1, fun j hj => ?_⟩⟩
      · have hmem : (R i).getD j 0 ∈ R i := by rw [List.getD_eq_getElem?_getD, List.getElem?_eq_getElem hj]; exact List.getElem_mem hj
        rcases (hr.mem i _).1 hmem with ⟨h5, _⟩ | ⟨_, h6⟩
        · exact h5
        · simp at h6
      · have h5 : cur[j]? = some (vtx ((R i).getD j 0)) := by
          have h6 : (cur.toList.take ((R i).length * 1))[j]? = some (vtx ((R i).getD j 0)) := by
            rw [hc4, List.getElem?_map, List.getD_eq_getElem?_getD, List.getElem?_eq_getElem hj]; rfl
          rw [List.getElem?_take, if_pos (by omega)] at h6
          simpa using h6
        simp [World.cell?, hq, h5, vtx]

set_option maxRecDepth 100000 in
set_option maxHeartbeats 2000000 in
theorem rev_any {w : World} {lo hi n b : Nat} {G : List (List Nat)} (hgl : G.length = n) (hpos : 0 < n) (hn : n ≤ 65536) (htot : totN G ≤ 1048576) (hb : b < w.heap.size) (hhi : hi ≤ w.heap.size)
    (hat : ∀ i, i < n → ∃ u, w.cell? ⟨b, 0 + i, none⟩ = some u ∧ NIds w lo hi n u (G.getD i [])) :
    Calls Try.prog 14 #[.slice (some ⟨b, 0, none⟩) n n] w (RevPost w n G) := by
  have hmk := run_make_row' (P := Try.prog) 22 33 (.slice none 0 0) 24 Try.underlying22 info33 rfl .i64 .i64 n (by omega) (by omega)
  have HAT := hid hat
  have HGL := hid hgl
  have START := hid (rv_start w n)
  obtain ⟨g, hg⟩ : ∃ g, g = w.heap.size := ⟨_, rfl⟩
  have HG := hid hg
  have hbg : b < g := by omega
  have hhg : hi ≤ g := by omega
  have DONE := hid (fun (wr : World) (R : Nat → List Nat) (f : Nat → Value) (h : RV w w.heap.size n R f wr) (hr : RevOk G n 0 R) => rv_done h hr hgl (by unfold maxLen; omega))
  rw [← hg] at START DONE
  obtain ⟨i0, hi0, hz0, hz1, hz2⟩ := info_parts info21
  clear hat hgl hg
  go_enter Try.func14, Try.ntmps14
  go_wp2_with fail
  rw [← HG.out]
  go_loopg [4] n (fun gk kv wr => ∃ k R f, gk = n - k ∧ k ≤ n ∧ kv = .int .i64 (k : Int) ∧ RV w g n R f wr ∧ RevOk G k 0 R)
  case atStart => exact ⟨0, _, _, rfl, Nat.zero_le _, rfl, START.out, rev_start G⟩
  case round =>
    obtain ⟨k, R, f, rfl, hk, rfl, hrv, hok⟩ := hrel
    by_cases hlt : k < n
    · obtain ⟨u, hu, hids⟩ := HAT.out k hlt
      rw [Nat.zero_add] at hu
      have hu' : wr.cell? ⟨b, k, none⟩ = some u := (hrv.1.cell (by exact hbg)).trans hu
      have hids' := hids.keep (Kept.of_below (hrv.1.mono (by omega)))
      obtain ⟨ao, cap, rfl, h2, h3, h5, h6, h7⟩ := hids
      unfold maxLen at h3
      obtain ⟨l, hl⟩ : ∃ l, l = G.getD k [] := ⟨_, rfl⟩
      rw [← hl] at h2 h5 h6 h7 hu'
      have HL := hid (show l = row G k from hl)
      have H5 := hid h5
      have H7 := hid h7
      have HRV := hid hrv
      have HOK := hid hok
      clear hl h5 h6 h7 hu hids' hrv hok
      go_wp2_with fail
      go_loopg [21] l.length (fun gk tv wr => ∃ t R f, gk = l.length - t ∧ t ≤ l.length ∧ tv = .int .i64 (t : Int) ∧ RV w g n R f wr ∧ RevOk G k t R)
      case atStart => exact ⟨0, R, f, rfl, Nat.zero_le _, rfl, HRV.out, HOK.out⟩
      case round =>
        obtain ⟨t, R, f, rfl, ht, rfl, hrv, hok⟩ := hrel
        by_cases htl : t < l.length
        · rcases H7.out with h0 | ⟨b3, off3, hao, h71, h72, h73⟩
          · rw [h0] at htl; simp at htl
          subst hao
          have hc1 : wr.cell? ⟨b3, off3 + t, none⟩ = some (.int .i32 ((l.getD t 0 : Nat) : Int)) := (hrv.1.cell (by show b3 < g; omega)).trans (h73 t htl)
          have hxn := H5.out t htl
          have hlen := hok.len (l.getD t 0)
          have htt := totN_take_succ G k (by rw [HGL.out]; exact hlt)
          have htt2 := totN_take_le G (k + 1)
          have hlr : (row G k).length = l.length := by rw [HL.out]
          have ROK := hid (rev_step hok (by rw [← HL.out]; exact htl))
          rw [← HL.out] at ROK
          obtain ⟨x, hx⟩ : ∃ x, x = l.getD t 0 := ⟨_, rfl⟩
          rw [← hx] at hc1 hxn hlen ROK
          have hcf := hrv.2.1.cell hxn
          have hff := hrv.2.1.frozen x
          obtain ⟨lx, hlx⟩ : ∃ lx, lx = (R x).length := ⟨_, rfl⟩
          rw [← hlx] at hlen
          have hlx2 : lx ≤ 1048576 := by omega
          have hown := hrv.2.2.1 x hxn
          rw [← hlx] at hown
          obtain ⟨a2, c2, hfx, hcap2, hmc2⟩ := own_opt2 hown
          have hgs := hrv.2.1.lt
          have HRV2 := hid hrv
          have HLX := hid hlx
          have HOWN := hid hown
          have HFX := hid hfx
          rw [hfx] at hcf
          unfold maxLen at hcap2
          have HST := hid (fun (o : Obj) (w2 : World) (hg : (wr.alloc o).grownBy w2 (Value.slice a2 lx c2).ownBlock) => by
            have h1 : w2.heap[g]? = wr.heap[g]? := (hg.block g (by simp; omega) (fun e => by have := own_low hown g (by rw [hfx]; exact e.symm); omega)).trans (Below.heap_alloc _ _ _ hgs)
            exact And.intro ((World.cell?_of_block (a := ⟨g, x, none⟩) h1).trans hcf) ((World.frozen?_of_block (a := ⟨g, x, none⟩) h1).trans hff))
          have RP := hid (fun (o : Obj) (w2 : World) (v' : Value) (h1 : w2.ownsRow (g + 1) 21 1 v' (lx + 1) ((R x).map vtx ++ [vtx k])) (hg : (wr.alloc o).grownBy w2 (Value.slice a2 lx c2).ownBlock) (hat : v'.ownBlock = (Value.slice a2 lx c2).ownBlock ∨ v'.ownBlock = some (wr.alloc o).heap.size) =>
            rv_push HRV2.out (v := k) hxn (by rw [← HLX.out]; exact h1) (by rw [HFX.out]; exact hg) (by rw [HFX.out]; exact hat))
          clear hx hlx hown hrv hok htt htt2 hlr hlen h73 hfx
          go_wp2_with (at_builtin; refine wpList_append_own_at _ rfl _ _ 33 rfl (g + 1) 21 i0 (.int .i32 0) 1 4 Try.underlying33 hi0 hz0 hz1 hz2 rfl (by decide) _ _ _ rfl (by rw [← HFX.out]; exact HOWN.out.alloc _) ⟨wr.heap.size, 0, none⟩ 1 1 [.int .i32 (k : Int)] rfl rfl (cell_one_new _ _ _) (one_one _ _) (by unfold maxLen; omega) (by omega) (by simp; omega) ?_; intro v' w2 hown' hgrow2 hnil2 hat2; have RR := hid (RP.out _ w2 v' hown' hgrow2 hat2); have st := HST.out _ w2 hgrow2; obtain ⟨st1, st2⟩ := st; obtain ⟨a3, c3, hv3, hc3, hm3⟩ := own_opt2 hown'; subst hv3; clear hown' hgrow2 hnil2 hat2)
          go_roundg (l.length - (t + 1))
          case measure => omega
          case rel => exact ⟨t + 1, _, _, rfl, by omega, by go_num, RR.out, ROK.out⟩
        · have e : t = l.length := by omega
          subst e
          have HRV2 := hid hrv
          have ROK := hid (rev_next (by rw [← HL.out]; exact hok) (by rw [HGL.out]; exact hlt))
          clear hrv hok
          go_wp2_with fail
          go_roundg (n - (k + 1))
          case measure => omega
          case rel => exact ⟨k + 1, _, _, rfl, by omega, by go_num, HRV2.out, ROK.out⟩
    · have e : k = n := by omega
      subst e
      have D := hid (DONE.out wr R f hrv hok)
      clear hrv hok
      go_wp2_with fail
      go_ret
      exact D.out

end Go.Proofs.Qxb6003663a
