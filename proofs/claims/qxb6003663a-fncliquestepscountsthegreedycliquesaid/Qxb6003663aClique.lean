import Derived.Test.Qxb6003663aGreedy
import Derived.Test.Qxb6003663aMul
import Derived.Test.Qxb6003663aNew2
import Derived.Deep.Upon
namespace Go.Proofs.Qxb6003663a
open Go.RowKit
set_option linter.unusedVariables false
set_option linter.unusedSimpArgs false

/-- a stepBound as cliqueSteps sees it, all but the candidates' array -/
structure CB (S B n : Nat) (lim : Int) (G H : List (List Nat)) (bl wt : Nat → Int) (cv : Value) (work mark : Int) (rv lv ov pv qv nv : Value) (w : World) : Prop where
  sb : SB w S (.slice (some ⟨S + 1, 0, none⟩) n n) (.slice (some ⟨S + 1 + 1, 0, none⟩) n n) lim rv work lv ov pv qv nv cv (.slice (some ⟨B + 3, 0, none⟩) n n) (.slice (some ⟨B + 4, 0, none⟩) n n) mark
  eg : NGrid w (S + 1) B n (.slice (some ⟨S + 1, 0, none⟩) n n) G
  wg : NGrid w (S + 1) B n (.slice (some ⟨S + 1 + 1, 0, none⟩) n n) H
  rb : w.rowIs (B + 3) 3 n (fun i => .int .i64 (bl i))
  rw' : w.rowIs (B + 4) 3 n (fun i => .int .i64 (wt i))
  lt : S + 3 ≤ B
  sz : B + 5 ≤ w.heap.size

section
variable {S B n : Nat} {lim : Int} {G H : List (List Nat)} {bl wt : Nat → Int} {cv : Value} {work mark : Int} {rv lv ov pv qv nv : Value} {w : World}
theorem CB.drewN (h : CB S B n lim G H bl wt cv work mark rv lv ov pv qv nv w) (k : Nat) : CB S B n lim G H bl wt cv work mark rv lv ov pv qv nv (w.drewN k) := ⟨h.sb, h.eg, h.wg, h.rb, h.rw', h.lt, h.sz⟩
theorem CB.drew (h : CB S B n lim G H bl wt cv work mark rv lv ov pv qv nv w) : CB S B n lim G H bl wt cv work mark rv lv ov pv qv nv w.drew := ⟨h.sb, h.eg, h.wg, h.rb, h.rw', h.lt, h.sz⟩
theorem CB.setB {l : List Nat} {t : Nat} {x : Int} (h : CB S B n lim G H (mkm bl (l.take t) x) wt cv work mark rv lv ov pv qv nv w) (ht : t < l.length) : CB S B n lim G H (mkm bl (l.take (t + 1)) x) wt cv work mark rv lv ov pv qv nv (w.setCell ⟨B + 3, l.getD t 0, none⟩ (.int .i64 x)) := by
  have h1 := h.lt
  exact ⟨h.sb.off (by simp; omega) _, h.eg.keep ((Kept.refl _ _ _).set (Or.inr (by simp)) _), h.wg.keep ((Kept.refl _ _ _).set (Or.inr (by simp)) _), (h.rb.set _ _).congr (fun j _ => by rw [← mkm_step ht]; split <;> rfl), h.rw'.setOther (by simp) _, h1, by simp; exact h.sz⟩
theorem CB.setW {l : List Nat} {t : Nat} {x : Int} (h : CB S B n lim G H bl (mkm wt (l.take t) x) cv work mark rv lv ov pv qv nv w) (ht : t < l.length) : CB S B n lim G H bl (mkm wt (l.take (t + 1)) x) cv work mark rv lv ov pv qv nv (w.setCell ⟨B + 4, l.getD t 0, none⟩ (.int .i64 x)) := by
  have h1 := h.lt
  exact ⟨h.sb.off (by simp; omega) _, h.eg.keep ((Kept.refl _ _ _).set (Or.inr (by simp)) _), h.wg.keep ((Kept.refl _ _ _).set (Or.inr (by simp)) _), h.rb.setOther (by simp) _, (h.rw'.set _ _).congr (fun j _ => by rw [← mkm_step ht]; split <;> rfl), h1, by simp; exact h.sz⟩
theorem CB.setMark (h : CB S B n lim G H bl wt cv work mark rv lv ov pv qv nv w) (x : Int) : CB S B n lim G H bl wt cv work x rv lv ov pv qv nv (w.setCell ⟨S, 13, none⟩ (.int .i64 x)) := by
  have h1 := h.lt
  exact ⟨h.sb.s13 x, h.eg.keep ((Kept.refl _ _ _).set (Or.inl (by simp)) _), h.wg.keep ((Kept.refl _ _ _).set (Or.inl (by simp)) _), h.rb.setOther (by simp; omega) _, h.rw'.setOther (by simp; omega) _, h1, by simp; exact h.sz⟩
theorem CB.setWork (h : CB S B n lim G H bl wt cv work mark rv lv ov pv qv nv w) (x : Int) : CB S B n lim G H bl wt cv x mark rv lv ov pv qv nv (w.setCell ⟨S, 4, none⟩ (.int .i64 x)) := by
  have h1 := h.lt
  exact ⟨h.sb.s4 x, h.eg.keep ((Kept.refl _ _ _).set (Or.inl (by simp)) _), h.wg.keep ((Kept.refl _ _ _).set (Or.inl (by simp)) _), h.rb.setOther (by simp; omega) _, h.rw'.setOther (by simp; omega) _, h1, by simp; exact h.sz⟩
theorem CB.setCand (h : CB S B n lim G H bl wt cv work mark rv lv ov pv qv nv w) (x : Value) : CB S B n lim G H bl wt x work mark rv lv ov pv qv nv (w.setCell ⟨S, 10, none⟩ x) := by
  have h1 := h.lt
  exact ⟨h.sb.s10 x, h.eg.keep ((Kept.refl _ _ _).set (Or.inl (by simp)) _), h.wg.keep ((Kept.refl _ _ _).set (Or.inl (by simp)) _), h.rb.setOther (by simp; omega) _, h.rw'.setOther (by simp; omega) _, h1, by simp; exact h.sz⟩
theorem CB.below (h : CB S B n lim G H bl wt cv work mark rv lv ov pv qv nv w) {w' : World} (hk : ∀ k, k < B + 5 → w'.heap[k]? = w.heap[k]?) (hs : w.heap.size ≤ w'.heap.size) : CB S B n lim G H bl wt cv work mark rv lv ov pv qv nv w' := by
  have h1 := h.lt
  exact ⟨h.sb.of (hk S (by omega)), h.eg.keep (fun k _ h2 => hk k (by omega)), h.wg.keep (fun k _ h2 => hk k (by omega)), h.rb.of_block (hk _ (by omega)), h.rw'.of_block (hk _ (by omega)), h1, Nat.le_trans h.sz hs⟩
end

/-! ### append(b.candidates[:0], b.edges[r]...) -/
theorem run_append_all (w : World) (ty : TypeId) (base : Nat) (ao0 : Option Addr) (cap0 : Nat) (hown : w.ownsRow base 50 1 (.slice ao0 0 cap0) 0 []) (ax : Option Addr) (l : List Nat) (cx : Nat) (hl : l.length ≤ 1048576)
    (hx : 0 < l.length → ∃ b' off', ax = some ⟨b', off', none⟩ ∧ ∀ j, j < l.length → w.cell? ⟨b', off' + j, none⟩ = some (.int .i32 ((l.getD j 0 : Nat) : Int))) (hbase : base ≤ w.heap.size) :
    ∃ v' w', (Builtin.append_ #[56, 56] ty #[.slice ao0 0 cap0, .slice ax l.length cx]).run Try.prog w = .ok v' w' ∧ w'.ownsRow base 50 1 v' l.length (l.map vtx) ∧ w.grownBy w' (Value.slice ao0 0 cap0).ownBlock := by
  obtain ⟨i0, hi0, hz0, hz1, hz2⟩ := info_parts info50
  cases ax with
  | none =>
    have h0 : l.length = 0 := by
      rcases Nat.eq_zero_or_pos l.length with h | h
      · exact h
      · obtain ⟨_, _, h, _⟩ := hx h; cases h
    have h1 : l = [] := List.eq_nil_of_length_eq_zero h0
    subst h1
    exact ⟨_, _, run_append_nothing (P := Try.prog) w 56 56 ty 50 i0 Try.underlying56 hi0 ao0 0 cap0 (Nat.zero_le _) _ (Src.ofNil w Try.underlying56 cx), hown, ⟨rfl, rfl, rfl, Nat.le_refl _, fun _ _ _ => rfl⟩⟩
  | some ad =>
    have hnews : ∀ j u, (l.map vtx)[j]? = some u → w.cell? (ad.add j) = some u := by
      intro j u hj
      rw [List.getElem?_map] at hj
      obtain ⟨v, hv, rfl⟩ := Option.map_eq_some_iff.1 hj
      have hjl : j < l.length := (List.getElem?_eq_some_iff.1 hv).1
      obtain ⟨b', off', e, h⟩ := hx (by omega)
      cases e
      rw [Addr.add_lit, h j hjl, List.getD_eq_getElem?_getD, hv]; rfl
    obtain ⟨v', w', hr, h2, h3, _⟩ := run_append_own (P := Try.prog) w base 56 ty 50 i0 (.int .i32 0) 1 4 Try.underlying56 hi0 hz0 hz1 hz2 rfl (by decide) _ 0 [] hown ad l.length cx (l.map vtx) (by simp) hnews (fun u hu => by obtain ⟨v, _, rfl⟩ := List.mem_map.1 hu; rfl) (by unfold maxLen; omega) (by omega) hbase
    rw [Nat.zero_add] at h2
    exact ⟨v', w', hr, h2, h3⟩

theorem step_append_all {ops : Array Oper} {o : Oper} {a : Act} {w : World} {K : Act → World → Prop} {Q : Exit → Act → World → Prop} {E : Prop}
    (hg : o.guard = none) (s x : Operand) (hop : o.op = Op.call { callee := Callee.builtin Builtin.append, args := #[s, x], argTypes := #[56, 56] })
    (base : Nat) (ao0 : Option Addr) (cap0 : Nat) (hs : a.eval s = .slice ao0 0 cap0) (hown : w.ownsRow base 50 1 (.slice ao0 0 cap0) 0 []) (ax : Option Addr) (l : List Nat) (cx : Nat) (hxe : a.eval x = .slice ax l.length cx) (hl : l.length ≤ 1048576)
    (hx : 0 < l.length → ∃ b' off', ax = some ⟨b', off', none⟩ ∧ ∀ j, j < l.length → w.cell? ⟨b', off' + j, none⟩ = some (.int .i32 ((l.getD j 0 : Nat) : Int))) (hbase : base ≤ w.heap.size)
    (hK : ∀ v' w', w'.ownsRow base 50 1 v' l.length (l.map vtx) → w.grownBy w' (Value.slice ao0 0 cap0).ownBlock → K (a.put o.dst v') w') :
    if Region.wanted o (yielded ops a.tmps) = true then Oper.wp Try.prog o a w K Q else E := by
  have hw : Region.wanted o (yielded ops a.tmps) = true := by simp [Region.wanted, hg]
  rw [if_pos hw]
  obtain ⟨v', w', hrun, r1, r2⟩ := run_append_all w o.type base ao0 cap0 hown ax l cx hl hx hbase
  unfold Oper.wp
  simp [execOp, hop, resolve, invoke, builtin, hs, hxe, hrun, Result.andThen]
  exact hK v' w' r1 r2

/-! ### the filter in place -/
/-- j of K have been looked at, those that p takes lie at the head of block q -/
def FL (w : World) (q cap : Nat) (K : List Nat) (p : Nat → Bool) (j : Nat) : Prop :=
  ∃ cur : Array Value, w.heap[q]? = some (.cells cur 50 (0, 0)) ∧ cur.size = cap ∧ cur.toList.take ((K.take j).filter p).length = ((K.take j).filter p).map vtx ∧ ∀ i, j ≤ i → i < K.length → cur[i]? = some (vtx (K.getD i 0))

theorem fl_start {w : World} {base q cap : Nat} {K : List Nat} (p : Nat → Bool) (h : w.ownsRow base 50 1 (.slice (some ⟨q, 0, none⟩) K.length cap) K.length (K.map vtx)) : FL w q cap K p 0 := by
  obtain ⟨hl, ⟨h0, _⟩ | ⟨q', cap', cur, hv, hb, hq, h1, h2, h3, h4⟩⟩ := h
  · cases h0
  · cases hv
    refine ⟨cur, hq, by omega, by simp, fun i _ hi => ?_⟩
    have h5 : (cur.toList.take (K.length * 1))[i]? = some (vtx (K.getD i 0)) := by
      rw [h4, List.getElem?_map, List.getD_eq_getElem?_getD, List.getElem?_eq_getElem hi]; rfl
    rw [List.getElem?_take, if_pos (by omega)] at h5
    simpa using h5
theorem FL.cell {w : World} {q cap : Nat} {K : List Nat} {p : Nat → Bool} {j : Nat} (h : FL w q cap K p j) (hj : j < K.length) : w.cell? ⟨q, j, none⟩ = some (.int .i32 ((K.getD j 0 : Nat) : Int)) := by
  obtain ⟨cur, hq, h1, h2, h3⟩ := h
  have := h3 j (Nat.le_refl _) hj
  simp [World.cell?, hq, this, vtx]
theorem FL.of {w w' : World} {q cap : Nat} {K : List Nat} {p : Nat → Bool} {j : Nat} (h : FL w q cap K p j) (e : w'.heap[q]? = w.heap[q]?) : FL w' q cap K p j := by
  obtain ⟨cur, hq, h1⟩ := h; exact ⟨cur, e.trans hq, h1⟩
theorem flt_le (K : List Nat) (p : Nat → Bool) (j : Nat) : ((K.take j).filter p).length ≤ j := Nat.le_trans (List.length_filter_le _ _) (List.length_take_le _ _)
theorem flt_yes {K : List Nat} {p : Nat → Bool} {j : Nat} (hj : j < K.length) (hp : p (K.getD j 0) = true) : (K.take (j + 1)).filter p = (K.take j).filter p ++ [K.getD j 0] := by
  rw [take_snoc hj, List.filter_append]; simp only [List.filter_cons, hp, if_true, List.filter_nil]
theorem flt_no {K : List Nat} {p : Nat → Bool} {j : Nat} (hj : j < K.length) (hp : p (K.getD j 0) = false) : (K.take (j + 1)).filter p = (K.take j).filter p := by
  rw [take_snoc hj, List.filter_append]; simp only [List.filter_cons, hp, List.filter_nil, List.append_nil, Bool.false_eq_true, if_false]
theorem FL.no {w : World} {q cap : Nat} {K : List Nat} {p : Nat → Bool} {j : Nat} (h : FL w q cap K p j) (hj : j < K.length) (hp : p (K.getD j 0) = false) : FL w q cap K p (j + 1) := by
  obtain ⟨cur, hq, h1, h2, h3⟩ := h
  refine ⟨cur, hq, h1, ?_, fun i hi hi2 => h3 i (by omega) hi2⟩
  rw [flt_no hj hp]; exact h2

theorem run_append_in (w : World) (ty : TypeId) (q cap : Nat) (K : List Nat) (p : Nat → Bool) (j : Nat) (h : FL w q cap K p j) (hj : j < K.length) (hK : K.length ≤ cap) (hp : p (K.getD j 0) = true) (ad : Addr) (c : Nat)
    (hnews : ∀ i u, [vtx (K.getD j 0)][i]? = some u → w.cell? (ad.add i) = some u) :
    ∃ w', (Builtin.append_ #[56, 56] ty #[.slice (some ⟨q, 0, none⟩) ((K.take j).filter p).length cap, .slice (some ad) 1 c]).run Try.prog w = .ok (.slice (some ⟨q, 0, none⟩) (((K.take j).filter p).length + 1) cap) w' ∧ FL w' q cap K p (j + 1) ∧ w.grownBy w' (some q) := by
  obtain ⟨i, hi, hzz⟩ := Option.map_eq_some_iff.1 info50
  simp only [Prod.mk.injEq] at hzz
  obtain ⟨_, hs, _⟩ := hzz
  obtain ⟨cur, hq, h1, h2, h3⟩ := h
  have hle := flt_le K p j
  have hr := run_append_room (P := Try.prog) w 56 ty 50 i Try.underlying56 hi q ((K.take j).filter p).length cap cur hq ad 1 c [vtx (K.getD j 0)] (by rw [hs]; rfl) hnews (by intro u hu; simp at hu; subst hu; rfl) (by omega) (by simp [hs]; omega)
  refine ⟨_, hr, ?_, ⟨rfl, rfl, rfl, by simp, fun k _ hk => setRow_other w q k _ (fun e => hk (by simp [e]))⟩⟩
  refine ⟨_, setRow_heap w q cur _ 50 _ hq, ?_, ?_, fun i' hi' hi2 => ?_⟩
  · simp [hs]; omega
  · rw [flt_yes hj hp]
    simp only [hs, Nat.mul_one, List.length_append, List.length_singleton, List.map_append, List.map_cons, List.map_nil]
    rw [h2]
    rw [List.take_append_of_le_length (by simp), List.take_of_length_le (by simp)]
  · simp only [hs, Nat.mul_one, List.length_singleton]
    have h5 := h3 i' (by omega) hi2
    have hlen : (cur.toList.take ((K.take j).filter p).length ++ [vtx (K.getD j 0)]).length = ((K.take j).filter p).length + 1 := by
      rw [List.length_append, List.length_take, List.length_singleton]
      have h6 : cur.toList.length = cur.size := Array.length_toList
      omega
    rw [List.getElem?_toArray, List.getElem?_append_right (by rw [hlen]; omega), hlen, List.getElem?_drop, show ((K.take j).filter p).length + 1 + (i' - (((K.take j).filter p).length + 1)) = i' by omega]
    simpa using h5

theorem wpList_append_in (w : World) {ops : Array Oper} {rest : List Oper} {o : Oper} {a : Act} {Q : Exit → Act → World → Prop} (hgd : o.guard = none) (s x : Operand)
    (ho : o.op = .call { callee := .builtin .append, args := #[s, x], argTypes := #[56, 56] }) (q cap : Nat) (K : List Nat) (p : Nat → Bool) (j m : Nat) (hm : m = ((K.take j).filter p).length) (hs : a.eval s = .slice (some ⟨q, 0, none⟩) m cap) (h : FL w q cap K p j) (hj : j < K.length) (hK : K.length ≤ cap) (hp : p (K.getD j 0) = true)
    (ad : Addr) (c : Nat) (hx : a.eval x = .slice (some ad) 1 c) (hnews : ∀ i u, [vtx (K.getD j 0)][i]? = some u → w.cell? (ad.add i) = some u)
    (hk : ∀ w', FL w' q cap K p (j + 1) → w.grownBy w' (some q) → wpList Try.prog ops Q rest (a.put o.dst (.slice (some ⟨q, 0, none⟩) (m + 1) cap)) w') : wpList Try.prog ops Q (o :: rest) a w := by
  refine wpList_plain hgd fun K' hK' => ?_
  subst hm
  obtain ⟨w', hr, h2, h3⟩ := run_append_in w o.type q cap K p j h hj hK hp ad c hnews
  unfold Oper.wp execOp
  simp only [ho, resolve, invoke, builtin, Sem.run_bind, Sem.run_pure, Result.andThen_ok, List.map_toArray, List.map_cons, List.map_nil, hs, hx, hr]
  exact hK' _ _ (hk w' h2 h3)

theorem fl_done {w : World} {base q cap : Nat} {K : List Nat} {p : Nat → Bool} (h : FL w q cap K p K.length) (hb : base ≤ q) (hK : K.length ≤ cap) (hc : cap ≤ maxLen) : w.ownsRow base 50 1 (.slice (some ⟨q, 0, none⟩) (K.filter p).length cap) (K.filter p).length ((K.filter p).map vtx) := by
  obtain ⟨cur, hq, h1, h2, h3⟩ := h
  rw [List.take_length] at h2
  have hle := List.length_filter_le p K
  exact ⟨by simp, .inr ⟨q, cap, cur, rfl, hb, hq, by omega, hc, by omega, by rw [Nat.mul_one]; exact h2⟩⟩

end Go.Proofs.Qxb6003663a
