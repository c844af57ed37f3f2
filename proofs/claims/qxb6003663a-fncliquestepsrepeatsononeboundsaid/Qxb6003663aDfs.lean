/-
  PLAIN: the depth-first search as a machine with a stack. Nothing of the program here.
-/
namespace Go.Proofs.Qxb6003663a

def upd (f : Nat → Int) (i : Nat) (x : Int) : Nat → Int := fun j => if j = i then x else f j
theorem upd_same (f : Nat → Int) (i : Nat) (x : Int) : upd f i x i = x := by simp [upd]
theorem upd_other (f : Nat → Int) {i j : Nat} (x : Int) (h : j ≠ i) : upd f i x j = f j := by simp [upd, h]

/-- the machine: the stack of (vertex, edges taken), the top first; the marks; the order of leaving -/
structure MS where
  stack : List (Nat × Nat)
  left : Nat → Int
  order : List Nat

def row (G : List (List Nat)) (v : Nat) : List Nat := G.getD v []
/-- the place of the i-th edge taken from a list of m -/
def place (bk : Bool) (m i : Nat) : Nat := if bk then m - 1 - i else i
def child (G : List (List Nat)) (bk : Bool) (v i : Nat) : Nat := (row G v).getD (place bk (row G v).length i) 0

theorem place_lt {bk : Bool} {m i : Nat} (h : i < m) : place bk m i < m := by unfold place; split <;> omega
theorem place_place {bk : Bool} {m i : Nat} (h : i < m) : place bk m (place bk m i) = i := by unfold place; cases bk <;> simp; omega

def step (G : List (List Nat)) (bk : Bool) (s : MS) : MS :=
  match s.stack with
  | [] => s
  | (v, t) :: K =>
    if t < (row G v).length then
      if s.left (child G bk v t) = 0 then ⟨(child G bk v t, 0) :: (v, t + 1) :: K, upd s.left (child G bk v t) (-1), s.order⟩
      else ⟨(v, t + 1) :: K, s.left, s.order⟩
    else ⟨K, upd s.left v ((s.order.length : Int) + 1), s.order ++ [v]⟩

theorem step_push {G : List (List Nat)} {bk : Bool} {v t : Nat} {K : List (Nat × Nat)} {l : Nat → Int} {o : List Nat} (h : t < (row G v).length) (h0 : l (child G bk v t) = 0) :
    step G bk ⟨(v, t) :: K, l, o⟩ = ⟨(child G bk v t, 0) :: (v, t + 1) :: K, upd l (child G bk v t) (-1), o⟩ := by simp [step, h, h0]
theorem step_pass {G : List (List Nat)} {bk : Bool} {v t : Nat} {K : List (Nat × Nat)} {l : Nat → Int} {o : List Nat} (h : t < (row G v).length) (h0 : l (child G bk v t) ≠ 0) :
    step G bk ⟨(v, t) :: K, l, o⟩ = ⟨(v, t + 1) :: K, l, o⟩ := by simp [step, h, h0]
theorem step_pop {G : List (List Nat)} {bk : Bool} {v t : Nat} {K : List (Nat × Nat)} {l : Nat → Int} {o : List Nat} (h : ¬ t < (row G v).length) :
    step G bk ⟨(v, t) :: K, l, o⟩ = ⟨K, upd l v ((o.length : Int) + 1), o ++ [v]⟩ := by simp [step, h]

def iter (G : List (List Nat)) (bk : Bool) : Nat → MS → MS
  | 0, s => s
  | m + 1, s => iter G bk m (step G bk s)

theorem iter_add (G : List (List Nat)) (bk : Bool) (a b : Nat) (s : MS) : iter G bk (a + b) s = iter G bk b (iter G bk a s) := by
  induction a generalizing s with
  | zero => simp [iter]
  | succ a ih => rw [Nat.succ_add]; exact ih _

def Runs (G : List (List Nat)) (bk : Bool) (s t : MS) : Prop := ∃ m, iter G bk m s = t

theorem Runs.refl (G : List (List Nat)) (bk : Bool) (s : MS) : Runs G bk s s := ⟨0, rfl⟩
theorem Runs.trans {G : List (List Nat)} {bk : Bool} {s t u : MS} (h : Runs G bk s t) (k : Runs G bk t u) : Runs G bk s u := by
  obtain ⟨a, rfl⟩ := h; obtain ⟨b, rfl⟩ := k
  exact ⟨a + b, iter_add _ _ _ _ _⟩
theorem Runs.next {G : List (List Nat)} {bk : Bool} {s t : MS} (h : Runs G bk s t) : Runs G bk s (step G bk t) := h.trans ⟨1, rfl⟩

theorem iter_done {G : List (List Nat)} {bk : Bool} {s : MS} (h : s.stack = []) (m : Nat) : iter G bk m s = s := by
  induction m with
  | zero => rfl
  | succ m ih => rw [iter, show step G bk s = s by simp [step, h]]; exact ih

theorem Runs.unique {G : List (List Nat)} {bk : Bool} {s t u : MS} (h : Runs G bk s t) (k : Runs G bk s u) (ht : t.stack = []) (hu : u.stack = []) : t = u := by
  obtain ⟨a, ha⟩ := h; obtain ⟨b, hb⟩ := k
  rcases Nat.le_total a b with e | e
  · obtain ⟨c, rfl⟩ := Nat.exists_eq_add_of_le e
    rw [iter_add, ha, iter_done ht] at hb; exact hb
  · obtain ⟨c, rfl⟩ := Nat.exists_eq_add_of_le e
    rw [iter_add, hb, iter_done hu] at ha; exact ha.symm

/-! ### how many are not reached yet; the measure -/

/-- the sum of f over v < n with l v = 0 -/
def zsum (f : Nat → Nat) (l : Nat → Int) : Nat → Nat
  | 0 => 0
  | n + 1 => zsum f l n + (if l n = 0 then f n else 0)

theorem zsum_upd (f : Nat → Nat) (l : Nat → Int) (n w : Nat) (x : Int) (hw : w < n) (h0 : l w = 0) (hx : x ≠ 0) : zsum f (upd l w x) n + f w = zsum f l n := by
  have same : ∀ m, m ≤ w → zsum f (upd l w x) m = zsum f l m := by
    intro m
    induction m with
    | zero => intro _; rfl
    | succ m ih => intro hm; simp only [zsum]; rw [ih (by omega), upd_other _ _ (by omega)]
  induction n with
  | zero => omega
  | succ n ih =>
    simp only [zsum]
    by_cases e : w = n
    · subst e; rw [same w (Nat.le_refl _), upd_same, if_neg hx, if_pos h0]; omega
    · rw [upd_other _ _ (by omega)]; have := ih (by omega); omega

theorem zsum_le (f : Nat → Nat) (l l' : Nat → Int) (n : Nat) (h : ∀ v, v < n → l v ≠ 0 → l' v ≠ 0) : zsum f l' n ≤ zsum f l n := by
  induction n with
  | zero => exact Nat.le_refl _
  | succ n ih =>
    have := ih (fun v hv => h v (by omega))
    simp only [zsum]
    by_cases e : l n = 0
    · rw [if_pos e]; split <;> omega
    · rw [if_neg e, if_neg (h n (by omega) e)]; omega

theorem zsum_zero (f : Nat → Nat) (n : Nat) : zsum f (fun _ => 0) n = zsum f (fun _ => 0) n := rfl
theorem zsum_one (n : Nat) : zsum (fun _ => 1) (fun _ => 0) n = n := by
  induction n with
  | zero => rfl
  | succ n ih => simp [zsum, ih]

def stackSum (G : List (List Nat)) : List (Nat × Nat) → Nat
  | [] => 0
  | (v, t) :: K => ((row G v).length - t + 1) + stackSum G K

def mu (G : List (List Nat)) (n : Nat) (s : MS) : Nat := stackSum G s.stack + zsum (fun v => (row G v).length + 2) s.left n

theorem mu_step {G : List (List Nat)} {bk : Bool} {n : Nat} {s : MS} (hne : s.stack ≠ []) (hch : ∀ v t, t < (row G v).length → child G bk v t < n) : mu G n (step G bk s) < mu G n s := by
  obtain ⟨st, l, o⟩ := s
  cases st with
  | nil => simp at hne
  | cons p K =>
    obtain ⟨v, t⟩ := p
    by_cases ht : t < (row G v).length
    · by_cases h0 : l (child G bk v t) = 0
      · rw [step_push ht h0]
        have := zsum_upd (fun v => (row G v).length + 2) l n (child G bk v t) (-1) (hch v t ht) h0 (by omega)
        simp only [mu, stackSum] at *
        omega
      · rw [step_pass ht h0]
        simp only [mu, stackSum]
        omega
    · rw [step_pop ht]
      have : zsum (fun v => (row G v).length + 2) (upd l v ((o.length : Int) + 1)) n ≤ zsum (fun v => (row G v).length + 2) l n := by
        refine zsum_le _ _ _ _ (fun u _ hu => ?_)
        by_cases e : u = v
        · subst e; rw [upd_same]; omega
        · rw [upd_other _ _ e]; exact hu
      simp only [mu, stackSum] at *
      omega

/-! ### what holds of every state that is come to -/

/-- all children of v that stand before place t have been reached -/
structure Good (G : List (List Nat)) (bk : Bool) (n : Nat) (s : MS) : Prop where
  cnt : s.order.length + s.stack.length + zsum (fun _ => 1) s.left n = n
  stk : ∀ v t, (v, t) ∈ s.stack → v < n ∧ s.left v = -1 ∧ t ≤ (row G v).length ∧ ∀ i, i < t → s.left (child G bk v i) ≠ 0
  uniq : (s.stack.map (·.1)).Nodup
  neg : ∀ v, s.left v = -1 → ∃ t, (v, t) ∈ s.stack
  ord : ∀ i, i < s.order.length → s.order.getD i 0 < n ∧ s.left (s.order.getD i 0) = (i : Int) + 1
  pos : ∀ v, s.left v = 0 ∨ s.left v = -1 ∨ ∃ i, i < s.order.length ∧ s.order.getD i 0 = v
  clo : ∀ i, i < s.order.length → ∀ j, j < (row G (s.order.getD i 0)).length → s.left (child G bk (s.order.getD i 0) j) ≠ 0

theorem good_start (G : List (List Nat)) (bk : Bool) (n r : Nat) (hr : r < n) : Good G bk n ⟨[(r, 0)], upd (fun _ => 0) r (-1), []⟩ := by
  refine ⟨?_, ?_, by simp, ?_, fun i hi => by simp at hi, ?_, fun i hi => by simp at hi⟩
  · have := zsum_upd (fun _ => 1) (fun _ => 0) n r (-1) hr rfl (by omega)
    rw [zsum_one] at this
    simp only [List.length_nil, List.length_cons] at *; omega
  · intro v t h
    simp only [List.mem_singleton, Prod.mk.injEq] at h
    obtain ⟨rfl, rfl⟩ := h
    exact ⟨hr, by simp [upd], Nat.zero_le _, fun i hi => absurd hi (by omega)⟩
  · intro v h
    by_cases e : v = r
    · subst e; exact ⟨0, by simp⟩
    · simp [upd, e] at h
  · intro v
    by_cases e : v = r
    · subst e; right; left; simp [upd]
    · left; simp [upd, e]

theorem getD_append_left' {l m : List Nat} {i : Nat} (h : i < l.length) : (l ++ m).getD i 0 = l.getD i 0 := by
  simp [List.getD_eq_getElem?_getD, List.getElem?_append_left h]
theorem getD_append_last {l : List Nat} {v : Nat} : (l ++ [v]).getD l.length 0 = v := by
  simp [List.getD_eq_getElem?_getD]

theorem good_step {G : List (List Nat)} {bk : Bool} {n : Nat} {s : MS} (h : Good G bk n s) (hch : ∀ v t, t < (row G v).length → child G bk v t < n) : Good G bk n (step G bk s) := by
  obtain ⟨st, l, o⟩ := s
  cases st with
  | nil => exact h
  | cons p K =>
    obtain ⟨v, t⟩ := p
    obtain ⟨hcnt, hstk, huniq, hneg, hord, hpos, hclo⟩ := h
    simp only at hcnt hstk huniq hneg hord hpos hclo
    obtain ⟨hvn, hlv, htl, hbefore⟩ := hstk v t (by simp)
    by_cases ht : t < (row G v).length
    · have hc := hch v t ht
      generalize hw : child G bk v t = w at hc
      by_cases h0 : l w = 0
      · rw [step_push ht (by rw [hw]; exact h0), hw]
        have hz := zsum_upd (fun _ => 1) l n w (-1) hc h0 (by omega)
        have keep : ∀ u, l u ≠ 0 → upd l w (-1) u ≠ 0 := fun u hu => by
          by_cases e : u = w
          · subst e; rw [upd_same]; omega
          · rw [upd_other _ _ e]; exact hu
        refine ⟨?_, ?_, ?_, ?_, ?_, ?_, ?_⟩
        · simp only [List.length_cons] at *; omega
        · intro u s hu
          simp only [List.mem_cons, Prod.mk.injEq] at hu
          rcases hu with ⟨rfl, rfl⟩ | ⟨rfl, rfl⟩ | hu
          · exact ⟨hc, upd_same _ _ _, Nat.zero_le _, fun i hi => absurd hi (by omega)⟩
          · refine ⟨hvn, ?_, ht, fun i hi => ?_⟩
            · show upd l w (-1) u = -1
              rw [upd_other _ _ (fun e => by rw [e] at hlv; omega)]; exact hlv
            · show upd l w (-1) (child G bk u i) ≠ 0
              by_cases e : i = t
              · subst e; rw [hw, upd_same]; omega
              · exact keep _ (hbefore i (by omega))
          · obtain ⟨a, b, c, d⟩ := hstk u s (by simp [hu])
            refine ⟨a, ?_, c, fun i hi => keep _ (d i hi)⟩
            show upd l w (-1) u = -1
            rw [upd_other _ _ (fun e => by rw [e] at b; omega)]; exact b
        · simp only [List.map_cons, List.nodup_cons, List.mem_cons, not_or] at huniq ⊢
          refine ⟨⟨?_, ?_⟩, huniq⟩
          · intro e; rw [e] at h0; omega
          · intro hm
            obtain ⟨⟨a, b⟩, hab, e⟩ := List.mem_map.1 hm
            simp only at e; subst e
            have := (hstk a b (by simp [hab])).2.1
            omega
        · intro u hu
          show ∃ t', _
          by_cases e : u = w
          · subst e; exact ⟨0, by simp⟩
          · have hu' : l u = -1 := by have : upd l w (-1) u = -1 := hu; rwa [upd_other _ _ e] at this
            obtain ⟨t', ht'⟩ := hneg u hu'
            simp only [List.mem_cons, Prod.mk.injEq] at ht'
            rcases ht' with ⟨rfl, rfl⟩ | ht'
            · exact ⟨t' + 1, by simp⟩
            · exact ⟨t', by simp [ht']⟩
        · intro i hi
          obtain ⟨a, b⟩ := hord i hi
          refine ⟨a, ?_⟩
          show upd l w (-1) _ = _
          rw [upd_other _ _ (fun e => by rw [e] at b; omega)]; exact b
        · intro u
          by_cases e : u = w
          · subst e; right; left; exact upd_same _ _ _
          · show upd l w (-1) u = 0 ∨ upd l w (-1) u = -1 ∨ _
            rw [upd_other _ _ e]; exact hpos u
        · intro i hi j hj; exact keep _ (hclo i hi j hj)
      · rw [step_pass ht (by rw [hw]; exact h0)]
        refine ⟨?_, ?_, ?_, ?_, hord, hpos, hclo⟩
        · simp only [List.length_cons] at *; omega
        · intro u s hu
          simp only [List.mem_cons, Prod.mk.injEq] at hu
          rcases hu with ⟨rfl, rfl⟩ | hu
          · refine ⟨hvn, hlv, ht, fun i hi => ?_⟩
            by_cases e : i = t
            · subst e; rw [hw]; exact h0
            · exact hbefore i (by omega)
          · exact hstk u s (by simp [hu])
        · simpa using huniq
        · intro u hu
          obtain ⟨t', ht'⟩ := hneg u hu
          simp only [List.mem_cons, Prod.mk.injEq] at ht'
          rcases ht' with ⟨rfl, rfl⟩ | ht'
          · exact ⟨t' + 1, by simp⟩
          · exact ⟨t', by simp [ht']⟩
    · rw [step_pop ht]
      have keep : ∀ u, l u ≠ 0 → upd l v ((o.length : Int) + 1) u ≠ 0 := fun u hu => by
        by_cases e : u = v
        · subst e; rw [upd_same]; omega
        · rw [upd_other _ _ e]; exact hu
      have zeq : zsum (fun _ => 1) (upd l v ((o.length : Int) + 1)) n = zsum (fun _ => 1) l n := by
        apply Nat.le_antisymm
        · exact zsum_le _ _ _ _ (fun u _ hu => keep u hu)
        · refine zsum_le _ _ _ _ (fun u _ hu => ?_)
          by_cases e : u = v
          · subst e; omega
          · rwa [upd_other _ _ e] at hu
      have hnm : ∀ t', (v, t') ∉ K := by
        intro t' hm
        simp only [List.map_cons, List.nodup_cons] at huniq
        exact huniq.1 (List.mem_map.2 ⟨(v, t'), hm, rfl⟩)
      refine ⟨?_, ?_, ?_, ?_, ?_, ?_, ?_⟩
      · simp only [List.length_cons, List.length_append, List.length_nil, zeq] at *; omega
      · intro u s hu
        obtain ⟨a, b, c, d⟩ := hstk u s (by simp [hu])
        have hne : u ≠ v := fun e => by subst e; exact hnm s hu
        refine ⟨a, ?_, c, fun i hi => keep _ (d i hi)⟩
        show upd l v _ u = -1
        rw [upd_other _ _ hne]; exact b
      · simp only [List.map_cons, List.nodup_cons] at huniq; exact huniq.2
      · intro u hu
        have hne : u ≠ v := fun e => by subst e; have : upd l u ((o.length : Int) + 1) u = -1 := hu; rw [upd_same] at this; omega
        have hu' : l u = -1 := by have : upd l v ((o.length : Int) + 1) u = -1 := hu; rwa [upd_other _ _ hne] at this
        obtain ⟨t', ht'⟩ := hneg u hu'
        simp only [List.mem_cons, Prod.mk.injEq] at ht'
        rcases ht' with ⟨rfl, rfl⟩ | ht'
        · exact absurd rfl hne
        · exact ⟨t', ht'⟩
      · intro i hi
        simp only [List.length_append, List.length_cons, List.length_nil] at hi
        by_cases e : i = o.length
        · subst e; simp only [getD_append_last]; exact ⟨hvn, upd_same _ _ _⟩
        · simp only [getD_append_left' (show i < o.length by omega)]
          obtain ⟨a, b⟩ := hord i (by omega)
          refine ⟨a, ?_⟩
          rw [upd_other _ _ (fun e' => by rw [e'] at b; omega)]; exact b
      · intro u
        by_cases e : u = v
        · subst e; right; right; exact ⟨o.length, by simp, getD_append_last⟩
        · simp only [upd_other _ _ e]
          rcases hpos u with h' | h' | ⟨i, hi, h'⟩
          · exact .inl h'
          · exact .inr (.inl h')
          · exact .inr (.inr ⟨i, by simp; omega, by rw [getD_append_left' hi]; exact h'⟩)
      · intro i hi j hj
        simp only [List.length_append, List.length_cons, List.length_nil] at hi
        by_cases e : i = o.length
        · subst e; simp only [getD_append_last] at hj ⊢
          exact keep _ (hbefore j (by omega))
        · simp only [getD_append_left' (show i < o.length by omega)] at hj ⊢
          exact keep _ (hclo i (by omega) j hj)

end Go.Proofs.Qxb6003663a
