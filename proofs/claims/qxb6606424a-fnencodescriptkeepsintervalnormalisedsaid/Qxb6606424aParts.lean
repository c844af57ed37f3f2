import Derived.Test.Qxb6606424aEncode
namespace Go.Proofs.Qxb6606424a
open Go.RowKit
set_option linter.unusedVariables false
set_option linter.unusedSimpArgs false

def ZPost (w : World) (B n : Nat) (e : Ending) (w' : World) : Prop :=
  ∃ (lo hi : Nat) (ao : Option Addr) (m cap : Nat), e = .returned (.tuple #[.int .u32 (lo : Int), .int .u32 (hi : Int), .slice ao m cap]) ∧ (∃ xs, w'.ownsRow B 5 1 (.slice ao m cap) m xs) ∧ Below B w w' ∧ lo < hi ∧ hi < 4294967296 ∧ ¬ lo / 16777216 = hi / 16777216 ∧ n ≤ m ∧ m ≤ n + 4

theorem own_opt {w : World} {base : Nat} {e : TypeId} {size : Nat} {v : Value} {m : Nat} {xs : List Value} (h : w.ownsRow base e size v m xs) : ∃ ao cap, v = .slice ao m cap ∧ cap ≤ maxLen ∧ m ≤ cap := by
  rcases own_shape h with ⟨rfl, rfl, _⟩ | ⟨g, cap, rfl, _, h1, h2⟩
  · exact ⟨none, 0, rfl, by simp [maxLen], Nat.le_refl _⟩
  · exact ⟨_, cap, rfl, h2, h1⟩

theorem es_new {w : World} {B lo hi : Nat} {ov : Value} {n : Nat} {xs : List Value} (h : w.ownsRow B 5 1 ov n xs) (hB : B ≤ w.heap.size) : ES w (w.alloc (.cells #[.int .u32 (lo : Int), .int .u32 (hi : Int), ov] 38)) B w.heap.size lo hi ov n :=
  ⟨heap_alloc_new w _, ⟨xs, h.alloc _⟩, (Below.refl _ _).alloc hB _, hB⟩

set_option maxRecDepth 100000 in
set_option maxHeartbeats 1000000 in
theorem zencode_any (w : World) (B lo hi : Nat) (ao : Option Addr) (n cap : Nat) (xs : List Value) (bit : Int) (p : Nat) (h : w.ownsRow B 5 1 (.slice ao n cap) n xs) (hB : B ≤ w.heap.size) (hlh : lo < hi) (hhi : hi < 4294967296) (hp : p ≤ 4095) (hn : n ≤ 1048576) :
    Calls Try.prog 8 #[.int .u32 (lo : Int), .int .u32 (hi : Int), .slice ao n cap, .int .i64 bit, .int .i32 (p : Int)] w (ZPost w B n) := by
  have henc := encode_any w _ B w.heap.size lo hi _ n bit p (es_new h hB) hlh hhi hp hn
  clear h
  go_enter Try.func8, Try.ntmps8
  go_wp2_with fail
  refine henc.mono ?_
  intro e w1 hp'
  obtain ⟨rfl, lo', hi', ov', m, hes, h1, h2, h3, h4, h5⟩ := hp'
  obtain ⟨ys, hy⟩ := hes.own
  obtain ⟨ao', cap', hv, _, _⟩ := own_opt hy
  subst hv
  have c0 := hes.eb.c0
  have c1 := hes.eb.c1
  have c2 := hes.eb.c2
  have R := hid (fun k => (show ZPost w B n (.returned (.tuple #[.int .u32 (lo' : Int), .int .u32 (hi' : Int), .slice ao' m cap'])) (w1.drewN k) from ⟨lo', hi', ao', m, cap', rfl, ⟨ys, hy⟩, bel_drewN hes.bel k, h1, h2, h3, h4, h5⟩))
  clear henc hes hy h3
  go_upto_region 3 with fail
  go_quiet (fail)
  go_wp2_with fail
  go_ret3
  exact R.out _

/-- The slice value v reads as the numbers l, its cells in blocks below hi. -/
def Rd (k : IntKind) (w : World) (hi : Nat) (v : Value) (l : List Int) : Prop :=
  ∃ ao cap, v = .slice ao l.length cap ∧ l.length ≤ cap ∧ cap ≤ maxLen ∧ (ao = none → l = []) ∧ (l = [] ∨ ∃ b off, ao = some ⟨b, off, none⟩ ∧ b < hi ∧ ∀ j, j < l.length → w.cell? ⟨b, off + j, none⟩ = some (.int k (l.getD j 0)))

theorem Rd.keep {k : IntKind} {w w' : World} {hi : Nat} {v : Value} {l : List Int} (h : Rd k w hi v l) (hb : Below hi w w') : Rd k w' hi v l := by
  obtain ⟨ao, cap, h1, h2, h3, h5, h4⟩ := h
  refine ⟨ao, cap, h1, h2, h3, h5, ?_⟩
  rcases h4 with h4 | ⟨b, off, e, h6, h7⟩
  · exact .inl h4
  · exact .inr ⟨b, off, e, h6, fun j hj => (hb.cell (by simpa using h6)).trans (h7 j hj)⟩
theorem Rd.mono {k : IntKind} {w : World} {hi hi' : Nat} {v : Value} {l : List Int} (h : Rd k w hi v l) (hb : hi ≤ hi') : Rd k w hi' v l := by
  obtain ⟨ao, cap, h1, h2, h3, h5, h4⟩ := h
  refine ⟨ao, cap, h1, h2, h3, h5, ?_⟩
  rcases h4 with h4 | ⟨b, off, e, h6, h7⟩
  · exact .inl h4
  · exact .inr ⟨b, off, e, by omega, h7⟩
theorem Rd.nil (k : IntKind) (w : World) (hi : Nat) : Rd k w hi (.slice none 0 0) [] := ⟨none, 0, rfl, Nat.le_refl _, Nat.zero_le _, fun _ => rfl, .inl rfl⟩

def ClonePost (k : IntKind) (w : World) (l : List Int) (e : Ending) (w' : World) : Prop := ∃ v, e = .returned v ∧ Rd k w' w'.heap.size v l ∧ Below w.heap.size w w'

theorem made_row (w : World) (z : Value) (n : Nat) (Z : List Value) (hZ : Z = List.replicate n z) (t : TypeId) : (w.alloc (.cells (madeCells #[z] n) t)).heap[w.heap.size]? = some (.cells Z.toArray t (0, 0)) := by
  rw [heap_alloc_new]
  congr 2
  subst hZ
  apply Array.ext
  · simp [madeCells]
  · intro i h1 h2; simp [madeCells, Nat.mod_one]

theorem info21 : (Try.prog.info? 21).map (fun i => (i.zero, i.size, i.bytes)) = some (some (.int .i32 0), 1, 4) := by kernel_rfl
theorem size5 : (Try.prog.info? 5).map (·.size) = some 1 := by kernel_rfl
theorem size21 : (Try.prog.info? 21).map (·.size) = some 1 := by kernel_rfl

theorem clone_done {k : IntKind} {t : TypeId} {w w2 : World} {l : List Int} (hm : l.length ≤ maxLen) (hb : Below w.heap.size w w2) (hr : w2.heap[w.heap.size]? = some (.cells (l.map (Value.int k)).toArray t (0, 0))) :
    ClonePost k w l (.returned (.slice (some ⟨w.heap.size, 0, none⟩) l.length l.length)) w2 := by
  refine ⟨_, rfl, ⟨_, _, rfl, Nat.le_refl _, hm, (fun h => by cases h), .inr ⟨_, _, rfl, (Array.getElem?_eq_some_iff.1 hr).1, fun j hj => ?_⟩⟩, hb⟩
  simp [World.cell?, hr, hj]

set_option maxRecDepth 100000 in
set_option maxHeartbeats 1000000 in
theorem clone7_any {l : List Int} {w : World} {hi : Nat} {v : Value} (h : Rd .u8 w hi v l) (hhi : hi ≤ w.heap.size) (hl : l.length ≤ 1048576) : Calls Try.prog 7 #[v] w (ClonePost .u8 w l) := by
  obtain ⟨ao, cap, rfl, h2, h3, h5, h4⟩ := h
  have hmk := run_make_row' (P := Try.prog) 23 5 (.int .u8 0) 1 Try.underlying23 info5 rfl .i64 .i64 l.length (by omega) (by omega)
  have hq1 := fun a l c w => Go.Lib.run_eql_slice_nil (P := Try.prog) w 23 5 a l c 0 0 Try.underlying23
  cases ao with
  | none =>
    obtain rfl := h5 rfl
    clear h4 h5
    go_enter Try.func7, Try.ntmps7
    go_wp2
    go_ret
    exact ⟨_, rfl, Rd.nil _ _ _, Below.refl _ _⟩
  | some ad =>
    obtain ⟨Z, hZ⟩ : ∃ Z : List Value, Z = List.replicate l.length (.int .u8 0) := ⟨_, rfl⟩
    obtain ⟨cs, hcs⟩ : ∃ cs : List Value, cs = l.map (Value.int .u8) := ⟨_, rfl⟩
    have H1 : Hid ((w.alloc (Obj.cells (madeCells #[.int .u8 0] l.length) 5)).heap[w.heap.size]? = some (.cells Z.toArray 5 (0, 0))) := made_row _ _ _ _ hZ _
    have H2 : Hid (Below w.heap.size w (w.alloc (Obj.cells (madeCells #[.int .u8 0] l.length) 5))) := (Below.refl _ _).alloc (Nat.le_refl _) _
    have H3 : Hid (cs.length = l.length ∧ Z.length = l.length ∧ splice Z 0 cs = cs ∧ (∀ v ∈ cs, v.oneCell' = true)) := by
      subst hcs; subst hZ; exact ⟨by simp, by simp, by simp [splice], by simp [Value.oneCell']⟩
    have H4 : Hid (0 < cs.length → ∃ a', (some ad = some a') ∧ ∀ j v, cs[j]? = some v → (w.alloc (Obj.cells (madeCells #[.int .u8 0] l.length) 5)).cell? (a'.add j) = some v) := by
      intro hp
      rcases h4 with h4 | ⟨b', off', hb', hb2, hcell⟩
      · subst h4; subst hcs; simp at hp
      · refine ⟨_, hb', fun j v hj => ?_⟩
        rw [Addr.add_lit, World.cell?_alloc_lt _ _ _ (by simp; omega)]
        subst hcs
        rw [List.getElem?_map] at hj
        obtain ⟨x, hx, rfl⟩ := Option.map_eq_some_iff.1 hj
        have hjl : j < l.length := (List.getElem?_eq_some_iff.1 hx).1
        rw [hcell j hjl, List.getD_eq_getElem?_getD, hx]; rfl
    have HC : Hid (cs = l.map (Value.int .u8)) := hcs
    clear h4 h5 hZ hcs
    go_enter Try.func7, Try.ntmps7
    go_wp2_with (refine wpList_copy_splice rfl (.tmp 9) (.tmp 10) 23 23 rfl 5 Try.underlying23 size5 _ _ _ _ _ _ rfl rfl w.heap.size 0 Z 5 H1.out cs ?c1 ?c2 ?c3 H3.out.2.2.2 w.heap.size w H2.out (Nat.le_refl _) ?_)
    case c1 => have := H3.out.1; simp [Nat.min_def]; omega
    case c2 => intro hp; obtain ⟨a', ha, hc'⟩ := H4.out hp; cases ha; exact hc'
    case c3 => have := H3.out; omega
    intro w2 HG2 hB2
    have R := hid (clone_done (k := .u8) (t := 5) (l := l) (by unfold maxLen; omega) hB2 (by rw [← HC.out]; have := HG2.out; rw [H3.out.2.2.1] at this; exact this))
    clear HG2 hB2 H1 H2 H3 H4
    go_wp2_with fail
    go_ret
    exact R.out

set_option maxRecDepth 100000 in
set_option maxHeartbeats 1000000 in
theorem clone13_any {l : List Int} {w : World} {hi : Nat} {v : Value} (h : Rd .i32 w hi v l) (hhi : hi ≤ w.heap.size) (hl : l.length ≤ 1048576) : Calls Try.prog 13 #[v] w (ClonePost .i32 w l) := by
  obtain ⟨ao, cap, rfl, h2, h3, h5, h4⟩ := h
  have hmk := run_make_row' (P := Try.prog) 34 21 (.int .i32 0) 4 Try.underlying34 info21 rfl .i64 .i64 l.length (by omega) (by omega)
  have hq1 := fun a l c w => Go.Lib.run_eql_slice_nil (P := Try.prog) w 34 21 a l c 0 0 Try.underlying34
  cases ao with
  | none =>
    obtain rfl := h5 rfl
    clear h4 h5
    go_enter Try.func13, Try.ntmps13
    go_wp2
    go_ret
    exact ⟨_, rfl, Rd.nil _ _ _, Below.refl _ _⟩
  | some ad =>
    obtain ⟨Z, hZ⟩ : ∃ Z : List Value, Z = List.replicate l.length (.int .i32 0) := ⟨_, rfl⟩
    obtain ⟨cs, hcs⟩ : ∃ cs : List Value, cs = l.map (Value.int .i32) := ⟨_, rfl⟩
    have H1 : Hid ((w.alloc (Obj.cells (madeCells #[.int .i32 0] l.length) 21)).heap[w.heap.size]? = some (.cells Z.toArray 21 (0, 0))) := made_row _ _ _ _ hZ _
    have H2 : Hid (Below w.heap.size w (w.alloc (Obj.cells (madeCells #[.int .i32 0] l.length) 21))) := (Below.refl _ _).alloc (Nat.le_refl _) _
    have H3 : Hid (cs.length = l.length ∧ Z.length = l.length ∧ splice Z 0 cs = cs ∧ (∀ v ∈ cs, v.oneCell' = true)) := by
      subst hcs; subst hZ; exact ⟨by simp, by simp, by simp [splice], by simp [Value.oneCell']⟩
    have H4 : Hid (0 < cs.length → ∃ a', (some ad = some a') ∧ ∀ j v, cs[j]? = some v → (w.alloc (Obj.cells (madeCells #[.int .i32 0] l.length) 21)).cell? (a'.add j) = some v) := by
      intro hp
      rcases h4 with h4 | ⟨b', off', hb', hb2, hcell⟩
      · subst h4; subst hcs; simp at hp
      · refine ⟨_, hb', fun j v hj => ?_⟩
        rw [Addr.add_lit, World.cell?_alloc_lt _ _ _ (by simp; omega)]
        subst hcs
        rw [List.getElem?_map] at hj
        obtain ⟨x, hx, rfl⟩ := Option.map_eq_some_iff.1 hj
        have hjl : j < l.length := (List.getElem?_eq_some_iff.1 hx).1
        rw [hcell j hjl, List.getD_eq_getElem?_getD, hx]; rfl
    have HC : Hid (cs = l.map (Value.int .i32)) := hcs
    clear h4 h5 hZ hcs
    go_enter Try.func13, Try.ntmps13
    go_wp2_with (refine wpList_copy_splice rfl (.tmp 9) (.tmp 10) 34 34 rfl 21 Try.underlying34 size21 _ _ _ _ _ _ rfl rfl w.heap.size 0 Z 21 H1.out cs ?c1 ?c2 ?c3 H3.out.2.2.2 w.heap.size w H2.out (Nat.le_refl _) ?_)
    case c1 => have := H3.out.1; simp [Nat.min_def]; omega
    case c2 => intro hp; obtain ⟨a', ha, hc'⟩ := H4.out hp; cases ha; exact hc'
    case c3 => have := H3.out; omega
    intro w2 HG2 hB2
    have R := hid (clone_done (k := .i32) (t := 21) (l := l) (by unfold maxLen; omega) hB2 (by rw [← HC.out]; have := HG2.out; rw [H3.out.2.2.1] at this; exact this))
    clear HG2 hB2 H1 H2 H3 H4
    go_wp2_with fail
    go_ret
    exact R.out

end Go.Proofs.Qxb6606424a
