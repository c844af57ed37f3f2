import Derived.Test.Qxb6606424aPlain
import Derived.Deep.QuietTactic
import Derived.BigQuiet
import Derived.BigRegion
import Derived.Deep.RegionWith
import Derived.Deep.RegionLaw
import Derived.Deep.DeepCutAuto
import Derived.Deep.LoopGhost
import Derived.Deep.DeepMust
import Derived.Deep.OwnRows
import Derived.Laws.CopyOwn
namespace Go.Proofs.Qxb6606424a
open Go.RowKit
set_option linter.unusedVariables false
set_option linter.unusedSimpArgs false

theorem hid {p : Prop} (h : p) : Hid p := h
theorem bel_drewN {B : Nat} {a w : World} (h : Below B a w) (k : Nat) : Below B a (w.drewN k) := ⟨h.os, h.tape, h.output, h.size, h.block⟩

/-- block S is an encoder -/
def EB (w : World) (S lo hi : Nat) (ov : Value) : Prop := w.heap[S]? = some (.cells #[.int .u32 (lo : Int), .int .u32 (hi : Int), ov] 38 (0, 0))

section
variable {w : World} {S lo hi : Nat} {ov : Value}
theorem EB.c0 (h : EB w S lo hi ov) : w.cell? ⟨S, 0, none⟩ = some (.int .u32 (lo : Int)) := by unfold EB at h; simp [World.cell?, h]
theorem EB.c1 (h : EB w S lo hi ov) : w.cell? ⟨S, 1, none⟩ = some (.int .u32 (hi : Int)) := by unfold EB at h; simp [World.cell?, h]
theorem EB.c2 (h : EB w S lo hi ov) : w.cell? ⟨S, 2, none⟩ = some ov := by unfold EB at h; simp [World.cell?, h]
theorem EB.fr (h : EB w S lo hi ov) (i : Nat) : w.frozen? ⟨S, i, none⟩ = false := by unfold EB at h; simp [World.frozen?, h]
theorem EB.lt (h : EB w S lo hi ov) : S < w.heap.size := (Array.getElem?_eq_some_iff.1 h).1
theorem EB.of {w' : World} (h : EB w S lo hi ov) (e : w'.heap[S]? = w.heap[S]?) : EB w' S lo hi ov := e.trans h
theorem EB.s0 (h : EB w S lo hi ov) (x : Nat) : EB (w.setCell ⟨S, 0, none⟩ (.int .u32 (x : Int))) S x hi ov := by unfold EB at *; simp [World.setCell, Array.getElem?_modify, h]
theorem EB.s1 (h : EB w S lo hi ov) (x : Nat) : EB (w.setCell ⟨S, 1, none⟩ (.int .u32 (x : Int))) S lo x ov := by unfold EB at *; simp [World.setCell, Array.getElem?_modify, h]
theorem EB.s2 (h : EB w S lo hi ov) (x : Value) : EB (w.setCell ⟨S, 2, none⟩ x) S lo hi x := by unfold EB at *; simp [World.setCell, Array.getElem?_modify, h]
end

theorem mid_ok {lo hi p : Nat} (h1 : lo < hi) (h2 : hi < 4294967296) (hp : p ≤ 4095) :
    ∃ mid : Nat, ((lo : Int) + IntKind.u64.wrap (((hi : Int) - (lo : Int)) * (p : Int)) / 4096 % 4294967296) % 4294967296 = (mid : Int) ∧ lo ≤ mid ∧ mid < hi := by
  obtain ⟨d, rfl⟩ := Nat.exists_eq_add_of_lt h1
  have e1 : (((lo + d + 1 : Nat) : Int) - (lo : Int)) * (p : Int) = (((d + 1) * p : Nat) : Int) := by
    rw [Int.natCast_mul]; congr 1; omega
  have h3 : (d + 1) * p ≤ (d + 1) * 4095 := Nat.mul_le_mul_left _ hp
  generalize (d + 1) * p = x at e1 h3
  have e2 : IntKind.u64.wrap ((x : Nat) : Int) = ((x : Nat) : Int) := by
    simp [IntKind.wrap, IntKind.bits, IntKind.signed]; omega
  rw [e1, e2]
  refine ⟨lo + x / 4096, ?_, by omega, by omega⟩
  omega

def D (j : Nat) : Nat := 256 ^ j
theorem D_succ (j : Nat) : D (j + 1) = 256 * D j := by unfold D; rw [Nat.pow_succ]; omega
theorem D_small {j : Nat} (hj : j ≤ 4) (h : D j ≤ 16777216) : j ≤ 3 := by
  rcases Nat.lt_or_ge j 4 with h' | h'
  · omega
  · obtain rfl : j = 4 := by omega
    simp [D] at h

theorem own_shape {w : World} {base : Nat} {e : TypeId} {size : Nat} {v : Value} {m : Nat} {xs : List Value} (h : w.ownsRow base e size v m xs) :
    (v = .slice none 0 0 ∧ m = 0 ∧ xs = []) ∨ ∃ g cap, v = .slice (some ⟨g, 0, none⟩) m cap ∧ base ≤ g ∧ m ≤ cap ∧ cap ≤ maxLen := by
  obtain ⟨hl, h⟩ := h
  rcases h with ⟨rfl, rfl⟩ | ⟨g, cap, cur, rfl, hb, _, h1, h2, _⟩
  · exact .inl ⟨rfl, rfl, List.eq_nil_of_length_eq_zero (by simpa using hl)⟩
  · exact .inr ⟨g, cap, rfl, hb, h1, h2⟩
theorem own_pos {w : World} {base : Nat} {e : TypeId} {size : Nat} {v : Value} {m : Nat} {xs : List Value} (h : w.ownsRow base e size v m xs) (hm : 0 < m) : ∃ g cap, v = .slice (some ⟨g, 0, none⟩) m cap := by
  rcases own_shape h with ⟨_, h, _⟩ | ⟨g, cap, h, _⟩
  · omega
  · exact ⟨g, cap, h⟩
theorem own_low {w : World} {base : Nat} {e : TypeId} {size : Nat} {v : Value} {m : Nat} {xs : List Value} (h : w.ownsRow base e size v m xs) : ∀ k, v.ownBlock = some k → base ≤ k := fun k hk => (h.lt k hk).1
theorem new_one (w : World) (g : Nat) (hg : g = w.heap.size) (a : Value) (t : TypeId) : ∀ j u, [a][j]? = some u → (w.alloc (.cells #[a] t)).cell? ((⟨g, 0, none⟩ : Addr).add j) = some u := by
  subst hg
  intro j u hu
  rw [Addr.add_lit, Nat.zero_add, World.cell?_alloc_new]
  simpa using hu
theorem one_one (k : IntKind) (x : Int) : ∀ u ∈ [Value.int k x], u.oneCell' = true := by
  intro u hu; simp at hu; subst hu; rfl

/-- append onto a row of the call's own, as one step of a region that draws -/
theorem step_append_own {P : Program} {ops : Array Oper} {o : Oper} {a : Act} {w : World} {K : Act → World → Prop} {Q : Exit → Act → World → Prop} {E : Prop}
    (hg : o.guard = none) (s x : Operand) (t : TypeId) (hop : o.op = Op.call { callee := Callee.builtin Builtin.append, args := #[s, x], argTypes := #[t, t] })
    (base : Nat) (e : TypeId) (i : TypeInfo) (z : Value) (size bytes : Nat) (h1 : P.underlying t = some (.slice e)) (h2 : P.info? e = some i) (h3 : i.zero = some z) (h4 : i.size = size) (h5 : i.bytes = bytes) (h6 : z.cells.size = size) (h7 : 0 < size)
    (v : Value) (n : Nat) (xs : List Value) (hs : a.eval s = v) (hown : w.ownsRow base e size v n xs)
    (ad : Addr) (m c : Nat) (news : List Value) (hx : a.eval x = .slice (some ad) m c) (hn : news.length = m * size) (hc : ∀ j u, news[j]? = some u → w.cell? (ad.add j) = some u) (h1c : ∀ u ∈ news, u.oneCell' = true)
    (b1 : n + m ≤ maxLen) (b2 : (n + m) * bytes ≤ 140737488355328) (hbase : base ≤ w.heap.size)
    (hK : ∀ v' w', w'.ownsRow base e size v' (n + m) (xs ++ news) → w.grownBy w' v.ownBlock → K (a.put o.dst v') w') :
    if Region.wanted o (yielded ops a.tmps) = true then Oper.wp P o a w K Q else E := by
  have hw : Region.wanted o (yielded ops a.tmps) = true := by simp [Region.wanted, hg]
  rw [if_pos hw]
  obtain ⟨v', w', hrun, r1, r2, _⟩ := run_append_own (P := P) w base t o.type e i z size bytes h1 h2 h3 h4 h5 h6 h7 v n xs hown ad m c news hn hc h1c b1 b2 hbase
  unfold Oper.wp
  simp [execOp, hop, resolve, invoke, builtin, hs, hx, hrun, Result.andThen]
  exact hK v' w' r1 r2

/-- the encoder at S and its out row of m bytes; nothing below B has turned -/
structure ES (w0 w : World) (B S lo hi : Nat) (ov : Value) (m : Nat) : Prop where
  eb : EB w S lo hi ov
  own : ∃ xs, w.ownsRow B 5 1 ov m xs
  bel : Below B w0 w
  hBS : B ≤ S

section
variable {w0 w : World} {B S lo hi : Nat} {ov : Value} {m : Nat}
theorem ES.drewN (h : ES w0 w B S lo hi ov m) (k : Nat) : ES w0 (w.drewN k) B S lo hi ov m := ⟨h.eb, h.own, bel_drewN h.bel k, h.hBS⟩
theorem ES.drew (h : ES w0 w B S lo hi ov m) : ES w0 w.drew B S lo hi ov m := ⟨h.eb, h.own, h.bel.drew, h.hBS⟩
theorem ES.kept (h : ES w0 w B S lo hi ov m) (i : Nat) (u : Value) : ∃ xs, (w.setCell ⟨S, i, none⟩ u).ownsRow B 5 1 ov m xs := by
  obtain ⟨xs, hx⟩ := h.own
  refine ⟨xs, hx.kept (row := some S) ⟨rfl, rfl, rfl, by simp, fun k _ hk => Below.heap_setCell _ _ _ _ (by simpa using hk)⟩ ?_⟩
  rcases hx.2 with ⟨rfl, _⟩ | ⟨g, cap, cur, rfl, _, hh, _⟩
  · left; rfl
  · right
    simp only [Value.ownBlock, ne_eq, Option.some.injEq]
    intro e
    subst e
    have := h.eb
    unfold EB at this
    rw [hh] at this
    simp at this
theorem ES.s0 (h : ES w0 w B S lo hi ov m) (x : Nat) : ES w0 (w.setCell ⟨S, 0, none⟩ (.int .u32 (x : Int))) B S x hi ov m := ⟨h.eb.s0 x, h.kept 0 _, h.bel.setCell h.hBS _, h.hBS⟩
theorem ES.s1 (h : ES w0 w B S lo hi ov m) (x : Nat) : ES w0 (w.setCell ⟨S, 1, none⟩ (.int .u32 (x : Int))) B S lo x ov m := ⟨h.eb.s1 x, h.kept 1 _, h.bel.setCell h.hBS _, h.hBS⟩

theorem ES.push (h : ES w0 w B S lo hi ov m) {o : Obj} {w2 : World} {ov' : Value} {xs : List Value} (ho : w2.ownsRow B 5 1 ov' (m + 1) xs) (hg : (w.alloc o).grownBy w2 ov.ownBlock) :
    ∃ g cap, ov' = .slice (some ⟨g, 0, none⟩) (m + 1) cap ∧ EB w2 S lo hi ov ∧ ES w0 (w2.setCell ⟨S, 2, none⟩ (.slice (some ⟨g, 0, none⟩) (m + 1) cap)) B S lo hi (.slice (some ⟨g, 0, none⟩) (m + 1) cap) (m + 1) := by
  obtain ⟨g, cap, e⟩ := own_pos ho (by omega)
  subst e
  obtain ⟨ys, hy⟩ := h.own
  have hS := h.eb.lt
  have hne : some S ≠ ov.ownBlock := by
    rcases hy.2 with ⟨rfl, _⟩ | ⟨g', cap', cur, rfl, _, hh, _⟩
    · simp [Value.ownBlock]
    · simp only [Value.ownBlock, ne_eq, Option.some.injEq]
      intro e; subst e
      have := h.eb; unfold EB at this; rw [hh] at this; simp at this
  have hblk : w2.heap[S]? = w.heap[S]? := by rw [hg.block S (by simp; omega) hne, Below.heap_alloc _ _ _ hS]
  have heb : EB w2 S lo hi ov := h.eb.of hblk
  have hbs := h.hBS
  have hbel : Below B w0 w2 := (h.bel.alloc (by omega) o).grown hg (by simp; omega) (own_low hy)
  refine ⟨g, cap, rfl, heb, ?_⟩
  have hes : ES w0 w2 B S lo hi ov (m + 1) → True := fun _ => trivial
  refine ⟨heb.s2 _, ?_, hbel.setCell hbs _, hbs⟩
  refine ⟨xs, ho.kept (row := some S) ⟨rfl, rfl, rfl, by simp, fun k _ hk => Below.heap_setCell _ _ _ _ (by simpa using hk)⟩ ?_⟩
  right
  simp only [Value.ownBlock, ne_eq, Option.some.injEq]
  intro e; subst e
  rcases ho.2 with ⟨h', _⟩ | ⟨g', cap', cur, h', _, hh, _⟩
  · cases h'
  · cases h'
    unfold EB at heb; rw [hh] at heb; simp at heb
end

theorem info5 : (Try.prog.info? 5).map (fun i => (i.zero, i.size, i.bytes)) = some (some (.int .u8 0), 1, 1) := by kernel_rfl

def EncPost (w0 : World) (B S n : Nat) (e : Ending) (w' : World) : Prop :=
  e = .returned (.tuple #[]) ∧ ∃ lo hi ov m, ES w0 w' B S lo hi ov m ∧ lo < hi ∧ hi < 4294967296 ∧ ¬ lo / 16777216 = hi / 16777216 ∧ n ≤ m ∧ m ≤ n + 4

set_option maxRecDepth 100000 in
set_option maxHeartbeats 4000000 in
theorem encode_any (w0 w : World) (B S lo hi : Nat) (ov : Value) (n : Nat) (bit : Int) (p : Nat) (h : ES w0 w B S lo hi ov n) (hlh : lo < hi) (hhi : hi < 4294967296) (hp : p ≤ 4095) (hn : n ≤ 1048576) :
    Calls Try.prog 14 #[.pointer (some ⟨S, 0, none⟩), .int .i64 bit, .int .i32 (p : Int)] w (EncPost w0 B S n) := by
  have c0 := h.eb.c0
  have c1 := h.eb.c1
  have HH := hid h
  have hmid := hid (mid_ok hlh hhi hp)
  clear h
  go_enter Try.func14, Try.ntmps14
  go_upto_region 0 with fail
  go_cut [6] (fun mv wc => (∃ mid : Nat, mv = .int .u32 (mid : Int) ∧ lo ≤ mid ∧ mid < hi) ∧ ES w0 wc B S lo hi ov n)
  case first =>
    go_quiet (fail)
    go_wp2_with fail
    go_meet
    case rel =>
      obtain ⟨mid, e1, e2, e3⟩ := hmid.out
      exact ⟨⟨mid, by rw [e1], e2, e3⟩, HH.out.drewN _⟩
  case rest =>
  obtain ⟨⟨mid, rfl, m1, m2⟩, hes⟩ := hcut
  clear c0 c1 HH hmid
  have c0 := hes.eb.c0
  have c1 := hes.eb.c1
  have fr := hes.eb.fr
  have HH := hid hes
  clear hes
  go_upto_if 28 with fail
  go_cut [] (fun wc => ∃ lo1 hi1, lo1 ≤ hi1 ∧ hi1 < 4294967296 ∧ ES w0 wc B S lo1 hi1 ov n)
  case first =>
    by_cases hbit : bit = 0
    · have hb' : (bit != 0) = false := by simpa using hbit
      clear hbit
      go_wp2_with fail
      go_meet
      case rel => exact ⟨mid + 1, hi, by omega, hhi, by have := HH.out.s0 (mid + 1); simpa using this⟩
    · have hb' : (bit != 0) = true := by simpa using hbit
      clear hbit
      go_wp2_with fail
      go_meet
      case rel => exact ⟨lo, mid, by omega, by omega, HH.out.s1 mid⟩
  case rest =>
  obtain ⟨lo1, hi1, q1, q2, hes⟩ := hcut
  clear c0 c1 fr HH
  go_wp2_with fail
  go_loopg [] 4 (fun gk wx => ∃ j lo2 hi2 ov2, gk = 4 - j ∧ j ≤ 4 ∧ lo2 ≤ hi2 ∧ hi2 < 4294967296 ∧ D j ≤ hi2 - lo2 + 1 ∧ ES w0 wx B S lo2 hi2 ov2 (n + j))
  case atStart => exact ⟨0, lo1, hi1, ov, rfl, by omega, q1, q2, by simp [D], hes⟩
  case round =>
    obtain ⟨j, lo2, hi2, ov2, rfl, hj, g1, g2, g3, hes⟩ := hrel
    have c0 := hes.eb.c0
    have c1 := hes.eb.c1
    have c2 := hes.eb.c2
    have fr := hes.eb.fr
    have hSs := hes.eb.lt
    have HES := hid hes
    have G3 := hid g3
    clear hes g3
    by_cases htop : lo2 / 16777216 = hi2 / 16777216
    · have ht' := top_yes (by omega : lo2 < 4294967296) g2 htop
      have hj3 : j ≤ 3 := by
        have := G3.out
        exact D_small hj (by omega)
      have HW := hid (widen g1 g2 htop)
      have HD := hid (D_succ j)
      clear htop
      obtain ⟨i0, hi0, hz0, hz1, hz2⟩ := info_parts info5
      obtain ⟨xs, hown⟩ := HES.out.own
      have HOWN := hid hown
      have hbs := HES.out.hBS
      clear hown
      go_upto_region 4 with fail
      go_quiet (fail)
      have cA : ∀ o, ((wr.drewN (nq + 1)).alloc o).cell? ⟨S, 2, none⟩ = some ov2 := fun o => (World.cell?_alloc_lt _ _ _ hSs).trans c2
      go_upto_region 5 with fail
      go_cut [] (fun wc => ∃ ov3, ES w0 wc B S lo2 hi2 ov3 (n + j + 1))
      case first =>
        go_region_law (refine step_append_own rfl (.tmp 53) (.tmp 60) 23 rfl B 5 i0 (.int .u8 0) 1 1 Try.underlying23 hi0 hz0 hz1 hz2 rfl (by decide) ov2 _ _ (by simp [Act.eval, Act.put]) (HOWN.out.alloc _) ⟨wr.heap.size, 0, none⟩ 1 1 [.int .u8 ((hi2 : Int) / 16777216 % 256)] (by simp [Act.eval, Act.put]) rfl (new_one (wr.drewN (nq + 1)) _ rfl _ _) (one_one _ _) (by unfold maxLen; omega) (by omega) (by simp; omega) ?_; intro v' w1 hown' hgrow; obtain ⟨g', cap', hv', E2, R2⟩ := (HES.out.drewN (nq + 1)).push hown' hgrow; subst hv'; have c2' := E2.c2; have fr' := E2.fr; clear E2 hown' hgrow)
        all_goals (go_wp2_with fail; go_meet; case rel => exact ⟨_, R2⟩)
      case rest =>
      obtain ⟨ov3, hes⟩ := hcut
      clear c0 c1 c2 fr HES HOWN cA
      have c0 := hes.eb.c0
      have c1 := hes.eb.c1
      have fr := hes.eb.fr
      have R := hid ((hes.s0 (lo2 * 256 % 4294967296)).s1 (hi2 * 256 % 4294967296 + 255))
      have HO := hid (or_255 (hi2 * 256 % 4294967296) (by omega) (by omega))
      clear hes
      go_wp2_with fail
      go_roundg (4 - (j + 1))
      case measure => omega
      case rel =>
        refine ⟨j + 1, lo2 * 256 % 4294967296, hi2 * 256 % 4294967296 + 255, ov3, rfl, by omega, HW.out.1, HW.out.2.1, ?_, ?_⟩
        · rw [HD.out, HW.out.2.2]; have := G3.out; omega
        · have e1 : ((lo2 * 256 % 4294967296 : Nat) : Int) = (lo2 : Int) * 256 % 4294967296 := by omega
          have e2 : ((hi2 * 256 % 4294967296 : Nat) : Int) = (hi2 : Int) * 256 % 4294967296 := by omega
          rw [← e1, ← e2, HO.out]
          exact R.out
    · have ht' := top_no (by omega : lo2 < 4294967296) g2 htop
      have R := hid (fun k => (show EncPost w0 B S n (.returned (.tuple #[])) (wr.drewN k) from ⟨rfl, lo2, hi2, ov2, n + j, HES.out.drewN k, by omega, g2, htop, by omega, by omega⟩))
      clear htop
      go_upto_region 4 with fail
      go_quiet (fail)
      go_wp2_with fail
      go_end0
      exact R.out _

end Go.Proofs.Qxb6606424a
