import Derived.Test.Qxb6003663aCArith
namespace Go.Proofs.Qxb6003663a
open Go.RowKit
set_option linter.unusedVariables false
set_option linter.unusedSimpArgs false

theorem CB.grown {S B n : Nat} {lim : Int} {G H : List (List Nat)} {bl wt : Nat → Int} {cv : Value} {work mark : Int} {rv lv ov pv qv nv : Value} {w w1 : World} {row : Option Nat} (h : CB S B n lim G H bl wt cv work mark rv lv ov pv qv nv w) (hg : w.grownBy w1 row) (hlow : ∀ k, row = some k → B + 5 ≤ k) : CB S B n lim G H bl wt cv work mark rv lv ov pv qv nv w1 :=
  h.below (fun k hk => hg.block k (by have := h.sz; omega) (fun e => by have := hlow k e.symm; omega)) hg.size

def CSt (S B n : Nat) (lim : Int) (G H : List (List Nat)) (bl wt : Nat → Int) (K : List Nat) (cv : Value) (work mark : Int) (rv lv ov pv qv nv : Value) (w wr : World) : Prop :=
  CB S B n lim G H bl wt cv work mark rv lv ov pv qv nv wr ∧ wr.ownsRow (B + 5) 50 1 cv K.length (K.map vtx) ∧ Below S w wr

section
variable {S B n : Nat} {lim : Int} {G H : List (List Nat)} {bl wt : Nat → Int} {K : List Nat} {cv : Value} {work mark : Int} {rv lv ov pv qv nv : Value} {w wr : World}
theorem CSt.drew (h : CSt S B n lim G H bl wt K cv work mark rv lv ov pv qv nv w wr) : CSt S B n lim G H bl wt K cv work mark rv lv ov pv qv nv w wr.drew := ⟨h.1.drew, h.2.1, h.2.2.drew⟩
theorem CSt.drewN (h : CSt S B n lim G H bl wt K cv work mark rv lv ov pv qv nv w wr) (k : Nat) : CSt S B n lim G H bl wt K cv work mark rv lv ov pv qv nv w (wr.drewN k) := ⟨h.1.drewN k, h.2.1, bel_drewN h.2.2 k⟩
theorem CSt.setMark (h : CSt S B n lim G H bl wt K cv work mark rv lv ov pv qv nv w wr) (x : Int) : CSt S B n lim G H bl wt K cv work x rv lv ov pv qv nv w (wr.setCell ⟨S, 13, none⟩ (.int .i64 x)) :=
  ⟨h.1.setMark x, own_set h.2.1 (by have := h.1.lt; show S < B + 5; omega) _, h.2.2.setCell (Nat.le_refl _) _⟩
theorem CSt.setWork (h : CSt S B n lim G H bl wt K cv work mark rv lv ov pv qv nv w wr) (x : Int) : CSt S B n lim G H bl wt K cv x mark rv lv ov pv qv nv w (wr.setCell ⟨S, 4, none⟩ (.int .i64 x)) :=
  ⟨h.1.setWork x, own_set h.2.1 (by have := h.1.lt; show S < B + 5; omega) _, h.2.2.setCell (Nat.le_refl _) _⟩
theorem CSt.setB {l : List Nat} {t : Nat} {x : Int} (h : CSt S B n lim G H (mkm bl (l.take t) x) wt K cv work mark rv lv ov pv qv nv w wr) (ht : t < l.length) : CSt S B n lim G H (mkm bl (l.take (t + 1)) x) wt K cv work mark rv lv ov pv qv nv w (wr.setCell ⟨B + 3, l.getD t 0, none⟩ (.int .i64 x)) :=
  ⟨h.1.setB ht, own_set h.2.1 (by show B + 3 < B + 5; omega) _, h.2.2.setCell (by have := h.1.lt; show S ≤ B + 3; omega) _⟩
theorem CSt.setW {l : List Nat} {t : Nat} {x : Int} (h : CSt S B n lim G H bl (mkm wt (l.take t) x) K cv work mark rv lv ov pv qv nv w wr) (ht : t < l.length) : CSt S B n lim G H bl (mkm wt (l.take (t + 1)) x) K cv work mark rv lv ov pv qv nv w (wr.setCell ⟨B + 4, l.getD t 0, none⟩ (.int .i64 x)) :=
  ⟨h.1.setW ht, own_set h.2.1 (by show B + 4 < B + 5; omega) _, h.2.2.setCell (by have := h.1.lt; show S ≤ B + 4; omega) _⟩
/-- b.candidates gets another slice of the call's own -/
theorem CSt.newCand (h : CSt S B n lim G H bl wt K cv work mark rv lv ov pv qv nv w wr) {w1 : World} {row : Option Nat} (hg : wr.grownBy w1 row) (hlow : ∀ k, row = some k → B + 5 ≤ k) {K' : List Nat} {cv' : Value} (hown : w1.ownsRow (B + 5) 50 1 cv' K'.length (K'.map vtx)) :
    CSt S B n lim G H bl wt K' cv' work mark rv lv ov pv qv nv w (w1.setCell ⟨S, 10, none⟩ cv') ∧ w1.cell? ⟨S, 10, none⟩ = some cv ∧ w1.frozen? ⟨S, 10, none⟩ = false := by
  have h1 := h.1.grown hg hlow
  have h2 := h.1.lt
  have h3 := h.1.sz
  exact ⟨⟨h1.setCand cv', own_set hown (by show S < B + 5; omega) _, (h.2.2.grown hg (by omega) (fun k hk => by have := hlow k hk; omega)).setCell (Nat.le_refl _) _⟩, h1.sb.c10, h1.sb.fr 10⟩
end

/-- the state that a call leaves -/
def CDn (S B n : Nat) (lim : Int) (G H : List (List Nat)) (mark0 : Int) (rv lv ov pv qv nv : Value) (w wx : World) : Prop :=
  ∃ K cv work mark bl wt, CSt S B n lim G H bl wt K cv work mark rv lv ov pv qv nv w wx ∧ 0 ≤ mark ∧ mark ≤ mark0 + 1048578 ∧ ∀ v, bl v ≤ mark ∧ wt v ≤ mark

def CliquePost (S B n : Nat) (lim : Int) (G H : List (List Nat)) (mark0 : Int) (rv lv ov pv qv nv : Value) (r : Nat) (w : World) (e : Ending) (w' : World) : Prop :=
  e = .returned (.int .i64 (sat (lim + 1) ((upto (cliq G r) (cliq G r) : Nat) : Int))) ∧ CDn S B n lim G H mark0 rv lv ov pv qv nv w w'

theorem wpList_append_at (w : World) {ops : Array Oper} {rest : List Oper} {o : Oper} {a : Act} {Q : Exit → Act → World → Prop} (hgd : o.guard = none) (s x : Operand)
    (ho : o.op = .call { callee := .builtin .append, args := #[s, x], argTypes := #[56, 56] }) (q cap : Nat) (K : List Nat) (p : Nat → Bool) (j m c : Nat) (hc : c = K.getD j 0) (hm : m = ((K.take j).filter p).length) (hs : a.eval s = .slice (some ⟨q, 0, none⟩) m cap) (h : FL w q cap K p j) (hj : j < K.length) (hK : K.length ≤ cap) (hp : p c = true)
    (ad : Addr) (cc : Nat) (hx : a.eval x = .slice (some ad) 1 cc) (hnews : ∀ i u, [Value.int .i32 (c : Int)][i]? = some u → w.cell? (ad.add i) = some u)
    (hk : ∀ w', FL w' q cap K p (j + 1) → w.grownBy w' (some q) → wpList Try.prog ops Q rest (a.put o.dst (.slice (some ⟨q, 0, none⟩) (m + 1) cap)) w') : wpList Try.prog ops Q (o :: rest) a w := by
  subst hc
  exact wpList_append_in w hgd s x ho q cap K p j m hm hs h hj hK hp ad cc hx hnews hk

theorem cst_mk {S B n : Nat} {lim : Int} {G H : List (List Nat)} {bl wt : Nat → Int} {cv : Value} {work mark : Int} {rv lv ov pv qv nv : Value} {w wr : World} (h : CB S B n lim G H bl wt cv work mark rv lv ov pv qv nv wr) (hb : Below S w wr) {K' : List Nat} {cv' : Value} (hown : wr.ownsRow (B + 5) 50 1 cv' K'.length (K'.map vtx)) :
    CSt S B n lim G H bl wt K' cv' work mark rv lv ov pv qv nv w (wr.setCell ⟨S, 10, none⟩ cv') := by
  have h2 := h.lt
  exact ⟨h.setCand cv', own_set hown (by show S < B + 5; omega) _, hb.setCell (Nat.le_refl _) _⟩

theorem own_head {w : World} {base q cap c : Nat} {K rest : List Nat} (hK : K = c :: rest) (h : w.ownsRow base 50 1 (.slice (some ⟨q, 0, none⟩) K.length cap) K.length (K.map vtx)) : w.cell? ⟨q, 0, none⟩ = some (.int .i32 (c : Int)) := by
  obtain ⟨hl, ⟨h0, _⟩ | ⟨q', cap', cur, hv, hb, hq, h1, h2, h3, h4⟩⟩ := h
  · cases h0
  · cases hv
    have h5 : (cur.toList.take (K.length * 1))[0]? = some (vtx c) := by rw [h4, hK]; rfl
    rw [List.getElem?_take, if_pos (by rw [hK]; simp)] at h5
    have h6 : cur[0]? = some (vtx c) := by simpa using h5
    simp [World.cell?, hq, h6, vtx]

theorem cdn_lim {S B n : Nat} {lim : Int} {G H : List (List Nat)} {mark0 : Int} {rv lv ov pv qv nv : Value} {w wx : World} (h : CDn S B n lim G H mark0 rv lv ov pv qv nv w wx) : wx.cell? ⟨S, 2, none⟩ = some (.int .i64 lim) := by
  obtain ⟨K, cv, work, mark, bl, wt, h, _⟩ := h; exact h.1.sb.c2
theorem cdn_lt {S B n : Nat} {lim : Int} {G H : List (List Nat)} {mark0 : Int} {rv lv ov pv qv nv : Value} {w wx : World} (h : CDn S B n lim G H mark0 rv lv ov pv qv nv w wx) : S < wx.heap.size := by
  obtain ⟨K, cv, work, mark, bl, wt, h, _⟩ := h; exact h.1.sb.lt
theorem ff_step (k j : Nat) (h : j < k) : ff k j * (k - j) = ff k (j + 1) := rfl

set_option maxRecDepth 100000 in
set_option maxHeartbeats 4000000 in
theorem clique_any (w : World) (S B n : Nat) (lim : Int) (G H : List (List Nat)) (bl0 wt0 : Nat → Int) (K0 : List Nat) (cv0 : Value) (work0 mark0 : Int) (rv lv ov pv qv nv : Value) (r : Nat)
    (h : CSt S B n lim G H bl0 wt0 K0 cv0 work0 mark0 rv lv ov pv qv nv w w) (hgl : G.length = n) (hhl : H.length = n) (hr : r < n) (hn : n ≤ 65536) (hrl : ∀ v, (row G v).length ≤ 1048576) (hrl2 : ∀ v, (row H v).length ≤ 1048576)
    (hrev : ∀ u v, u < n → (v ∈ row H u ↔ u ∈ row G v)) (hns : NoSelf G) (m0 : 0 ≤ mark0) (m1 : mark0 ≤ 1099511627776) (hmk : ∀ v, bl0 v ≤ mark0 ∧ wt0 v ≤ mark0) (h0 : 0 ≤ lim) (h1 : lim + 1 ≤ 9223372036854775807) :
    Calls Try.prog 33 #[.pointer (some ⟨S, 0, none⟩), .int .i32 (r : Int)] w (CliquePost S B n lim G H mark0 rv lv ov pv qv nv r w) := by
  have HRL := hid hrl
  have HRL2 := hid hrl2
  have HREV := hid hrev
  have HNS := hid hns
  have HGL := hid hgl
  have HHL := hid hhl
  have HH0 := hid h
  have HMK0 := hid hmk
  obtain ⟨ao0, cap0, hcv, hcap0, hmc0⟩ := own_opt2 h.2.1
  have hcut0 := hid (own_cut0 (by rw [← hcv]; exact h.2.1 : w.ownsRow (B + 5) 50 1 (.slice ao0 K0.length cap0) K0.length (K0.map vtx)))
  have hcq0 := cliq_le G r
  have hrr := hrl r
  have hcq1 : cliq G r ≤ 1048577 := by omega
  clear hcq0
  obtain ⟨ax, cx, hrow, hx1, hx2, hx3⟩ := h.1.eg.edges (v := r) (by rw [hgl]; exact hr)
  rw [Nat.zero_add] at hrow
  unfold maxLen at hx1 hcap0
  have c0 := h.1.sb.c0
  have c10 := h.1.sb.c10
  have fr10 := h.1.sb.fr 10
  have hlt := h.1.lt
  have hsz := h.1.sz
  rw [hcv] at c10
  obtain ⟨l, hl⟩ : ∃ l, l = row G r := ⟨_, rfl⟩
  rw [← hl] at hrow hx2 hx3 hrr
  have HX3 := hid (show 0 < l.length → ∃ b' off', ax = some ⟨b', off', none⟩ ∧ ∀ j, j < l.length → w.cell? ⟨b', off' + j, none⟩ = some (.int .i32 ((l.getD j 0 : Nat) : Int)) from fun hp => by
    obtain ⟨b', off', e, _, _, h4⟩ := hx3 hp
    exact ⟨b', off', e, fun j hj => (h4 j hj).1⟩)
  have HLN := hid (show ∀ v ∈ l, v < n from fun v hv => by
    obtain ⟨j, hj, rfl⟩ := List.getElem_of_mem hv
    obtain ⟨_, _, _, _, _, h4⟩ := hx3 (by omega)
    have := (h4 j hj).2
    rwa [List.getD_eq_getElem?_getD, List.getElem?_eq_getElem hj] at this)
  have HL := hid hl
  have HCV := hid hcv
  clear hrl hrl2 hrev hns hgl hhl h hmk hx3 hl hcv
  go_enter Try.func33, Try.ntmps33
  go_upto_region 1 with fail
  go_cut [] (fun wc => ∃ cv, CSt S B n lim G H bl0 wt0 l cv work0 mark0 rv lv ov pv qv nv w wc)
  case first =>
    go_region_law (refine step_append_all rfl (.tmp 22) (.tmp 29) rfl (B + 5) ao0 cap0 (by simp [Act.eval, Act.put]) hcut0.out ax l cx (by simp [Act.eval, Act.put]) hrr HX3.out hsz ?_; intro v' w1 hown' hgrow; obtain ⟨R1, R2, R3⟩ := HH0.out.drew.newCand hgrow (own_low hcut0.out) hown'; rw [HCV.out] at R2; obtain ⟨a3, c3, hv3, hc3, hm3⟩ := own_opt2 hown'; subst hv3; have RR := hid R1; clear R1 hown' hgrow)
    all_goals (go_wp2_with fail; go_meet; case rel => exact ⟨_, RR.out⟩)
  case rest =>
  obtain ⟨cv, hst⟩ := hcut
  have HST0 := hid hst
  clear hst c0 c10 fr10 hrow
  go_wp2_with fail
  go_loopg [5, 6] (cl G (l.filter (mtl G r ·))) (fun gk kv xv wr => ∃ k x K cv work mark bl wt, gk = cl G (K.filter (mtl G x ·)) ∧ kv = .int .i64 ((k : Nat) : Int) ∧ xv = .int .i32 ((x : Nat) : Int) ∧ x < n ∧ k + gk = cliq G r ∧ mark + 1 = mark0 + (k : Int) ∧ 1 ≤ k ∧ CSt S B n lim G H bl wt K cv work mark rv lv ov pv qv nv w wr ∧ (∀ v ∈ K, v < n) ∧ (∀ v, bl v ≤ mark ∧ wt v ≤ mark) ∧ K.length ≤ 1048576)
  case atStart => exact ⟨1, r, l, cv, work0, mark0, bl0, wt0, rfl, rfl, rfl, hr, by rw [HL.out]; unfold cliq; omega, by omega, Nat.le_refl _, HST0.out, HLN.out, HMK0.out, hrr⟩
  case round =>
    obtain ⟨k, x, K, cv, work, mark, bl, wt, hgk, rfl, rfl, hxn, hkc, hmark, hk1, hst, hKn, hbw, hKl⟩ := hrel
    have HGK := hid hgk
    have HKC := hid hkc
    have HKN := hid hKn
    have HBW := hid hbw
    have HST := hid hst
    have hk2 : k ≤ 1048577 := by omega
    have mb0 : 0 ≤ mark := by omega
    have mb1 : mark ≤ 1099512676353 := by omega
    have HMARK := hid hmark
    have c13 := hst.1.sb.c13
    have f13 := hst.1.sb.fr 13
    have hSl := hst.1.sb.lt
    have R := hid (hst.setMark (mark + 1))
    clear hst hKn hbw hgk hkc HST0 hmark
    go_upto_region 5 with fail
    go_cut [] (fun wc => CSt S B n lim G H bl wt K cv work (mark + 1) rv lv ov pv qv nv w wc)
    case first =>
      go_wp2_with fail
      go_meet
      case rel => exact R.out
    case rest =>
    have hst := hcut
    clear hcut R HST c13 f13
    obtain ⟨mk, hmkk⟩ : ∃ mk, mk = mark + 1 := ⟨_, rfl⟩
    rw [← hmkk] at hst
    have HST := hid hst
    obtain ⟨aE, capE, hrE, hE1, hE2, hE3⟩ := hst.1.eg.edges (v := x) (by rw [HGL.out]; exact hxn)
    rw [Nat.zero_add] at hrE
    unfold maxLen at hE1
    have hlex := HRL.out x
    obtain ⟨le, hle⟩ : ∃ le, le = row G x := ⟨_, rfl⟩
    rw [← hle] at hrE hE2 hE3 hlex
    have HLE := hid hle
    have c0 := hst.1.sb.c0
    have BW := hid (show ∀ v, bl v < mk ∧ wt v < mk from fun v => by have := HBW.out v; omega)
    have HEC := hid (show ∀ wx, CSt S B n lim G H bl wt K cv work mk rv lv ov pv qv nv w wx → True from fun _ _ => trivial)
    have mb2 : 0 < mk := by omega
    have mb3 : mk ≤ 1099512676354 := by omega
    have HMKK := hid hmkk
    clear hle hst HEC hmkk
    go_wp2_with fail
    go_loopg [51] le.length (fun gk jv wx => ∃ t, gk = le.length - t ∧ t ≤ le.length ∧ jv = .int .i64 ((t : Nat) : Int) ∧ CSt S B n lim G H (mkm bl (le.take t) mk) wt K cv work mk rv lv ov pv qv nv w wx ∧ Kept (S + 1) B wc wx)
    case atStart => exact ⟨0, rfl, Nat.zero_le _, rfl, by rw [List.take_zero, mkm_nil]; exact HST.out, Kept.refl _ _ _⟩
    case round =>
      obtain ⟨t, rfl, ht, rfl, hst, hkp⟩ := hrel
      by_cases htl : t < le.length
      · obtain ⟨b4, off4, hae, hb41, hb42, hb43⟩ := hE3 (by omega)
        subst hae
        have hc2 : wr.cell? ⟨b4, off4 + t, none⟩ = some (.int .i32 ((le.getD t 0 : Nat) : Int)) := (hkp.cell hb41 hb42).trans (hb43 t htl).1
        have hun := (hb43 t htl).2
        have R := hid (hst.setB htl).drew
        obtain ⟨u, hu⟩ : ∃ u, u = le.getD t 0 := ⟨_, rfl⟩
        rw [← hu] at hc2 hun R
        have kc := hst.1.rb.cell hun
        have kf := hst.1.rb.frozen u
        have c11 := hst.1.sb.c11
        have c13 := hst.1.sb.c13
        have hSl2 := hst.1.sb.lt
        have RK := hid (show Kept (S + 1) B wc (wr.setCell ⟨B + 3, u, none⟩ (.int .i64 mk)).drew from hkp.set (Or.inr (by simp)) _)
        clear hu hst hkp hE3 hb43
        go_upto_region 9 with fail
        go_region
        go_wp2_with fail
        go_roundg (le.length - (t + 1))
        case measure => omega
        case rel => exact ⟨t + 1, rfl, by omega, by go_num, R.out, RK.out⟩
      · have e : t = le.length := by omega
        subst e
        rw [List.take_length] at hst
        obtain ⟨bl2, hbl2⟩ : ∃ f, f = mkm bl le mk := ⟨_, rfl⟩
        rw [← hbl2] at hst
        have HBL2 := hid hbl2
        obtain ⟨aW, capW, hrW, hW1, hW2, hW3⟩ := hst.1.wg.edges (v := x) (by rw [HHL.out]; exact hxn)
        rw [Nat.zero_add] at hrW
        unfold maxLen at hW1
        have hlwx := HRL2.out x
        obtain ⟨lw, hlw⟩ : ∃ lw, lw = row H x := ⟨_, rfl⟩
        rw [← hlw] at hrW hW2 hW3 hlwx
        have HLW := hid hlw
        have c1 := hst.1.sb.c1
        have HST2 := hid hst
        clear hlw hst hE3 hkp hbl2 hrE
        obtain ⟨wb, hwb⟩ : ∃ wb, wb = wr := ⟨_, rfl⟩
        rw [← hwb] at HST2 c1 hrW hW3
        rw [← hwb]
        clear hwb
        go_wp2_with fail
        go_loopg [74] lw.length (fun gk jv wx => ∃ t, gk = lw.length - t ∧ t ≤ lw.length ∧ jv = .int .i64 ((t : Nat) : Int) ∧ CSt S B n lim G H bl2 (mkm wt (lw.take t) mk) K cv work mk rv lv ov pv qv nv w wx ∧ Kept (S + 1) B wb wx)
        case atStart => exact ⟨0, rfl, Nat.zero_le _, rfl, by rw [List.take_zero, mkm_nil]; exact HST2.out, Kept.refl _ _ _⟩
        case round =>
          obtain ⟨t, rfl, ht, rfl, hst, hkp⟩ := hrel
          by_cases htl : t < lw.length
          · obtain ⟨b4, off4, hae, hb41, hb42, hb43⟩ := hW3 (by omega)
            subst hae
            have hc2 : wr.cell? ⟨b4, off4 + t, none⟩ = some (.int .i32 ((lw.getD t 0 : Nat) : Int)) := (hkp.cell hb41 hb42).trans (hb43 t htl).1
            have hun := (hb43 t htl).2
            have R := hid (hst.setW htl).drew
            obtain ⟨u, hu⟩ : ∃ u, u = lw.getD t 0 := ⟨_, rfl⟩
            rw [← hu] at hc2 hun R
            have kc := hst.1.rw'.cell hun
            have kf := hst.1.rw'.frozen u
            have c12 := hst.1.sb.c12
            have c13 := hst.1.sb.c13
            have hSl2 := hst.1.sb.lt
            have RK := hid (show Kept (S + 1) B wb (wr.setCell ⟨B + 4, u, none⟩ (.int .i64 mk)).drew from hkp.set (Or.inr (by simp)) _)
            clear hu hst hkp hW3 hb43
            go_upto_region 14 with fail
            go_region
            go_wp2_with fail
            go_roundg (lw.length - (t + 1))
            case measure => omega
            case rel => exact ⟨t + 1, rfl, by omega, by go_num, R.out, RK.out⟩
          · have e : t = lw.length := by omega
            subst e
            rw [List.take_length] at hst
            obtain ⟨wt2, hwt2⟩ : ∃ f, f = mkm wt lw mk := ⟨_, rfl⟩
            rw [← hwt2] at hst
            have MT := hid (show ∀ v, ((bl2 v == mk) && (wt2 v == mk)) = mtl G x v from fun v => by
              rw [HBL2.out, hwt2, mkm_eq (BW.out v).1, mkm_eq (BW.out v).2, HLE.out, HLW.out]
              unfold mtl
              congr 1
              exact decide_eq_decide.2 (HREV.out x v hxn))
            have LE2 := hid (show ∀ v, bl2 v ≤ mk ∧ wt2 v ≤ mk from fun v => by
              rw [HBL2.out, hwt2]
              exact ⟨mkm_le (Int.le_of_lt (BW.out v).1) (Int.le_refl _), mkm_le (Int.le_of_lt (BW.out v).2) (Int.le_refl _)⟩)
            obtain ⟨aE2, capE2, hrE2, hE21, hE22, _⟩ := hst.1.eg.edges (v := x) (by rw [HGL.out]; exact hxn)
            obtain ⟨aW2, capW2, hrW2, hW21, hW22, _⟩ := hst.1.wg.edges (v := x) (by rw [HHL.out]; exact hxn)
            rw [Nat.zero_add] at hrE2 hrW2
            rw [← HLE.out] at hrE2
            rw [← HLW.out] at hrW2
            obtain ⟨aoK, capK, hcvK, hcapK, hmcK⟩ := own_opt2 hst.2.1
            have HOW := hid hst.2.1
            have HST3 := hid hst
            have c0 := hst.1.sb.c0
            have c1 := hst.1.sb.c1
            have c4 := hst.1.sb.c4
            have c10 := hst.1.sb.c10
            have f4 := hst.1.sb.fr 4
            rw [hcvK] at c10
            unfold maxLen at hcapK
            have HCVK := hid hcvK
            obtain ⟨mK, hmK⟩ : ∃ m, m = K.length := ⟨_, rfl⟩
            rw [← hmK] at c10 hmcK hKl
            have HMK := hid hmK
            clear hst hkp hW3 hwt2 hrW HST2 HST hcvK hmK hE21 hE22 hW21 hW22 BW
            go_upto_region 16 with fail
            go_cut [] (fun wc => ∃ work', CSt S B n lim G H bl2 wt2 K cv work' mk rv lv ov pv qv nv w wc)
            case first =>
              go_region
              all_goals (go_wp2_with fail; go_meet; case rel => exact ⟨_, (HST3.out.setWork _).drew⟩)
            case rest =>
            obtain ⟨work', hst⟩ := hcut
            have HST4 := hid hst
            have c10 := hst.1.sb.c10
            rw [HCVK.out, ← HMK.out] at c10
            clear hst HST3 c0 c1 c4 f4 hrE2 hrW2 HOW
            by_cases hK0 : K = []
            · have hm0 : mK = 0 := by rw [HMK.out, hK0]; rfl
              have HOWN2 := hid (own_cut0 (show wc.ownsRow (B + 5) 50 1 (.slice aoK K.length capK) K.length (K.map vtx) from by rw [← HCVK.out]; exact HST4.out.2.1))
              have HCS := hid (cst_mk HST4.out.1 HST4.out.2.2 (K' := []) (cv' := .slice aoK 0 capK) HOWN2.out)
              rw [hm0] at c10 hmcK
              have hkq : k = cliq G r := by have h3 := HKC.out; have h4 := HGK.out; rw [hK0, List.filter_nil, cl_nil] at h4; omega
              have f10 := HST4.out.1.sb.fr 10
              have hSl3 := HST4.out.1.sb.lt
              have D := hid (show CDn S B n lim G H mark0 rv lv ov pv qv nv w (wc.setCell ⟨S, 10, none⟩ (.slice aoK 0 capK)) from ⟨[], _, work', mk, bl2, wt2, HCS.out, by omega, by have := HMARK.out; have := HMKK.out; omega, LE2.out⟩)
              have HKQ := hid hkq
              clear hK0 hm0 hkq HMARK HMKK LE2 HCS HOWN2 HGK HKC HST4
              go_wp2_with fail
              go_loopg [11, 130] 0 (fun gk kv jv wx => kv = .slice aoK 0 capK ∧ jv = .int .i64 0 ∧ wx = wc)
              case atStart => exact ⟨rfl, rfl, rfl⟩
              case round =>
                obtain ⟨rfl, rfl, rfl⟩ := hrel
                go_wp2_with fail
                go_loopg [14, 15, 16] (k - 1) (fun gk sv ov' jv wx => ∃ j, gk = k - j ∧ 1 ≤ j ∧ j ≤ k ∧ jv = .int .i64 ((j : Int) + 1) ∧ sv = .int .i64 (sat (lim + 1) ((upto k j : Nat) : Int)) ∧ ov' = .int .i64 ((ff k j : Nat) : Int) ∧ CDn S B n lim G H mark0 rv lv ov pv qv nv w wx)
                case atStart => exact ⟨1, rfl, Nat.le_refl _, hk1, rfl, by rw [show upto k 1 = 0 from rfl, sat_nat _ 0 (by omega)]; rfl, by rw [show ff k 1 = k from by simp [ff]], D.out⟩
                case round =>
                  obtain ⟨j, rfl, hj1, hjk, rfl, rfl, rfl, hcd⟩ := hrel
                  have c2 := cdn_lim hcd
                  have HCD := hid hcd
                  have hSlt := cdn_lt hcd
                  clear hcd D
                  obtain ⟨o1, ho1⟩ : ∃ o : Int, o = ((ff k j : Nat) : Int) := ⟨_, rfl⟩
                  obtain ⟨s1, hs1⟩ : ∃ o : Int, o = sat (lim + 1) ((upto k j : Nat) : Int) := ⟨_, rfl⟩
                  obtain ⟨o2, ho2⟩ : ∃ o : Int, o = ((ff k (j + 1) : Nat) : Int) := ⟨_, rfl⟩
                  rw [← ho1, ← hs1]
                  have HO1 := hid ho1
                  have HS1 := hid hs1
                  have HO2 := hid ho2
                  have o2p : 0 ≤ o2 := by omega
                  clear ho1 hs1 ho2
                  by_cases hjl : j < k
                  · by_cases hov : lim < o2
                    · have R := hid (show CliquePost S B n lim G H mark0 rv lv ov pv qv nv r w (.returned (.int .i64 (lim + 1))) wr from ⟨by rw [← HKQ.out, ← ar_over hj1 hjl (by rw [← HO2.out]; exact hov)], HCD.out⟩)
                      go_wp2_with fail
                      refine (ar1_over HO1.out (by omega) hjl hk2 c2 h0 h1 (by rw [← HO2.out]; exact hov)).mono ?_
                      rintro e w1 ⟨rfl, rfl⟩
                      go_wp2_with fail
                      go_ret
                      exact R.out
                    · have hov2 : o2 ≤ lim := by omega
                      obtain ⟨t1, ht1⟩ : ∃ o : Int, o = sat (lim + 1) ((term k (j + 1) : Nat) : Int) := ⟨_, rfl⟩
                      obtain ⟨s2, hs2⟩ : ∃ o : Int, o = sat (lim + 1) ((upto k (j + 1) : Nat) : Int) := ⟨_, rfl⟩
                      have HT1 := hid ht1
                      have HS2 := hid hs2
                      clear ht1 hs2 hov
                      go_wp2_with fail
                      refine (ar1_in HO1.out HO2.out (by omega) hjl hk2 c2 h0 h1 hov2).mono ?_
                      rintro e w1 ⟨rfl, rfl⟩
                      go_wp2_with fail
                      refine (ar2 HO2.out (by rfl) (by omega) HT1.out hjl hk2 c2 h0 h1).mono ?_
                      rintro e w2 ⟨rfl, rfl⟩
                      go_wp2_with fail
                      refine (ar3 HS1.out HT1.out HS2.out hj1 c2 h0 h1).mono ?_
                      rintro e w3 ⟨rfl, rfl⟩
                      go_wp2_with fail
                      go_roundg (k - (j + 1))
                      case measure => omega
                      case rel => exact ⟨j + 1, rfl, by omega, by omega, by go_num, by rw [HS2.out], by rw [HO2.out], HCD.out⟩
                  · have R := hid (show CliquePost S B n lim G H mark0 rv lv ov pv qv nv r w (.returned (.int .i64 s1)) wr from ⟨by rw [← HKQ.out, HS1.out, show j = k by omega], HCD.out⟩)
                    go_wp2_with fail
                    go_ret
                    exact R.out
            · have hmp : 0 < mK := by rw [HMK.out]; exact List.length_pos_iff.2 hK0
              obtain ⟨q, capq, hq⟩ := own_pos HST4.out.2.1 (by rw [← HMK.out]; exact hmp)
              have e6 : aoK = some ⟨q, 0, none⟩ := by have := HCVK.out.symm.trans hq; cases this; rfl
              subst e6
              have HOW := hid (show wc.ownsRow (B + 5) 50 1 (.slice (some ⟨q, 0, none⟩) K.length capK) K.length (K.map vtx) from by rw [← HCVK.out]; exact HST4.out.2.1)
              have hqB : B + 5 ≤ q := own_low HOW.out q rfl
              have hqS : q ≠ S := by omega
              have HFL := hid (fl_start (mtl G x ·) HOW.out)
              have HKL := hid (show K.length ≤ capK from by rw [← HMK.out]; exact hmcK)
              clear hq hK0
              go_wp2_with fail
              go_loopg [11, 130] mK (fun gk kv jv wx => ∃ j lf, gk = mK - j ∧ j ≤ mK ∧ jv = .int .i64 ((j : Nat) : Int) ∧ lf = ((K.take j).filter (mtl G x ·)).length ∧ kv = .slice (some ⟨q, 0, none⟩) lf capK ∧ CB S B n lim G H bl2 wt2 cv work' mk rv lv ov pv qv nv wx ∧ Below S w wx ∧ FL wx q capK K (mtl G x ·) j)
              case atStart => exact ⟨0, 0, rfl, Nat.zero_le _, rfl, by simp, rfl, HST4.out.1, HST4.out.2.2, HFL.out⟩
              case round =>
                obtain ⟨j, lf, rfl, hj, rfl, hlf, rfl, hcb, hbel, hfl⟩ := hrel
                by_cases hjm : j < mK
                · have hjK : j < K.length := by rw [← HMK.out]; exact hjm
                  have cK := hfl.cell hjK
                  have hcn : K.getD j 0 < n := HKN.out _ (by rw [List.getD_eq_getElem?_getD, List.getElem?_eq_getElem hjK]; exact List.getElem_mem hjK)
                  have hlfj : lf ≤ j := by rw [hlf]; exact flt_le _ _ _
                  obtain ⟨c, hcc⟩ : ∃ c, c = K.getD j 0 := ⟨_, rfl⟩
                  rw [← hcc] at cK hcn
                  have hmt := MT.out c
                  have k1 := hcb.rb.cell hcn
                  have k2 := hcb.rw'.cell hcn
                  have c11 := hcb.sb.c11
                  have c12 := hcb.sb.c12
                  have c13 := hcb.sb.c13
                  have hSl3 := hcb.sb.lt
                  have hBs := hcb.sz
                  have hqs : q < wr.heap.size := by obtain ⟨cur, hq, _⟩ := hfl; exact (Array.getElem?_eq_some_iff.1 hq).1
                  obtain ⟨x1, hx1⟩ : ∃ x, x = bl2 c := ⟨_, rfl⟩
                  obtain ⟨x2, hx2⟩ : ∃ x, x = wt2 c := ⟨_, rfl⟩
                  rw [← hx1] at k1 hmt
                  rw [← hx2] at k2 hmt
                  have HCC := hid hcc
                  have HLF := hid hlf
                  have HCB := hid hcb
                  have HBEL := hid hbel
                  have HFL2 := hid hfl
                  have HJK := hid hjK
                  clear hx1 hx2 hcc hlf hcb hbel hfl hjK c10
                  by_cases e1 : x1 = mk
                  · have n1 : (x1 == mk) = true := beq_iff_eq.2 e1
                    by_cases e2 : x2 = mk
                    · have n2 : (x2 == mk) = true := beq_iff_eq.2 e2
                      rw [n1, n2, Bool.and_true] at hmt
                      have HMT := hid hmt.symm
                      clear e1 e2 hmt
                      go_upto_region 21 with fail
                      go_quiet (fail)
                      go_wp2_with (at_builtin; refine wpList_append_at _ rfl _ _ rfl q capK K (mtl G x ·) j lf c HCC.out HLF.out rfl (HFL2.out.of (Below.heap_alloc _ _ _ hqs)) HJK.out HKL.out HMT.out ⟨wr.heap.size, 0, none⟩ 1 rfl (new_one _ _ rfl _ _) ?_; intro w2 hfl2 hgrow2)
                      go_roundg (mK - (j + 1))
                      case measure => omega
                      case rel => exact ⟨j + 1, lf + 1, rfl, by omega, by go_num, by rw [flt_yes HJK.out (by rw [← HCC.out]; exact HMT.out), List.length_append, ← HLF.out]; rfl, rfl, ((HCB.out.drewN _).grown (World.grownBy_alloc _ _ none) (fun k hk => by cases hk)).grown hgrow2 (fun k hk => by cases hk; exact hqB), ((bel_drewN HBEL.out _).alloc (by show S ≤ wr.heap.size; omega) _).grown hgrow2 (by simp; omega) (fun k hk => by cases hk; omega), hfl2⟩
                    · have n2 : (x2 == mk) = false := beq_eq_false_iff_ne.2 e2
                      rw [n2, Bool.and_false] at hmt
                      have HMT := hid hmt.symm
                      clear e1 e2 hmt
                      go_upto_region 21 with fail
                      go_quiet (fail)
                      go_wp2_with fail
                      go_roundg (mK - (j + 1))
                      case measure => omega
                      case rel => exact ⟨j + 1, lf, rfl, by omega, by go_num, by rw [flt_no HJK.out (by rw [← HCC.out]; exact HMT.out), ← HLF.out], rfl, HCB.out.drewN _, bel_drewN HBEL.out _, (HFL2.out.no HJK.out (by rw [← HCC.out]; exact HMT.out)).of rfl⟩
                  · have n1 : (x1 == mk) = false := beq_eq_false_iff_ne.2 e1
                    rw [n1, Bool.false_and] at hmt
                    have HMT := hid hmt.symm
                    clear e1 hmt
                    go_upto_region 21 with fail
                    go_quiet (fail)
                    go_wp2_with fail
                    go_roundg (mK - (j + 1))
                    case measure => omega
                    case rel => exact ⟨j + 1, lf, rfl, by omega, by go_num, by rw [flt_no HJK.out (by rw [← HCC.out]; exact HMT.out), ← HLF.out], rfl, HCB.out.drewN _, bel_drewN HBEL.out _, (HFL2.out.no HJK.out (by rw [← HCC.out]; exact HMT.out)).of rfl⟩
                · have e : j = mK := by omega
                  subst e
                  have hKK : K.take j = K := List.take_of_length_le (by rw [← HMK.out]; exact Nat.le_refl _)
                  rw [hKK] at hlf
                  obtain ⟨K2, hK2⟩ : ∃ K2, K2 = K.filter (mtl G x ·) := ⟨_, rfl⟩
                  rw [← hK2] at hlf
                  have HOWN2 := hid (fl_done (base := B + 5) (by rw [← HMK.out]; exact hfl) hqB HKL.out (by unfold maxLen; omega))
                  rw [← hK2, ← hlf] at HOWN2
                  have HCS := hid (cst_mk hcb hbel (K' := K2) (cv' := .slice (some ⟨q, 0, none⟩) lf capK) (by have := HOWN2.out; rw [hlf] at this ⊢; exact this))
                  have hlfj : lf ≤ j := by rw [hlf, hK2, HMK.out]; exact List.length_filter_le _ _
                  have c10 := hcb.sb.c10
                  have f10 := hcb.sb.fr 10
                  have hSl3 := hcb.sb.lt
                  rw [HCVK.out, ← HMK.out] at c10
                  have HGK2 := HGK.out
                  rw [← hK2] at HGK2
                  have HGK3 := hid HGK2
                  have HLF := hid hlf
                  have HK2 := hid hK2
                  by_cases hl0 : lf ≤ 0
                  · have hK2n : K2 = [] := List.eq_nil_of_length_eq_zero (by rw [← HLF.out]; omega)
                    have hkq : k = cliq G r := by have h3 := HKC.out; rw [HGK3.out, hK2n, cl_nil] at h3; omega
                    have D := hid (show CDn S B n lim G H mark0 rv lv ov pv qv nv w (wr.setCell ⟨S, 10, none⟩ (.slice (some ⟨q, 0, none⟩) lf capK)) from ⟨K2, _, work', mk, bl2, wt2, HCS.out, by omega, by have := HMARK.out; have := HMKK.out; omega, LE2.out⟩)
                    have HKQ := hid hkq
                    have hlq : ((lf : Int) == 0) = true := by rw [beq_iff_eq]; omega
                    clear hK2n hkq hcb hbel hfl hlf hK2 hKK HGK2 HMARK HMKK LE2 HCS HOWN2 HLF HK2 HGK3
                    go_wp2_with fail
                    clear hlq
                    go_loopg [14, 15, 16] (k - 1) (fun gk sv ov' jv wx => ∃ j, gk = k - j ∧ 1 ≤ j ∧ j ≤ k ∧ jv = .int .i64 ((j : Int) + 1) ∧ sv = .int .i64 (sat (lim + 1) ((upto k j : Nat) : Int)) ∧ ov' = .int .i64 ((ff k j : Nat) : Int) ∧ CDn S B n lim G H mark0 rv lv ov pv qv nv w wx)
                    case atStart => exact ⟨1, rfl, Nat.le_refl _, hk1, rfl, by rw [show upto k 1 = 0 from rfl, sat_nat _ 0 (by omega)]; rfl, by rw [show ff k 1 = k from by simp [ff]], D.out⟩
                    case round =>
                      obtain ⟨j, rfl, hj1, hjk, rfl, rfl, rfl, hcd⟩ := hrel
                      have c2 := cdn_lim hcd
                      have HCD := hid hcd
                      have hSlt := cdn_lt hcd
                      clear hcd D
                      obtain ⟨o1, ho1⟩ : ∃ o : Int, o = ((ff k j : Nat) : Int) := ⟨_, rfl⟩
                      obtain ⟨s1, hs1⟩ : ∃ o : Int, o = sat (lim + 1) ((upto k j : Nat) : Int) := ⟨_, rfl⟩
                      obtain ⟨o2, ho2⟩ : ∃ o : Int, o = ((ff k (j + 1) : Nat) : Int) := ⟨_, rfl⟩
                      rw [← ho1, ← hs1]
                      have HO1 := hid ho1
                      have HS1 := hid hs1
                      have HO2 := hid ho2
                      have o2p : 0 ≤ o2 := by omega
                      clear ho1 hs1 ho2
                      by_cases hjl : j < k
                      · by_cases hov : lim < o2
                        · have R := hid (show CliquePost S B n lim G H mark0 rv lv ov pv qv nv r w (.returned (.int .i64 (lim + 1))) wr from ⟨by rw [← HKQ.out, ← ar_over hj1 hjl (by rw [← HO2.out]; exact hov)], HCD.out⟩)
                          go_wp2_with fail
                          refine (ar1_over HO1.out (by omega) hjl hk2 c2 h0 h1 (by rw [← HO2.out]; exact hov)).mono ?_
                          rintro e w1 ⟨rfl, rfl⟩
                          go_wp2_with fail
                          go_ret
                          exact R.out
                        · have hov2 : o2 ≤ lim := by omega
                          obtain ⟨t1, ht1⟩ : ∃ o : Int, o = sat (lim + 1) ((term k (j + 1) : Nat) : Int) := ⟨_, rfl⟩
                          obtain ⟨s2, hs2⟩ : ∃ o : Int, o = sat (lim + 1) ((upto k (j + 1) : Nat) : Int) := ⟨_, rfl⟩
                          have HT1 := hid ht1
                          have HS2 := hid hs2
                          clear ht1 hs2 hov
                          go_wp2_with fail
                          refine (ar1_in HO1.out HO2.out (by omega) hjl hk2 c2 h0 h1 hov2).mono ?_
                          rintro e w1 ⟨rfl, rfl⟩
                          go_wp2_with fail
                          refine (ar2 HO2.out (by rfl) (by omega) HT1.out hjl hk2 c2 h0 h1).mono ?_
                          rintro e w2 ⟨rfl, rfl⟩
                          go_wp2_with fail
                          refine (ar3 HS1.out HT1.out HS2.out hj1 c2 h0 h1).mono ?_
                          rintro e w3 ⟨rfl, rfl⟩
                          go_wp2_with fail
                          go_roundg (k - (j + 1))
                          case measure => omega
                          case rel => exact ⟨j + 1, rfl, by omega, by omega, by go_num, by rw [HS2.out], by rw [HO2.out], HCD.out⟩
                      · have R := hid (show CliquePost S B n lim G H mark0 rv lv ov pv qv nv r w (.returned (.int .i64 s1)) wr from ⟨by rw [← HKQ.out, HS1.out, show j = k by omega], HCD.out⟩)
                        go_wp2_with fail
                        go_ret
                        exact R.out
                  · obtain ⟨c, rest, hcr⟩ : ∃ c rest, K2 = c :: rest := by
                      cases K2 with
                      | nil => exfalso; have := HLF.out; simp at this; omega
                      | cons c rest => exact ⟨c, rest, rfl⟩
                    have hcell := own_head (c := c) hcr (by have := HOWN2.out; rw [HLF.out] at this; exact this)
                    have hmem : c ∈ K := by
                      have : c ∈ K2 := by rw [hcr]; simp
                      rw [HK2.out] at this
                      exact (List.mem_filter.1 this).1
                    have hcn := HKN.out c hmem
                    have NX := hid (cl_next HNS.out c rest)
                    rw [← hcr] at NX
                    have HK2N := hid (show ∀ v ∈ K2, v < n from fun v hv => HKN.out v (by rw [HK2.out] at hv; exact (List.mem_filter.1 hv).1))
                    have hlq : ((lf : Int) == 0) = false := by rw [beq_eq_false_iff_ne]; omega
                    have hkc2 := HKC.out
                    rw [HGK3.out, NX.out] at hkc2
                    have HKC2 := hid hkc2
                    clear hcr hmem hcb hbel hfl hlf hK2 hKK HGK2 hkc2
                    go_wp2_with fail
                    go_roundg (cl G (K2.filter (mtl G c ·)))
                    case measure => have := HGK3.out; have := NX.out; omega
                    case rel => exact ⟨k + 1, c, K2, _, work', mk, bl2, wt2, rfl, by go_num, rfl, hcn, by have := HKC2.out; omega, by have := HMARK.out; have := HMKK.out; omega, by omega, HCS.out, HK2N.out, LE2.out, by rw [← HLF.out]; omega⟩

end Go.Proofs.Qxb6003663a
