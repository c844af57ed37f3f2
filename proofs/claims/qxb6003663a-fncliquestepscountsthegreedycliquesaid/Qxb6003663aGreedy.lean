import Derived.Test.Qxb6003663aRec
import Derived.Test.Qxb6003663aRev
namespace Go.Proofs.Qxb6003663a
open Go.RowKit
set_option linter.unusedVariables false
set_option linter.unusedSimpArgs false

/-- those of l are marked x -/
def mkm (om : Nat → Int) (l : List Nat) (x : Int) : Nat → Int := fun v => if v ∈ l then x else om v
theorem mkm_nil (om : Nat → Int) (x : Int) : mkm om [] x = om := by funext v; simp [mkm]
theorem take_snoc {l : List Nat} {t : Nat} (ht : t < l.length) : l.take (t + 1) = l.take t ++ [l.getD t 0] := by
  rw [List.take_add_one, List.getElem?_eq_getElem ht, List.getD_eq_getElem?_getD, List.getElem?_eq_getElem ht]; rfl
theorem mkm_step {om : Nat → Int} {l : List Nat} {t : Nat} {x : Int} (ht : t < l.length) (v : Nat) : (if v = l.getD t 0 then x else mkm om (l.take t) x v) = mkm om (l.take (t + 1)) x v := by
  unfold mkm
  rw [take_snoc ht]
  by_cases e : v = l.getD t 0
  · rw [if_pos e, if_pos (by rw [← e]; simp)]
  · rw [if_neg e]
    by_cases e2 : v ∈ l.take t
    · rw [if_pos e2, if_pos (by simp [e2])]
    · rw [if_neg e2, if_neg (by rw [List.mem_append, List.mem_singleton]; rintro (h | h); exact e2 h; exact e h)]
/-- a mark is fresh just where it was set -/
theorem mkm_eq {om : Nat → Int} {l : List Nat} {x : Int} {v : Nat} (h : om v < x) : (mkm om l x v == x) = decide (v ∈ l) := by
  unfold mkm
  by_cases e : v ∈ l
  · rw [if_pos e]; simp [e]
  · rw [if_neg e, decide_eq_false e, beq_eq_false_iff_ne]; omega
theorem mkm_le {om : Nat → Int} {l : List Nat} {x y : Int} {v : Nat} (h : om v ≤ y) (hx : x ≤ y) : mkm om l x v ≤ y := by
  unfold mkm; split <;> omega

structure GM (w : World) (g n : Nat) (om im : Nat → Int) (T : List Nat) (tv : Value) (wr : World) : Prop where
  bel : Below g w wr
  ro : wr.rowIs g 3 n (fun i => .int .i64 (om i))
  ri : wr.rowIs (g + 1) 3 n (fun i => .int .i64 (im i))
  ot : wr.ownsRow (g + 2) 21 1 tv T.length (T.map vtx)

section
variable {w wr : World} {g n : Nat} {om im : Nat → Int} {T : List Nat} {tv : Value}
theorem GM.setO {l : List Nat} {t : Nat} {x : Int} (h : GM w g n (mkm om (l.take t) x) im T tv wr) (ht : t < l.length) : GM w g n (mkm om (l.take (t + 1)) x) im T tv (wr.setCell ⟨g, l.getD t 0, none⟩ (.int .i64 x)) :=
  ⟨h.bel.setCell (Nat.le_refl _) _, (h.ro.set _ _).congr (fun j _ => by rw [← mkm_step ht]; split <;> rfl), h.ri.setOther (by simp) _, own_set h.ot (by show g < g + 2; omega) _⟩
theorem GM.setI {l : List Nat} {t : Nat} {x : Int} (h : GM w g n om (mkm im (l.take t) x) T tv wr) (ht : t < l.length) : GM w g n om (mkm im (l.take (t + 1)) x) T tv (wr.setCell ⟨g + 1, l.getD t 0, none⟩ (.int .i64 x)) :=
  ⟨h.bel.setCell (by show g ≤ g + 1; omega) _, h.ro.setOther (by simp) _, (h.ri.set _ _).congr (fun j _ => by rw [← mkm_step ht]; split <;> rfl), own_set h.ot (by show g + 1 < g + 2; omega) _⟩
theorem GM.push (h : GM w g n om im T tv wr) {o : Obj} {w2 : World} {v' : Value} {c : Nat} (hown : w2.ownsRow (g + 2) 21 1 v' (T.length + 1) (T.map vtx ++ [vtx c])) (hg : (wr.alloc o).grownBy w2 tv.ownBlock) : GM w g n om im (T ++ [c]) v' w2 := by
  have hlow := own_low h.ot
  have l1 := h.ro.lt
  have l2 := h.ri.lt
  refine ⟨(h.bel.alloc (by omega) o).grown hg (by simp; omega) (fun k hk => by have := hlow k hk; omega), (h.ro.alloc o).of_block (hg.block _ (by simp; omega) (fun e => by have := hlow _ e.symm; omega)), (h.ri.alloc o).of_block (hg.block _ (by simp; omega) (fun e => by have := hlow _ e.symm; omega)), ?_⟩
  rw [List.length_append, List.length_singleton, List.map_append]; exact hown
theorem gm_start (w : World) (n r : Nat) : GM w w.heap.size n (fun _ => 0) (fun _ => 0) [r] (.slice (some ⟨w.heap.size + 1 + 1, 0, none⟩) 1 1) (((w.alloc (.cells (madeCells #[.int .i64 0] n) 3)).alloc (.cells (madeCells #[.int .i64 0] n) 3)).alloc (.cells #[.int .i32 (r : Int)] 21)) := by
  have h1 := World.rowIs_made w (.int .i64 0) n 3
  have h2 := World.rowIs_made (w.alloc (.cells (madeCells #[.int .i64 0] n) 3)) (.int .i64 0) n 3
  rw [World.size_alloc] at h2
  refine ⟨(((Below.refl _ _).alloc (Nat.le_refl _) _).alloc (by simp) _).alloc (by simp; omega) _, (h1.alloc _).alloc _, h2.alloc _, rfl, .inr ⟨w.heap.size + 1 + 1, 1, #[.int .i32 (r : Int)], rfl, by omega, ?_, Nat.le_refl _, by simp [maxLen], rfl, rfl⟩⟩
  have h3 := heap_alloc_new ((w.alloc (.cells (madeCells #[.int .i64 0] n) 3)).alloc (.cells (madeCells #[.int .i64 0] n) 3)) (.cells #[.int .i32 (r : Int)] 21)
  rw [World.size_alloc, World.size_alloc] at h3
  exact h3
theorem GM.tcell {q cap : Nat} (h : GM w g n om im T (.slice (some ⟨q, 0, none⟩) T.length cap) wr) {j : Nat} (hj : j < T.length) : wr.cell? ⟨q, j, none⟩ = some (.int .i32 ((T.getD j 0 : Nat) : Int)) := by
  obtain ⟨hl, ⟨h0, _⟩ | ⟨q', cap', cur, hv, hb, hq, h1, h2, h3, h4⟩⟩ := h.ot
  · cases h0
  · cases hv
    have h5 : (cur.toList.take (T.length * 1))[j]? = some (vtx (T.getD j 0)) := by
      rw [h4, List.getElem?_map, List.getD_eq_getElem?_getD, List.getElem?_eq_getElem hj]; rfl
    rw [List.getElem?_take, if_pos (by omega)] at h5
    have h6 : cur[j]? = some (vtx (T.getD j 0)) := by simpa using h5
    simp [World.cell?, hq, h6, vtx]
end

def GrePost (w : World) (G : List (List Nat)) (r : Nat) (e : Ending) (w' : World) : Prop := e = .returned (.int .i64 ((cliq G r : Nat) : Int)) ∧ Below w.heap.size w w'

set_option maxRecDepth 100000 in
set_option maxHeartbeats 4000000 in
theorem greedy_any {w : World} {lo hi n b lo2 hi2 b2 : Nat} {G H : List (List Nat)} (r : Nat) (hgl : G.length = n) (hhl : H.length = n) (hr : r < n) (hn : n ≤ 65536) (hrl : ∀ v, (row G v).length ≤ 1048576)
    (hE : NGrid w lo hi n (.slice (some ⟨b, 0, none⟩) n n) G) (hW : NGrid w lo2 hi2 n (.slice (some ⟨b2, 0, none⟩) n n) H) (hib : b < hi) (hib2 : b2 < hi2) (hhi : hi ≤ w.heap.size) (hhi2 : hi2 ≤ w.heap.size)
    (hrev : ∀ u v, u < n → (v ∈ row H u ↔ u ∈ row G v)) :
    Calls Try.prog 17 #[.slice (some ⟨b, 0, none⟩) n n, .slice (some ⟨b2, 0, none⟩) n n, .int .i32 (r : Int)] w (GrePost w G r) := by
  have hmk := run_make_row' (P := Try.prog) 51 3 (.int .i64 0) 8 Try.underlying51 info3 rfl .i64 .i64 n (by omega) (by omega)
  have START := hid (gm_start w n r)
  have HE := hid hE
  have HW := hid hW
  have HREV := hid hrev
  have HRL := hid hrl
  have HGL := hid hgl
  have HHL := hid hhl
  obtain ⟨g, hg⟩ : ∃ g, g = w.heap.size := ⟨_, rfl⟩
  rw [← hg] at START
  have HG := hid hg
  have h1g : hi ≤ g := by omega
  have h2g : hi2 ≤ g := by omega
  obtain ⟨i0, hi0, hz0, hz1, hz2⟩ := info_parts info21
  obtain ⟨ao, capr, hrow, hr1, hr2, hr3⟩ := hE.edges (v := r) (by rw [hgl]; exact hr)
  rw [Nat.zero_add] at hrow
  unfold maxLen at hr1
  have hm := hrl r
  obtain ⟨l, hl⟩ : ∃ l, l = row G r := ⟨_, rfl⟩
  rw [← hl] at hrow hr2 hr3 hm
  have HL := hid hl
  have HR3 := hid hr3
  have HROW := hid hrow
  clear hE hW hrev hrl hgl hhl hg hl hr3 hrow
  go_enter Try.func17, Try.ntmps17
  go_wp2_with fail
  rw [← HG.out]
  go_loopg [10, 11] l.length (fun gk tv iv wr => ∃ i T om im ao' cap', gk = l.length - i ∧ i ≤ l.length ∧ iv = .int .i64 (i : Int) ∧ T.length ≤ i + 1 ∧ tv = .slice ao' T.length cap' ∧ cap' ≤ 9223372036854775807 ∧ T.length ≤ cap' ∧ GM w g n om im T tv wr ∧ (∀ v ∈ T, v < n) ∧ (∀ v, om v ≤ i ∧ im v ≤ i) ∧ T.length + gre G T (l.drop i) = cliq G r ∧ 0 < T.length)
  case atStart => exact ⟨0, [r], _, _, _, 1, rfl, Nat.zero_le _, rfl, Nat.le_refl _, rfl, by omega, by simp, START.out, fun v hv => by simp at hv; omega, fun v => ⟨Int.le_refl _, Int.le_refl _⟩, by rw [cliq_gre, HL.out]; simp; omega, by simp⟩
  case round =>
    obtain ⟨i, T, om, im, ao', cap', rfl, hi, rfl, hTl, rfl, hcp, hcp2, hgm, hTn, hom, htot, hT0⟩ := hrel
    have hrow' : wr.cell? ⟨b, r, none⟩ = some (.slice ao l.length capr) := (hgm.bel.cell (by show b < g; omega)).trans HROW.out
    by_cases hlt : i < l.length
    · obtain ⟨b3, off3, hao, hb31, hb32, hb33⟩ := HR3.out (by omega)
      subst hao
      have hc1 : wr.cell? ⟨b3, off3 + i, none⟩ = some (.int .i32 ((l.getD i 0 : Nat) : Int)) := (hgm.bel.cell (by show b3 < g; omega)).trans (hb33 i hlt).1
      have hcn := (hb33 i hlt).2
      obtain ⟨c, hcc⟩ : ∃ c, c = l.getD i 0 := ⟨_, rfl⟩
      rw [← hcc] at hc1 hcn
      have HCC := hid hcc
      obtain ⟨aE, capE, hrE, hE1, hE2, hE3⟩ := HE.out.edges (v := c) (by rw [HGL.out]; exact hcn)
      obtain ⟨aW, capW, hrW, hW1, hW2, hW3⟩ := HW.out.edges (v := c) (by rw [HHL.out]; exact hcn)
      rw [Nat.zero_add] at hrE hrW
      unfold maxLen at hE1 hW1
      obtain ⟨le, hle⟩ : ∃ le, le = row G c := ⟨_, rfl⟩
      obtain ⟨lw, hlw⟩ : ∃ lw, lw = row H c := ⟨_, rfl⟩
      rw [← hle] at hrE hE2 hE3
      rw [← hlw] at hrW hW2 hW3
      have HLE := hid hle
      have HLW := hid hlw
      have HE3 := hid hE3
      have HW3 := hid hW3
      have KE := hid (fun (wx : World) (h : Below g w wx) => And.intro ((h.cell (p := ⟨b, c, none⟩) (by show b < g; omega)).trans hrE) ((h.cell (p := ⟨b2, c, none⟩) (by show b2 < g; omega)).trans hrW))
      have HGM := hid hgm
      have HTN := hid hTn
      have HOM := hid hom
      have HTOT := hid htot
      have q1 := (KE.out wr hgm.bel).1
      clear hcc hle hlw hE3 hW3 hgm hTn hom htot hb33 hrE hrW
      go_wp2_with fail
      go_loopg [52] le.length (fun gk jv wx => ∃ t, gk = le.length - t ∧ t ≤ le.length ∧ jv = .int .i64 (t : Int) ∧ GM w g n (mkm om (le.take t) ((i : Int) + 1)) im T (.slice ao' T.length cap') wx)
      case atStart => exact ⟨0, rfl, Nat.zero_le _, rfl, by rw [List.take_zero, mkm_nil]; exact HGM.out⟩
      case round =>
        obtain ⟨t, rfl, ht, rfl, hgm⟩ := hrel
        by_cases htl : t < le.length
        · obtain ⟨b4, off4, hae, hb41, hb42, hb43⟩ := HE3.out (by omega)
          subst hae
          have hc2 : wr.cell? ⟨b4, off4 + t, none⟩ = some (.int .i32 ((le.getD t 0 : Nat) : Int)) := (hgm.bel.cell (by show b4 < g; omega)).trans (hb43 t htl).1
          have hun := (hb43 t htl).2
          have R := hid (hgm.setO htl)
          obtain ⟨u, hu⟩ : ∃ u, u = le.getD t 0 := ⟨_, rfl⟩
          rw [← hu] at hc2 hun R
          have kc := hgm.ro.cell hun
          have kf := hgm.ro.frozen u
          clear hu hgm hb43
          go_wp2_with fail
          go_roundg (le.length - (t + 1))
          case measure => omega
          case rel => exact ⟨t + 1, rfl, by omega, by go_num, R.out⟩
        · have e : t = le.length := by omega
          subst e
          rw [List.take_length] at hgm
          have HGM2 := hid hgm
          have q2 := (KE.out wr hgm.bel).2
          clear hgm
          go_wp2_with fail
          go_loopg [66] lw.length (fun gk jv wx => ∃ t, gk = lw.length - t ∧ t ≤ lw.length ∧ jv = .int .i64 (t : Int) ∧ GM w g n (mkm om le ((i : Int) + 1)) (mkm im (lw.take t) ((i : Int) + 1)) T (.slice ao' T.length cap') wx)
          case atStart => exact ⟨0, rfl, Nat.zero_le _, rfl, by rw [List.take_zero, mkm_nil]; exact HGM2.out⟩
          case round =>
            obtain ⟨t, rfl, ht, rfl, hgm⟩ := hrel
            by_cases htl : t < lw.length
            · obtain ⟨b4, off4, hae, hb41, hb42, hb43⟩ := HW3.out (by omega)
              subst hae
              have hc2 : wr.cell? ⟨b4, off4 + t, none⟩ = some (.int .i32 ((lw.getD t 0 : Nat) : Int)) := (hgm.bel.cell (by show b4 < g; omega)).trans (hb43 t htl).1
              have hun := (hb43 t htl).2
              have R := hid (hgm.setI htl)
              obtain ⟨u, hu⟩ : ∃ u, u = lw.getD t 0 := ⟨_, rfl⟩
              rw [← hu] at hc2 hun R
              have kc := hgm.ri.cell hun
              have kf := hgm.ri.frozen u
              clear hu hgm hb43
              go_wp2_with fail
              go_roundg (lw.length - (t + 1))
              case measure => omega
              case rel => exact ⟨t + 1, rfl, by omega, by go_num, R.out⟩
            · have e : t = lw.length := by omega
              subst e
              rw [List.take_length] at hgm
              obtain ⟨om2, hom2⟩ : ∃ f, f = mkm om le ((i : Int) + 1) := ⟨_, rfl⟩
              obtain ⟨im2, him2⟩ : ∃ f, f = mkm im lw ((i : Int) + 1) := ⟨_, rfl⟩
              rw [← hom2, ← him2] at hgm
              have HGM3 := hid hgm
              have MT := hid (show ∀ v, v < n → ((om2 v == (i : Int) + 1) && (im2 v == (i : Int) + 1)) = mtl G v c from fun v hv => by
                rw [hom2, him2, mkm_eq (by have := (HOM.out v).1; omega), mkm_eq (by have := (HOM.out v).2; omega), HLE.out, HLW.out]
                unfold mtl
                rw [Bool.and_comm]
                congr 1
                exact decide_eq_decide.2 (HREV.out c v hcn))
              have LE2 := hid (show ∀ v, om2 v ≤ ((i + 1 : Nat) : Int) ∧ im2 v ≤ ((i + 1 : Nat) : Int) from fun v => by
                rw [hom2, him2]
                exact ⟨mkm_le (by have := (HOM.out v).1; omega) (by omega), mkm_le (by have := (HOM.out v).2; omega) (by omega)⟩)
              have hdrop : l.drop i = c :: l.drop (i + 1) := by
                rw [HCC.out, List.drop_eq_getElem_cons hlt, List.getD_eq_getElem?_getD, List.getElem?_eq_getElem hlt]; rfl
              have hT := HTOT.out
              rw [hdrop, gre] at hT
              have HT := hid hT
              clear hgm hom2 him2 hdrop hT HTOT HOM HGM HGM2 q1 q2
              go_wp2_with fail
              go_loopg [18, 77] T.length (fun gk mv jv wx => mv = .bool true ∧ ∃ t, gk = T.length - t ∧ t ≤ T.length ∧ jv = .int .i64 (t : Int) ∧ GM w g n om2 im2 T (.slice ao' T.length cap') wx ∧ ∀ j, j < t → mtl G (T.getD j 0) c = true)
              case atStart => exact ⟨rfl, 0, rfl, Nat.zero_le _, rfl, HGM3.out, fun j hj => absurd hj (by omega)⟩
              case round =>
                obtain ⟨rfl, t, rfl, ht, rfl, hgm, hall⟩ := hrel
                have HALL := hid hall
                clear hall
                by_cases htl : t < T.length
                · have hso := hgm.ot
                  obtain ⟨q, capq, hq⟩ := own_pos hso hT0
                  have e6 : ao' = some ⟨q, 0, none⟩ := by cases hq; rfl
                  subst e6
                  have hc2 := hgm.tcell htl
                  have hun : T.getD t 0 < n := HTN.out _ (by rw [List.getD_eq_getElem?_getD, List.getElem?_eq_getElem htl]; exact List.getElem_mem htl)
                  have hmt := MT.out _ hun
                  have hmem : T.getD t 0 ∈ T := by rw [List.getD_eq_getElem?_getD, List.getElem?_eq_getElem htl]; exact List.getElem_mem htl
                  have HMEM := hid hmem
                  have HGM4 := hid hgm
                  obtain ⟨u, hu⟩ : ∃ u, u = T.getD t 0 := ⟨_, rfl⟩
                  rw [← hu] at hc2 hun hmt HMEM
                  have HU := hid hu
                  have k1 := hgm.ro.cell hun
                  have k2 := hgm.ri.cell hun
                  obtain ⟨x1, hx1⟩ : ∃ x, x = om2 u := ⟨_, rfl⟩
                  obtain ⟨x2, hx2⟩ : ∃ x, x = im2 u := ⟨_, rfl⟩
                  rw [← hx1] at k1 hmt
                  rw [← hx2] at k2 hmt
                  clear hx1 hx2 hu hgm hso hq hmem
                  by_cases e1 : x1 = (i : Int) + 1
                  · have n1 : (x1 == (i : Int) + 1) = true := beq_iff_eq.2 e1
                    have n1' : (x1 != (i : Int) + 1) = false := by rw [bne, n1]; rfl
                    by_cases e2 : x2 = (i : Int) + 1
                    · have n2 : (x2 == (i : Int) + 1) = true := beq_iff_eq.2 e2
                      have n2' : (x2 != (i : Int) + 1) = false := by rw [bne, n2]; rfl
                      rw [n1, n2, Bool.and_true] at hmt
                      have HMT := hid hmt
                      clear e1 e2 hmt
                      go_wp2_with fail
                      go_roundg (T.length - (t + 1))
                      case measure => omega
                      case rel => exact ⟨rfl, t + 1, rfl, by omega, by go_num, HGM4.out, fun j hj => by
                          by_cases e : j = t
                          · subst e; rw [← HU.out]; exact HMT.out.symm
                          · exact HALL.out j (by omega)⟩
                    · have n2 : (x2 == (i : Int) + 1) = false := beq_eq_false_iff_ne.2 e2
                      have n2' : (x2 != (i : Int) + 1) = true := by rw [bne, n2]; rfl
                      rw [n2, Bool.and_false] at hmt
                      have HF := hid (show T.all (mtl G · c) = false from by rw [List.all_eq_false]; exact ⟨u, HMEM.out, by rw [← hmt]; simp⟩)
                      have HT2 := HT.out
                      rw [HF.out] at HT2
                      have HT3 := hid HT2
                      clear e1 e2 hmt HT2 HT
                      go_wp2_with fail
                      go_roundg (l.length - (i + 1))
                      case measure => omega
                      case rel => exact ⟨i + 1, T, om2, im2, _, cap', rfl, by omega, by go_num, by omega, rfl, hcp, hcp2, HGM4.out, HTN.out, LE2.out, HT3.out, hT0⟩
                  · have n1 : (x1 == (i : Int) + 1) = false := beq_eq_false_iff_ne.2 e1
                    have n1' : (x1 != (i : Int) + 1) = true := by rw [bne, n1]; rfl
                    rw [n1, Bool.false_and] at hmt
                    have HF := hid (show T.all (mtl G · c) = false from by rw [List.all_eq_false]; exact ⟨u, HMEM.out, by rw [← hmt]; simp⟩)
                    have HT2 := HT.out
                    rw [HF.out] at HT2
                    have HT3 := hid HT2
                    clear e1 hmt HT2 HT
                    go_wp2_with fail
                    go_roundg (l.length - (i + 1))
                    case measure => omega
                    case rel => exact ⟨i + 1, T, om2, im2, _, cap', rfl, by omega, by go_num, by omega, rfl, hcp, hcp2, HGM4.out, HTN.out, LE2.out, HT3.out, hT0⟩
                · have e : t = T.length := by omega
                  subst e
                  have HF := hid (show T.all (mtl G · c) = true from by
                    rw [List.all_eq_true]
                    intro v hv
                    obtain ⟨j, hj, rfl⟩ := List.getElem_of_mem hv
                    have := HALL.out j hj
                    rwa [List.getD_eq_getElem?_getD, List.getElem?_eq_getElem hj] at this)
                  have HT2 := HT.out
                  rw [HF.out] at HT2
                  have HT3 := hid HT2
                  have HGM4 := hid hgm
                  have hgs := hgm.ri.lt
                  clear HT2 HT hgm
                  go_wp2_with (at_builtin; refine wpList_append_own _ rfl _ _ 33 rfl (g + 2) 21 i0 (.int .i32 0) 1 4 Try.underlying33 hi0 hz0 hz1 hz2 rfl (by decide) _ _ _ rfl (HGM4.out.ot.alloc _) ⟨wr.heap.size, 0, none⟩ 1 1 [.int .i32 (c : Int)] rfl rfl (cell_one_new _ _ _) (one_one _ _) (by unfold maxLen; omega) (by omega) (by simp; omega) ?_; intro v' w2 hown' hgrow2 hnil2; have RR := hid (HGM4.out.push hown' hgrow2); obtain ⟨a3, c3, hv3, hc3, hm3⟩ := own_opt2 hown'; subst hv3; clear hown' hgrow2 hnil2)
                  go_roundg (l.length - (i + 1))
                  case measure => omega
                  case rel =>
                    unfold maxLen at hc3
                    have hlen : (T ++ [c]).length = T.length + 1 := by simp
                    have hT4 := HT3.out
                    simp only [if_true] at hT4
                    exact ⟨i + 1, T ++ [c], om2, im2, a3, c3, rfl, by omega, by go_num, by omega, by rw [hlen], by omega, by omega, RR.out, fun v hv => by
                        rcases List.mem_append.1 hv with h | h
                        · exact HTN.out v h
                        · rw [List.mem_singleton.1 h]; exact hcn, LE2.out, by rw [hlen]; omega, by omega⟩
    · have e : i = l.length := by omega
      subst e
      rw [List.drop_length, gre, Nat.add_zero] at htot
      have R := hid (show GrePost w G r (.returned (.int .i64 ((T.length : Nat) : Int))) wr from ⟨by rw [htot], by rw [← HG.out]; exact hgm.bel⟩)
      clear hgm htot hTn hom
      go_wp2_with fail
      go_ret
      exact R.out

end Go.Proofs.Qxb6003663a
