import Derived.Test.Qxb6002616aOwn
namespace Go.Proofs.Qxb6002616a
open Go.RowKit
set_option linter.unusedVariables false
set_option linter.unusedSimpArgs false

/-- the first k entries have been copied -/
structure Cp (es : List Ent) (k : Nat) (M : List Ent) : Prop where
  len : M.length = es.length
  eq : ∀ j, j < k → M.getD j e0 = es.getD j e0
theorem cp_start (es : List Ent) (n : Nat) (hn : n = es.length) : Cp es 0 (List.replicate n zeroE) := ⟨by simp [hn], fun j hj => absurd hj (by omega)⟩
theorem cp_step {es M : List Ent} {k : Nat} (h : Cp es k M) (hk : k < es.length) : Cp es (k + 1) (M.set k (key es k, val es k)) := by
  refine ⟨by rw [List.length_set]; exact h.len, fun j hj => ?_⟩
  by_cases e : k = j
  · subst e
    rw [List.getD_eq_getElem?_getD, List.getElem?_set, if_pos rfl, if_pos (by rw [h.len]; exact hk)]; rfl
  · rw [getD_set e]; exact h.eq j (by omega)
theorem cp_end {es M : List Ent} (h : Cp es es.length M) : M = es := by
  apply List.ext_getElem? 
  intro j
  by_cases hj : j < es.length
  · have := h.eq j hj
    have h2 : j < M.length := by rw [h.len]; exact hj
    rw [List.getD_eq_getElem?_getD, List.getElem?_eq_getElem h2, List.getD_eq_getElem?_getD, List.getElem?_eq_getElem hj] at this
    rw [List.getElem?_eq_getElem h2, List.getElem?_eq_getElem hj]
    simpa using this
  · rw [List.getElem?_eq_none (by rw [h.len]; omega), List.getElem?_eq_none (by omega)]

theorem acc_small (M : List Ent) (i : Nat) {N : Nat} (h : i ≤ N) : (acc M i).length ≤ N := by
  have : ∀ i, (acc M i).length ≤ i := by
    intro i
    induction i with
    | zero => simp [acc_zero]
    | succ i ih =>
      by_cases hi : i < M.length
      · rw [acc_succ hi]; unfold put; split
        · rw [List.length_set]; omega
        · rw [List.length_append]; simp; omega
      · have : acc M (i + 1) = acc M i := by unfold acc; rw [List.take_of_length_le (by omega), List.take_of_length_le (by omega)]
        rw [this]; omega
  have := this i; omega

theorem own_opt {w : World} {base : Nat} {e : TypeId} {size : Nat} {v : Value} {m : Nat} {xs : List Value} (h : w.ownsRow base e size v m xs) : ∃ ao cap, v = .slice ao m cap ∧ cap ≤ maxLen ∧ m ≤ cap := by
  obtain ⟨hl, ⟨rfl, rfl⟩ | ⟨g, cap, cur, rfl, hb, _, h1, h2, _⟩⟩ := h
  · exact ⟨none, 0, rfl, by simp [maxLen], Nat.le_refl _⟩
  · exact ⟨_, cap, rfl, h2, h1⟩
theorem own_low {w : World} {base : Nat} {e : TypeId} {size : Nat} {v : Value} {m : Nat} {xs : List Value} (h : w.ownsRow base e size v m xs) : ∀ k, v.ownBlock = some k → base ≤ k := fun k hk => (h.lt k hk).1

def LawPost (W : World) (e : Ending) (w' : World) : Prop := e = .returned (.bool true) ∧ Below W.heap.size W w'

set_option maxRecDepth 100000 in
set_option maxHeartbeats 4000000 in
theorem law_pos (es : List Ent) (W : World) (b off cap n : Nat) (hn : n = es.length) (hc : n ≤ cap) (hm : cap ≤ maxLen) (hb : b < W.heap.size)
    (hrow : ∀ j, j < n → W.cell? ⟨b, off + j * 2, none⟩ = some (.string (key es j)) ∧ W.cell? ⟨b, off + j * 2 + 1, none⟩ = some (.int .i64 (val es j)))
    (hks : ∀ j, (key es j).size ≤ maxLen) (h1024 : n ≤ 1024) :
    Calls Try.prog 3 #[.slice (some ⟨b, off, none⟩) n cap] W (LawPost W) := by
  have HBY := hid (show Calls Try.prog 4 #[.slice (some ⟨b, off, none⟩) n cap] W (Says W) from by subst hn; exact bytes_pos es W b off cap hc hm hrow)
  have hmk := fun w => make_any n (by omega) w
  have HN := hid hn
  have HR := hid hrow
  have HK := hid hks
  have HNEW := hid (row_made W n)
  unfold maxLen at hm
  obtain ⟨g, hg⟩ : ∃ g, g = W.heap.size := ⟨_, rfl⟩
  have HG := hid hg
  rw [← hg] at hb
  clear hn hrow hks hg
  have hd : decide (1024 < (n : Int)) = false := by rw [decide_eq_false_iff_not]; omega
  go_enter Try.func3, Try.ntmps3
  go_wp2_with fail
  refine HBY.out.mono ?_
  intro e w1 hp
  obtain ⟨t, rfl, hw⟩ := hp
  subst hw
  cases t with
  | false =>
    go_wp2_with fail
    go_ret
    exact ⟨rfl, Below.refl _ _⟩
  | true =>
    go_wp2_with fail
    rw [← HG.out]
    go_loopg [4] n (fun gk iv wr => Below g W wr ∧ ∃ k M, gk = n - k ∧ k ≤ n ∧ iv = .int .i64 (k : Int) ∧ Row wr g 27 M ∧ Cp es k M)
    case atStart => exact ⟨(Below.refl _ _).alloc (by rw [HG.out]; exact Nat.le_refl _) _, 0, _, rfl, Nat.zero_le _, rfl, by rw [HG.out]; exact HNEW.out, cp_start es n HN.out⟩
    case round =>
      obtain ⟨hbl, k, M, rfl, hk, rfl, hrw, hcp⟩ := hrel
      have HB := hid hbl
      have HRW := hid hrw
      have HC := hid hcp
      by_cases hlt : k < n
      · have hML : M.length = n := hcp.len.trans HN.out.symm
        have c0 : wr.cell? ⟨b, off + k * 2, none⟩ = some (.string (key es k)) := by rw [hbl.cell (by exact hb)]; exact (HR.out k hlt).1
        have c1 : wr.cell? ⟨b, off + k * 2 + 1, none⟩ = some (.int .i64 (val es k)) := by rw [hbl.cell (by exact hb)]; exact (HR.out k hlt).2
        have f0 := hrw.fr (k * 2)
        have f1 := hrw.fr (k * 2 + 1)
        have g0 := hrw.c0 (k := k) (by omega)
        have g1 := hrw.c1 (k := k) (by omega)
        have RM := hid (cp_step hcp (by rw [← HN.out]; exact hlt))
        obtain ⟨s, hs⟩ : ∃ s, s = key es k := ⟨_, rfl⟩
        obtain ⟨x, hx⟩ : ∃ x, x = val es k := ⟨_, rfl⟩
        rw [← hs, ← hx] at RM
        rw [← hs] at c0
        rw [← hx] at c1
        have R2 := hid (hrw.set2 (k := k) (by omega) s x)
        have hneb : g ≠ b := by omega
        clear hs hx hbl hrw hcp hML
        go_upto_region 9 with fail
        go_region
        go_wp2_with fail
        go_roundg (n - (k + 1))
        case measure => omega
        case rel => exact ⟨((HB.out.setCell (Nat.le_refl _) _).setCell (Nat.le_refl _) _).drew, k + 1, _, rfl, by omega, by go_num, R2.out, RM.out⟩
      · have e : k = n := by omega
        subst e
        have hM : M = es := cp_end (by rw [← HN.out]; exact HC.out)
        subst hM
        go_wp2_with fail
        refine (zz_any M wr g k HN.out HRW.out HK.out (by omega)).mono ?_
        intro e w1 hp
        obtain ⟨m, G, rfl, hrg, hmg, hbg⟩ := hp
        rw [← HN.out]
        have HRG := hid hrg
        have HMG := hid hmg
        have HBG := hid (HB.out.trans hbg)
        have hgs := hrg.lt
        have hmk2 := hmg.mle
        rw [← HN.out] at hmk2
        obtain ⟨B, hB⟩ : ∃ B, B = w1.heap.size := ⟨_, rfl⟩
        have hgB : g < B := by omega
        have HBs := hid hB
        clear hB hrg hmg hbg hmk
        go_wp2_with fail
        go_loopg [6, 7] k (fun gk v iv wx => Below B w1 wx ∧ ∃ i ao cap', gk = k - i ∧ i ≤ k ∧ iv = .int .i64 (i : Int) ∧ (acc M i).length ≤ cap' ∧ cap' ≤ 9223372036854775807 ∧ v = .slice ao (acc M i).length cap' ∧ Own wx B v (acc M i))
        case atStart => exact ⟨Below.refl _ _, 0, none, 0, rfl, Nat.zero_le _, rfl, by simp [acc_zero], by omega, by simp [acc_zero], by rw [acc_zero]; exact own_nil _ _⟩
        case round =>
          obtain ⟨hbx, i, ao, cap', rfl, hi, rfl, hac, hcx, rfl, hown⟩ := hrel
          have HOWN := hid hown
          have HBX := hid hbx
          have HWB := hid (show ∀ wy, Below B w1 wy → ∀ o, wy.cell? ⟨b, o, none⟩ = W.cell? ⟨b, o, none⟩ from fun wy h o => by
            rw [h.cell (by show b < B; omega), HBG.out.cell (by exact hb)])
          have hBw : B ≤ wr.heap.size := Nat.le_trans (Nat.le_of_eq HBs.out) hbx.size
          by_cases hil : i < k
          · have hiM : i < M.length := by rw [← HN.out]; exact hil
            have hS := acc_succ hiM
            have hxle := ix_le (acc M i) (key M i).toList
            have HOLD := hid (fun (hr : ix (acc M i) (key M i).toList < (acc M i).length) => hS.trans (by unfold put; exact if_pos hr))
            have HNEW2 := hid (fun (hr : ¬ ix (acc M i) (key M i).toList < (acc M i).length) => hS.trans (by unfold put; exact if_neg hr))
            have HIX := hid (fun (r : Nat) (h0 : r ≤ (acc M i).length) (h1 : ∀ j, j < r → (key (acc M i) j).toList ≠ (key M i).toList) (h2 : r < (acc M i).length → (key (acc M i) r).toList = (key M i).toList) => ix_eq h0 h1 h2)
            have C := hid (fun wy (h : Below B w1 wy) => And.intro ((HWB.out wy h (off + i * 2)).trans (HR.out i hil).1) ((HWB.out wy h (off + i * 2 + 1)).trans (HR.out i hil).2))
            obtain ⟨sx, hsx⟩ : ∃ sx, sx = key M i := ⟨_, rfl⟩
            obtain ⟨x, hx⟩ : ∃ x, x = val M i := ⟨_, rfl⟩
            have he : M.getD i e0 = (sx, x) := by rw [hsx, hx]; rfl
            rw [he] at HOLD HNEW2
            rw [← hsx] at HIX C hxle HOLD HNEW2
            rw [← hx] at C
            obtain ⟨L, hL⟩ : ∃ L, L = acc M i := ⟨_, rfl⟩
            rw [← hL] at HOLD HNEW2 HIX HOWN hac hxle
            rw [← hL]
            obtain ⟨l, hl⟩ : ∃ l, l = L.length := ⟨_, rfl⟩
            have hl2 : l ≤ 1024 := by rw [hl, hL]; exact acc_small M i (by omega)
            rw [← hl] at HOLD HNEW2 HIX HOWN hac hxle
            rw [← hl]
            have HL := hid hl
            clear hS hsx hx he hL hl hown hbx hiM hxle HIX HWB
            go_wp2_with fail
            go_loopg [8, 9] l (fun gk fv jv wy => fv = .int .i64 (-1) ∧ Below B w1 wy ∧ Own wy B (.slice ao l cap') L ∧ ∃ j : Nat, gk = l - j ∧ j ≤ l ∧ jv = .int .i64 (j : Int) ∧ ∀ t, t < j → (key L t).toList ≠ sx.toList)
            case atStart => exact ⟨rfl, HBX.out, HOWN.out, 0, rfl, Nat.zero_le _, rfl, fun t ht => absurd ht (by omega)⟩
            case round =>
              obtain ⟨rfl, hby, hoy, j, rfl, hj, rfl, hall⟩ := hrel
              have HBY2 := hid hby
              have HOY := hid hoy
              have HALL := hid hall
              have HSIZE := hid (Nat.le_trans (Nat.le_of_eq HBs.out) hby.size)
              clear hby hoy hall
              obtain ⟨cc0, cc1⟩ := C.out wr HBY2.out
              by_cases hjl : j < l
              · obtain ⟨ao', cap2, e1, e2, e3, e4⟩ := HOY.out.shape
                obtain ⟨q, e5, hBq, hqs⟩ := e4 (by rw [← HL.out]; omega)
                have e6 : ao = some ⟨q, 0, none⟩ := by cases e1; exact e5
                subst e6
                have HOQ := hid (show Own wr B (.slice (some ⟨q, 0, none⟩) L.length cap') L from by rw [← HL.out]; exact HOY.out)
                clear e1 e2 e3 e4 e5 HOY
                have k0 := HOQ.out.c0 (k := j) (by rw [← HL.out]; exact hjl)
                have k1 := HOQ.out.c1 (k := j) (by rw [← HL.out]; exact hjl)
                have kf := HOQ.out.fr (j * 2 + 1)
                obtain ⟨s2, hs2⟩ : ∃ s2, s2 = key L j := ⟨_, rfl⟩
                rw [← hs2] at k0
                have HS2 := hid hs2
                clear hs2
                by_cases heq : s2.toList = sx.toList
                · have hbq : (s2.toList == sx.toList) = true := beq_iff_eq.2 heq
                  have hix : ix L sx.toList = j := ix_eq (by rw [← HL.out]; omega) HALL.out (fun _ => by rw [← HS2.out]; exact heq)
                  have RS := hid (HOQ.out.set1 (r := j) (by rw [← HL.out]; exact hjl) x)
                  have RA := hid (HOLD.out (by rw [hix]; exact hjl))
                  rw [hix] at RA
                  clear heq hix
                  go_upto_region 19 with fail
                  go_quiet (fail)
                  go_wp2_with fail
                  go_roundg (k - (i + 1))
                  case measure => omega
                  case rel =>
                    refine ⟨(bel_drewN HBY2.out _).setCell hBq _, i + 1, some ⟨q, 0, none⟩, cap', rfl, by omega, by go_num, ?_, hcx, ?_, ?_⟩
                    · rw [RA.out, set_len, ← HL.out]; exact hac
                    · rw [RA.out, set_len, ← HL.out]
                    · have := RS.out
                      rw [set_len, ← HL.out] at this
                      rw [RA.out]; exact this
                · have hbq : (s2.toList == sx.toList) = false := beq_eq_false_iff_ne.2 heq
                  have HNE := hid heq
                  clear heq
                  go_upto_region 19 with fail
                  go_quiet (fail)
                  go_wp2_with fail
                  go_roundg (l - (j + 1))
                  case measure => omega
                  case rel => exact ⟨rfl, bel_drewN HBY2.out _, by have := HOQ.out; rw [← HL.out] at this; exact this.drewN _, j + 1, rfl, by omega, by go_num, fun t ht => by
                      by_cases e : t = j
                      · subst e; rw [← HS2.out]; exact HNE.out
                      · exact HALL.out t (by omega)⟩
              · have e : j = l := by omega
                subst e
                have hix : ix L sx.toList = j := ix_eq (by rw [← HL.out]; omega) HALL.out (fun h => absurd h (by rw [← HL.out]; omega))
                have RA := hid (HNEW2.out (by rw [hix]; omega))
                have HOY2 := hid (show wr.ownsRow B 26 2 (.slice ao j cap') j (flat L) from by have := HOY.out; unfold Own at this; rw [← HL.out] at this; exact this)
                clear hix
                obtain ⟨i0, hi0, hz0, hz1, hz2⟩ := info_parts info26
                have hlow := HSIZE.out
                go_wp2_with (at_builtin; refine wpList_append_own _ rfl _ _ 22 rfl B 26 i0 _ 2 24 Try.underlying22 hi0 hz0 hz1 hz2 rfl (by decide) _ _ _ rfl (HOY2.out.alloc _) ⟨wr.heap.size, 0, none⟩ 1 1 [.string sx, .int .i64 x] rfl rfl (cell_two_new _ _ _ _) (by intro u hu; simp at hu; rcases hu with rfl | rfl <;> rfl) (by unfold maxLen; omega) (by omega) (by simp; omega) ?_; intro v' w2 hown' hgrow2 hnil2; obtain ⟨ao2, cap2, rfl, hcap2, hcap3⟩ := own_opt hown')
                go_roundg (k - (i + 1))
                case measure => omega
                case rel =>
                  unfold maxLen at hcap2
                  have hln : (acc M (i + 1)).length = j + 1 := by rw [RA.out, List.length_append, ← HL.out]; rfl
                  refine ⟨(HBY2.out.alloc hlow _).grown hgrow2 (by simp; omega) (fun t ht => own_low HOY2.out t ht), i + 1, ao2, cap2, rfl, by omega, by go_num, by rw [hln]; exact hcap3, by omega, by rw [hln], ?_⟩
                  unfold Own
                  rw [hln, RA.out, flat_append]
                  exact hown'
          · have e : i = k := by omega
            subst e
            have hml : (acc M i).length = m := by have := HMG.out.ml; rw [← HN.out] at this; exact this.symm
            have htk : G.take m = acc M i := by have := HMG.out.tk; rw [← HN.out] at this; exact this
            have HGL := hid (show G.length = i from by rw [HMG.out.len]; exact HN.out.symm)
            obtain ⟨L, hL⟩ : ∃ L, L = acc M i := ⟨_, rfl⟩
            rw [← hL] at HOWN hac hml htk
            rw [← hL, hml]
            rw [hml] at HOWN hac
            have HL := hid hml
            have HTK := hid htk
            have HQ := hid (show 0 < m → ∃ q, ao = some ⟨q, 0, none⟩ from fun h => by
              obtain ⟨ao', cap2, e1, _, _, e4⟩ := HOWN.out.shape
              obtain ⟨q, e5, _⟩ := e4 (by rw [HL.out]; exact h)
              exact ⟨q, by cases e1; exact e5⟩)
            have hbne : ((m : Int) != (m : Int)) = false := by simp
            clear hml htk hL hown hbx HWB
            go_wp2_with fail
            go_loopg [10] m (fun gk jv wy => Below B w1 wy ∧ Own wy B (.slice ao m cap') L ∧ ∃ j : Nat, gk = m - j ∧ j ≤ m ∧ jv = .int .i64 (j : Int))
            case atStart => exact ⟨HBX.out, HOWN.out, 0, rfl, Nat.zero_le _, rfl⟩
            case round =>
              obtain ⟨hby, hoy, j, rfl, hj, rfl⟩ := hrel
              have HBY2 := hid hby
              have HOY := hid hoy
              clear hby hoy
              by_cases hjl : j < m
              · obtain ⟨q, e5⟩ := HQ.out (by omega)
                subst e5
                have HOQ := hid (show Own wr B (.slice (some ⟨q, 0, none⟩) L.length cap') L from by rw [HL.out]; exact HOY.out)
                have k0 := HOQ.out.c0 (k := j) (by rw [HL.out]; exact hjl)
                have k1 := HOQ.out.c1 (k := j) (by rw [HL.out]; exact hjl)
                have hrg := HRG.out.below HBY2.out hgB
                have j0 := hrg.c0 (k := j) (by rw [HGL.out]; omega)
                have j1 := hrg.c1 (k := j) (by rw [HGL.out]; omega)
                have hkk : key G j = key L j := by rw [← HTK.out, key_take _ _ _ hjl]
                have hvv : val G j = val L j := by
                  rw [← HTK.out]; unfold val; rw [List.getD_eq_getElem?_getD, List.getD_eq_getElem?_getD, List.getElem?_take, if_pos hjl]
                rw [hkk] at j0
                rw [hvv] at j1
                obtain ⟨s2, hs2⟩ : ∃ s2, s2 = key L j := ⟨_, rfl⟩
                obtain ⟨x2, hx2⟩ : ∃ x2, x2 = val L j := ⟨_, rfl⟩
                rw [← hs2] at k0 j0
                rw [← hx2] at k1 j1
                clear hs2 hx2 hkk hvv hrg
                have z0 : (s2.toList != s2.toList) = false := by simp
                have z1 : (x2 != x2) = false := by simp
                go_upto_region 29 with fail
                go_quiet (fail)
                go_wp2_with fail
                go_roundg (m - (j + 1))
                case measure => omega
                case rel => exact ⟨bel_drewN HBY2.out _, HOY.out.drewN _, j + 1, rfl, by omega, by go_num⟩
              · go_wp2_with fail
                go_ret
                refine ⟨rfl, ?_⟩
                have h1 := HBG.out
                rw [HG.out] at h1
                exact h1.trans (HBY2.out.mono (by rw [← HG.out]; omega))

set_option maxRecDepth 100000 in
set_option maxHeartbeats 1000000 in
theorem law_zero (W : World) (ao : Option Addr) (cap n : Nat) (hn0 : n ≤ 0) (hc : n ≤ cap) (hm : cap ≤ maxLen) : Calls Try.prog 3 #[.slice ao n cap] W (LawPost W) := by
  have e0 : n = 0 := by omega
  have HBY := hid (show Calls Try.prog 4 #[.slice ao n cap] W (Says W) from by rw [e0]; exact bytes_zero W ao cap)
  have hmk := fun w => make_any n (by omega) w
  have HNEW := hid (row_made W n)
  rw [show List.replicate n zeroE = [] by rw [e0]; rfl] at HNEW
  rw [show List.replicate n zeroE = [] by rw [e0]; rfl] at hmk
  have HZ := hid (fun (w : World) (hr : Row w W.heap.size 27 []) => zz_any [] w W.heap.size n e0 hr (fun j => by show (⟨#[]⟩ : ByteArray).size ≤ maxLen; exact Nat.zero_le _) (by omega))
  unfold maxLen at hm
  clear e0
  have hd : decide (1024 < (n : Int)) = false := by rw [decide_eq_false_iff_not]; omega
  go_enter Try.func3, Try.ntmps3
  go_wp2_with fail
  refine HBY.out.mono ?_
  intro e w1 hp
  obtain ⟨t, rfl, hw⟩ := hp
  subst hw
  cases t with
  | false =>
    go_wp2_with fail
    go_ret
    exact ⟨rfl, Below.refl _ _⟩
  | true =>
    go_wp2_with fail
    go_loopg [4] 0 (fun gk iv wr => iv = .int .i64 0 ∧ wr = W.alloc (.cells (flat []).toArray 27))
    case atStart => exact ⟨rfl, rfl⟩
    case round =>
      obtain ⟨rfl, rfl⟩ := hrel
      go_wp2_with fail
      refine (HZ.out _ HNEW.out).mono ?_
      intro e w1 hp
      obtain ⟨m, G, rfl, hrg, hmg, hbg⟩ := hp
      have hm0 : m ≤ 0 := hmg.mle
      have HB := hid (((Below.refl _ W).alloc (Nat.le_refl _) (.cells (flat []).toArray 27)).trans hbg)
      clear hrg hmg hbg hmk
      go_wp2_with fail
      go_loopg [6, 7] 0 (fun gk v iv wx => wx = w1 ∧ v = .slice none 0 0 ∧ iv = .int .i64 0)
      case atStart => exact ⟨rfl, rfl, rfl⟩
      case round =>
        obtain ⟨hwx, rfl, rfl⟩ := hrel
        subst hwx
        go_wp2_with fail
        go_loopg [10] 0 (fun gk iv wx => wx = wr ∧ iv = .int .i64 0)
        case atStart => exact ⟨rfl, rfl⟩
        case round =>
          obtain ⟨hwx, rfl⟩ := hrel
          subst hwx
          go_wp2_with fail
          go_ret
          exact ⟨rfl, HB.out⟩

theorem law_big (W : World) (es : List Ent) (v : Value) (hi : Nat) (h : Ins W hi v es) (hl : 1024 < es.length) : Calls Try.prog 3 #[v] W (LawPost W) := by
  have HBY := hid (bytes_any es W hi v h)
  obtain ⟨ao, cap, rfl, hc, hm, _⟩ := h
  unfold maxLen at hm
  obtain ⟨n, hn⟩ : ∃ n, n = es.length := ⟨_, rfl⟩
  rw [← hn] at hl hc HBY
  rw [← hn]
  clear hn
  go_enter Try.func3, Try.ntmps3
  go_wp2_with fail
  refine HBY.out.mono ?_
  intro e w1 hp
  obtain ⟨t, rfl, hw⟩ := hp
  subst hw
  cases t with
  | false =>
    go_wp2_with fail
    go_ret
    exact ⟨rfl, Below.refl _ _⟩
  | true =>
    go_wp2_with fail
    go_ret
    exact ⟨rfl, Below.refl _ _⟩

theorem law_any (W : World) (es : List Ent) (v : Value) (h : Ins W W.heap.size v es) (hks : ∀ j, (key es j).size ≤ maxLen) : Calls Try.prog 3 #[v] W (LawPost W) := by
  by_cases hl : 1024 < es.length
  · exact law_big W es v _ h hl
  · obtain ⟨ao, cap, rfl, hc, hm, h | ⟨b, off, rfl, hb, hrow⟩⟩ := h
    · subst h; exact law_zero W ao cap _ (Nat.le_refl _) hc hm
    · exact law_pos es W b off cap _ rfl hc hm hb hrow hks (by omega)

end Go.Proofs.Qxb6002616a
