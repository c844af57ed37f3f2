import Derived.Test.Qxb6600443aLawB2
import Derived.Lib.Strings
namespace Go.Proofs.Qxb6600443a
open Go.RowKit
set_option linter.unusedVariables false
set_option linter.unusedSimpArgs false

theorem alt_data (s : BS) (i : Nat) : (inn.extract s.start i).data.toList = altOf s i := by
  rw [Lib.extract_data]; rfl

def BInv (w : World) (g : Nat) (l : List Int) (wr : World) : Prop := Below g w wr ∧ wr.rowIs g 24 17 (fun j => .int .i64 (l.getD j 0))

theorem binv_set {w : World} {g : Nat} {l : List Int} {wr : World} (h : BInv w g l wr) (k : Nat) (x : Int) (hk : k < l.length) : BInv w g (l.set k x) (wr.setCell ⟨g, k, none⟩ (.int .i64 x)) := by
  refine ⟨h.1.setCell (Nat.le_refl _) _, (h.2.set k _).congr fun j hj => ?_⟩
  rw [getD_set]
  by_cases e : j = k
  · rw [if_pos e, if_pos ⟨e, hk⟩]
  · rw [if_neg e, if_neg (fun h => e h.1)]

theorem binv_new (w : World) : BInv w w.heap.size [0, 0, 0, 0, 0, 0, 0, 0, 0, 0, 0, 0, 0, 0, 0, 0, 0] (w.alloc (.cells #[.int .i64 0, .int .i64 0, .int .i64 0, .int .i64 0, .int .i64 0, .int .i64 0, .int .i64 0, .int .i64 0, .int .i64 0, .int .i64 0, .int .i64 0, .int .i64 0, .int .i64 0, .int .i64 0, .int .i64 0, .int .i64 0, .int .i64 0] 24)) := by
  refine ⟨(Below.refl _ _).alloc (Nat.le_refl _) _, World.rowIs_alloc w _ _ _ fun i hi => ?_⟩
  have hi' : i < 17 := hi
  match i, hi' with
  | 0, _ => rfl
  | 1, _ => rfl
  | 2, _ => rfl
  | 3, _ => rfl
  | 4, _ => rfl
  | 5, _ => rfl
  | 6, _ => rfl
  | 7, _ => rfl
  | 8, _ => rfl
  | 9, _ => rfl
  | 10, _ => rfl
  | 11, _ => rfl
  | 12, _ => rfl
  | 13, _ => rfl
  | 14, _ => rfl
  | 15, _ => rfl
  | 16, _ => rfl
  | n + 17, h => omega

theorem bok_zero : BOk 0 ⟨0, 0, 0, false, 0, [0, 0, 0, 0, 0, 0, 0, 0, 0, 0, 0, 0, 0, 0, 0, 0, 0]⟩ := by
  refine ⟨by decide, by decide, by decide, by decide, by decide, by decide, by decide, rfl, fun j hj => ?_⟩
  have : ([0, 0, 0, 0, 0, 0, 0, 0, 0, 0, 0, 0, 0, 0, 0, 0, 0] : List Int).getD j 0 = 0 := by
    have h : ([0, 0, 0, 0, 0, 0, 0, 0, 0, 0, 0, 0, 0, 0, 0, 0, 0] : List Int) = List.replicate 17 0 := rfl
    rw [h, List.getD_eq_getElem?_getD, List.getElem?_replicate]; split <;> rfl
  show 0 ≤ List.getD _ j 0 ∧ List.getD _ j 0 ≤ _
  rw [this]; omega

theorem inn_at (k : Nat) (h : k < inn.size) : ((inn[k]'h).toNat : Int) = charB k := by
  have h' : k < innL.length := by simpa [inn, ByteArray.size] using h
  simp [charB, List.getD_eq_getElem?_getD, ByteArray.getElem_eq_getElem_data, inn, h']

set_option maxRecDepth 100000 in
set_option maxHeartbeats 4000000 in
theorem lawB (w : World) : Calls Try.prog 4 #[] w fun e w' => e = .returned (.bool true) ∧ Below w.heap.size w w' := by
  have hp := fun w => zzpattern_any w
  have hsz : pat.size = 348 := by kernel_rfl
  have he1 : pat.extract 0 4 = ⟨#[94, 40, 63, 58]⟩ := by kernel_rfl
  have he2 : pat.extract (pat.size - 2) pat.size = ⟨#[41, 36]⟩ := by kernel_rfl
  have he3 : pat.extract 4 (pat.size - 2) = inn := by kernel_rfl
  have hisz : inn.size = 342 := by kernel_rfl
  have hB0 := inn_at
  obtain ⟨sp, hsp⟩ : ∃ s, s = pat := ⟨_, rfl⟩
  obtain ⟨t, ht⟩ : ∃ t, t = inn := ⟨_, rfl⟩
  rw [← hsp] at hp hsz he1 he2 he3
  rw [← ht] at he3 hisz hB0
  have hz1 : 348 ≤ sp.size := by omega
  have hz2 : sp.size ≤ 348 := by omega
  have hz3 : 342 ≤ t.size := by omega
  have hz4 : t.size ≤ 342 := by omega
  obtain ⟨B, hBB⟩ : ∃ B, B = charB := ⟨_, rfl⟩
  rw [← hBB] at hB0
  have HBB := hid hBB
  have HS := hid hsp
  have HT := hid ht
  have HZ := hid hsz
  have HIZ := hid hisz
  have HNEW := hid (binv_new w)
  obtain ⟨g, hg⟩ : ∃ g, g = w.heap.size := ⟨_, rfl⟩
  have HG := hid hg
  clear hsp ht hsz hisz hBB hg
  go_enter Try.func4, Try.ntmps4
  go_wp2_with (go_at_call 7; refine (hp _).mono ?_; rintro e w' ⟨rfl, rfl⟩)
  rw [he3]
  rw [← HG.out]
  go_loopg [5, 6, 7, 8, 9, 10] 343 (fun gk v5 v6 v7 v8 v9 v10 wr => ∃ i s, gk = 343 - i ∧ i ≤ 343 ∧ runB i = some s ∧ BOk i s ∧ v5 = .int .i64 s.alts ∧ v6 = .int .i64 s.lit ∧ v7 = .int .i64 s.depth ∧ v8 = .bool s.ic ∧ v9 = .int .i64 (s.start : Int) ∧ v10 = .int .i64 (i : Int) ∧ BInv w' g s.seen wr)
  case atStart => exact ⟨0, _, rfl, by omega, rfl, bok_zero, rfl, rfl, rfl, rfl, rfl, rfl, by rw [HG.out]; exact HNEW.out⟩
  case round =>
    obtain ⟨i, s, rfl, hi, hrun, hok, rfl, rfl, rfl, rfl, rfl, rfl, hinv⟩ := hrel
    have HI := hid hinv
    have HRUN := hid hrun
    have HO0 := hid hok
    have b1 := hok.a0; have b2 := hok.a1; have b3 := hok.l0; have b4 := hok.l1; have b5 := hok.d0; have b6 := hok.d1; have b7 := hok.st
    clear hinv hrun hok
    by_cases hlt : i < 343
    · obtain ⟨s', hs, hr'⟩ := run_next HRUN.out hlt
      have HO := hid (bok_step HO0.out hs)
      have HR := hid hr'
      clear hr'
      unfold stepB at hs
      by_cases h342 : i < 342
      · rw [if_pos h342] at hs
        rw [← HBB.out] at hs
        cases hic : s.ic with
        | true =>
          rw [hic] at hs
          simp only [if_true] at hs
          by_cases e93 : B i = 93
          · rw [if_pos e93] at hs
            have n93 : (B i == 93) = true := by rw [beq_iff_eq]; exact e93
            have hs' := Option.some.inj hs
            subst hs'
            clear hs e93
            go_wp2_with fail
            go_roundg (343 - (i + 1))
            case measure => omega
            case rel => exact ⟨i + 1, _, rfl, by omega, HR.out, HO.out, by go_num, by go_num, by go_num, by go_num, by go_num, by go_num, HI.out⟩
          · rw [if_neg e93] at hs
            have n93 : (B i == 93) = false := by rw [beq_eq_false_iff_ne]; exact e93
            have hs' := Option.some.inj hs
            subst hs'
            clear hs e93
            go_wp2_with fail
            go_roundg (343 - (i + 1))
            case measure => omega
            case rel => exact ⟨i + 1, _, rfl, by omega, HR.out, HO.out, by go_num, by go_num, by go_num, by go_num, by go_num, by go_num, HI.out⟩
        | false =>
          rw [hic] at hs
          simp only [Bool.false_eq_true, if_false] at hs
          by_cases e91 : B i = 91
          · rw [if_pos e91] at hs
            have n91 : (B i == 91) = true := by rw [beq_iff_eq]; exact e91
            have hs' := Option.some.inj hs
            subst hs'
            clear hs  e91
            go_wp2_with fail
            go_roundg (343 - (i + 1))
            case measure => omega
            case rel => exact ⟨i + 1, _, rfl, by omega, HR.out, HO.out, by go_num, by go_num, by go_num, by go_num, by go_num, by go_num, HI.out⟩
          · rw [if_neg e91] at hs
            by_cases e40 : B i = 40
            · rw [if_pos e40] at hs
              have n91 : (B i == 91) = false := by rw [beq_eq_false_iff_ne]; exact e91
              have n40 : (B i == 40) = true := by rw [beq_iff_eq]; exact e40
              have hs' := Option.some.inj hs
              subst hs'
              clear hs  e91 e40
              go_wp2_with fail
              go_roundg (343 - (i + 1))
              case measure => omega
              case rel => exact ⟨i + 1, _, rfl, by omega, HR.out, HO.out, by go_num, by go_num, by go_num, by go_num, by go_num, by go_num, HI.out⟩
            · rw [if_neg e40] at hs
              by_cases e41 : B i = 41
              · rw [if_pos e41] at hs
                have n91 : (B i == 91) = false := by rw [beq_eq_false_iff_ne]; exact e91
                have n40 : (B i == 40) = false := by rw [beq_eq_false_iff_ne]; exact e40
                have n41 : (B i == 41) = true := by rw [beq_iff_eq]; exact e41
                have hs' := Option.some.inj hs
                subst hs'
                clear hs  e91 e40 e41
                go_wp2_with fail
                go_roundg (343 - (i + 1))
                case measure => omega
                case rel => exact ⟨i + 1, _, rfl, by omega, HR.out, HO.out, by go_num, by go_num, by go_num, by go_num, by go_num, by go_num, HI.out⟩
              · rw [if_neg e41] at hs
                by_cases e124 : B i = 124
                · by_cases ed : s.depth = 0
                  · rw [if_neg (by rintro (h | h); exact h e124; exact h ed)] at hs
                    have n91 : (B i == 91) = false := by rw [beq_eq_false_iff_ne]; exact e91
                    have n40 : (B i == 40) = false := by rw [beq_eq_false_iff_ne]; exact e40
                    have n41 : (B i == 41) = false := by rw [beq_eq_false_iff_ne]; exact e41
                    have n124 : (B i == 124) = true := by rw [beq_iff_eq]; exact e124
                    have nd : (s.depth == 0) = true := by rw [beq_iff_eq]; exact ed
                    have nd2 : (s.depth != 0) = false := by rw [bne, nd]; rfl
                    have n124' : (B i != 124) = false := by rw [bne, n124]; rfl
                    clear  e91 e40 e41 e124 ed
                    unfold cutB at hs
                    have hpl := fun w => plain_any (t.extract s.start i) w (by rw [ByteArray.size_extract]; omega)
                    have hix := fun w => idx_any (t.extract s.start i) w
                    rw [ByteArray.toList_eq] at hix
                    have hd := alt_data s i
                    rw [← HT.out] at hd
                    rw [hd] at hpl hix
                    clear hd
                    have hrg := idx_range (altOf s i)
                    obtain ⟨al, hal⟩ : ∃ al, al = altOf s i := ⟨_, rfl⟩
                    rw [← hal] at hpl hix hs hrg
                    clear hal
                    cases hb : plainB al with
                    | true =>
                      rw [hb] at hpl hs
                      simp only [if_true] at hs
                      by_cases hx : idxB al < 0
                      · rw [if_pos hx] at hs; cases hs
                      · rw [if_neg hx] at hs
                        obtain ⟨k, hk⟩ : ∃ k : Nat, k = (idxB al).toNat := ⟨_, rfl⟩
                        have hk' : idxB al = (k : Int) := by omega
                        rw [← hk] at hs
                        rw [hk'] at hix hrg
                        have hk16 : k < 17 := by omega
                        have hsn := HO0.out.sn k hk16
                        have c1 := HI.out.2.cell hk16
                        have c2 := HI.out.2.frozen k
                        have HI2 := hid (binv_set HI.out k (s.seen.getD k 0 + 1) (by rw [HO0.out.len]; exact hk16))
                        obtain ⟨x, hxx⟩ : ∃ x, x = s.seen.getD k 0 := ⟨_, rfl⟩
                        rw [← hxx] at c1 hsn hs HI2
                        have hs' := Option.some.inj hs
                        subst hs'
                        clear hs hx hk hk' hb hxx
                        go_wp2_with first | (go_at_call 8; refine (hpl _).mono ?_; rintro e w' ⟨rfl, rfl⟩) | (go_at_call 9; refine (hix _).mono ?_; rintro e w' ⟨rfl, rfl⟩)
                        go_roundg (343 - (i + 1))
                        case measure => omega
                        case rel => exact ⟨i + 1, _, rfl, by omega, HR.out, HO.out, by go_num, by go_num, by go_num, by go_num, by go_num, by go_num, HI2.out⟩
                    | false =>
                      rw [hb] at hpl hs
                      simp only [Bool.false_eq_true, if_false] at hs
                      have hs' := Option.some.inj hs
                      subst hs'
                      clear hs hb hix hrg
                      go_wp2_with first | (go_at_call 8; refine (hpl _).mono ?_; rintro e w' ⟨rfl, rfl⟩)
                      go_roundg (343 - (i + 1))
                      case measure => omega
                      case rel => exact ⟨i + 1, _, rfl, by omega, HR.out, HO.out, by go_num, by go_num, by go_num, by go_num, by go_num, by go_num, HI.out⟩
                  · rw [if_pos (Or.inr ed)] at hs
                    have nd : (s.depth == 0) = false := by rw [beq_eq_false_iff_ne]; exact ed
                    have nd2 : (s.depth != 0) = true := by rw [bne, nd]; rfl
                    have n124' : (B i != 124) = false := by rw [bne, beq_iff_eq.2 e124]; rfl
                    have n91 : (B i == 91) = false := by rw [beq_eq_false_iff_ne]; exact e91
                    have n40 : (B i == 40) = false := by rw [beq_eq_false_iff_ne]; exact e40
                    have n41 : (B i == 41) = false := by rw [beq_eq_false_iff_ne]; exact e41
                    have n124 : (B i == 124) = true := by rw [beq_iff_eq]; exact e124
                    have hs' := Option.some.inj hs
                    subst hs'
                    clear hs  e91 e40 e41 e124 ed
                    go_wp2_with fail
                    go_roundg (343 - (i + 1))
                    case measure => omega
                    case rel => exact ⟨i + 1, _, rfl, by omega, HR.out, HO.out, by go_num, by go_num, by go_num, by go_num, by go_num, by go_num, HI.out⟩
                · rw [if_pos (Or.inl e124)] at hs
                  have n124' : (B i != 124) = true := by rw [bne, beq_eq_false_iff_ne.2 e124]; rfl
                  have n91 : (B i == 91) = false := by rw [beq_eq_false_iff_ne]; exact e91
                  have n40 : (B i == 40) = false := by rw [beq_eq_false_iff_ne]; exact e40
                  have n41 : (B i == 41) = false := by rw [beq_eq_false_iff_ne]; exact e41
                  have n124 : (B i == 124) = false := by rw [beq_eq_false_iff_ne]; exact e124
                  have hs' := Option.some.inj hs
                  subst hs'
                  clear hs  e91 e40 e41 e124
                  go_wp2_with fail
                  go_roundg (343 - (i + 1))
                  case measure => omega
                  case rel => exact ⟨i + 1, _, rfl, by omega, HR.out, HO.out, by go_num, by go_num, by go_num, by go_num, by go_num, by go_num, HI.out⟩
      · rw [if_neg h342] at hs
        unfold cutB at hs
        have hpl := fun w => plain_any (t.extract s.start i) w (by rw [ByteArray.size_extract]; omega)
        have hix := fun w => idx_any (t.extract s.start i) w
        rw [ByteArray.toList_eq] at hix
        have hd := alt_data s i
        rw [← HT.out] at hd
        rw [hd] at hpl hix
        clear hd
        have hrg := idx_range (altOf s i)
        obtain ⟨al, hal⟩ : ∃ al, al = altOf s i := ⟨_, rfl⟩
        rw [← hal] at hpl hix hs hrg
        clear hal
        cases hb : plainB al with
        | true =>
          rw [hb] at hpl hs
          simp only [if_true] at hs
          by_cases hx : idxB al < 0
          · rw [if_pos hx] at hs; cases hs
          · rw [if_neg hx] at hs
            obtain ⟨k, hk⟩ : ∃ k : Nat, k = (idxB al).toNat := ⟨_, rfl⟩
            have hk' : idxB al = (k : Int) := by omega
            rw [← hk] at hs
            rw [hk'] at hix hrg
            have hk16 : k < 17 := by omega
            have hsn := HO0.out.sn k hk16
            have c1 := HI.out.2.cell hk16
            have c2 := HI.out.2.frozen k
            have HI2 := hid (binv_set HI.out k (s.seen.getD k 0 + 1) (by rw [HO0.out.len]; exact hk16))
            obtain ⟨x, hxx⟩ : ∃ x, x = s.seen.getD k 0 := ⟨_, rfl⟩
            rw [← hxx] at c1 hsn hs HI2
            have hs' := Option.some.inj hs
            subst hs'
            clear hs hx hk hk' hb hxx
            go_wp2_with first | (go_at_call 8; refine (hpl _).mono ?_; rintro e w' ⟨rfl, rfl⟩) | (go_at_call 9; refine (hix _).mono ?_; rintro e w' ⟨rfl, rfl⟩)
            go_roundg (343 - (i + 1))
            case measure => omega
            case rel => exact ⟨i + 1, _, rfl, by omega, HR.out, HO.out, by go_num, by go_num, by go_num, by go_num, by go_num, by go_num, HI2.out⟩
        | false =>
          rw [hb] at hpl hs
          simp only [Bool.false_eq_true, if_false] at hs
          have hs' := Option.some.inj hs
          subst hs'
          clear hs hb hix hrg
          go_wp2_with first | (go_at_call 8; refine (hpl _).mono ?_; rintro e w' ⟨rfl, rfl⟩)
          go_roundg (343 - (i + 1))
          case measure => omega
          case rel => exact ⟨i + 1, _, rfl, by omega, HR.out, HO.out, by go_num, by go_num, by go_num, by go_num, by go_num, by go_num, HI.out⟩
    · have e : i = 343 := by omega
      subst e
      have hf := run_final
      rw [HRUN.out] at hf
      simp only [Option.map_some, Option.some.injEq, Prod.mk.injEq] at hf
      obtain ⟨f1, f2, f3⟩ := hf
      have HF := hid f3
      rw [f1, f2] at *
      clear f3 f1 f2
      have hseen : ∀ j, j < 17 → wr.cell? ⟨g, j, none⟩ = some (.int .i64 1) := fun j hj => by
        have h := HI.out.2.cell hj
        rw [HF.out] at h
        rw [h]
        have e : ([1, 1, 1, 1, 1, 1, 1, 1, 1, 1, 1, 1, 1, 1, 1, 1, 1] : List Int) = List.replicate 17 1 := rfl
        rw [e, List.getD_eq_getElem?_getD, List.getElem?_replicate, if_pos hj]; rfl
      have HSEEN := hid hseen
      clear hseen
      go_wp2_with fail
      go_loopg [14] 17 (fun gk iv wx => wx = wr ∧ ∃ j : Nat, gk = 17 - j ∧ j ≤ 17 ∧ iv = .int .i64 (j : Int))
      case atStart => exact ⟨rfl, 0, rfl, by omega, rfl⟩
      case round =>
        obtain ⟨hwx, j, rfl, hj, rfl⟩ := hrel
        subst hwx
        by_cases hj' : j < 17
        · have c1 := HSEEN.out j hj'
          go_wp2_with fail
          go_roundg (17 - (j + 1))
          case measure => omega
          case rel => exact ⟨rfl, j + 1, rfl, by omega, by go_num⟩
        · go_wp2_with fail
          go_ret
          exact ⟨rfl, by have := HI.out.1; rwa [HG.out] at this⟩

end Go.Proofs.Qxb6600443a
