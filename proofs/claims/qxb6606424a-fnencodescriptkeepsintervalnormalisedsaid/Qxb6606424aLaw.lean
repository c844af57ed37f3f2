import Derived.Test.Qxb6606424aParts
namespace Go.Proofs.Qxb6606424a
open Go.RowKit
set_option linter.unusedVariables false
set_option linter.unusedSimpArgs false

def Says (w : World) (e : Ending) (w' : World) : Prop := ∃ t, e = .returned (.bool t) ∧ w = w'

set_option maxHeartbeats 400000 in
theorem bytes_any (w : World) (a b : Int) (a2 : Option Addr) (n2 c2 : Nat) (a3 : Option Addr) (n3 c3 : Nat) (h2 : n2 ≤ maxLen) (h3 : n3 ≤ maxLen) :
    Calls Try.prog 12 #[.int .u32 a, .int .u32 b, .slice a2 n2 c2, .slice a3 n3 c3] w (Says w) := by
  unfold maxLen at h2 h3
  by_cases k1 : n2 ≤ 1048576
  · by_cases k2 : n3 ≤ 1048576
    · by_cases k3 : n2 + n3 ≤ 1048576
      · go_enter Try.func12, Try.ntmps12
        go_wp2
        go_ret
        exact ⟨_, rfl, rfl⟩
      · go_enter Try.func12, Try.ntmps12
        go_wp2
        go_ret
        exact ⟨_, rfl, rfl⟩
    · go_enter Try.func12, Try.ntmps12
      go_wp2
      go_ret
      exact ⟨_, rfl, rfl⟩
  · go_enter Try.func12, Try.ntmps12
    go_wp2
    go_ret
    exact ⟨_, rfl, rfl⟩

/-- in the second loop -/
def LoopInv (wB : World) (B k : Nat) (lv hv ov : Value) (wr : World) : Prop :=
  ∃ (lo hi : Nat) (ao : Option Addr) (m cap : Nat), lv = .int .u32 (lo : Int) ∧ hv = .int .u32 (hi : Int) ∧ ov = .slice ao m cap ∧ lo < hi ∧ hi < 4294967296 ∧ ¬ lo / 16777216 = hi / 16777216 ∧ m ≤ 4 * k ∧ (∃ xs, wr.ownsRow B 5 1 (.slice ao m cap) m xs) ∧ Below B wB wr

set_option maxRecDepth 100000 in
set_option maxHeartbeats 4000000 in
theorem law {l2 l3 : List Int} {w : World} {v2 v3 : Value} (lo hi : Nat) (hlo : lo < 4294967296) (hhi : hi < 4294967296) (h2 : Rd .u8 w w.heap.size v2 l2) (h3 : Rd .i32 w w.heap.size v3 l3) :
    Calls Try.prog 5 #[.int .u32 (lo : Int), .int .u32 (hi : Int), v2, v3] w fun e w' => e = .returned (.bool true) ∧ Below w.heap.size w w' := by
  have H2 := hid h2
  have H3 := hid h3
  obtain ⟨a2, cap2, rfl, x1, x2, _, _⟩ := h2
  obtain ⟨a3, cap3, rfl, y1, y2, _, y4⟩ := h3
  have HY4 := hid y4
  have f1 := bytes_any w lo hi a2 l2.length cap2 a3 l3.length cap3 (by omega) (by omega)
  unfold maxLen at x2 y2
  clear y4
  go_enter Try.func5, Try.ntmps5
  go_wp2_with fail
  refine f1.mono ?_
  intro e w1 hp
  obtain ⟨t, rfl, rfl⟩ := hp
  clear f1
  cases t with
  | false =>
    go_wp2_with fail
    go_ret
    exact ⟨rfl, Below.refl _ _⟩
  | true =>
  by_cases k1 : 65536 < l2.length
  · go_wp2_with fail
    go_ret
    exact ⟨rfl, Below.refl _ _⟩
  by_cases k2 : 65536 < l3.length
  · go_wp2_with fail
    go_ret
    exact ⟨rfl, Below.refl _ _⟩
  by_cases k3 : hi ≤ lo
  · go_wp2_with fail
    go_ret
    exact ⟨rfl, Below.refl _ _⟩
  by_cases k4 : lo / 16777216 = hi / 16777216
  · have ht' := top_yes hlo hhi k4
    clear k4
    go_wp2_with fail
    go_ret
    exact ⟨rfl, Below.refl _ _⟩
  have ht' := top_no hlo hhi k4
  have K4 := hid k4
  clear k4
  go_upto_if 46 with fail
  go_cut [9] (fun mv wc => (∃ M : Nat, mv = .int .i64 (M : Int) ∧ M ≤ l2.length ∧ M ≤ l3.length) ∧ w = wc)
  case first =>
    by_cases k5 : l3.length < l2.length
    · go_wp2_with fail
      go_meet
      case rel => exact ⟨⟨l3.length, rfl, by omega, by omega⟩, rfl⟩
    · go_wp2_with fail
      go_meet
      case rel => exact ⟨⟨l2.length, rfl, by omega, by omega⟩, rfl⟩
  case rest =>
  obtain ⟨⟨M, rfl, m1, m2⟩, hw⟩ := hcut
  subst hw
  go_wp2_with fail
  go_loopg [10] M (fun gk iv wx => w = wx ∧ ∃ k : Nat, gk = M - k ∧ k ≤ M ∧ iv = .int .i64 (k : Int) ∧ ∀ t, t < k → 0 ≤ l3.getD t 0 ∧ l3.getD t 0 ≤ 4095)
  case atStart => exact ⟨rfl, 0, rfl, Nat.zero_le _, rfl, fun t ht => absurd ht (by omega)⟩
  case round =>
    obtain ⟨hw, k, rfl, hk, rfl, hin⟩ := hrel
    subst hw
    by_cases hlt : k < M
    · rcases HY4.out with y4 | ⟨b, off, hao, y5, y6⟩
      · exfalso; rw [y4] at m2; simp at m2; omega
      subst hao
      have hc := y6 k (by omega)
      obtain ⟨x, hxx⟩ : ∃ x, x = l3.getD k 0 := ⟨_, rfl⟩
      rw [← hxx] at hc
      have HX := hid hxx
      have HIN := hid hin
      clear hxx hin y6
      by_cases z1 : x < 0
      · go_wp2_with fail
        go_ret
        exact ⟨rfl, Below.refl _ _⟩
      by_cases z2 : 4095 < x
      · go_wp2_with fail
        go_ret
        exact ⟨rfl, Below.refl _ _⟩
      go_wp2_with fail
      go_roundg (M - (k + 1))
      case measure => omega
      case rel => exact ⟨rfl, k + 1, rfl, by omega, by go_num, fun t ht => by
          by_cases e : t = k
          · subst e; rw [← HX.out]; omega
          · exact HIN.out t (by omega)⟩
    · have e : k = M := by omega
      subst e
      have HIN := hid hin
      clear hin hlt hk
      have f2 := clone7_any H2.out (Nat.le_refl _) (by omega)
      go_wp2_with fail
      refine f2.mono ?_
      intro e w1 hp
      obtain ⟨u2, rfl, d1, d2⟩ := hp
      have f3 := clone13_any (H3.out.keep d2) d2.size (by omega)
      have D1 := hid d1
      have D2 := hid d2
      clear f2 d1 d2
      go_wp2_with fail
      refine f3.mono ?_
      intro e w2 hp
      obtain ⟨u3, rfl, d3, d4⟩ := hp
      have d5 := (D1.out.keep d4).mono d4.size
      obtain ⟨b2, cp2, rfl, _, p2, _, e2⟩ := d5
      obtain ⟨b3, cp3, rfl, _, p3, _, e3⟩ := d3
      have E2 := hid e2
      have E3 := hid e3
      have HBel := hid (show Below w.heap.size w w2 from D2.out.trans (d4.mono D2.out.size))
      clear f3 d4 D1 D2 H2 H3 HY4 e2 e3 x1 x2 y1 y2
      go_wp2_with fail
      go_loopg [11, 12, 13, 14] k (fun gk lv hv ov iv wx => ∃ i : Nat, gk = k - i ∧ i ≤ k ∧ iv = .int .i64 (i : Int) ∧ LoopInv w2 w2.heap.size i lv hv ov wx)
      case atStart => exact ⟨0, rfl, Nat.zero_le _, rfl, lo, hi, none, 0, 0, rfl, rfl, rfl, by omega, hhi, K4.out, by omega, ⟨[], World.ownsRow_nil _ _ _ _⟩, Below.refl _ _⟩
      case round =>
        obtain ⟨i, rfl, hi1, rfl, lo1, hi1', ao, m, cap, rfl, rfl, rfl, g1, g2, g3, g4, ⟨xs, g5⟩, g6⟩ := hrel
        by_cases hlt : i < k
        · rcases E2.out with q2 | ⟨c2, o2, r2, s2, t2⟩
          · exfalso; rw [q2] at m1; simp at m1; omega
          rcases E3.out with q3 | ⟨c3, o3, r3, s3, t3⟩
          · exfalso; rw [q3] at m2; simp at m2; omega
          subst r2
          subst r3
          have hc2 := (g6.cell (p := ⟨c2, o2 + i, none⟩) (by simpa using s2)).trans (t2 i (by omega))
          have hc3 := (g6.cell (p := ⟨c3, o3 + i, none⟩) (by simpa using s3)).trans (t3 i (by omega))
          obtain ⟨b0, b1⟩ := HIN.out i hlt
          obtain ⟨x, hxx⟩ : ∃ x, x = l3.getD i 0 := ⟨_, rfl⟩
          obtain ⟨y, hyy⟩ : ∃ y, y = l2.getD i 0 := ⟨_, rfl⟩
          rw [← hxx] at hc3 b0 b1
          rw [← hyy] at hc2
          obtain ⟨pn, rfl⟩ : ∃ pn : Nat, x = pn := ⟨x.toNat, by omega⟩
          have HZ := hid (fun (wx : World) (hx : wx.heap = wr.heap) (bit : Int) => zencode_any wx w2.heap.size lo1 hi1' ao m cap xs bit pn (by unfold World.ownsRow at g5 ⊢; rw [hx]; exact g5) (by rw [hx]; exact g6.size) g1 g2 (by omega) (by omega))
          have G6 := hid g6
          clear hxx hyy t2 t3 g3 g5 g6
          go_upto_region 26 with fail
          go_cut [16, 17, 18] (fun lv hv ov wc => ∃ (lo' hi' : Nat) (ao' : Option Addr) (m' cap' : Nat), lv = .int .u32 (lo' : Int) ∧ hv = .int .u32 (hi' : Int) ∧ ov = .slice ao' m' cap' ∧ lo' < hi' ∧ hi' < 4294967296 ∧ ¬ lo' / 16777216 = hi' / 16777216 ∧ m ≤ m' ∧ m' ≤ m + 4 ∧ (∃ xs, wc.ownsRow w2.heap.size 5 1 (.slice ao' m' cap') m' xs) ∧ Below w2.heap.size w2 wc)
          case first =>
            go_region_with (go_at_call 8; go_must (refine (HZ.out wr.drew rfl _).mono ?_; intro e w3 hp; obtain ⟨lo', hi', ao', m', cap', rfl, zz⟩ := hp; have ZZ := hid zz; clear zz))
            all_goals
              go_simp
              go_wp2_with fail
              go_meet
              case rel =>
                obtain ⟨z1, z2, z3, z4, z5, z6, z7⟩ := ZZ.out
                exact ⟨lo', hi', ao', m', cap', rfl, rfl, rfl, z3, z4, z5, z6, z7, z1, G6.out.drew.trans z2⟩
          case rest =>
          obtain ⟨lo', hi', ao', m', cap', rfl, rfl, rfl, z1, z2, z3, z4, z5, z6, z7⟩ := hcut
          have ht2 := top_no (by omega : lo' < 4294967296) z2 z3
          have R := hid (show LoopInv w2 w2.heap.size (i + 1) (.int .u32 (lo' : Int)) (.int .u32 (hi' : Int)) (.slice ao' m' cap') wc from ⟨lo', hi', ao', m', cap', rfl, rfl, rfl, z1, z2, z3, by omega, z6, z7⟩)
          clear z3 z6 z7 HZ G6 hc2 hc3
          go_wp2_with fail
          go_roundg (k - (i + 1))
          case measure => omega
          case rel => exact ⟨i + 1, rfl, by omega, by go_num, R.out⟩
        · have R := hid (show Below w.heap.size w wr from HBel.out.trans (g6.mono HBel.out.size))
          clear g6 g5 g3
          go_wp2_with fail
          go_ret
          exact ⟨rfl, R.out⟩

end Go.Proofs.Qxb6606424a
