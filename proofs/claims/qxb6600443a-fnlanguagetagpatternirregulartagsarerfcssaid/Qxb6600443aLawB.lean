import Derived.Test.Qxb6600443aPat
import Derived.Deep.OwnRows
namespace Go.Proofs.Qxb6600443a
open Go.RowKit
set_option linter.unusedVariables false
set_option linter.unusedSimpArgs false

def okC (c : Int) : Bool := c == 45 || (decide (97 ≤ c) && decide (c ≤ 122))
def plainB (l : List UInt8) : Bool := !l.isEmpty && l.all (fun c => okC (c.toNat : Int))
def idxB (l : List UInt8) : Int :=
  if l == [101, 110, 45, 103, 98, 45, 111, 101, 100] then 0 else
  if l == [105, 45, 97, 109, 105] then 1 else
  if l == [105, 45, 98, 110, 110] then 2 else
  if l == [105, 45, 100, 101, 102, 97, 117, 108, 116] then 3 else
  if l == [105, 45, 101, 110, 111, 99, 104, 105, 97, 110] then 4 else
  if l == [105, 45, 104, 97, 107] then 5 else
  if l == [105, 45, 107, 108, 105, 110, 103, 111, 110] then 6 else
  if l == [105, 45, 108, 117, 120] then 7 else
  if l == [105, 45, 109, 105, 110, 103, 111] then 8 else
  if l == [105, 45, 110, 97, 118, 97, 106, 111] then 9 else
  if l == [105, 45, 112, 119, 110] then 10 else
  if l == [105, 45, 116, 97, 111] then 11 else
  if l == [105, 45, 116, 97, 121] then 12 else
  if l == [105, 45, 116, 115, 117] then 13 else
  if l == [115, 103, 110, 45, 98, 101, 45, 102, 114] then 14 else
  if l == [115, 103, 110, 45, 98, 101, 45, 110, 108] then 15 else
  if l == [115, 103, 110, 45, 99, 104, 45, 100, 101] then 16 else (-1)

theorem ret_bool {a b : Bool} (h : a = b) : Ending.returned (.bool a) = .returned (.bool b) := by rw [h]
theorem ret_int {k : IntKind} {a b : Int} (h : a = b) : Ending.returned (.int k a) = .returned (.int k b) := by rw [h]

theorem bytes_of (s : ByteArray) : ∃ B : Nat → Int, (∀ k (h : k < s.size), ((s[k]'h).toNat : Int) = B k) ∧ ∀ k, k < s.size → B k = ((s.data.toList.getD k 0).toNat : Int) := by
  refine ⟨fun k => ((s.data.toList.getD k 0).toNat : Int), fun k h => ?_, fun _ _ => rfl⟩
  have h' : k < s.data.toList.length := by simpa using h
  simp [List.getD_eq_getElem?_getD, ByteArray.getElem_eq_getElem_data, h]

theorem all_take {l : List UInt8} {p : UInt8 → Bool} (h : ∀ k, k < l.length → p (l.getD k 0) = true) : l.all p = true := by
  rw [List.all_eq_true]
  intro x hx
  obtain ⟨k, hk, rfl⟩ := List.getElem_of_mem hx
  have := h k hk
  rwa [List.getD_eq_getElem?_getD, List.getElem?_eq_getElem hk] at this
theorem not_all {l : List UInt8} {p : UInt8 → Bool} {k : Nat} (hk : k < l.length) (h : p (l.getD k 0) = false) : l.all p = false := by
  cases e : l.all p with
  | false => rfl
  | true =>
    rw [List.all_eq_true] at e
    have := e (l.getD k 0) (by rw [List.getD_eq_getElem?_getD, List.getElem?_eq_getElem hk]; exact List.getElem_mem hk)
    rw [h] at this; cases this

set_option maxRecDepth 100000 in
set_option maxHeartbeats 1000000 in
theorem plain_any (t : ByteArray) (w : World) (ht : t.size ≤ 1000) : Calls Try.prog 8 #[.string t] w fun e w' => e = .returned (.bool (plainB t.data.toList)) ∧ w = w' := by
  obtain ⟨B, hB, hB2⟩ := bytes_of t
  have hlen : t.data.toList.length = t.size := by rw [Array.length_toList]; rfl
  obtain ⟨l, hl⟩ : ∃ l, l = t.data.toList := ⟨_, rfl⟩
  rw [← hl] at hB2 hlen
  rw [← hl]
  have HLL := hid hl
  have HB2 := hid hB2
  have HLen := hid hlen
  clear hB2 hl hlen
  obtain ⟨b, hb⟩ : ∃ b, b = plainB l := ⟨_, rfl⟩
  rw [← hb]
  have HBb := hid hb
  clear hb
  by_cases h0 : t.size = 0
  · have h0' : ((t.size : Int) == 0) = true := by rw [beq_iff_eq]; omega
    have R := hid (show plainB l = false from by
      have : l = [] := List.eq_nil_of_length_eq_zero (by rw [HLen.out]; exact h0)
      rw [this]; rfl)
    clear h0
    go_enter Try.func8, Try.ntmps8
    go_wp2
    go_ret
    exact ⟨ret_bool (HBb.out.trans R.out).symm, rfl⟩
  · have h0' : ((t.size : Int) == 0) = false := by rw [beq_eq_false_iff_ne]; omega
    have hne : l.isEmpty = false := by
      cases l with
      | nil => exfalso; have := HLen.out; simp at this; omega
      | cons a r => rfl
    have R := hid (show plainB l = l.all (fun c => okC (c.toNat : Int)) from by unfold plainB; rw [hne]; rfl)
    have R0 := hid (HBb.out.trans R.out)
    clear h0 hne R
    go_enter Try.func8, Try.ntmps8
    go_wp2
    go_loopg [3] t.size (fun gk iv wx => w = wx ∧ ∃ k : Nat, gk = t.size - k ∧ k ≤ t.size ∧ iv = .int .i64 (k : Int) ∧ ∀ j, j < k → okC ((l.getD j 0).toNat : Int) = true)
    case atStart => exact ⟨rfl, 0, rfl, Nat.zero_le _, rfl, fun j hj => absurd hj (by omega)⟩
    case round =>
      obtain ⟨hw, k, rfl, hk, rfl, hall⟩ := hrel
      subst hw
      have HA := hid hall
      clear hall
      by_cases hlt : k < t.size
      · have HBK := hid (HB2.out k hlt)
        by_cases e : okC (B k) = true
        · have HE := hid e
          have e' := e
          unfold okC at e'
          simp only [Bool.or_eq_true, Bool.and_eq_true, beq_iff_eq, decide_eq_true_eq] at e'
          clear e
          by_cases e45 : B k = 45
          · have n45 : (B k == 45) = true := by rw [beq_iff_eq]; exact e45
            clear e' e45
            go_wp2
            go_roundg (t.size - (k + 1))
            case measure => omega
            case rel => exact ⟨rfl, k + 1, rfl, by omega, by go_num, fun j hj => by
                by_cases e : j = k
                · subst e; rw [← HBK.out]; exact HE.out
                · exact HA.out j (by omega)⟩
          · have n45 : (B k == 45) = false := by rw [beq_eq_false_iff_ne]; exact e45
            have z1 : 97 ≤ B k := by omega
            have z2 : B k ≤ 122 := by omega
            clear e' e45
            go_wp2
            go_roundg (t.size - (k + 1))
            case measure => omega
            case rel => exact ⟨rfl, k + 1, rfl, by omega, by go_num, fun j hj => by
                by_cases e : j = k
                · subst e; rw [← HBK.out]; exact HE.out
                · exact HA.out j (by omega)⟩
        · have e0 : okC (B k) = false := by simpa using e
          have R := hid (not_all (p := fun c => okC (c.toNat : Int)) (l := l) (k := k) (by rw [HLen.out]; exact hlt) (by show okC _ = false; rw [← HBK.out]; exact e0))
          have e' := e0
          unfold okC at e'
          simp only [Bool.or_eq_false_iff, Bool.and_eq_false_iff, beq_eq_false_iff_ne, decide_eq_false_iff_not] at e'
          have n45 : (B k == 45) = false := by rw [beq_eq_false_iff_ne]; exact e'.1
          clear e e0
          by_cases z1 : B k < 97
          · clear e'
            go_wp2
            go_ret
            exact ⟨ret_bool (R0.out.trans R.out).symm, rfl⟩
          · have z2 : decide (B k ≤ 122) = false := by rw [decide_eq_false_iff_not]; omega
            clear e'
            go_wp2
            go_ret
            exact ⟨ret_bool (R0.out.trans R.out).symm, rfl⟩
      · have R := hid (all_take (p := fun c => okC (c.toNat : Int)) (l := l) (fun j hj => HA.out j (by rw [HLen.out] at hj; omega)))
        go_wp2
        go_ret
        exact ⟨ret_bool (R0.out.trans R.out).symm, rfl⟩

set_option maxRecDepth 100000 in
set_option maxHeartbeats 2000000 in
theorem idx_any (t : ByteArray) (w : World) : Calls Try.prog 9 #[.string t] w fun e w' => e = .returned (.int .i64 (idxB t.toList)) ∧ w = w' := by
  go_enter Try.func9, Try.ntmps9
  go_wp2
  all_goals
    go_ret
    exact ⟨ret_int (by simp only [idxB, *]; rfl), rfl⟩

end Go.Proofs.Qxb6600443a
