import Derived.Test.Qxb6002616aRows
import Derived.WalkKit
import Derived.WalkSpells
import Derived.WalkLawsBesides
import Derived.Deep.QuietTactic
import Derived.BigQuiet
import Derived.BigRegion
import Derived.Deep.RegionWith
import Derived.Deep.RegionLaw
import Derived.Deep.DeepCutAuto
import Derived.Deep.LoopGhost
import Derived.Deep.DeepMust
import Derived.Deep.OwnRows
import Derived.Below
namespace Go.Proofs.Qxb6002616a
open Go.RowKit
set_option linter.unusedVariables false
set_option linter.unusedSimpArgs false

structure Hid (p : Prop) : Prop where
  out : p
theorem hid {p : Prop} (h : p) : Hid p := ⟨h⟩
theorem bel_drewN {B : Nat} {a w : World} (h : Below B a w) (k : Nat) : Below B a (w.drewN k) := ⟨h.os, h.tape, h.output, h.size, h.block⟩

abbrev Ent := ByteArray × Int
def e0 : Ent := (⟨#[]⟩, 0)
def key (L : List Ent) (i : Nat) : ByteArray := (L.getD i e0).1
def val (L : List Ent) (i : Nat) : Int := (L.getD i e0).2

/-- the slice value u reads as the entries L, its cells below hi -/
def Ins (w : World) (hi : Nat) (u : Value) (L : List Ent) : Prop :=
  ∃ ao cap, u = .slice ao L.length cap ∧ L.length ≤ cap ∧ cap ≤ maxLen ∧ (L = [] ∨ ∃ b off, ao = some ⟨b, off, none⟩ ∧ b < hi ∧ ∀ j, j < L.length → w.cell? ⟨b, off + j * 2, none⟩ = some (.string (key L j)) ∧ w.cell? ⟨b, off + j * 2 + 1, none⟩ = some (.int .i64 (val L j)))

def Says (w : World) (e : Ending) (w' : World) : Prop := ∃ t, e = .returned (.bool t) ∧ w = w'
theorem says_mk (w : World) (t : Bool) : Says w (.returned (.bool t)) w := ⟨t, rfl, rfl⟩

set_option maxHeartbeats 400000 in
theorem bytes_pos (L : List Ent) (w : World) (b off cap : Nat) (hc : L.length ≤ cap) (hm : cap ≤ maxLen)
    (hrow : ∀ j, j < L.length → w.cell? ⟨b, off + j * 2, none⟩ = some (.string (key L j)) ∧ w.cell? ⟨b, off + j * 2 + 1, none⟩ = some (.int .i64 (val L j))) :
    Calls Try.prog 4 #[.slice (some ⟨b, off, none⟩) L.length cap] w (Says w) := by
  unfold maxLen at hm
  obtain ⟨n, hn⟩ : ∃ n, n = L.length := ⟨_, rfl⟩
  rw [← hn]
  rw [← hn] at hc hrow
  have HR := hid hrow
  clear hn hrow
  by_cases h1 : n ≤ 1048576
  · go_enter Try.func4, Try.ntmps4
    go_wp2
    go_loopg [3, 4] n (fun gk s i wr => w = wr ∧ ∃ k x : Nat, gk = n - k ∧ k ≤ n ∧ i = .int .i64 (k : Int) ∧ s = .int .i64 (x : Int) ∧ x ≤ 1048576)
    case atStart => exact ⟨rfl, 0, n, rfl, Nat.zero_le _, rfl, rfl, h1⟩
    case round =>
      obtain ⟨hw, k, x, rfl, hk, rfl, rfl, hx⟩ := hrel
      subst hw
      by_cases hlt : k < n
      · have c1 := (HR.out k hlt).1
        obtain ⟨s, hs⟩ : ∃ s, s = key L k := ⟨_, rfl⟩
        rw [← hs] at c1
        clear hs
        obtain ⟨z, hz⟩ : ∃ z, z = s.size := ⟨_, rfl⟩
        by_cases hz1 : z ≤ 1048576
        · rw [hz] at hz1
          go_wp2
          · go_ret; exact says_mk _ _
          · go_roundg (n - (k + 1))
            case measure => omega
            case rel => exact ⟨rfl, k + 1, x + s.size, rfl, by omega, by go_num, by go_num, by omega⟩
        · rw [hz] at hz1
          go_wp2
          go_ret; exact says_mk _ _
      · go_wp2
        go_ret; exact says_mk _ _
  · go_enter Try.func4, Try.ntmps4
    go_wp2
    go_ret; exact says_mk _ _

theorem bytes_zero (w : World) (ao : Option Addr) (cap : Nat) : Calls Try.prog 4 #[.slice ao 0 cap] w (Says w) := by
  go_enter Try.func4, Try.ntmps4
  go_wp2
  go_loopg [3, 4] 0 (fun gk s i wr => w = wr ∧ i = .int .i64 0 ∧ s = .int .i64 0)
  case atStart => exact ⟨rfl, rfl, rfl⟩
  case round =>
    obtain ⟨hw, rfl, rfl⟩ := hrel
    subst hw
    go_wp2
    go_ret; exact says_mk _ _

theorem bytes_any (L : List Ent) (w : World) (hi : Nat) (v : Value) (h : Ins w hi v L) : Calls Try.prog 4 #[v] w (Says w) := by
  obtain ⟨ao, cap, rfl, hc, hm, h | ⟨b, off, rfl, hb, hrow⟩⟩ := h
  · subst h; exact bytes_zero w ao cap
  · exact bytes_pos L w b off cap hc hm hrow

end Go.Proofs.Qxb6002616a
