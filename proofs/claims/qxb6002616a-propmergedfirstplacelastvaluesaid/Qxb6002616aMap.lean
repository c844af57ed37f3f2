import Derived.Test.Qxb6002616aLin
import Derived.StringKeys
namespace Go.Proofs.Qxb6002616a
open Go.RowKit
set_option linter.unusedVariables false
set_option linter.unusedSimpArgs false

theorem kd : Maps.Keyed Try.prog 9 := Maps.string_keyed Try.underlying9
theorem zero3 (w : World) : (zeroValue 3).run Try.prog w = .ok (.int .i64 0) w := by kernel_rfl
theorem mk_any (n : Int) (w : World) : (Instr.makeMap 31 (some (.int .i64 n))).run Try.prog w = .ok (.map (some w.heap.size)) (w.alloc (.map #[] 0)) := by
  simp only [Instr.makeMap, Sem.run_bind, run_underlying Try.underlying31, Result.andThen_ok, asInt, Sem.run_pure]
  rfl

noncomputable abbrev PE := plainElem (H := Unit) Try.prog 3

/-- the map of places that the call makes: block b, places of the keys of L -/
def MB (w : World) (b n : Nat) (L : List Ent) : Prop := ∃ D, w.ownsMap Try.prog 9 PE b n D ∧ Mp D L
theorem MB.alloc {w : World} {b n : Nat} {L : List Ent} (h : MB w b n L) (o : Obj) : MB (w.alloc o) b n L := by
  obtain ⟨D, h1, h2⟩ := h; exact ⟨D, h1.alloc o, h2⟩
theorem MB.lt {w : World} {b n : Nat} {L : List Ent} (h : MB w b n L) : b < w.heap.size := by obtain ⟨D, h1, h2⟩ := h; exact h1.lt
theorem MB.kept {w w' : World} {b n : Nat} {L : List Ent} {row : Option Nat} (h : MB w b n L) (hg : w.grownBy w' row) (hne : some b ≠ row) : MB w' b n L := by
  obtain ⟨D, h1, h2⟩ := h; exact ⟨D, h1.kept hg hne, h2⟩
theorem MB.mono {w : World} {b n n' : Nat} {L : List Ent} (h : MB w b n L) (hn : n ≤ n') : MB w b n' L := by
  obtain ⟨D, h1, h2⟩ := h; exact ⟨D, h1.mono hn, h2⟩
theorem MB.setCell {w : World} {b n : Nat} {L : List Ent} (h : MB w b n L) {a : Addr} (ha : b ≠ a.block) (v : Value) : MB (w.setCell a v) b n L :=
  h.kept (row := some a.block) ⟨rfl, rfl, rfl, by simp [World.setCell], fun k _ hk => Below.heap_setCell _ _ _ _ (fun e => hk (by rw [e]))⟩ (fun e => ha (Option.some.inj e))
theorem MB.old {w : World} {b n : Nat} {L : List Ent} (h : MB w b n L) (r : Nat) (x : Int) : MB w b n (L.set r (key L r, x)) := by
  obtain ⟨D, h1, h2⟩ := h; exact ⟨D, h1, mp_old h2 r x⟩
theorem mb_made (w : World) : MB (w.alloc (.map #[] 0)) w.heap.size 0 [] := ⟨_, World.ownsMap_made _ _ _ _, mp_start⟩

theorem look_hit (w : World) {ops : Array Oper} {rest : List Oper} {o : Oper} {a : Act} {Q : Exit → Act → World → Prop} (hg : o.guard = none) (m x : Operand) (hop : o.op = Op.lookup 31 m x true)
    (b n : Nat) (L : List Ent) (hm : a.eval m = .map (some b)) (h : MB w b n L) (s : ByteArray) (hx : a.eval x = .string s) (hs : s.size ≤ maxLen) (r : Nat) (hr : ix L s.toList = r) (hlt : r < L.length)
    (hK : wpList Try.prog ops Q rest (a.put o.dst (.tuple #[.int .i64 (r : Int), .bool true])) w) : wpList Try.prog ops Q (o :: rest) a w := by
  obtain ⟨D, h1, h2⟩ := h
  refine wpList_lookup_own_ok_int w hg m x 31 hop 9 3 .i64 kd Try.underlying31 Try.underlying3 (zero3 _) b n D hm h1 (.string s) (.string s.data.toList) hx (Go.WideMaps.keyOf_string_mk Try.underlying9 hs) fun c hc _ => ?_
  rw [ByteArray.toList_eq] at hr
  have e1 := h2.at' s.data.toList (by rw [hr]; exact hlt) (.lit (.int .i64 0))
  rw [hc, hr] at e1
  have e2 : c = (r : Int) := by simpa using e1
  have e3 := h2.has s.data.toList
  rw [hr, decide_eq_true hlt] at e3
  rw [e2, e3]
  exact hK

theorem look_miss (w : World) {ops : Array Oper} {rest : List Oper} {o : Oper} {a : Act} {Q : Exit → Act → World → Prop} (hg : o.guard = none) (m x : Operand) (hop : o.op = Op.lookup 31 m x true)
    (b n : Nat) (L : List Ent) (hm : a.eval m = .map (some b)) (h : MB w b n L) (s : ByteArray) (hx : a.eval x = .string s) (hs : s.size ≤ maxLen) (hr : ix L s.toList = L.length)
    (hK : wpList Try.prog ops Q rest (a.put o.dst (.tuple #[.int .i64 0, .bool false])) w) : wpList Try.prog ops Q (o :: rest) a w := by
  obtain ⟨D, h1, h2⟩ := h
  refine wpList_lookup_own_ok_int w hg m x 31 hop 9 3 .i64 kd Try.underlying31 Try.underlying3 (zero3 _) b n D hm h1 (.string s) (.string s.data.toList) hx (Go.WideMaps.keyOf_string_mk Try.underlying9 hs) fun c hc _ => ?_
  rw [ByteArray.toList_eq] at hr
  have e3 := h2.has s.data.toList
  rw [hr, decide_eq_false (Nat.lt_irrefl _)] at e3
  rw [Maps.atKey_of_not_has e3] at hc
  have e2 : c = 0 := by have : (0 : Int) = c := by simpa using hc
                        exact this.symm
  rw [e2, e3]
  exact hK

theorem store_new (w : World) {ops : Array Oper} {rest : List Oper} {o : Oper} {a : Act} {Q : Exit → Act → World → Prop} (hg : o.guard = none) (m x v : Operand) (hop : o.op = Op.mapUpdate 31 m x v)
    (b n : Nat) (L : List Ent) (hm : a.eval m = .map (some b)) (h : MB w b n L) (hn : n ≤ 1048576) (s : ByteArray) (y : Int) (hx : a.eval x = .string s) (hs : s.size ≤ maxLen) (hr : ix L s.toList = L.length) (len : Nat) (hl : L.length = len) (hl2 : len ≤ 1048576) (hv : a.eval v = .int .i64 (len : Int))
    (hK : ∀ w', MB w' b (n + 1) (L ++ [(s, y)]) → w.grownBy w' (some b) → wpList Try.prog ops Q rest (a.put o.dst undef) w') : wpList Try.prog ops Q (o :: rest) a w := by
  obtain ⟨D, h1, h2⟩ := h
  refine wpList_mapUpdate_own w hg m x v 31 hop 9 3 kd Try.underlying31 PE b n D hm h1 (by unfold maxLen; omega) (.string s) (.int .i64 (len : Int)) (.string s.data.toList) hx hv (Go.WideMaps.keyOf_string_mk Try.underlying9 hs) (.lit (.int .i64 (len : Int))) [] (plainElem_int Try.underlying3 (WalkArith.wf_i64 (by omega))) fun w' h3 h4 => hK w' ⟨_, h3, ?_⟩ h4
  have := mp_new (e := (s, y)) h2 hr
  rw [hl] at this
  simp only [ByteArray.toList_eq] at this
  exact this

end Go.Proofs.Qxb6002616a
