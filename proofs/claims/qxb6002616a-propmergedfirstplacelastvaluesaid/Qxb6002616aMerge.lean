import Derived.Test.Qxb6002616aPlain
namespace Go.Proofs.Qxb6002616a
open Go.RowKit
set_option linter.unusedVariables false
set_option linter.unusedSimpArgs false

theorem run_append_row (w : World) (ty : TypeId) (g m cap : Nat) (M : List Ent) (hrow : Row w g 27 M) (hm : m < M.length) (hcap : m + 1 ≤ cap) (ad : Addr) (c : Nat) (s : ByteArray) (x : Int)
    (hnews : ∀ j u, [Value.string s, .int .i64 x][j]? = some u → w.cell? (ad.add j) = some u) :
    ∃ w', (Builtin.append_ #[24, 24] ty #[.slice (some ⟨g, 0, none⟩) m cap, .slice (some ad) 1 c]).run Try.prog w = .ok (.slice (some ⟨g, 0, none⟩) (m + 1) cap) w' ∧ Row w' g 27 (M.set m (s, x)) ∧ w.grownBy w' (some g) := by
  obtain ⟨i, hi, hzz⟩ := Option.map_eq_some_iff.1 info27
  simp only [Prod.mk.injEq] at hzz
  obtain ⟨_, hs, _⟩ := hzz
  have hfl := flat_len M
  have hr := run_append_room (P := Try.prog) w 24 ty 27 i Try.underlying24 hi g m cap _ hrow ad 1 c [.string s, .int .i64 x] (by rw [hs]; rfl) hnews (by intro u hu; simp at hu; rcases hu with rfl | rfl <;> rfl) hcap (by simp [hs, hfl]; omega)
  refine ⟨_, hr, ?_, ⟨rfl, rfl, rfl, by simp, fun k _ hk => setRow_other w g k _ (fun e => hk (by simp [e]))⟩⟩
  have := setRow_heap w g (flat M).toArray (flat (M.set m (s, x))).toArray 27 _ hrow
  have e := flat_put M m (s, x) hm
  simp only [hs, List.length_cons, List.length_nil] at *
  unfold Row
  rw [← e]
  rw [← e] at this
  exact this

theorem wpList_append_row (w : World) {ops : Array Oper} {rest : List Oper} {o : Oper} {a : Act} {Q : Exit → Act → World → Prop} (hgd : o.guard = none) (s x : Operand)
    (ho : o.op = .call { callee := .builtin .append, args := #[s, x], argTypes := #[24, 24] }) (g m cap : Nat) (M : List Ent) (hs : a.eval s = .slice (some ⟨g, 0, none⟩) m cap) (hrow : Row w g 27 M) (hm : m < M.length) (hcap : m + 1 ≤ cap)
    (ad : Addr) (c : Nat) (k : ByteArray) (v : Int) (hx : a.eval x = .slice (some ad) 1 c) (hnews : ∀ j u, [Value.string k, .int .i64 v][j]? = some u → w.cell? (ad.add j) = some u)
    (h : ∀ w', Row w' g 27 (M.set m (k, v)) → w.grownBy w' (some g) → wpList Try.prog ops Q rest (a.put o.dst (.slice (some ⟨g, 0, none⟩) (m + 1) cap)) w') : wpList Try.prog ops Q (o :: rest) a w := by
  refine wpList_plain hgd fun K hK => ?_
  obtain ⟨w', hr, h2, h3⟩ := run_append_row w o.type g m cap M hrow hm hcap ad c k v hnews
  unfold Oper.wp execOp
  simp only [ho, resolve, invoke, builtin, Sem.run_bind, Sem.run_pure, Result.andThen_ok, List.map_toArray, List.map_cons, List.map_nil, hs, hx, hr]
  exact hK _ _ (h w' h2 h3)

end Go.Proofs.Qxb6002616a
