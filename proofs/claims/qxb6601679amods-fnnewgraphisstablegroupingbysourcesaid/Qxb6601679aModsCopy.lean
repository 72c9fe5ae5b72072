import Derived.Test.Qxb6601679aModsCl
import Derived.Laws.CopyRow
set_option linter.unusedVariables false
set_option linter.unusedSimpArgs false
namespace Go.Proofs.Qxb6601679aMods
open Go.RowKit

/-- 'copy' of a whole row of wide elements. -/
theorem run_copy_wide {P : Program} (w : World) (dT sT ty elem : TypeId) (i : TypeInfo) (size g m cap : Nat) (a : Addr) (c : Nat) (cur : Array Value) (t : TypeId) (cs : List Value)
    (hu : P.underlying dT = some (.slice elem)) (hi : P.info? elem = some i) (hsz : i.size = size) (hg : w.heap[g]? = some (.cells cur t (0, 0))) (hl : cs.length = m * size) (hfit : cs.length = cur.size)
    (hsrc : ∀ j v, cs[j]? = some v → w.cell? (a.add j) = some v) (h1 : ∀ v ∈ cs, v.oneCell' = true) :
    (Builtin.copy_ #[dT, sT] ty #[.slice (some ⟨g, 0, none⟩) m cap, .slice (some a) m c]).run P w = .ok (goInt m) (w.setRow g cs.toArray) := by
  have hf := run_firstCells_some (P := P) w size m a m c cs hl hsrc
  have hst := run_storeCells_at P g 0 t cs 0 cur w hg (by omega) h1
  have e : (List.take (0 + 0) cur.toList ++ cs ++ List.drop (0 + 0 + cs.length) cur.toList) = cs := by
    rw [hfit, List.drop_of_length_le (by simp)]
    simp
  rw [e] at hst
  simp [Builtin.copy_, run_underlying hu, Builtin.lenOf, sizeOf, typeInfo, hi, hsz, hf, hst]

theorem wpList_copy_row {P : Program} {w : World} {ops : Array Oper} {rest : List Oper} {o : Oper} {a : Act} {Q : Exit → Act → World → Prop} (hgd : o.guard = none) (d s : Operand) (dT sT : TypeId)
    (ho : o.op = .call { callee := .builtin .copy, args := #[d, s], argTypes := #[dT, sT] }) (elem : TypeId) (i : TypeInfo) (hu : P.underlying dT = some (.slice elem)) (hi : P.info? elem = some i) (hsz : i.size = 2)
    (g m cap : Nat) (ao : Option Addr) (c : Nat) (zs L : List Int) (hd : a.eval d = .slice (some ⟨g, 0, none⟩) m cap) (hs : a.eval s = .slice ao m c) (hnil : ao = none → m = 0 ∧ c = 0)
    (hz : zs.length = m * 2) (hL : L.length = m * 2) (hr : Row w .i32 ao zs) (hb : Blk w g .i32 28 L)
    (h : ∀ w', Blk w' g .i32 28 zs → w.grownBy w' (some g) → wpList P ops Q rest (a.put o.dst (goInt m)) w') : wpList P ops Q (o :: rest) a w := by
  refine wpList_plain hgd fun K hK => ?_
  cases ao with
  | none =>
    obtain ⟨rfl, rfl⟩ := hnil rfl
    have e1 : zs = [] := List.length_eq_zero_iff.1 (by omega)
    have e2 : L = [] := List.length_eq_zero_iff.1 (by omega)
    subst e1 e2
    have hrun := run_copy_nil (P := P) w dT sT o.type elem ⟨g, 0, none⟩ 0 cap hu (by simp [hi])
    unfold Oper.wp
    simp [execOp, ho, resolve, invoke, builtin, hd, hs, hrun, Result.andThen]
    exact hK _ _ (h w hb ⟨rfl, rfl, rfl, Nat.le_refl _, fun _ _ _ => rfl⟩)
  | some ad =>
    have hrun := run_copy_wide (P := P) w dT sT o.type elem i 2 g m cap ad c (ints .i32 L) 28 (zs.map (Value.int .i32)) hu hi hsz hb (by simp [hz]) (by rw [ints_size]; simp [hz, hL]) (news_of hr) (one_of .i32 zs)
    unfold Oper.wp
    simp only [ho, execOp, resolve, invoke, builtin, Sem.run_bind, Sem.run_pure, Result.andThen_ok, List.map_toArray, List.map_cons, List.map_nil, hd, hs, hrun]
    exact hK _ _ (h _ (setRow_heap w g _ _ 28 _ hb) ⟨rfl, rfl, rfl, by simp, fun k _ hk => setRow_other w g k _ (fun e => hk (by simp [e]))⟩)

end Go.Proofs.Qxb6601679aMods
