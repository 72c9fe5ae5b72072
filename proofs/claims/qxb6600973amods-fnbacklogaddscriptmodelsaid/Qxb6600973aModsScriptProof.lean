/-
  The proof of 'Rows.FnBacklogAddScriptModelSaid': the frame after the skeleton tool's; the walk lies in the texts that are imported.
-/
import Derived.Test.Qxb6600973aModsRows
import Derived.Test.Qxb6600973aModsScript
import Derived.WalkKit
import Derived.ProofKit
import Derived.OpenShut
import Derived.ShutString
import Derived.ChangeOld
import Derived.Below
namespace Go.Proofs.Qxb6600973aMods.fnBacklogAddScriptModel
open Go.ChangeShapes Go.WideShapes Go.ChangeAt Go.RowKit
open Go.ChangeMaps (open_string shut_string)
set_option linter.unusedVariables false

theorem own : ownKnob Trym.prog.godebug = none := by kernel_rfl
theorem laidOut : laidOutB Trym.prog = true := by kernel_rfl
def IsRow (k : IntKind) (w : World) (a : Option Addr) (len cap : Nat) (zs : List Int) : Prop :=
  (a = none ∧ len = 0 ∧ cap = 0 ∧ zs = []) ∨
  ∃ x, a = some x ∧ len ≤ cap ∧ cap ≤ maxLen ∧ zs.length = cap ∧ (∀ i, i < zs.length → w.cell? (x.add i) = some (.int k (zs.getD i 0))) ∧ ∀ n ∈ zs, (Lit.int k n).wf = true

theorem in64_of {L : List Int} {n : Nat} (hl : L.length = n) (h : ∀ i, i < n → (Lit.int .i64 (L.getD i 0)).wf = true) : In64 L := by
  intro i hi
  have := bounds_i64 (h i (by omega))
  omega
theorem IsRow.get {k : IntKind} {w : World} {a : Option Addr} {len cap : Nat} {zs : List Int} (h : IsRow k w a len cap zs) :
    (zs.take len).length = len ∧ Row w k a (zs.take len) ∧ (a = none → len = 0 ∧ cap = 0) ∧ len ≤ 9223372036854775807 ∧ ∀ i, i < len → (Lit.int k ((zs.take len).getD i 0)).wf = true := by
  rcases h with ⟨rfl, rfl, rfl, rfl⟩ | ⟨x, rfl, hl, hm, hz, hc, hwf⟩
  · exact ⟨rfl, fun h => by simp at h, fun _ => ⟨rfl, rfl⟩, by omega, fun i hi => by omega⟩
  · have hlen : (zs.take len).length = len := by rw [List.length_take]; omega
    have hget : ∀ i, i < len → (zs.take len).getD i 0 = zs.getD i 0 := fun i hi => by simp [List.getD, hi]
    refine ⟨hlen, fun h0 => ?_, fun h => (by cases h), (by unfold maxLen at hm; omega), fun i hi => ?_⟩
    · obtain ⟨b, off, spot⟩ := x
      have h1 := hc 0 (by omega)
      have hspot : spot = none := by simpa [Addr.add] using World.cell?_spot h1
      subst hspot
      refine ⟨b, off, rfl, fun i hi => ?_⟩
      rw [hget i (by omega), ← Addr.add_lit]
      exact hc i (by omega)
    · rw [hget i hi]
      exact hwf _ (by simp [List.getD, show i < zs.length by omega])


set_option maxRecDepth 100000 in
theorem lifted (os : Os) (started : os.Started) (H : Type) (enc : TypeId × Value → H) :
    ReturnsInHanded {} Trym.checked os 4 .any (Rows.fnBacklogAddScriptModelSpec.pre6 enc Trym.prog Trym.f4 Rows.fnBacklogAddScriptModelRow.domain false) (Rows.fnBacklogAddScriptModelSpec.post enc Trym.prog Trym.f4 false true false false) := by
  refine returnsInHanded_of_change (C := Trym.checked) own started (by kernel_rfl) Trym.func4
    (ChangeSpec.witness6 (enc := enc) (C := Trym.checked) false ⟨#[], #[.slice none 0 0], []⟩ 8 (by kernel_rfl) (by kernel_rfl) (by kernel_rfl) (by kernel_rfl)) ?_
  intro W base args ds gs before hval0 hW hcnd _
  have hval : ∀ (j : Nat) t v, Trym.f4.params[j]? = some t → args[j]? = some v → Value.okWide Trym.prog W .any base t v := hval0
  have hW' := hW
  obtain ⟨p, q, hA0, hV, rfl, hfz, hnd⟩ := hW
  have hA : DataW.TrodAll enc Trym.prog W 0 (fun _ => true) true Trym.f4.params.toList args.toList ds p := hA0
  rw [Trym.params4] at hA hval
  obtain ⟨v0, vs0, d0, ds0, p0, q0, hargs, rfl, rfl, h0, r0⟩ := trodAll_cons hA
  obtain ⟨rfl, rfl, rfl⟩ := trodAll_nil r0
  obtain rfl : args = #[v0] := by cases args; simp_all
  obtain ⟨rfl, rfl⟩ := trodVars_none hV
  obtain ⟨a0, len0, cap0, rfl⟩ := okWide_slice Trym.underlying26 (hval 0 26 v0 rfl rfl)
  have k0 := h0
  have lt0 : ∀ x ∈ p0, x.block < W.heap.size := by obtain ⟨m, hm⟩ := k0; exact DataW.trod_lt m _ _ _ hm
  obtain ⟨hn0, hb0, cl0, hcl0, hrow0, hfit0⟩ : (a0 = none → len0 = 0 ∧ cap0 = 0) ∧ len0 ≤ 9223372036854775807 ∧ ∃ zs : List Int, zs.length = len0 ∧ Row W .i64 a0 zs ∧ In64 zs := by
    obtain ⟨z0, w0⟩ : ∃ zs, IsRow .i64 W a0 len0 cap0 zs := by
      obtain ⟨fuel, hf⟩ := h0
      rcases open_ints Trym.underlying26 Trym.underlying3 (by kernel_rfl) hf with ⟨hcs, _⟩ | ⟨x, l, c, zs, hcs, _, hl, hm, hz, _, hcell, hwz⟩
      · simp [Value.cells] at hcs
        obtain ⟨rfl, rfl, rfl⟩ := hcs
        exact ⟨[], .inl ⟨rfl, rfl, rfl, rfl⟩⟩
      · simp [Value.cells] at hcs
        obtain ⟨rfl, rfl, rfl⟩ := hcs
        exact ⟨zs, .inr ⟨_, rfl, hl, hm, by simpa using hz, hcell, hwz⟩⟩
    obtain ⟨l0, r0, m0, b0, f0⟩ := w0.get
    exact ⟨m0, b0, _, l0, r0, in64_of l0 f0⟩
  clear hA0 hval0
  refine (script_any a0 len0 cap0 cl0 W hcl0 hb0 hrow0 hfit0 hn0).mono fun e W' ⟨he, bel⟩ => ?_
  subst he
  exact ⟨_, rfl, _, _, _, [], _, [], hW', trodAll_mk1 (shut_bool Trym.underlying4 _), (trodAll_cons_mk (Below.trod laidOut (by kernel_rfl) (of_decide_eq_true (by kernel_rfl)) k0 bel lt0) trodAll_mk0), rfl, bel.frame _, fun h => by cases h⟩

theorem over : Rows.fnBacklogAddScriptModelRow.holds Trym.pinned (OpenSpec.ofChange Rows.fnBacklogAddScriptModelSpec) :=
  OpenClaim.holds_of_wide 4 Trym.f4 rfl rfl rfl rfl rfl rfl rfl ⟨rfl, rfl, rfl, rfl, rfl⟩ rfl rfl rfl rfl rfl (by kernel_rfl) Trym.func4 (by kernel_rfl)
    (of_decide_eq_true (by kernel_rfl)) (by unfold Func.isWrapper; first | (rw [if_pos (by decide +kernel)]; kernel_rfl) | (rw [if_neg (by decide +kernel)]; exact ⟨rfl, rfl⟩))
    (fun os started H enc _ => lifted os started H enc)

theorem proved : Rows.FnBacklogAddScriptModelSaid := over
#print axioms proved
end Go.Proofs.Qxb6600973aMods.fnBacklogAddScriptModel
