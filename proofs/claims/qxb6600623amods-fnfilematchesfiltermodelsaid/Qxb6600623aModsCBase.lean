import Derived.Test.Qxb6600623aModsBase
set_option linter.unusedVariables false
set_option linter.unusedSimpArgs false
namespace Go.Proofs.Qxb6600623aMods
open Go.RowKit

/-- One call of the script. -/
structure Call where
  key : ByteArray
  kind : Int
  vals : List ByteArray
  id : Int

def Call.nil : Call := ⟨ByteArray.empty, 0, [], 0⟩

/-- What a slice of strings leads to. -/
def SRow (w : World) (a : Option Addr) (ss : List ByteArray) : Prop :=
  0 < ss.length → ∃ b off, a = some ⟨b, off, none⟩ ∧ ∀ i, i < ss.length → w.cell? ⟨b, off + i, none⟩ = some (.string (ss.getD i ByteArray.empty))

theorem SRow.below {w w' : World} {a : Option Addr} {zs : List ByteArray} (h : SRow w a zs) (hb : Below w.heap.size w w') : SRow w' a zs := by
  intro hl
  obtain ⟨b, off, ha, hc⟩ := h hl
  refine ⟨b, off, ha, fun i hi => ?_⟩
  have h1 := hc i hi
  rw [hb.cell (p := ⟨b, off + i, none⟩) (World.block_lt_of_cell? w _ h1)]
  exact h1

/-- The four cells of a call. -/
structure CellsOf (w : World) (b o : Nat) (c : Call) : Prop where
  key : w.cell? ⟨b, o, none⟩ = some (.string c.key)
  kind : w.cell? ⟨b, o + 1, none⟩ = some (.int .i64 c.kind)
  vals : ∃ va vc, w.cell? ⟨b, o + 2, none⟩ = some (.slice va c.vals.length vc) ∧ SRow w va c.vals ∧ (va = none → c.vals.length = 0 ∧ vc = 0)
  id : w.cell? ⟨b, o + 3, none⟩ = some (.int .i64 c.id)

theorem CellsOf.below {w w' : World} {b o : Nat} {c : Call} (h : CellsOf w b o c) (hb : Below w.heap.size w w') : CellsOf w' b o c := by
  have hlt : b < w.heap.size := World.block_lt_of_cell? w _ h.key
  have hcell : ∀ q, w'.cell? ⟨b, q, none⟩ = w.cell? ⟨b, q, none⟩ := fun q => hb.cell (p := ⟨b, q, none⟩) hlt
  obtain ⟨h1, h2, ⟨va, vc, h3, h4, h5⟩, h6⟩ := h
  exact ⟨(hcell _).trans h1, (hcell _).trans h2, ⟨va, vc, (hcell _).trans h3, h4.below hb, h5⟩, (hcell _).trans h6⟩

/-- What a slice of calls leads to. -/
def CRow (w : World) (a : Option Addr) (cs : List Call) : Prop :=
  0 < cs.length → ∃ b off, a = some ⟨b, off, none⟩ ∧ ∀ i, i < cs.length → CellsOf w b (off + i * 4) (cs.getD i Call.nil)

theorem CRow.below {w w' : World} {a : Option Addr} {cs : List Call} (h : CRow w a cs) (hb : Below w.heap.size w w') : CRow w' a cs := by
  intro hl
  obtain ⟨b, off, ha, hc⟩ := h hl
  exact ⟨b, off, ha, fun i hi => (hc i hi).below hb⟩

/-- Each number and each length fits. -/
structure Call.Fits (c : Call) : Prop where
  key : c.key.size ≤ 9223372036854775807
  kind : -9223372036854775808 ≤ c.kind ∧ c.kind ≤ 9223372036854775807
  len : c.vals.length ≤ 9223372036854775807
  vals : ∀ i, i < c.vals.length → (c.vals.getD i ByteArray.empty).size ≤ 9223372036854775807
  id : -9223372036854775808 ≤ c.id ∧ c.id ≤ 9223372036854775807
def CFits (cs : List Call) : Prop := ∀ i, i < cs.length → (cs.getD i Call.nil).Fits

/-- How many values the calls hold in all. -/
def vsum (cs : List Call) : Nat := (cs.map (fun c => c.vals.length)).sum

theorem take_succ_getD (cs : List Call) (k : Nat) (h : k < cs.length) : cs.take (k + 1) = cs.take k ++ [cs.getD k Call.nil] := by
  rw [List.take_succ_eq_append_getElem h]
  simp [List.getD, h]
theorem vsum_succ (cs : List Call) (k : Nat) (h : k < cs.length) : vsum (cs.take (k + 1)) = vsum (cs.take k) + (cs.getD k Call.nil).vals.length := by
  rw [take_succ_getD cs k h]
  simp [vsum]
theorem vsum_take_le (cs : List Call) (k : Nat) : vsum (cs.take k) ≤ vsum cs := by
  have h : vsum cs = vsum (cs.take k) + vsum (cs.drop k) := by
    unfold vsum
    rw [← List.sum_append_nat, ← List.map_append, List.take_append_drop]
  omega
theorem vsum_zero (cs : List Call) : vsum (cs.take 0) = 0 := by simp [vsum]

end Go.Proofs.Qxb6600623aMods
