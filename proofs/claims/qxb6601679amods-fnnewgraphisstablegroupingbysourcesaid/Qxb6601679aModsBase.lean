import Derived.Test.Qxb6601679aModsProg
import Derived.WalkKit
import Derived.WalkSpells
import Derived.WalkLawsBesides
set_option linter.unusedVariables false
set_option linter.unusedSimpArgs false
namespace Go.Proofs.Qxb6601679aMods
open Go.RowKit

theorem Trym.info3 : (Trym.prog.info? 3).map (fun i => (i.zero, i.size, i.bytes)) = some (some (.int .i64 0), 1, 8) := by kernel_rfl

theorem Trym.info21 : (Trym.prog.info? 21).map (fun i => (i.zero, i.size, i.bytes)) = some (some (.int .i32 0), 1, 4) := by kernel_rfl
theorem Trym.info28 : (Trym.prog.info? 28).map (fun i => (i.zero, i.size, i.bytes)) = some (some (.agg #[.int .i32 0, .int .i32 0]), 2, 8) := by kernel_rfl

theorem hide {p : Prop} (h : p) : Hid p := h
theorem unhide {p : Prop} (h : Hid p) : p := h

/-- The end is kept behind a letter while the walk goes (else its own simp takes it apart). -/
theorem calls_all {P : Program} {f : FuncId} {args : Array Value} {w : World} {S : Ending → World → Prop}
    (h : ∀ Q : Ending → World → Prop, Hid (∀ e w', S e w' → Q e w') → Calls P f args w Q) : Calls P f args w S := h S (fun _ _ h => h)

/-- The cells of a list of numbers. -/
def ints (k : IntKind) (zs : List Int) : Array Value := (zs.map (Value.int k)).toArray

theorem ints_size (k : IntKind) (zs : List Int) : (ints k zs).size = zs.length := by simp [ints]

/-- Block g holds just these numbers. -/
def Blk (w : World) (g : Nat) (k : IntKind) (e : TypeId) (zs : List Int) : Prop := w.heap[g]? = some (.cells (ints k zs) e (0, 0))

theorem Blk.cell {w : World} {g : Nat} {k : IntKind} {e : TypeId} {zs : List Int} (h : Blk w g k e zs) (j : Nat) (hj : j < zs.length) :
    w.cell? ⟨g, j, none⟩ = some (.int k (zs.getD j 0)) := by
  rw [cell_of_row w g j _ e (0, 0) h]
  simp [ints, hj, List.getD]

theorem Blk.frozen {w : World} {g : Nat} {k : IntKind} {e : TypeId} {zs : List Int} (h : Blk w g k e zs) (j : Nat) : w.frozen? ⟨g, j, none⟩ = false :=
  frozen_of_row w g j _ e h

theorem Blk.lt {w : World} {g : Nat} {k : IntKind} {e : TypeId} {zs : List Int} (h : Blk w g k e zs) : g < w.heap.size := lt_of_block h

theorem Blk.set {w : World} {g : Nat} {k : IntKind} {e : TypeId} {zs : List Int} (h : Blk w g k e zs) (j : Nat) (x : Int) :
    Blk (w.setCell ⟨g, j, none⟩ (.int k x)) g k e (zs.set j x) := by
  have := heap_setCell_same w g j _ e (.int k x) h
  unfold Blk
  rw [this]
  simp [ints, List.map_set]

theorem Blk.other {w : World} {g : Nat} {k : IntKind} {e : TypeId} {zs : List Int} (h : Blk w g k e zs) (a : Addr) (v : Value) (hne : g ≠ a.block) : Blk (w.setCell a v) g k e zs := by
  unfold Blk
  rw [heap_setCell_other w a g v hne]
  exact h

theorem Blk.alloc {w : World} {g : Nat} {k : IntKind} {e : TypeId} {zs : List Int} (h : Blk w g k e zs) (o : Obj) : Blk (w.alloc o) g k e zs := by
  unfold Blk
  rw [Below.heap_alloc w o g h.lt]
  exact h

theorem Blk.drew {w : World} {g : Nat} {k : IntKind} {e : TypeId} {zs : List Int} (h : Blk w g k e zs) : Blk w.drew g k e zs := h

theorem Blk.below {w w' : World} {B g : Nat} {k : IntKind} {e : TypeId} {zs : List Int} (h : Blk w g k e zs) (hb : Below B w w') (hg : g < B) : Blk w' g k e zs := by
  unfold Blk
  rw [hb.block g hg]
  exact h

theorem Blk.made (w : World) (k : IntKind) (e : TypeId) (n : Nat) : Blk (w.alloc (.cells (madeCells #[Value.int k 0] n) e)) w.heap.size k e (List.replicate n 0) := by
  unfold Blk
  rw [heap_alloc_new]
  have : madeCells #[Value.int k 0] n = ints k (List.replicate n 0) := by
    apply Array.toList_inj.1
    rw [toList_madeCells_one]
    simp [ints]
  rw [this]

/-- What a slice's address leads to: these numbers (an empty one: nothing is said of the address). -/
def Row (w : World) (k : IntKind) (a : Option Addr) (zs : List Int) : Prop :=
  0 < zs.length → ∃ b off, a = some ⟨b, off, none⟩ ∧ ∀ i, i < zs.length → w.cell? ⟨b, off + i, none⟩ = some (.int k (zs.getD i 0))

theorem Blk.row {w : World} {g : Nat} {k : IntKind} {e : TypeId} {zs : List Int} (h : Blk w g k e zs) : Row w k (some ⟨g, 0, none⟩) zs :=
  fun _ => ⟨g, 0, rfl, fun i hi => by rw [Nat.zero_add]; exact h.cell i hi⟩

theorem Row.below {w w' : World} {k : IntKind} {a : Option Addr} {zs : List Int} (h : Row w k a zs) (hb : Below w.heap.size w w') : Row w' k a zs := by
  intro hl
  obtain ⟨b, off, ha, hc⟩ := h hl
  refine ⟨b, off, ha, fun i hi => ?_⟩
  have h1 := hc i hi
  rw [hb.cell (p := ⟨b, off + i, none⟩) (World.block_lt_of_cell? w _ h1)]
  exact h1

theorem below_chain {a b c : World} (h : Below a.heap.size a b) (k : Below b.heap.size b c) : Below a.heap.size a c := h.trans (k.mono h.size)

/-- Each number fits an int32. -/
def In32 (zs : List Int) : Prop := ∀ k, k < zs.length → -2147483648 ≤ zs.getD k 0 ∧ zs.getD k 0 ≤ 2147483647
/-- Each number fits an int. -/
def In64 (zs : List Int) : Prop := ∀ k, k < zs.length → -9223372036854775808 ≤ zs.getD k 0 ∧ zs.getD k 0 ≤ 9223372036854775807
/-- Each number fits a uint64. -/
def InU (zs : List Int) : Prop := ∀ k, k < zs.length → 0 ≤ zs.getD k 0 ∧ zs.getD k 0 < 18446744073709551616

theorem take_set_rep (zs : List Int) (n k : Nat) (hz : zs.length = n) (hk : k < n) :
    (zs.take k ++ List.replicate (n - k) 0).set k (zs.getD k 0) = zs.take (k + 1) ++ List.replicate (n - (k + 1)) 0 := by
  have h1 : (zs.take k).length = k := by simp; omega
  rw [List.set_append_right _ _ (by omega), h1, Nat.sub_self]
  have h2 : n - k = (n - (k + 1)) + 1 := by omega
  rw [h2, List.replicate_succ, List.set_cons_zero, List.take_succ_eq_append_getElem (show k < zs.length by omega), List.append_assoc]
  simp [List.getD, show k < zs.length by omega]

end Go.Proofs.Qxb6601679aMods
