import Derived.Test.Qxb6600623aModsCBase
import Derived.Deep.RegionHeld3
set_option linter.unusedVariables false
set_option linter.unusedSimpArgs false
namespace Go.Proofs.Qxb6600623aMods
open Go.RowKit

theorem Trym.info9 : (Trym.prog.info? 9).map (fun i => (i.zero, i.size, i.bytes)) = some (some (.string ByteArray.empty), 1, 16) := by kernel_rfl
theorem Trym.info41 : (Trym.prog.info? 41).map (fun i => (i.zero, i.size, i.bytes)) = some (some (.agg #[.string ByteArray.empty, .int .i64 0, .slice none 0 0, .int .i64 0]), 4, 56) := by kernel_rfl

/-- Block g holds just these strings. -/
def SBlk (w : World) (g : Nat) (ss : List ByteArray) : Prop := w.heap[g]? = some (.cells (ss.map Value.string).toArray 9 (0, 0))

theorem SBlk.cell {w : World} {g : Nat} {ss : List ByteArray} (h : SBlk w g ss) (j : Nat) (hj : j < ss.length) : w.cell? ⟨g, j, none⟩ = some (.string (ss.getD j ByteArray.empty)) := by
  rw [cell_of_row w g j _ 9 (0, 0) h]
  simp [hj, List.getD]
theorem SBlk.frozen {w : World} {g : Nat} {ss : List ByteArray} (h : SBlk w g ss) (j : Nat) : w.frozen? ⟨g, j, none⟩ = false := frozen_of_row w g j _ 9 h
theorem SBlk.set {w : World} {g : Nat} {ss : List ByteArray} (h : SBlk w g ss) (j : Nat) (x : ByteArray) : SBlk (w.setCell ⟨g, j, none⟩ (.string x)) g (ss.set j x) := by
  have := heap_setCell_same w g j _ 9 (.string x) h
  unfold SBlk
  rw [this]
  simp [List.map_set]
theorem SBlk.row {w : World} {g : Nat} {ss : List ByteArray} (h : SBlk w g ss) : SRow w (some ⟨g, 0, none⟩) ss :=
  fun _ => ⟨g, 0, rfl, fun i hi => by rw [Nat.zero_add]; exact h.cell i hi⟩
theorem SBlk.made (w : World) (n : Nat) : SBlk (w.alloc (.cells (madeCells #[Value.string ByteArray.empty] n) 9)) w.heap.size (List.replicate n ByteArray.empty) := by
  unfold SBlk
  rw [heap_alloc_new]
  have : madeCells #[Value.string ByteArray.empty] n = ((List.replicate n ByteArray.empty).map Value.string).toArray := by
    apply Array.toList_inj.1
    rw [toList_madeCells_one]
    simp
  rw [this]
theorem take_set_repS (zs : List ByteArray) (n k : Nat) (hz : zs.length = n) (hk : k < n) :
    (zs.take k ++ List.replicate (n - k) ByteArray.empty).set k (zs.getD k ByteArray.empty) = zs.take (k + 1) ++ List.replicate (n - (k + 1)) ByteArray.empty := by
  have h1 : (zs.take k).length = k := by simp; omega
  rw [List.set_append_right _ _ (by omega), h1, Nat.sub_self]
  have h2 : n - k = (n - (k + 1)) + 1 := by omega
  rw [h2, List.replicate_succ, List.set_cons_zero, List.take_succ_eq_append_getElem (show k < zs.length by omega), List.append_assoc]
  simp [List.getD, show k < zs.length by omega]

theorem cloneStr_some (x : Addr) (n c : Nat) (zs : List ByteArray) (w : World) (hz : zs.length = n) (hn : n ≤ 1048576) (hr : SRow w (some x) zs) :
    Calls Trym.prog 18 #[.slice (some x) n c] w fun e w' => e = .returned (.slice (some ⟨w.heap.size, 0, none⟩) n n) ∧ Below w.heap.size w w' ∧ SBlk w' w.heap.size zs := by
  obtain ⟨i0, hi, hz0, hz1, hz2⟩ := info_parts Trym.info9
  have hmk : (Instr.makeSlice 32 (.int .i64 (n : Int)) (.int .i64 (n : Int))).run Trym.prog w = .ok (.slice (some ⟨w.heap.size, 0, none⟩) n n) (w.alloc (.cells (madeCells (Value.string ByteArray.empty).cells (n * 1)) 9)) := by
    have := run_make (P := Trym.prog) w 32 9 i0 (.string ByteArray.empty) Trym.underlying32 hi hz0 .i64 .i64 (n : Int) (n : Int) (by omega) (Int.le_refl _) (by rw [hz2]; omega) (by omega)
    rw [hz1] at this
    simpa using this
  have hne := Lib.run_eql_slice_nil (P := Trym.prog)
  go_enter Trym.func18, Trym.ntmps18
  go_wp2
  go_loopw [4] (fun i wr => ∃ k : Nat, k ≤ n ∧ i = .int .i64 k ∧ Below w.heap.size w wr ∧ w.heap.size < wr.heap.size ∧ SBlk wr w.heap.size (zs.take k ++ List.replicate (n - k) ByteArray.empty))
    (fun i _ => n - (intOf i).toNat)
  case atStart =>
    refine ⟨0, Nat.zero_le _, rfl, (Below.refl _ _).alloc (Nat.le_refl _) _, by simp, ?_⟩
    simpa using SBlk.made w n
  case round =>
    obtain ⟨k, hk, rfl, hbel, hsz, hblk⟩ := hrel
    by_cases hlt : k < n
    · have hr' := hr.below hbel
      obtain ⟨b, off, hx, hc⟩ := hr' (by omega)
      obtain rfl := Option.some.inj hx
      have hck := hc k (by omega)
      have hfz := hblk.frozen k
      have hwc := hblk.cell k (by simp; omega)
      have hnew := hblk.set k (zs.getD k ByteArray.empty)
      rw [take_set_repS zs n k hz hlt] at hnew
      generalize zs.getD k ByteArray.empty = z at hck hnew
      generalize (zs.take k ++ List.replicate (n - k) ByteArray.empty).getD k ByteArray.empty = old at hwc
      have HN := hide hnew
      clear hnew hblk hc hr'
      go_wp2
      go_roundw
      case rel => exact ⟨k + 1, by omega, by go_num, hbel.setCell (Nat.le_refl _) _, by simpa using hsz, unhide HN⟩
      case measure => simp [intOf]; omega
    · go_wp2
      go_ret
      refine ⟨rfl, hbel, ?_⟩
      have : k = n := by omega
      subst this
      simpa [← hz] using hblk

theorem cloneStr_nil (w : World) : Calls Trym.prog 18 #[.slice none 0 0] w fun e w' => e = .returned (.slice none 0 0) ∧ w' = w := by
  have hne := Lib.run_eql_slice_nil (P := Trym.prog)
  go_enter Trym.func18, Trym.ntmps18
  go_wp2
  go_ret
  exact ⟨rfl, rfl⟩

theorem cloneStr_any (a : Option Addr) (n c : Nat) (zs : List ByteArray) (w : World) (hz : zs.length = n) (hn : n ≤ 1048576) (hr : SRow w a zs) (hnil : a = none → n = 0 ∧ c = 0) :
    Calls Trym.prog 18 #[.slice a n c] w fun e w' => ∃ a', e = .returned (.slice a' n n) ∧ Below w.heap.size w w' ∧ SRow w' a' zs ∧ (∀ x, a' = some x → w.heap.size ≤ x.block) := by
  cases a with
  | none =>
    obtain ⟨rfl, rfl⟩ := hnil rfl
    refine (cloneStr_nil w).mono fun e w' h => ?_
    obtain ⟨rfl, rfl⟩ := h
    exact ⟨none, rfl, Below.refl _ _, fun h => by omega, fun x hx => by cases hx⟩
  | some x =>
    refine (cloneStr_some x n c zs w hz hn hr).mono fun e w' h => ?_
    exact ⟨_, h.1, h.2.1, h.2.2.row, fun x hx => by cases hx; exact Nat.le_refl _⟩

end Go.Proofs.Qxb6600623aMods
