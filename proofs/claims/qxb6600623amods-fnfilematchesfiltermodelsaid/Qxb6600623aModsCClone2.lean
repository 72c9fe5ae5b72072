import Derived.Test.Qxb6600623aModsCClone
set_option linter.unusedVariables false
set_option linter.unusedSimpArgs false
namespace Go.Proofs.Qxb6600623aMods
open Go.RowKit

/-- The four cells of a call in block g, its values in a later block. -/
structure CellsLater (w : World) (g o : Nat) (c : Call) : Prop where
  key : w.cell? ⟨g, o, none⟩ = some (.string c.key)
  kind : w.cell? ⟨g, o + 1, none⟩ = some (.int .i64 c.kind)
  vals : ∃ va, w.cell? ⟨g, o + 2, none⟩ = some (.slice va c.vals.length c.vals.length) ∧ SRow w va c.vals ∧ (∀ x, va = some x → g < x.block)
  id : w.cell? ⟨g, o + 3, none⟩ = some (.int .i64 c.id)

theorem four_at {w : World} {g j : Nat} {arr : Array Value} {t : TypeId} (h : w.heap[g]? = some (.cells arr t (0, 0))) (hj : j + 3 < arr.size) :
    (∃ v, w.cell? ⟨g, j, none⟩ = some v) ∧ (∃ v, w.cell? ⟨g, j + 1, none⟩ = some v) ∧ (∃ v, w.cell? ⟨g, j + 2, none⟩ = some v) ∧ (∃ v, w.cell? ⟨g, j + 3, none⟩ = some v) ∧ (∀ q, w.frozen? ⟨g, q, none⟩ = false) :=
  ⟨⟨_, by rw [cell_of_row w g j arr t (0, 0) h]; exact Array.getElem?_eq_getElem (by omega)⟩, ⟨_, by rw [cell_of_row w g (j + 1) arr t (0, 0) h]; exact Array.getElem?_eq_getElem (by omega)⟩,
   ⟨_, by rw [cell_of_row w g (j + 2) arr t (0, 0) h]; exact Array.getElem?_eq_getElem (by omega)⟩, ⟨_, by rw [cell_of_row w g (j + 3) arr t (0, 0) h]; exact Array.getElem?_eq_getElem (by omega)⟩, fun q => frozen_of_row w g q arr t h⟩

theorem SRow.other {w : World} {a : Option Addr} {zs : List ByteArray} (h : SRow w a zs) (p : Addr) (v : Value) (hn : ∀ x, a = some x → x.block ≠ p.block) : SRow (w.setCell p v) a zs := by
  intro hl
  obtain ⟨b, off, ha, hc⟩ := h hl
  refine ⟨b, off, ha, fun i hi => ?_⟩
  rw [World.cell?_of_block (w := w) (heap_setCell_other w p b v (hn _ ha))]
  exact hc i hi

/-- Block g behind the four stores of one call. -/
theorem four_set {w : World} {g j : Nat} {arr : Array Value} {t : TypeId} (h : w.heap[g]? = some (.cells arr t (0, 0))) (x0 x1 x2 x3 : Value) :
    ((((w.setCell ⟨g, j, none⟩ x0).setCell ⟨g, j + 1, none⟩ x1).setCell ⟨g, j + 2, none⟩ x2).setCell ⟨g, j + 3, none⟩ x3).heap[g]? = some (.cells ((((arr.setIfInBounds j x0).setIfInBounds (j + 1) x1).setIfInBounds (j + 2) x2).setIfInBounds (j + 3) x3) t (0, 0)) :=
  heap_setCell_same _ g (j + 3) _ t x3 (heap_setCell_same _ g (j + 2) _ t x2 (heap_setCell_same _ g (j + 1) _ t x1 (heap_setCell_same w g j arr t x0 h)))

theorem clone_step {w wr w1 : World} {g k n : Nat} {arr : Array Value} {cs : List Call} {a' : Option Addr} (d : Call) (hd : cs.getD k Call.nil = d) (hg : g = w.heap.size) (hk : k < n) (harr : arr.size = n * 4) (hsz : w.heap.size < wr.heap.size)
    (hbel : Below w.heap.size w wr) (hb1 : Below wr.heap.size wr w1) (hblk1 : w1.heap[g]? = some (.cells arr 41 (0, 0))) (hs1 : SRow w1 a' d.vals) (hfr : ∀ x, a' = some x → wr.heap.size ≤ x.block)
    (hall : ∀ i, i < k → CellsLater wr g (i * 4) (cs.getD i Call.nil)) (W : World)
    (hW : W = ((((w1.setCell ⟨g, k * 4, none⟩ (.string d.key)).setCell ⟨g, k * 4 + 1, none⟩ (.int .i64 d.kind)).setCell ⟨g, k * 4 + 2, none⟩ (.slice a' d.vals.length d.vals.length)).setCell ⟨g, k * 4 + 3, none⟩ (.int .i64 d.id))) :
    ∃ arr', Below w.heap.size w W ∧ w.heap.size < W.heap.size ∧ W.heap[g]? = some (.cells arr' 41 (0, 0)) ∧ arr'.size = n * 4 ∧ ∀ i, i < k + 1 → CellsLater W g (i * 4) (cs.getD i Call.nil) := by
  have h4 := four_set (j := k * 4) hblk1 (.string d.key) (.int .i64 d.kind) (.slice a' d.vals.length d.vals.length) (.int .i64 d.id)
  rw [← hW] at h4
  have hother : ∀ b, b ≠ g → W.heap[b]? = w1.heap[b]? := by
    intro b hb
    rw [hW, heap_setCell_other _ _ _ _ hb, heap_setCell_other _ _ _ _ hb, heap_setCell_other _ _ _ _ hb, heap_setCell_other _ _ _ _ hb]
  have hsize : W.heap.size = w1.heap.size := by rw [hW]; simp
  have hrow : ∀ (a : Option Addr) (zs : List ByteArray), SRow w1 a zs → (∀ x, a = some x → g < x.block) → SRow W a zs := by
    intro a zs h hx hl
    obtain ⟨b, off, ha, hc⟩ := h hl
    refine ⟨b, off, ha, fun i hi => ?_⟩
    rw [World.cell?_of_block (w := w1) (hother b (by have := hx _ ha; simp at this; omega))]
    exact hc i hi
  have hs := hb1.size
  refine ⟨_, ?_, by omega, h4, by simpa using harr, fun i hi => ?_⟩
  · rw [hW]
    exact ((((hbel.trans (hb1.mono hbel.size)).setCell (by simp [hg]) _).setCell (by simp [hg]) _).setCell (by simp [hg]) _).setCell (by simp [hg]) _
  · rcases Nat.lt_or_ge i k with h | h
    · have h0 := hall i h
      have hc : ∀ f, f < 4 → W.cell? ⟨g, i * 4 + f, none⟩ = wr.cell? ⟨g, i * 4 + f, none⟩ := by
        intro f hf
        rw [← hb1.cell (p := ⟨g, i * 4 + f, none⟩) (by simp [hg]; omega), cell_of_row W g _ _ 41 (0, 0) h4, cell_of_row w1 g _ _ 41 (0, 0) hblk1]
        rw [Array.getElem?_setIfInBounds_ne (by omega), Array.getElem?_setIfInBounds_ne (by omega), Array.getElem?_setIfInBounds_ne (by omega), Array.getElem?_setIfInBounds_ne (by omega)]
      obtain ⟨h1, h2, ⟨va, h3, h3', h3''⟩, h6⟩ := h0
      exact ⟨(hc 0 (by omega)).trans h1, (hc 1 (by omega)).trans h2, ⟨va, (hc 2 (by omega)).trans h3, hrow va _ (h3'.below hb1) h3'', h3''⟩, (hc 3 (by omega)).trans h6⟩
    · have : i = k := by omega
      subst this
      rw [hd]
      have hc : ∀ q, W.cell? ⟨g, q, none⟩ = _ := fun q => cell_of_row W g q _ 41 (0, 0) h4
      refine ⟨?_, ?_, ⟨a', ?_, hrow a' _ hs1 (fun x hx => by have := hfr x hx; omega), fun x hx => by have := hfr x hx; omega⟩, ?_⟩
      · rw [hc, Array.getElem?_setIfInBounds_ne (by omega), Array.getElem?_setIfInBounds_ne (by omega), Array.getElem?_setIfInBounds_ne (by omega), Array.getElem?_setIfInBounds_self_of_lt (by omega)]
      · rw [hc, Array.getElem?_setIfInBounds_ne (by omega), Array.getElem?_setIfInBounds_ne (by omega), Array.getElem?_setIfInBounds_self_of_lt (by simp; omega)]
      · rw [hc, Array.getElem?_setIfInBounds_ne (by omega), Array.getElem?_setIfInBounds_self_of_lt (by simp; omega)]
      · rw [hc, Array.getElem?_setIfInBounds_self_of_lt (by simp; omega)]

set_option maxRecDepth 100000 in
set_option maxHeartbeats 4000000 in
theorem cloneCalls_some (x : Addr) (n c : Nat) (cs : List Call) (w : World) (hz : cs.length = n) (hn : n ≤ 4096) (hv : ∀ i, i < n → (cs.getD i Call.nil).vals.length ≤ 1048576) (hr : CRow w (some x) cs) :
    Calls Trym.prog 17 #[.slice (some x) n c] w fun e w' => e = .returned (.slice (some ⟨w.heap.size, 0, none⟩) n n) ∧ Below w.heap.size w w' ∧ CRow w' (some ⟨w.heap.size, 0, none⟩) cs := by
  refine calls_all fun Q HQE => ?_
  obtain ⟨i0, hi, hz0, hz1, hz2⟩ := info_parts Trym.info41
  have hmk : (Instr.makeSlice 31 (.int .i64 (n : Int)) (.int .i64 (n : Int))).run Trym.prog w = .ok (.slice (some ⟨w.heap.size, 0, none⟩) n n) (w.alloc (.cells (madeCells (Value.agg #[.string ByteArray.empty, .int .i64 0, .slice none 0 0, .int .i64 0]).cells (n * 4)) 41)) := by
    have := run_make (P := Trym.prog) w 31 41 i0 _ Trym.underlying31 hi hz0 .i64 .i64 (n : Int) (n : Int) (by omega) (Int.le_refl _) (by rw [hz2]; omega) (by omega)
    rw [hz1] at this
    simpa using this
  have hne := Lib.run_eql_slice_nil (P := Trym.prog)
  go_enter Trym.func17, Trym.ntmps17
  go_wp2
  go_loopw [4] (fun i wr => ∃ (k : Nat) (arr : Array Value), k ≤ n ∧ i = .int .i64 k ∧ Below w.heap.size w wr ∧ w.heap.size < wr.heap.size ∧ wr.heap[w.heap.size]? = some (.cells arr 41 (0, 0)) ∧ arr.size = n * 4 ∧ ∀ i, i < k → CellsLater wr w.heap.size (i * 4) (cs.getD i Call.nil))
    (fun i _ => n - (intOf i).toNat)
  case atStart =>
    refine ⟨0, _, Nat.zero_le _, rfl, (Below.refl _ _).alloc (Nat.le_refl _) _, by simp, heap_alloc_new w _, by simp [size_madeCells], fun i hi => absurd hi (Nat.not_lt_zero _)⟩
  case round =>
    obtain ⟨k, arr, hk, rfl, hbel, hsz, hblk, harr, hall⟩ := hrel
    have HALL := hide hall
    clear hall hmk
    by_cases hlt : k < n
    · obtain ⟨b, off, hx, hc⟩ := hr.below hbel (by omega)
      obtain rfl := Option.some.inj hx
      have hC := hc k (by omega)
      have hvk := hv k (by omega)
      generalize hd : cs.getD k Call.nil = d at hC hvk
      have HD := hide hd
      obtain ⟨c1, c2, ⟨va, vc, c3, s3, nn⟩, c4⟩ := hC
      have hk1 : (k : Int) < (n : Int) := by omega
      have hk0 : (0 : Int) ≤ (k : Int) := by omega
      have hb0 : b < w.heap.size := by
        obtain ⟨b', off', hx', hc'⟩ := hr (by omega)
        have h1 : b' < w.heap.size := World.block_lt_of_cell? w _ (hc' k (by omega)).key
        have h2 := Option.some.inj hx'
        simp at h2
        omega
      have hbn : ¬ b = w.heap.size := by omega
      have hbn' : ¬ w.heap.size = b := by omega
      have S3 := hide s3
      have NN := hide nn
      clear hc hd s3 nn
      go_wp2
      go_region_held3 (fun w' => w'.cell? ⟨b, off + k * 4, none⟩ = some (.string d.key) ∧ w'.cell? ⟨b, off + k * 4 + 1, none⟩ = some (.int .i64 d.kind) ∧ w'.cell? ⟨b, off + k * 4 + 2, none⟩ = some (.slice va d.vals.length vc) ∧ w'.cell? ⟨b, off + k * 4 + 3, none⟩ = some (.int .i64 d.id))
        (first | go_keep | (go_split_ands; refine ⟨?_, ?_, ?_, ?_⟩ <;> (rw [hb1.cell (by simp; omega)]; assumption)))
        ((go_at_call 18; refine (cloneStr_any va _ vc d.vals _ rfl hvk (by exact unhide S3) (unhide NN)).mono ?_; rintro e w1 ⟨a', rfl, hb1, hs1, hfr⟩; have hblk1 : w1.heap[w.heap.size]? = some (.cells arr 41 (0, 0)) := (hb1.block _ hsz).trans hblk; obtain ⟨⟨v0, e0⟩, ⟨v1, e1⟩, ⟨v2, e2⟩, ⟨v3, e3⟩, hfz⟩ := four_at (j := k * 4) hblk1 (by omega)))
      have HST := hide (clone_step d (unhide HD) rfl hlt harr hsz hbel (show Below wr.heap.size wr w1 from ⟨hb1.os, hb1.tape, hb1.output, hb1.size, hb1.block⟩) hblk1 hs1 hfr (unhide HALL) _ rfl)
      clear hblk hblk1 hs1 hfr e0 e1 e2 e3 hfz c1 c2 c3 c4
      go_wp2
      go_roundw
      case rel =>
        obtain ⟨arr', h1, h2, h3, h4, h5⟩ := unhide HST
        exact ⟨k + 1, arr', by omega, by go_num, h1, h2, h3, h4, h5⟩
      case measure => simp [intOf]; omega
    · go_wp2
      try go_ret
      refine unhide HQE _ _ ⟨rfl, hbel, fun _ => ⟨w.heap.size, 0, rfl, fun i hi => ?_⟩⟩
      obtain ⟨h1, h2, ⟨va, h3, h3', h3''⟩, h6⟩ := unhide HALL i (by omega)
      refine ⟨by simpa using h1, by simpa using h2, ⟨va, _, by simpa using h3, h3', fun h => ?_⟩, by simpa using h6⟩
      subst h
      have : (cs.getD i Call.nil).vals.length = 0 := by
        rcases Nat.eq_zero_or_pos (cs.getD i Call.nil).vals.length with h | h
        · exact h
        · obtain ⟨_, _, h', _⟩ := h3' h
          cases h'
      exact ⟨this, this⟩

theorem cloneCalls_nil (w : World) : Calls Trym.prog 17 #[.slice none 0 0] w fun e w' => e = .returned (.slice none 0 0) ∧ w' = w := by
  have hne := Lib.run_eql_slice_nil (P := Trym.prog)
  go_enter Trym.func17, Trym.ntmps17
  go_wp2
  go_ret
  exact ⟨rfl, rfl⟩

theorem cloneCalls_any (a : Option Addr) (n c : Nat) (cs : List Call) (w : World) (hz : cs.length = n) (hn : n ≤ 4096) (hv : ∀ i, i < n → (cs.getD i Call.nil).vals.length ≤ 1048576) (hr : CRow w a cs) (hnil : a = none → n = 0 ∧ c = 0) :
    Calls Trym.prog 17 #[.slice a n c] w fun e w' => ∃ a', e = .returned (.slice a' n n) ∧ Below w.heap.size w w' ∧ CRow w' a' cs := by
  cases a with
  | none =>
    obtain ⟨rfl, rfl⟩ := hnil rfl
    refine (cloneCalls_nil w).mono fun e w' h => ?_
    obtain ⟨rfl, rfl⟩ := h
    exact ⟨none, rfl, Below.refl _ _, fun h => by omega⟩
  | some x =>
    refine (cloneCalls_some x n c cs w hz hn hv hr).mono fun e w' h => ?_
    exact ⟨_, h.1, h.2.1, h.2.2⟩

end Go.Proofs.Qxb6600623aMods
