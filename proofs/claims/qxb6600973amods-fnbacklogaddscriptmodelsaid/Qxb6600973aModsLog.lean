import Derived.Test.Qxb6600973aModsBase
import Derived.BigQuiet
import Derived.Deep.QuietTactic
set_option linter.unusedVariables false
set_option linter.unusedSimpArgs false
namespace Go.Proofs.Qxb6600973aMods
open Go.RowKit

/-- A backlog lies in block b. -/
def LogAt (w : World) (b : Nat) (u l a : Int) : Prop := w.heap[b]? = some (.cells #[.int .i64 u, .int .i64 l, .int .i64 a] 39 (0, 0))
theorem LogAt.cells {w : World} {b : Nat} {u l a : Int} (h : LogAt w b u l a) : w.cell? ⟨b, 0, none⟩ = some (.int .i64 u) ∧ w.cell? ⟨b, 1, none⟩ = some (.int .i64 l) ∧ w.cell? ⟨b, 2, none⟩ = some (.int .i64 a) ∧ ∀ j, w.frozen? ⟨b, j, none⟩ = false := by
  unfold LogAt at h
  simp [World.cell?, World.frozen?, h]

theorem ret_int {k : IntKind} {a b : Int} (h : a = b) : Ending.returned (.int k a) = .returned (.int k b) := by rw [h]
/-- What of the longest frame is unsent. -/
def lon (u l a : Int) : Int := if 0 < (if u - a < l then u - a else l) then (if u - a < l then u - a else l) else 0
theorem lon_cases (u l a : Int) : (lon u l a = 0 ∧ (l ≤ 0 ∨ u - a ≤ 0)) ∨ (lon u l a = l ∧ 0 < l ∧ l ≤ u - a) ∨ (lon u l a = u - a ∧ 0 < u - a ∧ u - a < l) := by
  unfold lon
  split <;> split <;> omega

set_option maxRecDepth 100000 in
set_option maxHeartbeats 2000000 in
theorem longest_any (b : Nat) (u l a : Int) (w : World) (h : LogAt w b u l a) (hu : -4294967296 ≤ u ∧ u ≤ 4294967296) (ha : -4294967296 ≤ a ∧ a ≤ 4294967296) :
    Calls Trym.prog 14 #[.pointer (some ⟨b, 0, none⟩)] w fun e w' => e = .returned (.int .i64 (lon u l a)) ∧ Below w.heap.size w w' := by
  refine calls_all fun Q HQE => ?_
  obtain ⟨c0, c1, c2, cf⟩ := h.cells
  obtain ⟨hu1, hu2⟩ := hu
  obtain ⟨ha1, ha2⟩ := ha
  go_enter Trym.func14, Trym.ntmps14
  go_wp2
  go_region
  go_wp2
  all_goals try go_ret
  all_goals exact unhide HQE _ _ ⟨ret_int (by unfold lon; split <;> split <;> omega), (Below.refl _ _).drew⟩

theorem LogAt.set {w : World} {b : Nat} {u l a : Int} (h : LogAt w b u l a) (j : Nat) (x : Int) : (w.setCell ⟨b, j, none⟩ (.int .i64 x)).heap[b]? = some (.cells ((#[.int .i64 u, .int .i64 l, .int .i64 a] : Array Value).setIfInBounds j (.int .i64 x)) 39 (0, 0)) :=
  heap_setCell_same w b j _ 39 (.int .i64 x) h
theorem LogAt.set0 {w : World} {b : Nat} {u l a : Int} (h : LogAt w b u l a) (x : Int) : LogAt (w.setCell ⟨b, 0, none⟩ (.int .i64 x)) b x l a := h.set 0 x
theorem LogAt.set1 {w : World} {b : Nat} {u l a : Int} (h : LogAt w b u l a) (x : Int) : LogAt (w.setCell ⟨b, 1, none⟩ (.int .i64 x)) b u x a := h.set 1 x
theorem LogAt.set2 {w : World} {b : Nat} {u l a : Int} (h : LogAt w b u l a) (x : Int) : LogAt (w.setCell ⟨b, 2, none⟩ (.int .i64 x)) b u l x := h.set 2 x
theorem LogAt.below {w w' : World} {b : Nat} {u l a : Int} (h : LogAt w b u l a) (hb : Below w.heap.size w w') : LogAt w' b u l a := by
  unfold LogAt
  rw [hb.block b (lt_of_block h)]
  exact h

/-- The counts behind 'add'. -/
def addL (u l a n : Int) : Int := if lon (u + n) l (a + n) ≤ n then n else l
def addA (u l a n : Int) : Int := if lon (u + n) l (a + n) ≤ n then 0 else a + n

set_option maxRecDepth 100000 in
set_option maxHeartbeats 2000000 in
theorem add_any (b : Nat) (u l a n : Int) (w : World) (B : Nat) (h : LogAt w b u l a) (hB : B ≤ b) (hu : -2147483648 ≤ u ∧ u ≤ 2147483648) (ha : -2147483648 ≤ a ∧ a ≤ 2147483648) (hn : 0 ≤ n ∧ n ≤ 2147483648) :
    Calls Trym.prog 13 #[.pointer (some ⟨b, 0, none⟩), .int .i64 n] w fun e w' => e = .returned (.tuple #[]) ∧ LogAt w' b (u + n) (addL u l a n) (addA u l a n) ∧ Below B w w' := by
  refine calls_all fun Q HQE => ?_
  obtain ⟨c0, c1, c2, cf⟩ := h.cells
  obtain ⟨hu1, hu2⟩ := hu
  obtain ⟨ha1, ha2⟩ := ha
  obtain ⟨hn1, hn2⟩ := hn
  have hlt : b < w.heap.size := lt_of_block h
  go_enter Trym.func13, Trym.ntmps13
  go_wp2_with fail
  have h2 := (h.set0 (u + n)).set2 (a + n)
  have hbw : Below B w ((w.setCell ⟨b, 0, none⟩ (.int .i64 (u + n))).setCell ⟨b, 2, none⟩ (.int .i64 (a + n))) := ((Below.refl _ _).setCell hB _).setCell hB _
  generalize ((w.setCell ⟨b, 0, none⟩ (.int .i64 (u + n))).setCell ⟨b, 2, none⟩ (.int .i64 (a + n))) = w2 at h2 hbw ⊢
  refine (longest_any b (u + n) l (a + n) w2 h2 (by omega) (by omega)).mono ?_
  rintro e w3 ⟨rfl, hb3⟩
  have h3 := h2.below hb3
  obtain ⟨d0, d1, d2, df⟩ := h3.cells
  have hB2 : B ≤ w2.heap.size := by have := lt_of_block h2; omega
  have hb0 := hbw.trans (hb3.mono hB2)
  by_cases hc : lon (u + n) l (a + n) ≤ n
  · have H4 := hide ((h3.set1 n).set2 0)
    have eL : addL u l a n = n := if_pos hc
    have eA : addA u l a n = 0 := if_pos hc
    have EL := hide eL
    have EA := hide eA
    clear eL eA c0 c1 c2 cf hb3 h2 h hbw h3
    go_wp2
    try go_end0
    refine unhide HQE _ _ ⟨rfl, ?_, (hb0.setCell hB _).setCell hB _⟩
    rw [unhide EL, unhide EA]
    exact unhide H4
  · have eL : addL u l a n = l := if_neg hc
    have eA : addA u l a n = a + n := if_neg hc
    have EL := hide eL
    have EA := hide eA
    clear eL eA c0 c1 c2 cf hb3 h2 h hbw
    have H3 := hide h3
    clear h3
    go_wp2
    try go_end0
    refine unhide HQE _ _ ⟨rfl, ?_, hb0⟩
    rw [unhide EL, unhide EA]
    exact unhide H3

set_option maxRecDepth 100000 in
set_option maxHeartbeats 2000000 in
theorem zzadd_any (u l a n : Int) (w : World) (hu : -2147483648 ≤ u ∧ u ≤ 2147483648) (ha : -2147483648 ≤ a ∧ a ≤ 2147483648) (hn : 0 ≤ n ∧ n ≤ 2147483648) :
    Calls Trym.prog 10 #[.int .i64 u, .int .i64 l, .int .i64 a, .int .i64 n] w fun e w' => e = .returned (.tuple #[.int .i64 (u + n), .int .i64 (addL u l a n), .int .i64 (addA u l a n)]) ∧ Below w.heap.size w w' := by
  refine calls_all fun Q HQE => ?_
  go_enter Trym.func10, Trym.ntmps10
  go_wp2_with fail
  have h1 : LogAt (w.alloc (.cells #[.int .i64 u, .int .i64 l, .int .i64 a] 39)) w.heap.size u l a := heap_alloc_new w _
  refine (add_any w.heap.size u l a n _ w.heap.size h1 (Nat.le_refl _) hu ha hn).mono ?_
  rintro e w2 ⟨rfl, h2, hb2⟩
  obtain ⟨d0, d1, d2, df⟩ := h2.cells
  have hb := ((Below.refl w.heap.size w).alloc (Nat.le_refl _) (.cells #[.int .i64 u, .int .i64 l, .int .i64 a] 39)).trans hb2
  clear hb2 h2 h1
  go_wp2
  go_region
  go_wp2
  try go_ret3
  exact unhide HQE _ _ ⟨rfl, hb.drew⟩

set_option maxRecDepth 100000 in
set_option maxHeartbeats 2000000 in
theorem zzlong_any (u l a : Int) (w : World) (hu : -4294967296 ≤ u ∧ u ≤ 4294967296) (ha : -4294967296 ≤ a ∧ a ≤ 4294967296) :
    Calls Trym.prog 11 #[.int .i64 u, .int .i64 l, .int .i64 a] w fun e w' => e = .returned (.int .i64 (lon u l a)) ∧ Below w.heap.size w w' := by
  refine calls_all fun Q HQE => ?_
  go_enter Trym.func11, Trym.ntmps11
  go_wp2_with fail
  have h1 : LogAt (w.alloc (.cells #[.int .i64 u, .int .i64 l, .int .i64 a] 39)) w.heap.size u l a := heap_alloc_new w _
  refine (longest_any w.heap.size u l a _ h1 hu ha).mono ?_
  rintro e w2 ⟨rfl, hb2⟩
  have hb := ((Below.refl w.heap.size w).alloc (Nat.le_refl _) (.cells #[.int .i64 u, .int .i64 l, .int .i64 a] 39)).trans (hb2.mono (by simp))
  go_wp2
  try go_ret
  exact unhide HQE _ _ ⟨rfl, hb⟩

end Go.Proofs.Qxb6600973aMods
