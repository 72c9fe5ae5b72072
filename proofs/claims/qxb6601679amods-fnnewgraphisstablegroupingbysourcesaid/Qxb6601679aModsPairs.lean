import Derived.Test.Qxb6601679aModsBase
import Derived.BigQuiet
import Derived.Deep.QuietTactic
set_option linter.unusedVariables false
set_option linter.unusedSimpArgs false
namespace Go.Proofs.Qxb6601679aMods
open Go.RowKit

theorem bytes9 (n : Int) (a : Option Addr) (m c : Nat) (w : World) (hm : m ≤ 9223372036854775807) :
    Calls Trym.prog 9 #[.int .i64 n, .slice a m c] w fun e w' => ∃ b, e = .returned (.bool b) ∧ w = w' := by
  refine calls_all fun Q HQE => ?_
  by_cases t0 : 1048576 < m
  · go_enter Trym.func9, Trym.ntmps9
    go_wp2
    try go_ret
    exact unhide HQE _ _ ⟨false, rfl, rfl⟩
  · go_enter Trym.func9, Trym.ntmps9
    go_wp2
    try go_ret
    exact unhide HQE _ _ ⟨true, rfl, rfl⟩

/-- Each source lies in the nodes. -/
def SrcIn (n : Int) (zs : List Int) (m : Nat) : Prop := ∀ i, i < m → 0 ≤ zs.getD (i * 2) 0 ∧ zs.getD (i * 2) 0 < n

set_option maxRecDepth 100000 in
set_option maxHeartbeats 2000000 in
theorem sources_any (n : Int) (a : Option Addr) (m c : Nat) (zs : List Int) (w : World) (hz : zs.length = m * 2) (hn : 0 ≤ n ∧ n ≤ 65536) (hm : m ≤ 131072) (hr : Row w .i32 a zs) (hin : In32 zs) :
    Calls Trym.prog 10 #[.int .i64 n, .slice a m c] w fun e w' => ∃ b, e = .returned (.bool b) ∧ Below w.heap.size w w' ∧ (b = true → SrcIn n zs m) := by
  refine calls_all fun Q HQE => ?_
  obtain ⟨n0, n1⟩ := hn
  go_enter Trym.func10, Trym.ntmps10
  go_wp2
  go_loopw [9] (fun i wr => ∃ k : Nat, k ≤ m ∧ i = .int .i64 k ∧ Below w.heap.size w wr ∧ Hid (SrcIn n zs k)) (fun i _ => m - (intOf i).toNat)
  case atStart => exact ⟨0, Nat.zero_le _, rfl, Below.refl _ _, fun i hi => by omega⟩
  case round =>
    obtain ⟨k, hk, rfl, hbel, hsrc⟩ := hrel
    by_cases hlt : k < m
    · obtain ⟨b, off, hx, hc⟩ := hr.below hbel (by omega)
      subst hx
      have hck := hc (k * 2) (by omega)
      have hck' := hc (k * 2 + 1) (by omega)
      have hbd := hin (k * 2) (by omega)
      generalize hx : zs.getD (k * 2) 0 = x at hck hbd
      generalize zs.getD (k * 2 + 1) 0 = y at hck'
      have HX := hide hx
      obtain ⟨hb1, hb2⟩ := hbd
      clear hx hc
      rw [← Nat.add_assoc] at hck'
      by_cases x0 : x < 0
      · go_wp2
        try go_ret
        exact unhide HQE _ _ ⟨false, rfl, hbel.alloc hbel.size _, fun h => by cases h⟩
      by_cases x1 : n ≤ x
      · go_wp2
        try go_ret
        exact unhide HQE _ _ ⟨false, rfl, hbel.alloc hbel.size _, fun h => by cases h⟩
      go_wp2
      go_roundw
      case rel =>
        refine ⟨k + 1, by omega, by go_num, hbel.alloc hbel.size _, fun i hi => ?_⟩
        rcases Nat.lt_or_ge i k with h | h
        · exact hsrc.out i h
        · have : i = k := by omega
          subst this
          rw [unhide HX]; omega
      case measure => simp [intOf]; omega
    · have hkm : k = m := by omega
      subst hkm
      go_wp2
      try go_ret
      exact unhide HQE _ _ ⟨true, rfl, hbel, fun _ => hsrc.out⟩

theorem take_set_rep2 (zs : List Int) (m k : Nat) (hz : zs.length = m * 2) (hk : k < m) :
    ((zs.take (k * 2) ++ List.replicate ((m - k) * 2) 0).set (k * 2) (zs.getD (k * 2) 0)).set (k * 2 + 1) (zs.getD (k * 2 + 1) 0) = zs.take ((k + 1) * 2) ++ List.replicate ((m - (k + 1)) * 2) 0 := by
  apply List.ext_getElem?
  intro i
  simp only [List.getElem?_set, List.getElem?_append, List.length_set, List.length_append, List.length_take, List.length_replicate, List.getElem?_take, List.getElem?_replicate, List.getD, hz]
  rcases Nat.lt_trichotomy i (k * 2) with h | h | h
  · rw [if_neg (by omega), if_neg (by omega), if_pos (by omega), if_pos (by omega), if_pos (by omega), if_pos (by omega)]
  · subst h
    rw [if_neg (by omega), if_pos rfl, if_pos (by omega), if_pos (by omega), if_pos (by omega)]
    simp [show k * 2 < zs.length by omega]
  · rcases Nat.lt_trichotomy i (k * 2 + 1) with h2 | h2 | h2
    · omega
    · subst h2
      rw [if_pos rfl, if_pos (by omega), if_pos (by omega), if_pos (by omega)]
      simp [show k * 2 + 1 < zs.length by omega]
    · rw [if_neg (by omega), if_neg (by omega), if_neg (by omega)]
      by_cases h3 : i < m * 2
      · rw [if_pos (by omega), if_neg (by omega), if_pos (by omega)]
      · rw [if_neg (by omega), if_neg (by omega), if_neg (by omega)]

theorem Blk.made2 (w : World) (n : Nat) : Blk (w.alloc (.cells (madeCells #[Value.int .i32 0, Value.int .i32 0] (n * 2)) 28)) w.heap.size .i32 28 (List.replicate (n * 2) 0) := by
  unfold Blk
  rw [heap_alloc_new]
  have : madeCells #[Value.int .i32 0, Value.int .i32 0] (n * 2) = ints .i32 (List.replicate (n * 2) 0) := by
    apply Array.ext
    · simp [madeCells, ints]
    · intro i h1 h2
      have hi : i % 2 = 0 ∨ i % 2 = 1 := by omega
      rcases hi with hi | hi <;> simp [madeCells, ints, hi]
  rw [this]

set_option maxRecDepth 100000 in
set_option maxHeartbeats 2000000 in
theorem clone_some (x : Addr) (m c : Nat) (zs : List Int) (w : World) (hz : zs.length = m * 2) (hm : m ≤ 131072) (hr : Row w .i32 (some x) zs) :
    Calls Trym.prog 11 #[.slice (some x) m c] w fun e w' => e = .returned (.slice (some ⟨w.heap.size, 0, none⟩) m m) ∧ Below w.heap.size w w' ∧ w.heap.size < w'.heap.size ∧ Blk w' w.heap.size .i32 28 zs := by
  refine calls_all fun Q HQE => ?_
  obtain ⟨i0, hi, hz0, hz1, hz2⟩ := info_parts Trym.info28
  have hmk : (Instr.makeSlice 22 (.int .i64 (m : Int)) (.int .i64 (m : Int))).run Trym.prog w = .ok (.slice (some ⟨w.heap.size, 0, none⟩) m m) (w.alloc (.cells (madeCells (Value.agg #[.int .i32 0, .int .i32 0]).cells (m * 2)) 28)) := by
    have := run_make (P := Trym.prog) w 22 28 i0 (.agg #[.int .i32 0, .int .i32 0]) Trym.underlying22 hi hz0 .i64 .i64 (m : Int) (m : Int) (by omega) (Int.le_refl _) (by rw [hz2]; omega) (by omega)
    rw [hz1] at this
    simpa using this
  have hne := Lib.run_eql_slice_nil (P := Trym.prog)
  go_enter Trym.func11, Trym.ntmps11
  go_wp2
  go_loopw [4] (fun i wr => ∃ k : Nat, k ≤ m ∧ i = .int .i64 k ∧ Below w.heap.size w wr ∧ w.heap.size < wr.heap.size ∧ Blk wr w.heap.size .i32 28 (zs.take (k * 2) ++ List.replicate ((m - k) * 2) 0))
    (fun i _ => m - (intOf i).toNat)
  case atStart =>
    refine ⟨0, Nat.zero_le _, rfl, (Below.refl _ _).alloc (Nat.le_refl _) _, by simp, ?_⟩
    simpa using Blk.made2 w m
  case round =>
    clear hmk
    obtain ⟨k, hk, rfl, hbel, hsz, hblk⟩ := hrel
    by_cases hlt : k < m
    · obtain ⟨b, off, hx, hc⟩ := hr.below hbel (by omega)
      obtain rfl := Option.some.inj hx
      have hck := hc (k * 2) (by omega)
      have hck' := hc (k * 2 + 1) (by omega)
      have hfz := hblk.frozen
      have hwc := hblk.cell (k * 2) (by simp; omega)
      have hwc' := hblk.cell (k * 2 + 1) (by simp; omega)
      have hnew := (hblk.set (k * 2) (zs.getD (k * 2) 0)).set (k * 2 + 1) (zs.getD (k * 2 + 1) 0)
      rw [take_set_rep2 zs m k hz hlt] at hnew
      generalize zs.getD (k * 2) 0 = z at hck hnew
      generalize zs.getD (k * 2 + 1) 0 = z' at hck' hnew
      generalize (zs.take (k * 2) ++ List.replicate ((m - k) * 2) 0).getD (k * 2) 0 = y at hwc
      generalize (zs.take (k * 2) ++ List.replicate ((m - k) * 2) 0).getD (k * 2 + 1) 0 = y' at hwc'
      have HN := hide hnew
      clear hnew hblk hc
      rw [← Nat.add_assoc] at hck'
      go_wp2
      go_roundw
      case rel => exact ⟨k + 1, by omega, by go_num, (hbel.setCell (Nat.le_refl _) _).setCell (Nat.le_refl _) _, by simpa using hsz, unhide HN⟩
      case measure => simp [intOf]; omega
    · have hkm : k = m := by omega
      subst hkm
      have hb2 : Blk wr w.heap.size .i32 28 zs := by simpa [← hz] using hblk
      have HB := hide hb2
      clear hblk hb2
      go_wp2
      try go_ret
      exact unhide HQE _ _ ⟨rfl, hbel, hsz, unhide HB⟩

theorem clone_nil (w : World) : Calls Trym.prog 11 #[.slice none 0 0] w fun e w' => e = .returned (.slice none 0 0) ∧ w = w' := by
  have hne := Lib.run_eql_slice_nil (P := Trym.prog)
  go_enter Trym.func11, Trym.ntmps11
  go_wp2
  go_ret
  exact ⟨rfl, rfl⟩

theorem clone_any (a : Option Addr) (m c : Nat) (zs : List Int) (w : World) (hz : zs.length = m * 2) (hm : m ≤ 131072) (hr : Row w .i32 a zs) (hnil : a = none → m = 0 ∧ c = 0) :
    Calls Trym.prog 11 #[.slice a m c] w fun e w' => ∃ a', e = .returned (.slice a' m m) ∧ Below w.heap.size w w' ∧ Row w' .i32 a' zs := by
  cases a with
  | none =>
    obtain ⟨rfl, rfl⟩ := hnil rfl
    refine (clone_nil w).mono ?_
    rintro e w' ⟨rfl, rfl⟩
    exact ⟨none, rfl, Below.refl _ _, hr⟩
  | some x =>
    refine (clone_some x m c zs w hz hm hr).mono ?_
    rintro e w' ⟨rfl, hb, _, hk⟩
    exact ⟨_, rfl, hb, hk.row⟩

end Go.Proofs.Qxb6601679aMods
