import Derived.Test.Qxb6600623aModsBase
set_option linter.unusedVariables false
set_option linter.unusedSimpArgs false
namespace Go.Proofs.Qxb6600623aMods
open Go.RowKit

/-- What a clone is: nil where nothing was, else the first new block, holding just these numbers. -/
def Fresh (w w' : World) (k : IntKind) (e : TypeId) (a : Option Addr) (zs : List Int) : Prop :=
  (a = none ∧ zs = []) ∨ (a = some ⟨w.heap.size, 0, none⟩ ∧ Blk w' w.heap.size k e zs)

theorem Fresh.row {w w' : World} {k : IntKind} {e : TypeId} {a : Option Addr} {zs : List Int} (h : Fresh w w' k e a zs) : Row w' k a zs := by
  rcases h with ⟨rfl, rfl⟩ | ⟨rfl, hb⟩
  · intro h; simp at h
  · exact hb.row

theorem cloneInts_some (x : Addr) (n c : Nat) (zs : List Int) (w : World) (hz : zs.length = n) (hn : n ≤ 1048576) (hr : Row w .i64 (some x) zs) :
    Calls Trym.prog 9 #[.slice (some x) n c] w fun e w' => e = .returned (.slice (some ⟨w.heap.size, 0, none⟩) n n) ∧ Below w.heap.size w w' ∧ Blk w' w.heap.size .i64 3 zs := by
  obtain ⟨i0, hi, hz0, hz1, hz2⟩ := info_parts Trym.info3
  have hmk : (Instr.makeSlice 22 (.int .i64 (n : Int)) (.int .i64 (n : Int))).run Trym.prog w = .ok (.slice (some ⟨w.heap.size, 0, none⟩) n n) (w.alloc (.cells (madeCells (Value.int .i64 0).cells (n * 1)) 3)) := by
    have := run_make (P := Trym.prog) w 22 3 i0 (.int .i64 0) Trym.underlying22 hi hz0 .i64 .i64 (n : Int) (n : Int) (by omega) (Int.le_refl _) (by rw [hz2]; omega) (by omega)
    rw [hz1] at this
    simpa using this
  have hne := Lib.run_eql_slice_nil (P := Trym.prog)
  go_enter Trym.func9, Trym.ntmps9
  go_wp2
  go_loopw [4] (fun i wr => ∃ k : Nat, k ≤ n ∧ i = .int .i64 k ∧ Below w.heap.size w wr ∧ w.heap.size < wr.heap.size ∧ Blk wr w.heap.size .i64 3 (zs.take k ++ List.replicate (n - k) 0))
    (fun i _ => n - (intOf i).toNat)
  case atStart =>
    refine ⟨0, Nat.zero_le _, rfl, (Below.refl _ _).alloc (Nat.le_refl _) _, by simp, ?_⟩
    simpa using Blk.made w .i64 3 n
  case round =>
    obtain ⟨k, hk, rfl, hbel, hsz, hblk⟩ := hrel
    by_cases hlt : k < n
    · have hr' := hr.below hbel
      obtain ⟨b, off, hx, hc⟩ := hr' (by omega)
      obtain rfl := Option.some.inj hx
      have hck := hc k (by omega)
      have hfz := hblk.frozen k
      have hwc := hblk.cell k (by simp; omega)
      have hnew := hblk.set k (zs.getD k 0)
      rw [take_set_rep zs n k hz hlt] at hnew
      generalize zs.getD k 0 = z at hck hnew
      have HN := hide hnew
      clear hnew hblk hc hr'
      go_wp2
      go_roundw
      case rel => exact ⟨k + 1, by omega, by go_num, hbel.setCell (Nat.le_refl _) _, by simpa using hsz, unhide HN⟩
      case measure => simp [intOf]; omega
    · go_wp2
      go_ret
      refine ⟨rfl, hbel, ?_⟩
      have : k = n := by omega
      subst this
      simpa [← hz] using hblk

theorem cloneInts_nil (w : World) : Calls Trym.prog 9 #[.slice none 0 0] w fun e w' => e = .returned (.slice none 0 0) ∧ w' = w := by
  have hne := Lib.run_eql_slice_nil (P := Trym.prog)
  go_enter Trym.func9, Trym.ntmps9
  go_wp2
  go_ret
  exact ⟨rfl, rfl⟩

theorem cloneInts_any (a : Option Addr) (n c : Nat) (zs : List Int) (w : World) (hz : zs.length = n) (hn : n ≤ 1048576) (hr : Row w .i64 a zs) (hnil : a = none → n = 0 ∧ c = 0) :
    Calls Trym.prog 9 #[.slice a n c] w fun e w' => ∃ a', e = .returned (.slice a' n n) ∧ Below w.heap.size w w' ∧ Fresh w w' .i64 3 a' zs ∧ a'.isNone = a.isNone := by
  cases a with
  | none =>
    obtain ⟨rfl, rfl⟩ := hnil rfl
    refine (cloneInts_nil w).mono fun e w' h => ?_
    obtain ⟨rfl, rfl⟩ := h
    exact ⟨none, rfl, Below.refl _ _, .inl ⟨rfl, List.eq_nil_of_length_eq_zero hz⟩, rfl⟩
  | some x =>
    refine (cloneInts_some x n c zs w hz hn hr).mono fun e w' h => ?_
    exact ⟨_, h.1, h.2.1, .inr ⟨rfl, h.2.2⟩, rfl⟩

theorem cloneWords_some (x : Addr) (n c : Nat) (zs : List Int) (w : World) (hz : zs.length = n) (hn : n ≤ 1048576) (hr : Row w .u64 (some x) zs) :
    Calls Trym.prog 10 #[.slice (some x) n c] w fun e w' => e = .returned (.slice (some ⟨w.heap.size, 0, none⟩) n n) ∧ Below w.heap.size w w' ∧ Blk w' w.heap.size .u64 29 zs := by
  obtain ⟨i0, hi, hz0, hz1, hz2⟩ := info_parts Trym.info29
  have hmk : (Instr.makeSlice 23 (.int .i64 (n : Int)) (.int .i64 (n : Int))).run Trym.prog w = .ok (.slice (some ⟨w.heap.size, 0, none⟩) n n) (w.alloc (.cells (madeCells (Value.int .u64 0).cells (n * 1)) 29)) := by
    have := run_make (P := Trym.prog) w 23 29 i0 (.int .u64 0) Trym.underlying23 hi hz0 .i64 .i64 (n : Int) (n : Int) (by omega) (Int.le_refl _) (by rw [hz2]; omega) (by omega)
    rw [hz1] at this
    simpa using this
  have hne := Lib.run_eql_slice_nil (P := Trym.prog)
  go_enter Trym.func10, Trym.ntmps10
  go_wp2
  go_loopw [4] (fun i wr => ∃ k : Nat, k ≤ n ∧ i = .int .i64 k ∧ Below w.heap.size w wr ∧ w.heap.size < wr.heap.size ∧ Blk wr w.heap.size .u64 29 (zs.take k ++ List.replicate (n - k) 0))
    (fun i _ => n - (intOf i).toNat)
  case atStart =>
    refine ⟨0, Nat.zero_le _, rfl, (Below.refl _ _).alloc (Nat.le_refl _) _, by simp, ?_⟩
    simpa using Blk.made w .u64 29 n
  case round =>
    obtain ⟨k, hk, rfl, hbel, hsz, hblk⟩ := hrel
    by_cases hlt : k < n
    · have hr' := hr.below hbel
      obtain ⟨b, off, hx, hc⟩ := hr' (by omega)
      obtain rfl := Option.some.inj hx
      have hck := hc k (by omega)
      have hfz := hblk.frozen k
      have hwc := hblk.cell k (by simp; omega)
      have hnew := hblk.set k (zs.getD k 0)
      rw [take_set_rep zs n k hz hlt] at hnew
      generalize zs.getD k 0 = z at hck hnew
      have HN := hide hnew
      clear hnew hblk hc hr'
      go_wp2
      go_roundw
      case rel => exact ⟨k + 1, by omega, by go_num, hbel.setCell (Nat.le_refl _) _, by simpa using hsz, unhide HN⟩
      case measure => simp [intOf]; omega
    · go_wp2
      go_ret
      refine ⟨rfl, hbel, ?_⟩
      have : k = n := by omega
      subst this
      simpa [← hz] using hblk

theorem cloneWords_nil (w : World) : Calls Trym.prog 10 #[.slice none 0 0] w fun e w' => e = .returned (.slice none 0 0) ∧ w' = w := by
  have hne := Lib.run_eql_slice_nil (P := Trym.prog)
  go_enter Trym.func10, Trym.ntmps10
  go_wp2
  go_ret
  exact ⟨rfl, rfl⟩

theorem cloneWords_any (a : Option Addr) (n c : Nat) (zs : List Int) (w : World) (hz : zs.length = n) (hn : n ≤ 1048576) (hr : Row w .u64 a zs) (hnil : a = none → n = 0 ∧ c = 0) :
    Calls Trym.prog 10 #[.slice a n c] w fun e w' => ∃ a', e = .returned (.slice a' n n) ∧ Below w.heap.size w w' ∧ Fresh w w' .u64 29 a' zs ∧ a'.isNone = a.isNone := by
  cases a with
  | none =>
    obtain ⟨rfl, rfl⟩ := hnil rfl
    refine (cloneWords_nil w).mono fun e w' h => ?_
    obtain ⟨rfl, rfl⟩ := h
    exact ⟨none, rfl, Below.refl _ _, .inl ⟨rfl, List.eq_nil_of_length_eq_zero hz⟩, rfl⟩
  | some x =>
    refine (cloneWords_some x n c zs w hz hn hr).mono fun e w' h => ?_
    exact ⟨_, h.1, h.2.1, .inr ⟨rfl, h.2.2⟩, rfl⟩

end Go.Proofs.Qxb6600623aMods
