import Derived.Test.Qxb6600623aModsPrem2
import Derived.Test.Qxb6600623aModsBits
set_option linter.unusedVariables false
set_option linter.unusedSimpArgs false
namespace Go.Proofs.Qxb6600623aMods
open Go.RowKit

set_option maxHeartbeats 1000000 in
theorem dense_any (a0 : Option Addr) (n0 c0 : Nat) (pl : List Int) (a1 : Option Addr) (n1 c1 : Nat) (pb : List Int) (n4 : Nat) (w : World)
    (h0 : pl.length = n0) (b0 : n0 ≤ 1048576) (r0 : Row w .i64 a0 pl) (i0 : In64 pl) (h1 : pb.length = n1) (b1 : n1 ≤ 1048576) (r1 : Row w .u64 a1 pb) (i1 : AllU pb) (b4 : n4 ≤ 1048576) :
    Calls Trym.prog 11 #[.slice a0 n0 c0, .slice a1 n1 c1, .int .i64 n4] w fun e w' => e = .returned (.slice (some ⟨w.heap.size, 0, none⟩) n4 n4) ∧ Below w.heap.size w w' ∧ ∃ A, Blk w' w.heap.size .u64 29 A ∧ Dense pl pb n4 A := by
  obtain ⟨i9, hi, hz0, hz1, hz2⟩ := info_parts Trym.info29
  have hmk : (Instr.makeSlice 23 (.int .i64 (n4 : Int)) (.int .i64 (n4 : Int))).run Trym.prog w = .ok (.slice (some ⟨w.heap.size, 0, none⟩) n4 n4) (w.alloc (.cells (madeCells (Value.int .u64 0).cells (n4 * 1)) 29)) := by
    have := run_make (P := Trym.prog) w 23 29 i9 (.int .u64 0) Trym.underlying23 hi hz0 .i64 .i64 (n4 : Int) (n4 : Int) (by omega) (Int.le_refl _) (by rw [hz2]; omega) (by omega)
    rw [hz1] at this
    simpa using this
  refine calls_all fun Q HQE => ?_
  go_enter Trym.func11, Trym.ntmps11
  go_wp2
  go_loopw [8] (fun i wr => ∃ (k : Nat) (A : List Int), k ≤ n0 ∧ i = .int .i64 k ∧ Below w.heap.size w wr ∧ w.heap.size < wr.heap.size ∧ Blk wr w.heap.size .u64 29 A ∧ D1 pl k n4 A)
    (fun i _ => n0 - (intOf i).toNat)
  case atStart =>
    refine ⟨0, _, Nat.zero_le _, rfl, (Below.refl _ _).alloc (Nat.le_refl _) _, by simp, Blk.made w .u64 29 n4, D1_start pl n4⟩
  case round =>
    obtain ⟨k, A, hk, rfl, hbel, hsz, hblk, hA⟩ := hrel
    have hAl := hA.1
    by_cases hlt : k < n0
    · obtain ⟨b, off, hx, hc⟩ := r0.below hbel (by omega)
      subst hx
      have hck := hc k (by omega)
      have hbd := i0 k (by omega)
      generalize h1 : pl.getD k 0 = x at hck hbd
      obtain ⟨bd1, bd2⟩ := hbd
      have H1 := hide h1
      have HB := hide hblk
      clear h1 hc r0 i0 hblk
      by_cases x0 : x < 0
      · go_wp2
        go_roundw
        case rel => exact ⟨k + 1, A, by omega, by go_num, hbel, hsz, unhide HB, D1_skip (by omega) (.inl (by rw [unhide H1]; exact x0)) hA⟩
        case measure => simp [intOf]; omega
      have x0' : 0 ≤ x := by omega
      by_cases x1 : (n4 : Int) ≤ x / 64
      · go_wp2
        go_roundw
        case rel => exact ⟨k + 1, A, by omega, by go_num, hbel, hsz, unhide HB, D1_skip (by omega) (.inr (by rw [unhide H1]; exact x1)) hA⟩
        case measure => simp [intOf]; omega
      obtain ⟨m, rfl⟩ := Int.eq_ofNat_of_zero_le x0'
      have x2 : m / 64 < n4 := by omega
      have hfz := (unhide HB).frozen (m / 64)
      have hwc := (unhide HB).cell (m / 64) (by omega)
      have hset := (unhide HB).set (m / 64) (bits .or .u64 (A.getD (m / 64) 0) (bitw m))
      have hD := hide (D1_set (by omega) (unhide H1) x2 hA)
      generalize h2 : A.getD (m / 64) 0 = z at hwc hset
      have H2 := hide h2
      have HS := hide hset
      clear h2 hset
      go_wp2
      go_roundw
      case rel => 
        have hD' := unhide hD
        rw [unhide H2] at hD'
        exact ⟨k + 1, _, by omega, by go_num, hbel.setCell (Nat.le_refl _) _, by simpa using hsz, unhide HS, hD'⟩
      case measure => simp [intOf]; omega
    · have hkk : k = n0 := by omega
      subst hkk
      subst h0
      have HD := hide (D2_start (W := pb) hA)
      have HB := hide hblk
      clear hA hblk
      go_wp2
      go_loopw [10] (fun i wr => ∃ (k : Nat) (A : List Int), k ≤ n1 ∧ i = .int .i64 k ∧ Below w.heap.size w wr ∧ w.heap.size < wr.heap.size ∧ Blk wr w.heap.size .u64 29 A ∧ D2 pl pb k n4 A)
        (fun i _ => n1 - (intOf i).toNat)
      case atStart => exact ⟨0, A, Nat.zero_le _, rfl, hbel, hsz, unhide HB, unhide HD⟩
      case round =>
        clear HB HD hbel hsz
        obtain ⟨k, B, hk, rfl, hbel, hsz, hblk, hB⟩ := hrel
        have hBl := hB.1
        by_cases hlt : k < n1
        · by_cases hlt4 : k < n4
          · obtain ⟨b, off, hx, hc⟩ := r1.below hbel (by omega)
            subst hx
            have hck := hc k (by omega)
            have hfz := hblk.frozen k
            have hwc := hblk.cell k (by omega)
            have hset := hblk.set k (bits .or .u64 (B.getD k 0) (pb.getD k 0))
            have hD := D2_step hlt4 i1 hB
            clear hc r1 i1 hblk
            generalize B.getD k 0 = z at hwc hset hD
            generalize pb.getD k 0 = y at hck hset hD
            have HS := hide hset
            have HD := hide hD
            clear hset hD hB
            go_wp2
            go_region
            all_goals go_wp2
            all_goals go_roundw
            case rel => exact ⟨k + 1, _, by omega, by go_num, (hbel.setCell (Nat.le_refl _) _).drew, by simpa using hsz, (unhide HS).drew, unhide HD⟩
            case measure => simp [intOf]; omega
          · have hE := hide (D2_end (.inr (by omega)) hB)
            have HB := hide hblk
            clear hB hblk
            go_wp2
            try go_ret
            exact unhide HQE _ _ ⟨rfl, hbel, _, unhide HB, unhide hE⟩
        · have hE := hide (D2_end (.inl (by omega)) hB)
          have HB := hide hblk
          clear hB hblk
          go_wp2
          try go_ret
          exact unhide HQE _ _ ⟨rfl, hbel, _, unhide HB, unhide hE⟩

end Go.Proofs.Qxb6600623aMods
