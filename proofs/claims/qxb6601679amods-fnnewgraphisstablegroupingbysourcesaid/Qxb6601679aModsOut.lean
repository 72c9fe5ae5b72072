import Derived.Test.Qxb6601679aModsGraph
set_option linter.unusedVariables false
set_option linter.unusedSimpArgs false
namespace Go.Proofs.Qxb6601679aMods
open Go.RowKit

set_option maxRecDepth 100000 in
set_option maxHeartbeats 4000000 in
theorem zznew_any (n : Nat) (a : Option Addr) (m c : Nat) (zs : List Int) (w : World) (hz : zs.length = m * 2) (hn : n ≤ 65536) (hm : m ≤ 131072) (hr : Row w .i32 a zs) (hsrc : SrcIn n zs m) :
    Calls Trym.prog 12 #[.int .i64 n, .slice a m c] w fun e w' => ∃ (b1 b2 : Nat) (fs ns : List Int), e = .returned (.tuple #[.slice (some ⟨b1, 0, none⟩) (n + 1) (n + 1), .slice (some ⟨b2, 0, none⟩) m m]) ∧ Below w.heap.size w w' ∧ Pre w' b1 .i32 21 fs ∧ Pre w' b2 .i32 21 ns ∧ IsGraph zs n m fs ns := by
  refine calls_all fun Q HQE => ?_
  go_enter Trym.func12, Trym.ntmps12
  go_wp2_with fail
  refine (newGraph_any n a m c zs w hz hn hm hr hsrc).mono ?_
  rintro e w1 ⟨b1, b2, fs, ns, rfl, hb, h1, h2, hg⟩
  have HG := hide hg
  have hb2 := hb.alloc hb.size (.cells #[.slice (some ⟨b1, 0, none⟩) (n + 1) (n + 1), .slice (some ⟨b2, 0, none⟩) m m] 44)
  have h12 := h1.alloc (.cells #[.slice (some ⟨b1, 0, none⟩) (n + 1) (n + 1), .slice (some ⟨b2, 0, none⟩) m m] 44)
  have h22 := h2.alloc (.cells #[.slice (some ⟨b1, 0, none⟩) (n + 1) (n + 1), .slice (some ⟨b2, 0, none⟩) m m] 44)
  have H1 := hide h12
  have H2 := hide h22
  have HB := hide hb2
  clear hg h12 h22 hb2 h1 h2 hb
  go_wp2
  go_region
  go_wp2
  try go_ret2
  exact unhide HQE _ _ ⟨b1, b2, fs, ns, rfl, (unhide HB).drew, unhide H1, unhide H2, unhide HG⟩

theorem bytes14 (n : Int) (a : Option Addr) (m c : Nat) (a' : Option Addr) (m' c' : Nat) (w : World) (hm : m ≤ 9223372036854775807) (hm' : m' ≤ 9223372036854775807) :
    Calls Trym.prog 14 #[.int .i64 n, .slice a m c, .slice a' m' c'] w fun e w' => ∃ b, e = .returned (.bool b) ∧ w = w' := by
  refine calls_all fun Q HQE => ?_
  by_cases t0 : 1048576 < m
  · go_enter Trym.func14, Trym.ntmps14
    go_wp2
    try go_ret
    exact unhide HQE _ _ ⟨false, rfl, rfl⟩
  by_cases t1 : 1048576 < m'
  · go_enter Trym.func14, Trym.ntmps14
    go_wp2
    try go_ret
    exact unhide HQE _ _ ⟨false, rfl, rfl⟩
  by_cases t2 : 1048576 < m + m'
  · go_enter Trym.func14, Trym.ntmps14
    go_wp2
    try go_ret
    exact unhide HQE _ _ ⟨false, rfl, rfl⟩
  · go_enter Trym.func14, Trym.ntmps14
    go_wp2
    try go_ret
    exact unhide HQE _ _ ⟨true, rfl, rfl⟩

/-- The row of node v's targets. -/
def OutRow (w : World) (a : Option Addr) (zs ns : List Int) (m : Nat) (v : Nat) : Prop :=
  ∃ L : List Int, L.length = C zs v m ∧ (∀ i, i < C zs v m → L.getD i 0 = ns.getD (G zs v m + i) 0) ∧ Row w .i32 a L

set_option maxRecDepth 100000 in
set_option maxHeartbeats 4000000 in
theorem out_any (n m b1 b2 v : Nat) (zs fs ns : List Int) (w : World) (hn : n ≤ 65536) (hm : m ≤ 131072) (h1 : Pre w b1 .i32 21 fs) (h2 : Pre w b2 .i32 21 ns) (hg : IsGraph zs n m fs ns) (hv : v < n) :
    Calls Trym.prog 15 #[.slice (some ⟨b1, 0, none⟩) (n + 1) (n + 1), .slice (some ⟨b2, 0, none⟩) m m, .int .i64 v] w fun e w' => ∃ a' c', e = .returned (.tuple #[.slice a' (C zs v m) c', .bool true]) ∧ w = w' ∧ OutRow w a' zs ns m v := by
  refine calls_all fun Q HQE => ?_
  have k0 := h1.cell v (by rw [hg.flen]; omega)
  have k1 := h1.cell (v + 1) (by rw [hg.flen]; omega)
  rw [hg.first v (by omega)] at k0
  rw [hg.first (v + 1) (by omega), show ((v + 1 : Nat) : Int) = (v : Int) + 1 by omega, G_succ] at k1
  have hle := G_le zs ((v : Int) + 1) m
  rw [G_succ] at hle
  have hout : OutRow w (some ⟨b2, G zs v m, none⟩) zs ns m v := by
    refine ⟨(ns.drop (G zs v m)).take (C zs v m), by rw [List.length_take, List.length_drop, hg.nlen]; omega, fun i hi => ?_, fun _ => ⟨b2, _, rfl, fun i hi => ?_⟩⟩
    · simp [List.getD, hi]
    · rw [List.length_take, List.length_drop, hg.nlen] at hi
      rw [h2.cell _ (by rw [hg.nlen]; omega)]
      simp [List.getD, show i < C zs v m by omega]
  have hout0 : C zs v m = 0 → ∀ a', OutRow w a' zs ns m v := fun h a' => ⟨[], by rw [h]; rfl, fun i hi => by omega, fun h => by simp at h⟩
  have HO := hide hout
  have HO0 := hide hout0
  have ec : ((G zs v m + C zs v m : Nat) : Int) = (G zs v m : Int) + C zs v m := by omega
  rw [ec] at k1
  clear hout hout0 hg ec
  generalize C zs v m = x1 at *
  generalize G zs v m = x0 at *
  go_enter Trym.func15, Trym.ntmps15
  go_wp2
  · exact unhide HQE _ _ ⟨_, _, rfl, rfl, unhide HO0 (by omega) _⟩
  · exact unhide HQE _ _ ⟨_, _, rfl, rfl, unhide HO⟩

end Go.Proofs.Qxb6601679aMods
