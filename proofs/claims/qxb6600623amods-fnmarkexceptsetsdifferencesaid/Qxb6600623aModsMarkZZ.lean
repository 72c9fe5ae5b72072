import Derived.Test.Qxb6600623aModsMark
set_option linter.unusedVariables false
set_option linter.unusedSimpArgs false
namespace Go.Proofs.Qxb6600623aMods
open Go.RowKit

theorem gr_trans {a b c : World} {r : Option Nat} (h : a.grownBy b r) (k : b.grownBy c r) : a.grownBy c r :=
  ⟨k.os.trans h.os, k.tape.trans h.tape, k.output.trans h.output, Nat.le_trans h.size k.size, fun i hi hn => (k.block i (Nat.lt_of_lt_of_le hi h.size) hn).trans (h.block i hi hn)⟩

set_option maxRecDepth 100000 in
set_option maxHeartbeats 2000000 in
theorem zzmark_any (a0 : Option Addr) (n0 : Nat) (pl : List Int) (a1 : Option Addr) (n1 : Nat) (pb : List Int) (a2 : Option Addr) (n2 : Nat) (ql : List Int) (a3 : Option Addr) (n3 : Nat) (qb : List Int) (a4 : Option Addr) (n4 g : Nat) (A0 : List Int) (w : World) (qn : Bool)
    (h0 : pl.length = n0) (b0 : n0 ≤ 1048576) (r0 : Row w .i64 a0 pl) (i0 : In64 pl) (g0 : ∀ x, a0 = some x → x.block ≠ g)
    (h1 : pb.length = n1) (b1 : n1 ≤ 1048576) (r1 : Row w .u64 a1 pb) (i1 : AllU pb) (g1 : ∀ x, a1 = some x → x.block ≠ g)
    (h2 : ql.length = n2) (b2 : n2 ≤ 1048576) (r2 : Row w .i64 a2 ql) (i2 : In64 ql) (g2 : ∀ x, a2 = some x → x.block ≠ g)
    (h3 : qb.length = n3) (b3 : n3 ≤ 1048576) (r3 : Row w .u64 a3 qb) (i3 : AllU qb) (g3 : ∀ x, a3 = some x → x.block ≠ g) (hqn : a3.isNone = qn)
    (h4 : A0.length = n4) (b4 : n4 ≤ 1048576) (i4 : AllU A0) (hg : g < w.heap.size) (hblk : 0 < n4 → a4 = some ⟨g, 0, none⟩ ∧ Blk w g .u64 29 A0)
    (hP : Prem pl n1 ql n3 qn n4) :
    Calls Trym.prog 12 #[.slice a0 n0 n0, .slice a1 n1 n1, .slice a4 n4 n4, .slice a2 n2 n2, .slice a3 n3 n3] w fun e w' => e = .returned (.tuple #[]) ∧ w.grownBy w' (some g) ∧
      ∃ A, (0 < n4 → Blk w' g .u64 29 A) ∧ M3 A0 pl pb ql qb qn n1 n4 A := by
  refine calls_all fun Q HQE => ?_
  have HB := hide hblk
  have G0 := hide g0
  have G1 := hide g1
  have G2 := hide g2
  have G3 := hide g3
  clear hblk g0 g1 g2 g3
  go_enter Trym.func12, Trym.ntmps12
  go_wp2_with fail
  have hbw : Below w.heap.size w ((w.alloc (.cells #[.slice a0 n0 n0, .slice a1 n1 n1] 57)).alloc (.cells #[.slice a2 n2 n2, .slice a3 n3 n3] 57)) := ((Below.refl _ _).alloc (Nat.le_refl _) _).alloc (by simp) _
  have hgw : w.grownBy ((w.alloc (.cells #[.slice a0 n0 n0, .slice a1 n1 n1] 57)).alloc (.cells #[.slice a2 n2 n2, .slice a3 n3 n3] 57)) (some g) := gr_alloc (gr_alloc (gr_refl _ _) _) _
  refine (mark_any a0 n0 pl a1 n1 pb a2 n2 ql a3 n3 qb a4 n4 g A0 _ qn h0 b0 (r0.below hbw) i0 (unhide G0) h1 b1 (r1.below hbw) i1 (unhide G1) h2 b2 (r2.below hbw) i2 (unhide G2) h3 b3 (r3.below hbw) i3 (unhide G3) hqn h4 b4 i4
    (by simp; omega) (fun h => ⟨(unhide HB h).1, (((unhide HB h).2).alloc _).alloc _⟩) hP).mono ?_
  rintro e w' ⟨rfl, hgr, A, hA, hM⟩
  have HGR := hide (gr_trans hgw hgr)
  have HA := hide hA
  clear hA hgr hgw hbw
  go_wp2
  try go_end0
  exact unhide HQE _ _ ⟨rfl, unhide HGR, A, unhide HA, hM⟩

end Go.Proofs.Qxb6600623aMods
