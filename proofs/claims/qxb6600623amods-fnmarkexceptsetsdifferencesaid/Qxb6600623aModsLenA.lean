import Derived.Test.Qxb6600623aModsBase
set_option linter.unusedVariables false
set_option linter.unusedSimpArgs false
namespace Go.Proofs.Qxb6600623aMods
open Go.RowKit

set_option maxRecDepth 100000 in
set_option maxHeartbeats 2000000 in
theorem bytesA_any (a0 : Option Addr) (n0 c0 : Nat) (a1 : Option Addr) (n1 c1 : Nat) (a2 : Option Addr) (n2 c2 : Nat) (a3 : Option Addr) (n3 c3 : Nat) (a4 : Option Addr) (n4 c4 : Nat) (w : World)
    (b0 : n0 ≤ 9223372036854775807) (b1 : n1 ≤ 9223372036854775807) (b2 : n2 ≤ 9223372036854775807) (b3 : n3 ≤ 9223372036854775807) (b4 : n4 ≤ 9223372036854775807) :
    Calls Trym.prog 7 #[.slice a0 n0 c0, .slice a1 n1 c1, .slice a2 n2 c2, .slice a3 n3 c3, .slice a4 n4 c4] w fun e w' => ∃ b, e = .returned (.bool b) ∧ w = w' ∧ (b = true → n0 + n1 + n2 + n3 + n4 ≤ 1048576) := by
  refine calls_all fun Q HQE => ?_
  by_cases t0 : 1048576 < n0
  · go_enter Trym.func7, Trym.ntmps7
    go_wp2
    try go_ret
    exact unhide HQE _ _ ⟨false, rfl, rfl, fun h => by cases h⟩
  by_cases t1 : 1048576 < n1
  · go_enter Trym.func7, Trym.ntmps7
    go_wp2
    try go_ret
    exact unhide HQE _ _ ⟨false, rfl, rfl, fun h => by cases h⟩
  by_cases s1 : 1048576 < n0 + n1
  · go_enter Trym.func7, Trym.ntmps7
    go_wp2
    try go_ret
    exact unhide HQE _ _ ⟨false, rfl, rfl, fun h => by cases h⟩
  by_cases t2 : 1048576 < n2
  · go_enter Trym.func7, Trym.ntmps7
    go_wp2
    try go_ret
    exact unhide HQE _ _ ⟨false, rfl, rfl, fun h => by cases h⟩
  by_cases s2 : 1048576 < n0 + n1 + n2
  · go_enter Trym.func7, Trym.ntmps7
    go_wp2
    try go_ret
    exact unhide HQE _ _ ⟨false, rfl, rfl, fun h => by cases h⟩
  by_cases t3 : 1048576 < n3
  · go_enter Trym.func7, Trym.ntmps7
    go_wp2
    try go_ret
    exact unhide HQE _ _ ⟨false, rfl, rfl, fun h => by cases h⟩
  by_cases s3 : 1048576 < n0 + n1 + n2 + n3
  · go_enter Trym.func7, Trym.ntmps7
    go_wp2
    try go_ret
    exact unhide HQE _ _ ⟨false, rfl, rfl, fun h => by cases h⟩
  by_cases t4 : 1048576 < n4
  · go_enter Trym.func7, Trym.ntmps7
    go_wp2
    try go_ret
    exact unhide HQE _ _ ⟨false, rfl, rfl, fun h => by cases h⟩
  by_cases s4 : 1048576 < n0 + n1 + n2 + n3 + n4
  · go_enter Trym.func7, Trym.ntmps7
    go_wp2
    try go_ret
    exact unhide HQE _ _ ⟨false, rfl, rfl, fun h => by cases h⟩
  · go_enter Trym.func7, Trym.ntmps7
    go_wp2
    try go_ret
    exact unhide HQE _ _ ⟨true, rfl, rfl, fun _ => by omega⟩

end Go.Proofs.Qxb6600623aMods
