import Derived.Test.Qxb6600623aModsClone
set_option linter.unusedVariables false
set_option linter.unusedSimpArgs false
namespace Go.Proofs.Qxb6600623aMods
open Go.RowKit

/-- Each number is at most the next. -/
def NonDec (zs : List Int) : Prop := ∀ j, j + 1 < zs.length → zs.getD j 0 ≤ zs.getD (j + 1) 0

theorem nonDec_any (a : Option Addr) (n c : Nat) (zs : List Int) (w : World) (hz : zs.length = n) (hn : n ≤ 1048576) (hr : Row w .i64 a zs) :
    Calls Trym.prog 36 #[.slice a n c] w fun e w' => ∃ b, e = .returned (.bool b) ∧ Below w.heap.size w w' ∧ (b = true → NonDec zs) := by
  go_enter Trym.func36, Trym.ntmps36
  go_wp2
  go_loopw [3] (fun i wr => ∃ k : Nat, 1 ≤ k ∧ (k ≤ n ∨ k = 1) ∧ i = .int .i64 k ∧ Below w.heap.size w wr ∧ ∀ j, j + 1 < k → zs.getD j 0 ≤ zs.getD (j + 1) 0)
    (fun i _ => n - (intOf i).toNat)
  case atStart => exact ⟨1, Nat.le_refl _, .inr rfl, rfl, Below.refl _ _, fun j hj => by omega⟩
  case round =>
    obtain ⟨k, hk1, hk, rfl, hbel, hs⟩ := hrel
    by_cases hlt : k < n
    · have hr' := hr.below hbel
      obtain ⟨b, off, hx, hc⟩ := hr' (by omega)
      subst hx
      obtain ⟨m, rfl⟩ : ∃ m, k = m + 1 := ⟨k - 1, by omega⟩
      have hck := hc m (by omega)
      have hck1 := hc (m + 1) (by omega)
      have HS := hide hs
      clear hs hc hr'
      generalize h1 : zs.getD m 0 = x at hck
      generalize h2 : zs.getD (m + 1) 0 = y at hck1
      have H1 := hide h1
      have H2 := hide h2
      clear h1 h2
      by_cases hxy : y < x
      · go_wp2
        go_region
        all_goals go_wp2
        all_goals go_ret
        all_goals exact ⟨false, rfl, hbel.drew, fun h => by cases h⟩
      · go_wp2
        go_region
        all_goals go_wp2
        all_goals go_roundw
        case rel => 
          refine ⟨m + 2, by omega, by omega, by go_num, hbel.drew, fun j hj => ?_⟩
          rcases Nat.lt_or_ge (j + 1) (m + 1) with h | h
          · exact unhide HS j h
          · have : j = m := by omega
            subst this
            rw [unhide H1, unhide H2]; omega
        case measure => simp [intOf]; omega
    · go_wp2
      go_ret
      refine ⟨true, rfl, hbel, fun _ j hj => hs j (by omega)⟩

end Go.Proofs.Qxb6600623aMods
