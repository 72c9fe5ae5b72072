import Derived.Test.Qxb6600623aModsCBase
import Derived.BigQuiet
import Derived.Deep.QuietTactic
set_option linter.unusedVariables false
set_option linter.unusedSimpArgs false
namespace Go.Proofs.Qxb6600623aMods
open Go.RowKit

/-- Each is less than | at most the next. -/
def Asc (zs : List Int) : Prop := ∀ j, j + 1 < zs.length → zs.getD j 0 < zs.getD (j + 1) 0
def NDec (zs : List Int) : Prop := ∀ j, j + 1 < zs.length → zs.getD j 0 ≤ zs.getD (j + 1) 0
theorem Asc.nd {zs : List Int} (h : Asc zs) : NDec zs := fun j hj => by have := h j hj; omega
theorem NDec.le {zs : List Int} (h : NDec zs) {i j : Nat} (hij : i ≤ j) (hj : j < zs.length) : zs.getD i 0 ≤ zs.getD j 0 := by
  induction j with
  | zero =>
    have : i = 0 := by omega
    subst this; exact Int.le_refl _
  | succ j ih =>
    rcases Nat.lt_or_ge i (j + 1) with h1 | h1
    · exact Int.le_trans (ih (by omega) (by omega)) (h j hj)
    · have : i = j + 1 := by omega
      subst this; exact Int.le_refl _

set_option maxRecDepth 100000 in
set_option maxHeartbeats 2000000 in
theorem asc_any (a : Option Addr) (n c : Nat) (zs : List Int) (w : World) (hz : zs.length = n) (hn : n ≤ 1048576) (hr : Row w .i64 a zs) (hA : Asc zs) :
    Calls Trym.prog 33 #[.slice a n c] w fun e w' => e = .returned (.bool true) ∧ Below w.heap.size w w' := by
  refine calls_all fun Q HQE => ?_
  go_enter Trym.func33, Trym.ntmps33
  go_wp2
  go_loopw [3] (fun i wr => ∃ k : Nat, 1 ≤ k ∧ (k ≤ n ∨ k = 1) ∧ i = .int .i64 k ∧ Below w.heap.size w wr) (fun i _ => n - (intOf i).toNat)
  case atStart => exact ⟨1, Nat.le_refl _, .inr rfl, rfl, Below.refl _ _⟩
  case round =>
    obtain ⟨k, hk1, hk, rfl, hbel⟩ := hrel
    by_cases hlt : k < n
    · obtain ⟨b, off, hx, hc⟩ := hr.below hbel (by omega)
      subst hx
      obtain ⟨m, rfl⟩ : ∃ m, k = m + 1 := ⟨k - 1, by omega⟩
      have hck := hc m (by omega)
      have hck1 := hc (m + 1) (by omega)
      have hxy := hA m (by omega)
      clear hc
      generalize zs.getD m 0 = x at hck hxy
      generalize zs.getD (m + 1) 0 = y at hck1 hxy
      go_wp2
      go_region
      all_goals go_wp2
      all_goals go_roundw
      case rel => exact ⟨m + 2, by omega, by omega, by go_num, hbel.drew⟩
      case measure => simp [intOf]; omega
    · go_wp2
      try go_ret
      exact unhide HQE _ _ ⟨rfl, hbel⟩

set_option maxRecDepth 100000 in
set_option maxHeartbeats 2000000 in
theorem ndec_any (a : Option Addr) (n c : Nat) (zs : List Int) (w : World) (hz : zs.length = n) (hn : n ≤ 1048576) (hr : Row w .i64 a zs) (hA : NDec zs) :
    Calls Trym.prog 36 #[.slice a n c] w fun e w' => e = .returned (.bool true) ∧ Below w.heap.size w w' := by
  refine calls_all fun Q HQE => ?_
  go_enter Trym.func36, Trym.ntmps36
  go_wp2
  go_loopw [3] (fun i wr => ∃ k : Nat, 1 ≤ k ∧ (k ≤ n ∨ k = 1) ∧ i = .int .i64 k ∧ Below w.heap.size w wr) (fun i _ => n - (intOf i).toNat)
  case atStart => exact ⟨1, Nat.le_refl _, .inr rfl, rfl, Below.refl _ _⟩
  case round =>
    obtain ⟨k, hk1, hk, rfl, hbel⟩ := hrel
    by_cases hlt : k < n
    · obtain ⟨b, off, hx, hc⟩ := hr.below hbel (by omega)
      subst hx
      obtain ⟨m, rfl⟩ : ∃ m, k = m + 1 := ⟨k - 1, by omega⟩
      have hck := hc m (by omega)
      have hck1 := hc (m + 1) (by omega)
      have hxy := hA m (by omega)
      clear hc
      generalize zs.getD m 0 = x at hck hxy
      generalize zs.getD (m + 1) 0 = y at hck1 hxy
      go_wp2
      go_region
      all_goals go_wp2
      all_goals go_roundw
      case rel => exact ⟨m + 2, by omega, by omega, by go_num, hbel.drew⟩
      case measure => simp [intOf]; omega
    · go_wp2
      try go_ret
      exact unhide HQE _ _ ⟨rfl, hbel⟩

set_option maxRecDepth 100000 in
set_option maxHeartbeats 2000000 in
theorem has_any (a : Option Addr) (n c : Nat) (zs : List Int) (x : Int) (w : World) (hz : zs.length = n) (hn : n ≤ 1048576) (hr : Row w .i64 a zs) :
    Calls Trym.prog 35 #[.slice a n c, .int .i64 x] w fun e w' => e = .returned (.bool (decide (x ∈ zs))) ∧ w = w' := by
  refine calls_all fun Q HQE => ?_
  go_enter Trym.func35, Trym.ntmps35
  go_wp2
  go_loop [5] (fun i => ∃ k : Nat, k ≤ n ∧ i = .int .i64 k ∧ Hid (∀ j, j < k → zs.getD j 0 ≠ x)) (fun i => n - (intOf i).toNat)
  case atStart => exact ⟨0, Nat.zero_le _, rfl, fun j hj => absurd hj (Nat.not_lt_zero _)⟩
  case round =>
    obtain ⟨k, hk, rfl, hall⟩ := hrel
    by_cases hlt : k < n
    · obtain ⟨b, off, hx, hc⟩ := hr (by omega)
      subst hx
      have hck := hc k (by omega)
      clear hc
      generalize hy : zs.getD k 0 = y at hck
      have HY := hide hy
      clear hy
      by_cases hyx : y = x
      · have hyx' : (y == x) = true := by simp [hyx]
        have HYX := hide hyx
        clear hyx
        go_wp2
        try go_ret
        have : decide (x ∈ zs) = true := by
          refine decide_eq_true ?_
          rw [← unhide HYX, ← unhide HY]
          simp [List.getD, show k < zs.length by omega]
        refine unhide HQE _ _ ⟨by rw [this], rfl⟩
      · have hyx' : (y == x) = false := by simp [hyx]
        have HYX := hide hyx
        clear hyx
        go_wp2
        go_round
        case rel =>
          refine ⟨k + 1, by omega, by go_num, fun j hj => ?_⟩
          rcases Nat.lt_or_ge j k with h | h
          · exact hall.out j h
          · have : j = k := by omega
            subst this
            rw [unhide HY]; exact unhide HYX
        case measure => simp [intOf]; omega
    · go_wp2
      try go_ret
      have : decide (x ∈ zs) = false := by
        refine decide_eq_false fun h => ?_
        obtain ⟨i, hi, e⟩ := List.mem_iff_getElem.1 h
        exact hall.out i (by omega) (by simp [List.getD, hi, e])
      refine unhide HQE _ _ ⟨by rw [this], rfl⟩

set_option maxRecDepth 100000 in
set_option maxHeartbeats 4000000 in
theorem subset_any (a : Option Addr) (n c : Nat) (sub : List Int) (a1 : Option Addr) (n1 c1 : Nat) (sup : List Int) (w : World) (hz : sub.length = n) (hn : n ≤ 1048576) (hr : Row w .i64 a sub)
    (hz1 : sup.length = n1) (hn1 : n1 ≤ 1048576) (hr1 : Row w .i64 a1 sup) (hA : NDec sub) (hB : NDec sup) (hin : ∀ x ∈ sub, x ∈ sup) :
    Calls Trym.prog 34 #[.slice a n c, .slice a1 n1 c1] w fun e w' => e = .returned (.bool true) ∧ Below w.heap.size w w' := by
  refine calls_all fun Q HQE => ?_
  have HIN := hide hin
  clear hin
  go_enter Trym.func34, Trym.ntmps34
  go_wp2
  go_loopw [5, 6] (fun jv i wr => ∃ k j : Nat, k ≤ n ∧ j ≤ n1 ∧ i = .int .i64 k ∧ jv = .int .i64 j ∧ Below w.heap.size w wr ∧ Hid (∀ p, p < j → ∀ k', k ≤ k' → k' < n → sup.getD p 0 < sub.getD k' 0)) (fun _ i _ => n - (intOf i).toNat)
  case atStart => exact ⟨0, 0, Nat.zero_le _, Nat.zero_le _, rfl, rfl, Below.refl _ _, fun p hp => absurd hp (Nat.not_lt_zero _)⟩
  case round =>
    obtain ⟨k, j0, hk, hj0, rfl, rfl, hbel0, hlow0⟩ := hrel
    by_cases hlt : k < n
    · obtain ⟨b, off, hx, hc0⟩ := hr (by omega)
      subst hx
      have hcs0 := hc0 k (by omega)
      have hmem : sub.getD k 0 ∈ sub := by simp [List.getD, show k < sub.length by omega]
      have hup := unhide HIN _ hmem
      have hmono : ∀ k', k ≤ k' → k' < n → sub.getD k 0 ≤ sub.getD k' 0 := fun k' h1 h2 => hA.le h1 (by omega)
      have hlow1 : ∀ p, p < j0 → sup.getD p 0 < sub.getD k 0 := fun p hp => hlow0.out p hp k (Nat.le_refl _) hlt
      generalize sub.getD k 0 = x at hcs0 hup hmono hlow1
      have HUP := hide hup
      have HMONO := hide hmono
      have HLOW1 := hide hlow1
      have hblt : b < w.heap.size := World.block_lt_of_cell? w _ hcs0
      clear hc0 hmem hup hmono hlow1
      go_wp2
      go_loopw [5] (fun jv wr => ∃ j : Nat, j ≤ n1 ∧ jv = .int .i64 j ∧ Below w.heap.size w wr ∧ Hid (∀ p, p < j → sup.getD p 0 < x)) (fun jv _ => n1 - (intOf jv).toNat)
      case atStart => exact ⟨j0, hj0, rfl, hbel0, unhide HLOW1⟩
      case round =>
        clear HLOW1
        obtain ⟨j, hj, rfl, hbel, hlow⟩ := hrel
        have hcs := (hbel.cell (p := ⟨b, off + k, none⟩) hblt).trans hcs0
        by_cases hj1 : j < n1
        · obtain ⟨b1, off1, hx1, hc1⟩ := hr1.below hbel (by omega)
          subst hx1
          have hcp := hc1 j (by omega)
          clear hc1
          have hle : ∀ m, j ≤ m → m < n1 → sup.getD j 0 ≤ sup.getD m 0 := fun m h1 h2 => hB.le h1 (by omega)
          generalize hy : sup.getD j 0 = y at hcp hle
          have HY := hide hy
          have HLE := hide hle
          clear hy hle
          by_cases hyx : y < x
          · go_wp2
            go_quiet (fail)
            go_wp2
            go_roundw
            case rel =>
              refine ⟨j + 1, by omega, by go_num, below_drewN hbel _, fun p hp => ?_⟩
              rcases Nat.lt_or_ge p j with h | h
              · exact hlow.out p h
              · have : p = j := by omega
                subst this
                rw [unhide HY]; exact hyx
            case measure => simp [intOf]; omega
          · have hyx2 : y = x := by
              obtain ⟨m, hm, e⟩ := List.mem_iff_getElem.1 (unhide HUP)
              have e' : sup.getD m 0 = x := by simp [List.getD, hm, e]
              have h1 : j ≤ m := by
                rcases Nat.lt_or_ge m j with h | h
                · have := hlow.out m h; omega
                · exact h
              have := unhide HLE m h1 (by omega)
              omega
            subst hyx2
            have hj2 : ((j : Int) == (n1 : Int)) = false := by simp; omega
            go_wp2
            go_quiet (fail)
            go_wp2
            go_quiet (fail)
            go_wp2
            go_roundw
            case rel => exact ⟨k + 1, j, by omega, by omega, by go_num, rfl, below_drewN hbel _, fun p hp k' h1 h2 => Int.lt_of_lt_of_le (hlow.out p hp) (unhide HMONO k' (by omega) h2)⟩
            case measure => simp [intOf]; omega
        · exfalso
          obtain ⟨m, hm, e⟩ := List.mem_iff_getElem.1 (unhide HUP)
          have e' : sup.getD m 0 = x := by simp [List.getD, hm, e]
          have := hlow.out m (by omega)
          omega
    · go_wp2
      try go_ret
      exact unhide HQE _ _ ⟨rfl, hbel0⟩

end Go.Proofs.Qxb6600623aMods
