import Derived.Test.Qxb6600973aModsLog
set_option linter.unusedVariables false
set_option linter.unusedSimpArgs false
namespace Go.Proofs.Qxb6600973aMods
open Go.RowKit

theorem below_chain {a b c : World} (h : Below a.heap.size a b) (k : Below b.heap.size b c) : Below a.heap.size a c := h.trans (k.mono h.size)

/-- Behind 'add' the longest unsent frame is the larger of the two. -/
theorem lon_add (u l a n : Int) (hu : 0 ≤ u) (hn : 0 ≤ n) : lon (u + n) (addL u l a n) (addA u l a n) = if lon u l a < n then n else lon u l a := by
  have e : lon (u + n) l (a + n) = lon u l a := by
    unfold lon
    rw [show u + n - (a + n) = u - a by omega]
  unfold addL addA
  rw [e]
  by_cases h : lon u l a ≤ n
  · rw [if_pos h, if_pos h]
    have : lon (u + n) n 0 = n := by unfold lon; split <;> split <;> omega
    rw [this]
    split <;> omega
  · rw [if_neg h, if_neg h, e, if_neg (by omega)]

set_option maxRecDepth 100000 in
set_option maxHeartbeats 4000000 in
theorem step_any (u l a n : Int) (w : World) (hu : -9223372036854775808 ≤ u ∧ u ≤ 9223372036854775807) (hl : -9223372036854775808 ≤ l ∧ l ≤ 9223372036854775807) (ha : -9223372036854775808 ≤ a ∧ a ≤ 9223372036854775807) (hn : -9223372036854775808 ≤ n ∧ n ≤ 9223372036854775807) :
    Calls Trym.prog 5 #[.int .i64 u, .int .i64 l, .int .i64 a, .int .i64 n] w fun e w' => e = .returned (.bool true) ∧ Below w.heap.size w w' := by
  refine calls_all fun Q HQE => ?_
  obtain ⟨hu1, hu2⟩ := hu
  obtain ⟨hl1, hl2⟩ := hl
  obtain ⟨ha1, ha2⟩ := ha
  obtain ⟨hn1, hn2⟩ := hn
  by_cases t0 : u < 0
  · go_enter Trym.func5, Trym.ntmps5
    go_wp2
    try go_ret
    exact unhide HQE _ _ ⟨rfl, Below.refl _ _⟩
  by_cases t1 : 536870912 < u
  · go_enter Trym.func5, Trym.ntmps5
    go_wp2
    try go_ret
    exact unhide HQE _ _ ⟨rfl, Below.refl _ _⟩
  by_cases t2 : l < -536870912
  · go_enter Trym.func5, Trym.ntmps5
    go_wp2
    try go_ret
    exact unhide HQE _ _ ⟨rfl, Below.refl _ _⟩
  by_cases t3 : 536870912 < l
  · go_enter Trym.func5, Trym.ntmps5
    go_wp2
    try go_ret
    exact unhide HQE _ _ ⟨rfl, Below.refl _ _⟩
  by_cases t4 : a < -536870912
  · go_enter Trym.func5, Trym.ntmps5
    go_wp2
    try go_ret
    exact unhide HQE _ _ ⟨rfl, Below.refl _ _⟩
  by_cases t5 : 536870912 < a
  · go_enter Trym.func5, Trym.ntmps5
    go_wp2
    try go_ret
    exact unhide HQE _ _ ⟨rfl, Below.refl _ _⟩
  by_cases t6 : n < 0
  · go_enter Trym.func5, Trym.ntmps5
    go_wp2
    try go_ret
    exact unhide HQE _ _ ⟨rfl, Below.refl _ _⟩
  by_cases t7 : 536870912 < n
  · go_enter Trym.func5, Trym.ntmps5
    go_wp2
    try go_ret
    exact unhide HQE _ _ ⟨rfl, Below.refl _ _⟩
  go_enter Trym.func5, Trym.ntmps5
  go_wp2_with fail
  refine (zzlong_any u l a w (by omega) (by omega)).mono ?_
  rintro e w1 ⟨rfl, hb1⟩
  go_wp2_with fail
  refine (zzadd_any u l a n w1 (by omega) (by omega) (by omega)).mono ?_
  rintro e w2 ⟨rfl, hb2⟩
  have hLA : (addA u l a n = 0 ∨ addA u l a n = a + n) := by unfold addA; split <;> simp
  have hla1 : -4294967296 ≤ addA u l a n ∧ addA u l a n ≤ 4294967296 := by omega
  go_wp2_with fail
  refine (zzlong_any (u + n) (addL u l a n) (addA u l a n) w2 (by omega) hla1).mono ?_
  rintro e w3 ⟨rfl, hb3⟩
  have hb := below_chain hb1 (below_chain hb2 hb3)
  rw [lon_add u l a n (by omega) (by omega)]
  generalize lon u l a = x
  generalize addL u l a n = y
  generalize addA u l a n = z
  by_cases hx : x < n
  · rw [if_pos hx]
    go_wp2
    try go_ret
    exact unhide HQE _ _ ⟨by simp, hb⟩
  · rw [if_neg hx]
    go_wp2
    try go_ret
    exact unhide HQE _ _ ⟨by simp, hb⟩

end Go.Proofs.Qxb6600973aMods
