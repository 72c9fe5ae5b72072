import Derived.Test.Qxb6600623aModsPrem
set_option linter.unusedVariables false
set_option linter.unusedSimpArgs false
namespace Go.Proofs.Qxb6600623aMods
open Go.RowKit

/-- What markExcept asks. 'qn': q has no bitmap. -/
structure Prem (pl : List Int) (n1 : Nat) (ql : List Int) (n3 : Nat) (qn : Bool) (n4 : Nat) : Prop where
  pbits : n1 ≤ n4
  qbits : qn = false → n1 ≤ n3
  pdec : NonDec pl
  qdec : NonDec ql
  pin : ∀ k, k < pl.length → 0 ≤ pl.getD k 0 ∧ pl.getD k 0 / 64 < n4 ∧ (qn = false → pl.getD k 0 / 64 < n3)
  qin : ∀ k, k < ql.length → 0 ≤ ql.getD k 0

set_option maxHeartbeats 1000000 in
theorem prem_any (a0 : Option Addr) (n0 c0 : Nat) (pl : List Int) (a1 : Option Addr) (n1 c1 : Nat) (a2 : Option Addr) (n2 c2 : Nat) (ql : List Int) (a3 : Option Addr) (n3 c3 n4 : Nat) (w : World)
    (h0 : pl.length = n0) (b0 : n0 ≤ 1048576) (r0 : Row w .i64 a0 pl) (i0 : In64 pl) (b1 : n1 ≤ 1048576) (h2 : ql.length = n2) (b2 : n2 ≤ 1048576) (r2 : Row w .i64 a2 ql) (b3 : n3 ≤ 1048576) (b4 : n4 ≤ 1048576) :
    Calls Trym.prog 8 #[.slice a0 n0 c0, .slice a1 n1 c1, .slice a2 n2 c2, .slice a3 n3 c3, .int .i64 n4] w fun e w' => ∃ b, e = .returned (.bool b) ∧ Below w.heap.size w w' ∧ (b = true → Prem pl n1 ql n3 a3.isNone n4) := by
  have hne := run_neq_slice_nil_any (P := Trym.prog)
  by_cases t1 : n4 < n1
  · go_enter Trym.func8, Trym.ntmps8
    go_wp2
    go_ret
    exact ⟨false, rfl, Below.refl _ _, fun h => by cases h⟩
  by_cases t2 : a3.isNone = false ∧ n3 < n1
  · obtain ⟨t2, t3⟩ := t2
    go_enter Trym.func8, Trym.ntmps8
    go_wp2
    go_ret
    exact ⟨false, rfl, Below.refl _ _, fun h => by cases h⟩
  have t3 : a3.isNone = false → n1 ≤ n3 := fun h => by
    rcases Nat.lt_or_ge n3 n1 with h' | h'
    · exact absurd ⟨h, h'⟩ t2
    · exact h'
  clear t2
  have key : ∀ q : Bool, a3.isNone = q → Calls Trym.prog 8 #[.slice a0 n0 c0, .slice a1 n1 c1, .slice a2 n2 c2, .slice a3 n3 c3, .int .i64 n4] w fun e w' => ∃ b, e = .returned (.bool b) ∧ Below w.heap.size w w' ∧ (b = true → Prem pl n1 ql n3 q n4) := by
    intro q hq
    refine calls_all fun Q HQE => ?_
    rw [hq] at t3
    cases q
    · have t4 := t3 rfl
      go_enter Trym.func8, Trym.ntmps8
      go_wp2_with fail
      refine (nonDec_any a0 n0 c0 pl w h0 b0 r0).mono ?_
      rintro e w1 ⟨x, rfl, hb1, hx⟩
      have HX := hide hx
      clear hx
      cases x
      · go_wp2
        try go_ret
        exact unhide HQE _ _ ⟨false, rfl, hb1, fun h => by cases h⟩
      have hp1 := hide (unhide HX rfl)
      clear HX
      go_wp2_with fail
      refine (nonDec_any a2 n2 c2 ql w1 h2 b2 (r2.below hb1)).mono ?_
      rintro e w2 ⟨x, rfl, hb2, hx⟩
      have hb := hb1.trans (hb2.mono hb1.size)
      have HX := hide hx
      clear hx hb2 hb1
      cases x
      · go_wp2
        try go_ret
        exact unhide HQE _ _ ⟨false, rfl, hb, fun h => by cases h⟩
      have hp2 := hide (unhide HX rfl)
      clear HX
      go_wp2
      have rw0 := r0.below hb
      have rw2 := r2.below hb
      go_loop [11] (fun i => ∃ k : Nat, k ≤ n0 ∧ i = .int .i64 k ∧ ∀ j, j < k → 0 ≤ pl.getD j 0 ∧ pl.getD j 0 / 64 < n4 ∧ (false = false → pl.getD j 0 / 64 < n3)) (fun i => n0 - (intOf i).toNat)
      case atStart => exact ⟨0, Nat.zero_le _, rfl, fun j hj => absurd hj (Nat.not_lt_zero _)⟩
      case round =>
        obtain ⟨k, hk, rfl, hall⟩ := hrel
        have HA := hide hall
        clear hall
        by_cases hlt : k < n0
        · obtain ⟨b, off, hx, hc⟩ := rw0 (by omega)
          subst hx
          have hck := hc k (by omega)
          clear hc rw0 rw2
          have hbd := i0 k (by omega)
          generalize h1 : pl.getD k 0 = x at hck hbd
          obtain ⟨bd1, bd2⟩ := hbd
          have H1 := hide h1
          clear h1
          by_cases x0 : x < 0
          · go_wp2
            try go_ret
            exact unhide HQE _ _ ⟨false, rfl, hb, fun h => by cases h⟩
          have x0' : 0 ≤ x := by omega
          by_cases x1 : (n4 : Int) ≤ x / 64
          · go_wp2
            try go_ret
            exact unhide HQE _ _ ⟨false, rfl, hb, fun h => by cases h⟩
          by_cases x2 : (n3 : Int) ≤ x / 64
          · go_wp2
            try go_ret
            exact unhide HQE _ _ ⟨false, rfl, hb, fun h => by cases h⟩
          go_wp2
          go_round
          case rel =>
            refine ⟨k + 1, by omega, by go_num, fun j hj => ?_⟩
            rcases Nat.lt_or_ge j k with h | h
            · simpa using unhide HA j h
            · have : j = k := by omega
              subst this
              rw [unhide H1]
              exact ⟨x0', by omega, fun _ => by omega⟩
          case measure => simp [intOf]; omega
        · have hkk : k = n0 := by omega
          subst hkk
          go_wp2
          go_loop [13] (fun i => ∃ k : Nat, k ≤ n2 ∧ i = .int .i64 k ∧ ∀ j, j < k → 0 ≤ ql.getD j 0) (fun i => n2 - (intOf i).toNat)
          case atStart => exact ⟨0, Nat.zero_le _, rfl, fun j hj => absurd hj (Nat.not_lt_zero _)⟩
          case round =>
            obtain ⟨m, hm, rfl, hqall⟩ := hrel
            have HQ := hide hqall
            clear hqall
            by_cases hlt2 : m < n2
            · obtain ⟨b, off, hx, hc⟩ := rw2 (by omega)
              subst hx
              have hck := hc m (by omega)
              clear hc rw0 rw2
              generalize h1 : ql.getD m 0 = x at hck
              have H1 := hide h1
              clear h1
              by_cases x0 : x < 0
              · go_wp2
                try go_ret
                exact unhide HQE _ _ ⟨false, rfl, hb, fun h => by cases h⟩
              go_wp2
              go_round
              case rel =>
                refine ⟨m + 1, by omega, by go_num, fun j hj => ?_⟩
                rcases Nat.lt_or_ge j m with h | h
                · exact unhide HQ j h
                · have : j = m := by omega
                  subst this
                  rw [unhide H1]
                  omega
              case measure => simp [intOf]; omega
            · go_wp2
              try go_ret
              exact unhide HQE _ _ ⟨true, rfl, hb, fun _ => ⟨by omega, (by first | exact fun _ => t4 | exact fun h => (by cases h)), unhide hp1, unhide hp2, fun j hj => by simpa using unhide HA j (by omega), fun j hj => unhide HQ j (by omega)⟩⟩
    · skip
      go_enter Trym.func8, Trym.ntmps8
      go_wp2_with fail
      refine (nonDec_any a0 n0 c0 pl w h0 b0 r0).mono ?_
      rintro e w1 ⟨x, rfl, hb1, hx⟩
      have HX := hide hx
      clear hx
      cases x
      · go_wp2
        try go_ret
        exact unhide HQE _ _ ⟨false, rfl, hb1, fun h => by cases h⟩
      have hp1 := hide (unhide HX rfl)
      clear HX
      go_wp2_with fail
      refine (nonDec_any a2 n2 c2 ql w1 h2 b2 (r2.below hb1)).mono ?_
      rintro e w2 ⟨x, rfl, hb2, hx⟩
      have hb := hb1.trans (hb2.mono hb1.size)
      have HX := hide hx
      clear hx hb2 hb1
      cases x
      · go_wp2
        try go_ret
        exact unhide HQE _ _ ⟨false, rfl, hb, fun h => by cases h⟩
      have hp2 := hide (unhide HX rfl)
      clear HX
      go_wp2
      have rw0 := r0.below hb
      have rw2 := r2.below hb
      go_loop [11] (fun i => ∃ k : Nat, k ≤ n0 ∧ i = .int .i64 k ∧ ∀ j, j < k → 0 ≤ pl.getD j 0 ∧ pl.getD j 0 / 64 < n4 ∧ (true = false → pl.getD j 0 / 64 < n3)) (fun i => n0 - (intOf i).toNat)
      case atStart => exact ⟨0, Nat.zero_le _, rfl, fun j hj => absurd hj (Nat.not_lt_zero _)⟩
      case round =>
        obtain ⟨k, hk, rfl, hall⟩ := hrel
        have HA := hide hall
        clear hall
        by_cases hlt : k < n0
        · obtain ⟨b, off, hx, hc⟩ := rw0 (by omega)
          subst hx
          have hck := hc k (by omega)
          clear hc rw0 rw2
          have hbd := i0 k (by omega)
          generalize h1 : pl.getD k 0 = x at hck hbd
          obtain ⟨bd1, bd2⟩ := hbd
          have H1 := hide h1
          clear h1
          by_cases x0 : x < 0
          · go_wp2
            try go_ret
            exact unhide HQE _ _ ⟨false, rfl, hb, fun h => by cases h⟩
          have x0' : 0 ≤ x := by omega
          by_cases x1 : (n4 : Int) ≤ x / 64
          · go_wp2
            try go_ret
            exact unhide HQE _ _ ⟨false, rfl, hb, fun h => by cases h⟩
          go_wp2
          go_round
          case rel =>
            refine ⟨k + 1, by omega, by go_num, fun j hj => ?_⟩
            rcases Nat.lt_or_ge j k with h | h
            · simpa using unhide HA j h
            · have : j = k := by omega
              subst this
              rw [unhide H1]
              exact ⟨x0', by omega, fun h => by cases h⟩
          case measure => simp [intOf]; omega
        · have hkk : k = n0 := by omega
          subst hkk
          go_wp2
          go_loop [13] (fun i => ∃ k : Nat, k ≤ n2 ∧ i = .int .i64 k ∧ ∀ j, j < k → 0 ≤ ql.getD j 0) (fun i => n2 - (intOf i).toNat)
          case atStart => exact ⟨0, Nat.zero_le _, rfl, fun j hj => absurd hj (Nat.not_lt_zero _)⟩
          case round =>
            obtain ⟨m, hm, rfl, hqall⟩ := hrel
            have HQ := hide hqall
            clear hqall
            by_cases hlt2 : m < n2
            · obtain ⟨b, off, hx, hc⟩ := rw2 (by omega)
              subst hx
              have hck := hc m (by omega)
              clear hc rw0 rw2
              generalize h1 : ql.getD m 0 = x at hck
              have H1 := hide h1
              clear h1
              by_cases x0 : x < 0
              · go_wp2
                try go_ret
                exact unhide HQE _ _ ⟨false, rfl, hb, fun h => by cases h⟩
              go_wp2
              go_round
              case rel =>
                refine ⟨m + 1, by omega, by go_num, fun j hj => ?_⟩
                rcases Nat.lt_or_ge j m with h | h
                · exact unhide HQ j h
                · have : j = m := by omega
                  subst this
                  rw [unhide H1]
                  omega
              case measure => simp [intOf]; omega
            · go_wp2
              try go_ret
              exact unhide HQE _ _ ⟨true, rfl, hb, fun _ => ⟨by omega, (by first | exact fun _ => t4 | exact fun h => (by cases h)), unhide hp1, unhide hp2, fun j hj => by simpa using unhide HA j (by omega), fun j hj => unhide HQ j (by omega)⟩⟩
  exact key _ rfl

end Go.Proofs.Qxb6600623aMods
