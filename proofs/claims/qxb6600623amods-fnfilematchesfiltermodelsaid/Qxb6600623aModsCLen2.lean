import Derived.Test.Qxb6600623aModsCLen
set_option linter.unusedVariables false
set_option linter.unusedSimpArgs false
namespace Go.Proofs.Qxb6600623aMods
open Go.RowKit

/-- The lengths of strings fit. -/
def SFits (ss : List ByteArray) : Prop := ∀ i, i < ss.length → (ss.getD i ByteArray.empty).size ≤ 9223372036854775807

set_option maxRecDepth 100000 in
set_option maxHeartbeats 4000000 in
theorem tooBig_any (a : Option Addr) (n c : Nat) (cs : List Call) (a1 : Option Addr) (n1 c1 : Nat) (s1 : List ByteArray) (a2 : Option Addr) (n2 c2 : Nat) (s2 : List ByteArray) (w : World)
    (hn : cs.length = n) (hb : n ≤ 9223372036854775807) (hr : CRow w a cs) (hf : CFits cs)
    (hn1 : s1.length = n1) (hb1 : n1 ≤ 9223372036854775807) (hr1 : SRow w a1 s1) (hf1 : SFits s1)
    (hn2 : s2.length = n2) (hb2 : n2 ≤ 9223372036854775807) (hr2 : SRow w a2 s2) (hf2 : SFits s2) :
    Calls Trym.prog 15 #[.slice a n c, .slice a1 n1 c1, .slice a2 n2 c2] w fun e w' => ∃ b, e = .returned (.bool b) ∧ w = w' := by
  refine calls_all fun Q HQE => ?_
  by_cases t0 : 1048576 < n
  · go_enter Trym.func15, Trym.ntmps15
    go_wp2
    try go_ret
    exact unhide HQE _ _ ⟨true, rfl, rfl⟩
  by_cases t1 : 1048576 < 56 * n
  · go_enter Trym.func15, Trym.ntmps15
    go_wp2
    try go_ret
    exact unhide HQE _ _ ⟨true, rfl, rfl⟩
  go_enter Trym.func15, Trym.ntmps15
  go_wp2
  go_loop [7, 8] (fun z i => ∃ (k m : Nat), k ≤ n ∧ m ≤ 1048576 ∧ i = .int .i64 k ∧ z = .int .i64 m) (fun _ i => n - (intOf i).toNat)
  case atStart => exact ⟨0, 56 * n, Nat.zero_le _, by omega, rfl, by go_num⟩
  case round =>
    obtain ⟨k, m, hk, hm, rfl, rfl⟩ := hrel
    by_cases hlt : k < n
    · obtain ⟨b, off, hx, hc⟩ := hr (by omega)
      subst hx
      have hC := hc k (by omega)
      have hF := hf k (by omega)
      generalize cs.getD k Call.nil = d at hC hF
      obtain ⟨c1, c2, ⟨va, vc, c3, s3, _⟩, c4⟩ := hC
      obtain ⟨f1, f2, f3, f4, f5⟩ := hF
      clear hc
      by_cases u0 : 1048576 < d.key.size
      · go_wp2
        try go_ret
        exact unhide HQE _ _ ⟨true, rfl, rfl⟩
      by_cases u1 : 1048576 < m + d.key.size
      · go_wp2
        try go_ret
        exact unhide HQE _ _ ⟨true, rfl, rfl⟩
      have HF4 := hide f4
      clear f4
      go_wp2_with fail
      rw [show ((m : Int) + (d.key.size : Int)) = ((m + d.key.size : Nat) : Int) from by omega]
      refine (addStrings_any (m + d.key.size) va d.vals.length vc d.vals w (by omega) rfl (by omega) s3 (unhide HF4)).mono ?_
      rintro e w1 ⟨r, rfl, rfl, hr'⟩
      by_cases u2 : 1048576 < r
      · go_wp2
        try go_ret
        exact unhide HQE _ _ ⟨true, rfl, rfl⟩
      go_wp2
      go_round
      case rel => exact ⟨k + 1, r, by omega, by omega, by go_num, by go_num⟩
      case measure => simp [intOf]; omega
    · go_wp2_with fail
      refine (addStrings_any m a1 n1 c1 s1 w (by omega) hn1 (by omega) hr1 hf1).mono ?_
      rintro e w1 ⟨r, rfl, rfl, hr'⟩
      by_cases u2 : 1048576 < r
      · go_wp2
        try go_ret
        exact unhide HQE _ _ ⟨true, rfl, rfl⟩
      go_wp2_with fail
      refine (addStrings_any r a2 n2 c2 s2 w (by omega) hn2 (by omega) hr2 hf2).mono ?_
      rintro e w1 ⟨r, rfl, rfl, hr'⟩
      go_wp2
      try go_ret
      exact unhide HQE _ _ ⟨_, rfl, rfl⟩

/-- The ids rise. -/
def StrictIds (cs : List Call) : Prop := ∀ j, j + 1 < cs.length → (cs.getD j Call.nil).id < (cs.getD (j + 1) Call.nil).id

set_option maxRecDepth 100000 in
set_option maxHeartbeats 4000000 in
theorem strictIds_any (a : Option Addr) (n c : Nat) (cs : List Call) (w : World) (hz : cs.length = n) (hn : n ≤ 1048576) (hr : CRow w a cs) :
    Calls Trym.prog 32 #[.slice a n c] w fun e w' => ∃ b, e = .returned (.bool b) ∧ Below w.heap.size w w' ∧ (b = true → StrictIds cs) := by
  refine calls_all fun Q HQE => ?_
  go_enter Trym.func32, Trym.ntmps32
  go_wp2
  go_loopw [3] (fun i wr => ∃ k : Nat, 1 ≤ k ∧ (k ≤ n ∨ k = 1) ∧ i = .int .i64 k ∧ Below w.heap.size w wr ∧ ∀ j, j + 1 < k → (cs.getD j Call.nil).id < (cs.getD (j + 1) Call.nil).id)
    (fun i _ => n - (intOf i).toNat)
  case atStart => exact ⟨1, Nat.le_refl _, .inr rfl, rfl, Below.refl _ _, fun j hj => by omega⟩
  case round =>
    obtain ⟨k, hk1, hk, rfl, hbel, hs⟩ := hrel
    have HS := hide hs
    clear hs
    by_cases hlt : k < n
    · obtain ⟨b, off, hx, hc⟩ := hr.below hbel (by omega)
      subst hx
      obtain ⟨m, rfl⟩ : ∃ m, k = m + 1 := ⟨k - 1, by omega⟩
      have hck := (hc m (by omega)).id
      have hck1 := (hc (m + 1) (by omega)).id
      clear hc
      generalize h1 : (cs.getD m Call.nil).id = x at hck
      generalize h2 : (cs.getD (m + 1) Call.nil).id = y at hck1
      have H1 := hide h1
      have H2 := hide h2
      clear h1 h2
      by_cases hxy : y ≤ x
      · go_wp2
        go_region
        all_goals go_wp2
        all_goals try go_ret
        all_goals exact unhide HQE _ _ ⟨false, rfl, hbel.drew, fun h => by cases h⟩
      · go_wp2
        go_region
        all_goals go_wp2
        all_goals go_roundw
        case rel =>
          refine ⟨m + 2, by omega, by omega, by go_num, hbel.drew, fun j hj => ?_⟩
          rcases Nat.lt_or_ge (j + 1) (m + 1) with h | h
          · exact unhide HS j h
          · have : j = m := by omega
            subst this
            rw [unhide H1, unhide H2]; omega
        case measure => simp [intOf]; omega
    · go_wp2
      try go_ret
      exact unhide HQE _ _ ⟨true, rfl, hbel, fun _ j hj => unhide HS j (by omega)⟩

end Go.Proofs.Qxb6600623aMods
