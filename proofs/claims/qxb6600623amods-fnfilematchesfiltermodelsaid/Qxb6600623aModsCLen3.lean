import Derived.Test.Qxb6600623aModsCLen2
set_option linter.unusedVariables false
set_option linter.unusedSimpArgs false
namespace Go.Proofs.Qxb6600623aMods
open Go.RowKit

set_option maxRecDepth 100000 in
set_option maxHeartbeats 2000000 in
theorem bytesM_any (a : Option Addr) (n c : Nat) (cs : List Call) (a1 : Option Addr) (n1 c1 : Nat) (s1 : List ByteArray) (a2 : Option Addr) (n2 c2 : Nat) (s2 : List ByteArray) (w : World) (hn : cs.length = n) (hb : n ≤ 9223372036854775807) (hr : CRow w a cs) (hf : CFits cs)
    (hn1 : s1.length = n1) (hb1 : n1 ≤ 9223372036854775807) (hr1 : SRow w a1 s1) (hf1 : SFits s1) (hn2 : s2.length = n2) (hb2 : n2 ≤ 9223372036854775807) (hr2 : SRow w a2 s2) (hf2 : SFits s2) :
    Calls Trym.prog 14 #[.slice a n c, .slice a1 n1 c1, .slice a2 n2 c2] w fun e w' => ∃ b, e = .returned (.bool b) ∧ w = w' ∧ (b = true → n ≤ 1048576 ∧ vsum cs ≤ 1048576) := by
  refine calls_all fun Q HQE => ?_
  by_cases t0 : 1048576 < n
  · go_enter Trym.func14, Trym.ntmps14
    go_wp2
    try go_ret
    exact unhide HQE _ _ ⟨false, rfl, rfl, fun h => by cases h⟩
  go_enter Trym.func14, Trym.ntmps14
  go_wp2
  go_loop [7, 8] (fun z i => ∃ (k m : Nat), k ≤ n ∧ m ≤ 1048576 ∧ i = .int .i64 k ∧ z = .int .i64 m ∧ vsum (cs.take k) ≤ m) (fun _ i => n - (intOf i).toNat)
  case atStart => exact ⟨0, n, Nat.zero_le _, by omega, rfl, rfl, by rw [vsum_zero]; omega⟩
  case round =>
    obtain ⟨k, m, hk, hm, rfl, rfl, hv⟩ := hrel
    by_cases hlt : k < n
    · obtain ⟨b, off, hx, hc⟩ := hr (by omega)
      subst hx
      have hC := hc k (by omega)
      have hF := hf k (by omega)
      have hvs := vsum_succ cs k (by omega)
      generalize cs.getD k Call.nil = d at hC hF hvs
      have hv2 : vsum (cs.take (k + 1)) ≤ m + d.vals.length := by omega
      have HV := hide hv2
      clear hvs hv2
      obtain ⟨c1, c2, ⟨va, vc, c3, s3, _⟩, c4⟩ := hC
      obtain ⟨f1, f2, f3, f4, f5⟩ := hF
      clear hc
      by_cases u0 : 1048576 < d.key.size
      · go_wp2
        try go_ret
        exact unhide HQE _ _ ⟨false, rfl, rfl, fun h => by cases h⟩
      by_cases u1 : 1048576 < m + d.key.size
      · go_wp2
        try go_ret
        exact unhide HQE _ _ ⟨false, rfl, rfl, fun h => by cases h⟩
      by_cases u2 : 1048576 < d.vals.length
      · go_wp2
        try go_ret
        exact unhide HQE _ _ ⟨false, rfl, rfl, fun h => by cases h⟩
      by_cases u3 : 1048576 < m + d.key.size + d.vals.length
      · go_wp2
        try go_ret
        exact unhide HQE _ _ ⟨false, rfl, rfl, fun h => by cases h⟩
      go_wp2
      go_loop [7, 9] (fun z i => ∃ (j q : Nat), j ≤ d.vals.length ∧ q ≤ 1048576 ∧ i = .int .i64 j ∧ z = .int .i64 q ∧ vsum (cs.take (k + 1)) ≤ q) (fun _ i => d.vals.length - (intOf i).toNat)
      case atStart => exact ⟨0, m + d.key.size + d.vals.length, Nat.zero_le _, by omega, rfl, by go_num, by have := unhide HV; omega⟩
      case round =>
        obtain ⟨j, q, hj, hq, rfl, rfl, hvq⟩ := hrel
        by_cases hjl : j < d.vals.length
        · obtain ⟨b2, off2, hx2, hc2⟩ := s3 (by omega)
          subst hx2
          have hck := hc2 j hjl
          have hsz := f4 j hjl
          generalize d.vals.getD j ByteArray.empty = s at hck hsz
          clear hc2
          by_cases v0 : 1048576 < s.size
          · go_wp2
            try go_ret
            exact unhide HQE _ _ ⟨false, rfl, rfl, fun h => by cases h⟩
          by_cases v1 : 1048576 < q + s.size
          · go_wp2
            try go_ret
            exact unhide HQE _ _ ⟨false, rfl, rfl, fun h => by cases h⟩
          go_wp2
          go_round
          case rel => exact ⟨j + 1, q + s.size, by omega, by omega, by go_num, by go_num, by omega⟩
          case measure => simp [intOf]; omega
        · go_wp2
          go_round
          case rel => exact ⟨k + 1, q, by omega, by omega, by go_num, by go_num, hvq⟩
          case measure => simp [intOf]; omega
    · rw [List.take_of_length_le (by omega)] at hv
      have HV := hide hv
      clear hv
      by_cases p0 : 1048576 < n1
      · go_wp2
        try go_ret
        exact unhide HQE _ _ ⟨false, rfl, rfl, fun h => by cases h⟩
      by_cases p1 : 1048576 < m + n1
      · go_wp2
        try go_ret
        exact unhide HQE _ _ ⟨false, rfl, rfl, fun h => by cases h⟩
      go_wp2
      go_loop [7, 10] (fun z i => ∃ (k m : Nat), k ≤ n1 ∧ m ≤ 1048576 ∧ i = .int .i64 k ∧ z = .int .i64 m) (fun _ i => n1 - (intOf i).toNat)
      case atStart => exact ⟨0, m + n1, Nat.zero_le _, by omega, rfl, by go_num⟩
      case round =>
        obtain ⟨k2, m2, hk2, hm2, rfl, rfl⟩ := hrel
        by_cases hlt2 : k2 < n1
        · obtain ⟨b, off, hx, hc⟩ := hr1 (by omega)
          subst hx
          have hck := hc k2 (by omega)
          have hsz := hf1 k2 (by omega)
          generalize s1.getD k2 ByteArray.empty = s at hck hsz
          clear hc
          by_cases v0 : 1048576 < s.size
          · go_wp2
            try go_ret
            exact unhide HQE _ _ ⟨false, rfl, rfl, fun h => by cases h⟩
          by_cases v1 : 1048576 < m2 + s.size
          · go_wp2
            try go_ret
            exact unhide HQE _ _ ⟨false, rfl, rfl, fun h => by cases h⟩
          go_wp2
          go_round
          case rel => exact ⟨k2 + 1, m2 + s.size, by omega, by omega, by go_num, by go_num⟩
          case measure => simp [intOf]; omega
        · by_cases p0 : 1048576 < n2
          · go_wp2
            try go_ret
            exact unhide HQE _ _ ⟨false, rfl, rfl, fun h => by cases h⟩
          by_cases p1 : 1048576 < m2 + n2
          · go_wp2
            try go_ret
            exact unhide HQE _ _ ⟨false, rfl, rfl, fun h => by cases h⟩
          go_wp2
          go_loop [7, 11] (fun z i => ∃ (k m : Nat), k ≤ n2 ∧ m ≤ 1048576 ∧ i = .int .i64 k ∧ z = .int .i64 m) (fun _ i => n2 - (intOf i).toNat)
          case atStart => exact ⟨0, m2 + n2, Nat.zero_le _, by omega, rfl, by go_num⟩
          case round =>
            obtain ⟨k3, m3, hk3, hm3, rfl, rfl⟩ := hrel
            by_cases hlt3 : k3 < n2
            · obtain ⟨b, off, hx, hc⟩ := hr2 (by omega)
              subst hx
              have hck := hc k3 (by omega)
              have hsz := hf2 k3 (by omega)
              generalize s2.getD k3 ByteArray.empty = s at hck hsz
              clear hc
              by_cases v0 : 1048576 < s.size
              · go_wp2
                try go_ret
                exact unhide HQE _ _ ⟨false, rfl, rfl, fun h => by cases h⟩
              by_cases v1 : 1048576 < m3 + s.size
              · go_wp2
                try go_ret
                exact unhide HQE _ _ ⟨false, rfl, rfl, fun h => by cases h⟩
              go_wp2
              go_round
              case rel => exact ⟨k3 + 1, m3 + s.size, by omega, by omega, by go_num, by go_num⟩
              case measure => simp [intOf]; omega
            · go_wp2
              try go_ret
              exact unhide HQE _ _ ⟨true, rfl, rfl, fun _ => ⟨by omega, by have := unhide HV; omega⟩⟩

end Go.Proofs.Qxb6600623aMods
