import Derived.Test.Qxb6600623aModsCBase
set_option linter.unusedVariables false
set_option linter.unusedSimpArgs false
namespace Go.Proofs.Qxb6600623aMods
open Go.RowKit

set_option maxRecDepth 100000 in
set_option maxHeartbeats 2000000 in
theorem bytesK_any (a : Option Addr) (n c : Nat) (cs : List Call) (w : World) (hn : cs.length = n) (hb : n ≤ 9223372036854775807) (hr : CRow w a cs) (hf : CFits cs) :
    Calls Trym.prog 31 #[.slice a n c] w fun e w' => ∃ b, e = .returned (.bool b) ∧ w = w' ∧ (b = true → n ≤ 1048576 ∧ vsum cs ≤ 1048576) := by
  refine calls_all fun Q HQE => ?_
  by_cases t0 : 1048576 < n
  · go_enter Trym.func31, Trym.ntmps31
    go_wp2
    try go_ret
    exact unhide HQE _ _ ⟨false, rfl, rfl, fun h => by cases h⟩
  go_enter Trym.func31, Trym.ntmps31
  go_wp2
  go_loop [3, 4] (fun z i => ∃ (k m : Nat), k ≤ n ∧ m ≤ 1048576 ∧ i = .int .i64 k ∧ z = .int .i64 m ∧ vsum (cs.take k) ≤ m) (fun _ i => n - (intOf i).toNat)
  case atStart => exact ⟨0, n, Nat.zero_le _, by omega, rfl, rfl, by rw [vsum_zero]; omega⟩
  case round =>
    obtain ⟨k, m, hk, hm, rfl, rfl, hv⟩ := hrel
    by_cases hlt : k < n
    · obtain ⟨b, off, hx, hc⟩ := hr (by omega)
      subst hx
      have hC := hc k (by omega)
      have hF := hf k (by omega)
      have hvs := vsum_succ cs k (by omega)
      generalize cs.getD k Call.nil = d at hC hF hvs
      have hv2 : vsum (cs.take (k + 1)) ≤ m + d.vals.length := by omega
      have HV := hide hv2
      clear hvs hv2
      obtain ⟨c1, c2, ⟨va, vc, c3, s3, _⟩, c4⟩ := hC
      obtain ⟨f1, f2, f3, f4, f5⟩ := hF
      clear hc
      by_cases u0 : 1048576 < d.key.size
      · go_wp2
        try go_ret
        exact unhide HQE _ _ ⟨false, rfl, rfl, fun h => by cases h⟩
      by_cases u1 : 1048576 < m + d.key.size
      · go_wp2
        try go_ret
        exact unhide HQE _ _ ⟨false, rfl, rfl, fun h => by cases h⟩
      by_cases u2 : 1048576 < d.vals.length
      · go_wp2
        try go_ret
        exact unhide HQE _ _ ⟨false, rfl, rfl, fun h => by cases h⟩
      by_cases u3 : 1048576 < m + d.key.size + d.vals.length
      · go_wp2
        try go_ret
        exact unhide HQE _ _ ⟨false, rfl, rfl, fun h => by cases h⟩
      go_wp2
      go_loop [3, 5] (fun z i => ∃ (j q : Nat), j ≤ d.vals.length ∧ q ≤ 1048576 ∧ i = .int .i64 j ∧ z = .int .i64 q ∧ vsum (cs.take (k + 1)) ≤ q) (fun _ i => d.vals.length - (intOf i).toNat)
      case atStart => exact ⟨0, m + d.key.size + d.vals.length, Nat.zero_le _, by omega, rfl, by go_num, by have := unhide HV; omega⟩
      case round =>
        obtain ⟨j, q, hj, hq, rfl, rfl, hvq⟩ := hrel
        by_cases hjl : j < d.vals.length
        · obtain ⟨b2, off2, hx2, hc2⟩ := s3 (by omega)
          subst hx2
          have hck := hc2 j hjl
          have hsz := f4 j hjl
          generalize d.vals.getD j ByteArray.empty = s at hck hsz
          clear hc2
          by_cases v0 : 1048576 < s.size
          · go_wp2
            try go_ret
            exact unhide HQE _ _ ⟨false, rfl, rfl, fun h => by cases h⟩
          by_cases v1 : 1048576 < q + s.size
          · go_wp2
            try go_ret
            exact unhide HQE _ _ ⟨false, rfl, rfl, fun h => by cases h⟩
          go_wp2
          go_round
          case rel => exact ⟨j + 1, q + s.size, by omega, by omega, by go_num, by go_num, by omega⟩
          case measure => simp [intOf]; omega
        · go_wp2
          go_round
          case rel => exact ⟨k + 1, q, by omega, by omega, by go_num, by go_num, hvq⟩
          case measure => simp [intOf]; omega
    · go_wp2
      try go_ret
      refine unhide HQE _ _ ⟨true, rfl, rfl, fun _ => ⟨by omega, ?_⟩⟩
      rw [List.take_of_length_le (by omega)] at hv
      omega

set_option maxRecDepth 100000 in
set_option maxHeartbeats 2000000 in
theorem addStrings_any (t : Nat) (a : Option Addr) (n c : Nat) (ss : List ByteArray) (w : World) (ht : t ≤ 1048576) (hn : ss.length = n) (hb : n ≤ 9223372036854775807) (hr : SRow w a ss)
    (hf : ∀ i, i < ss.length → (ss.getD i ByteArray.empty).size ≤ 9223372036854775807) :
    Calls Trym.prog 38 #[.int .i64 t, .slice a n c] w fun e w' => ∃ r : Nat, e = .returned (.int .i64 r) ∧ w = w' ∧ r ≤ 1048577 := by
  refine calls_all fun Q HQE => ?_
  by_cases t0 : 1048576 < n
  · go_enter Trym.func38, Trym.ntmps38
    go_wp2
    try go_ret
    exact unhide HQE _ _ ⟨1048577, rfl, rfl, by omega⟩
  by_cases t1 : 1048576 < t + 16 * n
  · go_enter Trym.func38, Trym.ntmps38
    go_wp2
    try go_ret
    exact unhide HQE _ _ ⟨1048577, rfl, rfl, by omega⟩
  go_enter Trym.func38, Trym.ntmps38
  go_wp2
  go_loop [0, 5] (fun z i => ∃ (k m : Nat), k ≤ n ∧ m ≤ 1048576 ∧ i = .int .i64 k ∧ z = .int .i64 m) (fun _ i => n - (intOf i).toNat)
  case atStart => exact ⟨0, t + 16 * n, Nat.zero_le _, by omega, rfl, by go_num⟩
  case round =>
    obtain ⟨k, m, hk, hm, rfl, rfl⟩ := hrel
    by_cases hlt : k < n
    · obtain ⟨b, off, hx, hc⟩ := hr (by omega)
      subst hx
      have hck := hc k (by omega)
      have hsz := hf k (by omega)
      generalize ss.getD k ByteArray.empty = s at hck hsz
      clear hc hf
      by_cases v0 : 1048576 < s.size
      · go_wp2
        try go_ret
        exact unhide HQE _ _ ⟨1048577, rfl, rfl, by omega⟩
      by_cases v1 : 1048576 < m + s.size
      · go_wp2
        try go_ret
        exact unhide HQE _ _ ⟨1048577, rfl, rfl, by omega⟩
      go_wp2
      go_round
      case rel => exact ⟨k + 1, m + s.size, by omega, by omega, by go_num, by go_num⟩
      case measure => simp [intOf]; omega
    · go_wp2
      try go_ret
      exact unhide HQE _ _ ⟨m, rfl, rfl, by omega⟩

set_option maxRecDepth 100000 in
set_option maxHeartbeats 2000000 in
theorem valueCount_any (a : Option Addr) (n c : Nat) (cs : List Call) (w : World) (hn : cs.length = n) (hb : n ≤ 1048576) (hv : vsum cs ≤ 1048576) (hr : CRow w a cs) :
    Calls Trym.prog 16 #[.slice a n c] w fun e w' => e = .returned (.int .i64 (vsum cs)) ∧ w = w' := by
  refine calls_all fun Q HQE => ?_
  have hle := vsum_take_le cs
  go_enter Trym.func16, Trym.ntmps16
  go_wp2
  go_loop [3, 4] (fun z i => ∃ (k : Nat), k ≤ n ∧ i = .int .i64 k ∧ z = .int .i64 (vsum (cs.take k))) (fun _ i => n - (intOf i).toNat)
  case atStart => exact ⟨0, Nat.zero_le _, rfl, by rw [vsum_zero]; rfl⟩
  case round =>
    obtain ⟨k, hk, rfl, rfl⟩ := hrel
    by_cases hlt : k < n
    · obtain ⟨b, off, hx, hc⟩ := hr (by omega)
      subst hx
      have hC := hc k (by omega)
      have hvs := vsum_succ cs k (by omega)
      have h1 := hle (k + 1)
      generalize cs.getD k Call.nil = d at hC hvs
      generalize vsum (cs.take k) = m at hvs
      obtain ⟨c1, c2, ⟨va, vc, c3, s3, _⟩, c4⟩ := hC
      have hb2 : m + d.vals.length ≤ 1048576 := by omega
      have HV := hide hvs
      clear hc hvs h1 hle
      go_wp2
      go_round
      case rel => exact ⟨k + 1, by omega, by go_num, by rw [unhide HV]; go_num⟩
      case measure => simp [intOf]; omega
    · have e : cs.take k = cs := List.take_of_length_le (by omega)
      rw [e]
      clear e hle
      go_wp2
      try go_ret
      exact unhide HQE _ _ ⟨rfl, rfl⟩

end Go.Proofs.Qxb6600623aMods
