import Derived.Test.Qxb6600623aModsMarkZZ
import Derived.Test.Qxb6600623aModsLenA
set_option linter.unusedVariables false
set_option linter.unusedSimpArgs false
namespace Go.Proofs.Qxb6600623aMods
open Go.RowKit

theorem Below.chain {a b c : World} (h : Below a.heap.size a b) (k : Below b.heap.size b c) : Below a.heap.size a c := h.trans (k.mono h.size)

theorem Fresh.blk {w w' : World} {k : IntKind} {e : TypeId} {a : Option Addr} {zs : List Int} (h : Fresh w w' k e a zs) (hz : 0 < zs.length) : a = some ⟨w.heap.size, 0, none⟩ ∧ Blk w' w.heap.size k e zs := by
  rcases h with ⟨rfl, rfl⟩ | h
  · simp at hz
  · exact h

theorem Fresh.ne {w w' w'' : World} {k : IntKind} {e : TypeId} {a : Option Addr} {zs : List Int} (h : Fresh w w' k e a zs) (hs : w'.heap.size ≤ w''.heap.size) : ∀ x, a = some x → x.block ≠ w''.heap.size := by
  intro x hx
  rcases h with ⟨rfl, _⟩ | ⟨rfl, hb⟩
  · cases hx
  · obtain rfl := Option.some.inj hx
    have := hb.lt
    show w.heap.size ≠ _
    omega

/-- What is wanted. -/
def wantL (A P Q : List Int) (n : Nat) : List Int := (List.range n).map fun t => bits .or .u64 (A.getD t 0) (bits .andNot .u64 (P.getD t 0) (Q.getD t 0))
theorem wantL_len (A P Q : List Int) (n : Nat) : (wantL A P Q n).length = n := by simp [wantL]
theorem wantL_get (A P Q : List Int) (n t : Nat) (h : t < n) : (wantL A P Q n).getD t 0 = bits .or .u64 (A.getD t 0) (bits .andNot .u64 (P.getD t 0) (Q.getD t 0)) := by
  simp [wantL, h]

set_option maxRecDepth 100000 in
set_option maxHeartbeats 4000000 in
theorem markFn_small (a0 : Option Addr) (n0 c0 : Nat) (pl : List Int) (a1 : Option Addr) (n1 c1 : Nat) (pb : List Int) (a2 : Option Addr) (n2 c2 : Nat) (ql : List Int) (a3 : Option Addr) (n3 c3 : Nat) (qb : List Int) (a4 : Option Addr) (n4 c4 : Nat) (A0 : List Int) (w : World)
    (h0 : pl.length = n0) (r0 : Row w .i64 a0 pl) (i0 : In64 pl) (m0 : a0 = none → n0 = 0 ∧ c0 = 0)
    (h1 : pb.length = n1) (r1 : Row w .u64 a1 pb) (i1 : AllU pb) (m1 : a1 = none → n1 = 0 ∧ c1 = 0)
    (h2 : ql.length = n2) (r2 : Row w .i64 a2 ql) (i2 : In64 ql) (m2 : a2 = none → n2 = 0 ∧ c2 = 0)
    (h3 : qb.length = n3) (r3 : Row w .u64 a3 qb) (i3 : AllU qb) (m3 : a3 = none → n3 = 0 ∧ c3 = 0)
    (h4 : A0.length = n4) (r4 : Row w .u64 a4 A0) (i4 : AllU A0) (m4 : a4 = none → n4 = 0 ∧ c4 = 0)
    (hs : n0 + n1 + n2 + n3 + n4 ≤ 131072) :
    Calls Trym.prog 3 #[.slice a0 n0 c0, .slice a1 n1 c1, .slice a2 n2 c2, .slice a3 n3 c3, .slice a4 n4 c4] w fun e w' => e = .returned (.bool true) ∧ Below w.heap.size w w' := by
  refine calls_all fun Q HQE => ?_
  have M0 := hide m0
  have M1 := hide m1
  have M2 := hide m2
  have M3 := hide m3
  have M4 := hide m4
  clear m0 m1 m2 m3 m4
  have d0 : decide ((131072 : Int) < (n0 : Int)) = false := decide_eq_false (by omega)
  have d1 : decide ((131072 : Int) < (n1 : Int)) = false := decide_eq_false (by omega)
  have d2 : decide ((131072 : Int) < (n2 : Int)) = false := decide_eq_false (by omega)
  have d3 : decide ((131072 : Int) < (n3 : Int)) = false := decide_eq_false (by omega)
  have d4 : decide ((131072 : Int) < (n4 : Int)) = false := decide_eq_false (by omega)
  go_enter Trym.func3, Trym.ntmps3
  go_wp2_with fail
  refine (bytesA_any a0 n0 c0 a1 n1 c1 a2 n2 c2 a3 n3 c3 a4 n4 c4 _ (by omega) (by omega) (by omega) (by omega) (by omega)).mono ?_
  rintro e w0 ⟨x, rfl, rfl, _⟩
  cases x
  · go_wp2
    try go_ret
    exact unhide HQE _ _ ⟨rfl, Below.refl _ _⟩
  go_wp2_with fail
  refine (prem_any a0 n0 c0 pl a1 n1 c1 a2 n2 c2 ql a3 n3 c3 n4 _ h0 (by omega) r0 i0 (by omega) h2 (by omega) r2 (by omega) (by omega)).mono ?_
  rintro e w1 ⟨x, rfl, hb1, hx⟩
  have HX := hide hx
  clear hx
  cases x
  · go_wp2
    try go_ret
    exact unhide HQE _ _ ⟨rfl, hb1⟩
  have hP := unhide HX rfl
  clear HX
  go_wp2_with fail
  have R1 := r1.below hb1
  have R2 := r2.below hb1
  have R3 := r3.below hb1
  have R4 := r4.below hb1
  refine (cloneInts_any a0 n0 c0 pl w1 h0 (by omega) (r0.below hb1) (unhide M0)).mono ?_
  rintro e w2 ⟨p0, rfl, hb2, f0, _⟩
  clear r0 r1 r2 r3 r4
  go_wp2_with fail
  refine (cloneWords_any a1 n1 c1 pb w2 h1 (by omega) (R1.below hb2) (unhide M1)).mono ?_
  rintro e w3 ⟨p1, rfl, hb3, f1, _⟩
  go_wp2_with fail
  have hb23 := Below.chain hb2 hb3
  refine (cloneInts_any a2 n2 c2 ql w3 h2 (by omega) (R2.below hb23) (unhide M2)).mono ?_
  rintro e w4 ⟨p2, rfl, hb4, f2, _⟩
  go_wp2_with fail
  have hb24 := Below.chain hb23 hb4
  refine (cloneWords_any a3 n3 c3 qb w4 h3 (by omega) (R3.below hb24) (unhide M3)).mono ?_
  rintro e w5 ⟨p3, rfl, hb5, f3, hn3⟩
  go_wp2_with fail
  have hb25 := Below.chain hb24 hb5
  refine (cloneWords_any a4 n4 c4 A0 w5 h4 (by omega) (R4.below hb25) (unhide M4)).mono ?_
  rintro e w6 ⟨p4, rfl, hb6, f4, _⟩
  have hbw6 := Below.chain hb1 (Below.chain hb25 hb6)
  -- the clones' rows in w6
  have s0 : Row w6 .i64 p0 pl := f0.row.below (Below.chain hb3 (Below.chain hb4 (Below.chain hb5 hb6)))
  have s1 : Row w6 .u64 p1 pb := f1.row.below (Below.chain hb4 (Below.chain hb5 hb6))
  have s2 : Row w6 .i64 p2 ql := f2.row.below (Below.chain hb5 hb6)
  have s3 : Row w6 .u64 p3 qb := f3.row.below hb6
  have G0 := hide (f0.ne (w'' := w5) (Below.chain hb3 (Below.chain hb4 hb5)).size)
  have G1 := hide (f1.ne (w'' := w5) (Below.chain hb4 hb5).size)
  have G2 := hide (f2.ne (w'' := w5) hb5.size)
  have G3 := hide (f3.ne (w'' := w5) (Nat.le_refl _))
  have HF4 := hide (fun h : 0 < n4 => f4.blk (by omega))
  have hsz := hb6.size
  have hw5 := (Below.chain hb1 hb25).size
  clear f0 f1 f2 f3 f4 R1 R2 R3 R4 hb2 hb3 hb4 hb5 hb6 hb23 hb24 hb25
  go_wp2_with fail
  refine (dense_any p0 n0 n0 pl p1 n1 n1 pb n4 w6 h0 (by omega) s0 i0 h1 (by omega) s1 i1 (by omega)).mono ?_
  rintro e w7 ⟨rfl, hb7, P, hP7, hPd⟩
  go_wp2_with fail
  refine (dense_any p2 n2 n2 ql p3 n3 n3 qb n4 w7 h2 (by omega) (s2.below hb7) i2 h3 (by omega) (s3.below hb7) i3 (by omega)).mono ?_
  rintro e w8 ⟨rfl, hb8, D, hD8, hDd⟩
  have hb68 := Below.chain hb7 hb8
  have hP8 := hP7.below hb8 hP7.lt
  have hl7 := hP7.lt
  have hl8 := hD8.lt
  have hbw8 := Below.chain hbw6 hb68
  have t0 := s0.below hb68
  have t1 := s1.below hb68
  have t2 := s2.below hb68
  have t3 := s3.below hb68
  have HF8 := hide (fun h : 0 < n4 => show p4 = some ⟨w5.heap.size, 0, none⟩ ∧ Blk w8 w5.heap.size .u64 29 A0 from ⟨(unhide HF4 h).1, (unhide HF4 h).2.below hb68 (unhide HF4 h).2.lt⟩)
  clear s0 s1 s2 s3 hb7 hb8 hP7 HF4 hb68 hb1 hbw6
  obtain ⟨i9, hi, hz0, hz1, hz2⟩ := info_parts Trym.info29
  have hmk : (Instr.makeSlice 23 (.int .i64 (n4 : Int)) (.int .i64 (n4 : Int))).run Trym.prog w8 = .ok (.slice (some ⟨w8.heap.size, 0, none⟩) n4 n4) (w8.alloc (.cells (madeCells (Value.int .u64 0).cells (n4 * 1)) 29)) := by
    have := run_make (P := Trym.prog) w8 23 29 i9 (.int .u64 0) Trym.underlying23 hi hz0 .i64 .i64 (n4 : Int) (n4 : Int) (by omega) (Int.le_refl _) (by rw [hz2]; omega) (by omega)
    rw [hz1] at this
    simpa using this
  go_wp2
  go_loopw [15] (fun i wr => ∃ k : Nat, k ≤ n4 ∧ i = .int .i64 k ∧ Below w8.heap.size w8 wr ∧ w8.heap.size < wr.heap.size ∧ Blk wr w8.heap.size .u64 29 ((wantL A0 P D n4).take k ++ List.replicate (n4 - k) 0))
    (fun i _ => n4 - (intOf i).toNat)
  case atStart =>
    refine ⟨0, Nat.zero_le _, rfl, (Below.refl _ _).alloc (Nat.le_refl _) _, by simp, ?_⟩
    simpa using Blk.made w8 .u64 29 n4
  case round =>
    clear hmk
    obtain ⟨k, hk, rfl, hbel, hszr, hblk⟩ := hrel
    by_cases hlt : k < n4
    · obtain ⟨rfl, hb8⟩ := unhide HF8 (by omega)
      have hc0 := (hb8.below hbel hb8.lt).cell k (by omega)
      have hc1 := (hP8.below hbel hP8.lt).cell k (by have := hPd.1; omega)
      have hc2 := (hD8.below hbel hD8.lt).cell k (by have := hDd.1; omega)
      have hfz := hblk.frozen k
      have hwc := hblk.cell k (by simp [wantL]; omega)
      have hnew := hblk.set k ((wantL A0 P D n4).getD k 0)
      rw [take_set_rep _ n4 k (wantL_len _ _ _ _) hlt, wantL_get _ _ _ _ _ hlt] at hnew
      generalize A0.getD k 0 = z at hc0 hnew
      generalize P.getD k 0 = zp at hc1 hnew
      generalize D.getD k 0 = zq at hc2 hnew
      have HN := hide hnew
      clear hnew hblk hb8
      go_wp2
      go_region
      all_goals go_wp2
      all_goals go_roundw
      case rel => exact ⟨k + 1, by omega, by go_num, (hbel.setCell (Nat.le_refl _) _).drew, by simpa using hszr, (unhide HN).drew⟩
      case measure => simp [intOf]; omega
    · have hkk : k = n4 := by omega
      have hw9 : Blk wr w8.heap.size .u64 29 (wantL A0 P D n4) := by
        have e := hblk
        rw [hkk, List.take_of_length_le (by rw [wantL_len]; omega)] at e
        simpa using e
      clear hblk
      have hqn : p3.isNone = a3.isNone := hn3
      go_wp2_with fail
      refine (zzmark_any p0 n0 pl p1 n1 pb p2 n2 ql p3 n3 qb p4 n4 w5.heap.size A0 wr a3.isNone h0 (by omega) (t0.below hbel) i0 (unhide G0) h1 (by omega) (t1.below hbel) i1 (unhide G1) h2 (by omega) (t2.below hbel) i2 (unhide G2)
        h3 (by omega) (t3.below hbel) i3 (unhide G3) hqn h4 (by omega) i4 (by have := hbel.size; omega) (fun h => ⟨(unhide HF8 h).1, (unhide HF8 h).2.below hbel (unhide HF8 h).2.lt⟩) hP).mono ?_
      rintro e w10 ⟨rfl, hgr, A, hA, hM⟩
      have hpb := hP.pbits
      have HL := hide (M3_law (qn := a3.isNone) (by omega) (fun h => by have := unhide M3 (Option.isNone_iff_eq_none.1 h); exact List.eq_nil_of_length_eq_zero (by omega)) (by rw [h1]; exact hM) hPd hDd i4)
      have hw10 : Blk w10 w8.heap.size .u64 29 (wantL A0 P D n4) := by
        unfold Blk
        rw [hgr.block _ hw9.lt (by simp; omega)]
        exact hw9
      have hbw10 : Below w.heap.size w w10 := (Below.chain hbw8 hbel).grown hgr ((Below.chain hbw8 hbel).size) (fun k hk => by have := Option.some.inj hk; omega)
      have HA := hide hA
      have hMl := hM.1
      clear hA hM hgr hw9 hbel hP8 hD8 hPd hDd t0 t1 t2 t3 hbw8
      go_wp2
      go_loopw [16] (fun i wr => ∃ k : Nat, k ≤ n4 ∧ i = .int .i64 k ∧ Below w10.heap.size w10 wr) (fun i _ => n4 - (intOf i).toNat)
      case atStart => exact ⟨0, Nat.zero_le _, rfl, Below.refl _ _⟩
      case round =>
        obtain ⟨m, hm, rfl, hbel⟩ := hrel
        by_cases hlt2 : m < n4
        · obtain ⟨rfl, _⟩ := unhide HF8 (by omega)
          have hA10 := unhide HA (by omega)
          have hc1 := (hA10.below hbel hA10.lt).cell m (by omega)
          have hc2 := (hw10.below hbel hw10.lt).cell m (by rw [wantL_len]; omega)
          rw [wantL_get _ _ _ _ _ hlt2, ← unhide HL m hlt2] at hc2
          generalize A.getD m 0 = z at hc1 hc2
          clear hA10
          go_wp2
          go_region
          all_goals go_wp2
          all_goals go_roundw
          case rel => exact ⟨m + 1, by omega, by go_num, hbel.drew⟩
          case measure => simp [intOf]; omega
        · go_wp2
          try go_ret
          exact unhide HQE _ _ ⟨rfl, Below.chain hbw10 hbel⟩

set_option maxRecDepth 100000 in
set_option maxHeartbeats 4000000 in
theorem markFn_large (a0 : Option Addr) (n0 c0 : Nat) (a1 : Option Addr) (n1 c1 : Nat) (a2 : Option Addr) (n2 c2 : Nat) (a3 : Option Addr) (n3 c3 : Nat) (a4 : Option Addr) (n4 c4 : Nat) (w : World)
    (b0 : n0 ≤ 9223372036854775807) (b1 : n1 ≤ 9223372036854775807) (b2 : n2 ≤ 9223372036854775807) (b3 : n3 ≤ 9223372036854775807) (b4 : n4 ≤ 9223372036854775807)
    (hs : 131072 < n0 + n1 + n2 + n3 + n4) :
    Calls Trym.prog 3 #[.slice a0 n0 c0, .slice a1 n1 c1, .slice a2 n2 c2, .slice a3 n3 c3, .slice a4 n4 c4] w fun e w' => e = .returned (.bool true) ∧ Below w.heap.size w w' := by
  refine calls_all fun Q HQE => ?_
  go_enter Trym.func3, Trym.ntmps3
  go_wp2_with fail
  refine (bytesA_any a0 n0 c0 a1 n1 c1 a2 n2 c2 a3 n3 c3 a4 n4 c4 _ b0 b1 b2 b3 b4).mono ?_
  rintro e w0 ⟨x, rfl, rfl, hx⟩
  cases x
  · go_wp2
    try go_ret
    exact unhide HQE _ _ ⟨rfl, Below.refl _ _⟩
  have hx' := hx rfl
  clear hx
  by_cases t0 : 131072 < n0
  · go_wp2
    try go_ret
    exact unhide HQE _ _ ⟨rfl, Below.refl _ _⟩
  have d0 : decide ((131072 : Int) < (n0 : Int)) = false := decide_eq_false (by omega)
  by_cases t1 : 131072 < n1
  · go_wp2
    try go_ret
    exact unhide HQE _ _ ⟨rfl, Below.refl _ _⟩
  have d1 : decide ((131072 : Int) < (n1 : Int)) = false := decide_eq_false (by omega)
  by_cases t2 : 131072 < n2
  · go_wp2
    try go_ret
    exact unhide HQE _ _ ⟨rfl, Below.refl _ _⟩
  have d2 : decide ((131072 : Int) < (n2 : Int)) = false := decide_eq_false (by omega)
  by_cases t3 : 131072 < n3
  · go_wp2
    try go_ret
    exact unhide HQE _ _ ⟨rfl, Below.refl _ _⟩
  have d3 : decide ((131072 : Int) < (n3 : Int)) = false := decide_eq_false (by omega)
  by_cases t4 : 131072 < n4
  · go_wp2
    try go_ret
    exact unhide HQE _ _ ⟨rfl, Below.refl _ _⟩
  have d4 : decide ((131072 : Int) < (n4 : Int)) = false := decide_eq_false (by omega)
  go_wp2
  try go_ret
  exact unhide HQE _ _ ⟨rfl, Below.refl _ _⟩

end Go.Proofs.Qxb6600623aMods
