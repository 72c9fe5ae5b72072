import Derived.Test.Qxb6601679aModsCat
set_option linter.unusedVariables false
set_option linter.unusedSimpArgs false
namespace Go.Proofs.Qxb6601679aMods
open Go.RowKit

theorem row_nil {w : World} {a : Option Addr} {m : Nat} {zs : List Int} (hz : zs.length = m * 2) (hr : Row w .i32 a zs) : a = none → m = 0 ∧ m = 0 := by
  intro h
  subst h
  rcases Nat.eq_zero_or_pos m with h | h
  · exact ⟨h, h⟩
  · obtain ⟨b, off, hx, _⟩ := hr (by omega)
    cases hx
theorem news_any {w : World} {a : Option Addr} {zs : List Int} (hr : Row w .i32 a zs) : ∀ ad, a = some ad → ∀ j u, (zs.map (Value.int .i32))[j]? = some u → w.cell? (ad.add j) = some u := by
  intro ad h
  subst h
  exact news_of hr

set_option maxRecDepth 100000 in
set_option maxHeartbeats 8000000 in
theorem cat_any (n : Int) (a : Option Addr) (ma ca : Nat) (za : List Int) (b : Option Addr) (mb cb : Nat) (zb : List Int) (w : World) (wn : -9223372036854775808 ≤ n ∧ n ≤ 9223372036854775807)
    (hza : za.length = ma * 2) (hra : Row w .i32 a za) (hia : In32 za) (hna : a = none → ma = 0 ∧ ca = 0) (hla : ma ≤ 9223372036854775807)
    (hzb : zb.length = mb * 2) (hrb : Row w .i32 b zb) (hib : In32 zb) (hnb : b = none → mb = 0 ∧ cb = 0) (hlb : mb ≤ 9223372036854775807) :
    Calls Trym.prog 4 #[.int .i64 n, .slice a ma ca, .slice b mb cb] w fun e w' => e = .returned (.bool true) ∧ Below w.heap.size w w' := by
  refine calls_all fun Q HQE => ?_
  obtain ⟨wn1, wn2⟩ := wn
  have HNA := hide hna
  have HNB := hide hnb
  clear hna hnb
  go_enter Trym.func4, Trym.ntmps4
  go_wp2_with fail
  refine (bytes14 n a ma ca b mb cb w hla hlb).mono ?_
  rintro e w0 ⟨x, rfl, rfl⟩
  cases x
  · go_wp2
    try go_ret
    exact unhide HQE _ _ ⟨rfl, Below.refl _ _⟩
  by_cases ta : 65536 < ma
  · go_wp2
    try go_ret
    exact unhide HQE _ _ ⟨rfl, Below.refl _ _⟩
  by_cases tb : 65536 < mb
  · go_wp2
    try go_ret
    exact unhide HQE _ _ ⟨rfl, Below.refl _ _⟩
  by_cases tn : n < 0
  · go_wp2
    try go_ret
    exact unhide HQE _ _ ⟨rfl, Below.refl _ _⟩
  by_cases tn2 : 65536 < n
  · go_wp2
    try go_ret
    exact unhide HQE _ _ ⟨rfl, Below.refl _ _⟩
  obtain ⟨k, rfl⟩ : ∃ k : Nat, n = (k : Int) := ⟨n.toNat, by omega⟩
  have hk : k ≤ 65536 := by omega
  clear tn tn2
  go_wp2_with fail
  refine (sources_any k a ma ca za w hza (by omega) (by omega) hra hia).mono ?_
  rintro e w1 ⟨x, rfl, hb1, hs1⟩
  cases x
  · go_wp2
    try go_ret
    exact unhide HQE _ _ ⟨rfl, hb1⟩
  have HS1 := hide (hs1 rfl)
  clear hs1
  go_wp2_with fail
  refine (sources_any k b mb cb zb w1 hzb (by omega) (by omega) (hrb.below hb1) hib).mono ?_
  rintro e w2 ⟨x, rfl, hb2, hs2⟩
  have hb12 := below_chain hb1 hb2
  cases x
  · go_wp2
    try go_ret
    exact unhide HQE _ _ ⟨rfl, hb12⟩
  have HS2 := hide (hs2 rfl)
  clear hs2
  go_wp2_with fail
  refine (clone_any a ma ca za w2 hza (by omega) (hra.below hb12) (unhide HNA)).mono ?_
  rintro e w3 ⟨a', rfl, hb3, hra3⟩
  have hb13 := below_chain hb12 hb3
  go_wp2_with fail
  refine (clone_any b mb cb zb w3 hzb (by omega) (hrb.below hb13) (unhide HNB)).mono ?_
  rintro e w4 ⟨b', rfl, hb4, hrb4⟩
  have hra4 := hra3.below hb4
  have hb14 := below_chain hb13 hb4
  have na4 := row_nil hza hra4
  have nb4 := row_nil hzb hrb4
  have NA4 := hide na4
  have NB4 := hide nb4
  obtain ⟨i0, hi, hz0, hz1, hz2⟩ := info_parts Trym.info28
  have hmk : (Instr.makeSlice 22 (.int .i64 (0 : Int)) (.int .i64 ((ma : Int) + mb))).run Trym.prog w4 = .ok (.slice (some ⟨w4.heap.size, 0, none⟩) 0 (ma + mb)) (w4.alloc (.cells (madeCells (Value.agg #[.int .i32 0, .int .i32 0]).cells ((ma + mb) * 2)) 28)) := by
    have := run_make (P := Trym.prog) w4 22 28 i0 (.agg #[.int .i32 0, .int .i32 0]) Trym.underlying22 hi hz0 .i64 .i64 (0 : Int) ((ma : Int) + mb) (by omega) (by omega) (by rw [hz2]; omega) (by omega)
    rw [hz1] at this
    rw [show ((ma : Int) + mb).toNat = ma + mb by omega] at this
    simpa using this
  have hown := World.ownsRow_made (base := w4.heap.size) (e := 28) (size := 2) w4 (madeCells (Value.agg #[.int .i32 0, .int .i32 0]).cells ((ma + mb) * 2)) (ma + mb) (Nat.le_refl _) (by unfold maxLen; omega) (by rw [size_madeCells])
  have hb5 := (Below.refl w4.heap.size w4).alloc (Nat.le_refl _) (.cells (madeCells (Value.agg #[.int .i32 0, .int .i32 0]).cells ((ma + mb) * 2)) 28)
  have hnw := news_any (hra4.below hb5)
  have HNW := hide hnw
  generalize w4.alloc (.cells (madeCells (Value.agg #[.int .i32 0, .int .i32 0]).cells ((ma + mb) * 2)) 28) = w5 at *
  clear na4 nb4 hnw
  go_wp2_with (first | (at_builtin; refine wpList_append_row rfl _ _ 22 rfl w4.heap.size 28 i0 2 Trym.underlying22 hi hz1 w4.heap.size 0 (ma + mb) _ rfl hown a' ma ma (za.map (Value.int .i32)) rfl (unhide NA4) (by simp [hza]) (unhide HNW) (one_of .i32 za) (by omega) ?_; intro w6 hown6 hgr6; rw [Nat.zero_add] at hown6; simp only [List.nil_append] at hown6; have hb6 : Below w4.heap.size w4 w6 := hb5.grown hgr6 hb5.size (fun k hk => Nat.le_of_eq (Option.some.inj hk)); have HNW6 := hide (news_any (hrb4.below hb6))) | (at_builtin; refine wpList_append_row rfl _ _ 22 rfl w4.heap.size 28 i0 2 Trym.underlying22 hi hz1 w4.heap.size ma (ma + mb) _ rfl hown6 b' mb mb (zb.map (Value.int .i32)) rfl (unhide NB4) (by simp [hzb]) (unhide HNW6) (one_of .i32 zb) (by omega) ?_; intro w7 hown7 hgr7))
  have hb7 : Below w4.heap.size w4 w7 := hb6.grown hgr7 hb6.size (fun k hk => Nat.le_of_eq (Option.some.inj hk))
  have hp7 : Pre w7 w4.heap.size .i32 28 (za ++ zb) := Pre.of_own (by simpa using hown7)
  have hb17 := below_chain hb14 hb7
  have hra7 := hra4.below hb7
  have hrb7 := hrb4.below hb7
  have hrc7 := hp7.row
  clear hmk hown hb5 HNW HNW6 hown6 hgr6 hown7 hgr7 hb6 hp7 hra hrb hia hib hra3 hra4 hrb4 hb1 hb2 hb3 hb4 hb12 hb13 hb14 hb7 NA4 NB4 HNA HNB hi hz0 hz1 hz2 hla hlb
  refine (zznew_any k a' ma ma za w7 hza hk (by omega) hra7 (unhide HS1)).mono ?_
  rintro e w8 ⟨fa, na, Fa, Na, rfl, hb8, hfa, hna, hga⟩
  have HGA := hide hga
  have hrb8 := hrb7.below hb8
  have hrc8 := hrc7.below hb8
  clear hga hra7 hrb7 hrc7
  go_wp2_with fail
  refine (zznew_any k b' mb mb zb w8 hzb hk (by omega) hrb8 (unhide HS2)).mono ?_
  rintro e w9 ⟨fb, nb, Fb, Nb, rfl, hb9, hfb, hnb, hgb⟩
  have HGB := hide hgb
  have hrc9 := hrc8.below hb9
  have hfa9 := hfa.below hb9 hfa.lt
  have hna9 := hna.below hb9 hna.lt
  clear hgb hrb8 hrc8 hfa hna
  go_wp2_with fail
  refine (zznew_any k _ (ma + mb) _ (za ++ zb) w9 (by simp [hza, hzb]; omega) hk (by omega) hrc9 (cat_src hza (unhide HS1) (unhide HS2))).mono ?_
  rintro e w10 ⟨fc, nc, Fc, Nc, rfl, hb10, hfc, hnc, hgc⟩
  have HGC := hide hgc
  have hfaX := hfa9.below hb10 hfa9.lt
  have hnaX := hna9.below hb10 hna9.lt
  have hfbX := hfb.below hb10 hfb.lt
  have hnbX := hnb.below hb10 hnb.lt
  have hbX := below_chain (below_chain (below_chain hb17 hb8) hb9) hb10
  clear hgc hrc9 hfa9 hna9 hfb hnb hb8 hb9 hb10 hb17
  have el : ((k : Int) + 1 == (k : Int) + 1) = true := by simp
  go_wp2
  go_loopw [14] (fun i wr => ∃ v : Nat, v ≤ k ∧ i = .int .i64 v ∧ Below w10.heap.size w10 wr) (fun i _ => k - (intOf i).toNat)
  case atStart => exact ⟨0, Nat.zero_le _, rfl, Below.refl _ _⟩
  case round =>
    obtain ⟨v, hv, rfl, hbr⟩ := hrel
    by_cases hvk : v < k
    · have hfar := hfaX.below hbr hfaX.lt
      have hnar := hnaX.below hbr hnaX.lt
      have hfbr := hfbX.below hbr hfbX.lt
      have hnbr := hnbX.below hbr hnbX.lt
      have hfcr := hfc.below hbr hfc.lt
      have hncr := hnc.below hbr hnc.lt
      go_wp2_with fail
      refine (out_any k ma fa na v za Fa Na wr hk (by omega) hfar hnar (unhide HGA) hvk).mono ?_
      rintro e w11 ⟨oa, oca, rfl, rfl, hoa⟩
      go_wp2_with fail
      refine (out_any k mb fb nb v zb Fb Nb wr hk (by omega) hfbr hnbr (unhide HGB) hvk).mono ?_
      rintro e w11 ⟨ob, ocb, rfl, rfl, hob⟩
      go_wp2_with fail
      refine (out_any k (ma + mb) fc nc v (za ++ zb) Fc Nc wr hk (by omega) hfcr hncr (unhide HGC) hvk).mono ?_
      rintro e w11 ⟨oc, occ, rfl, rfl, hoc⟩
      obtain ⟨La, la1, la2, la3⟩ := hoa
      obtain ⟨Lb, lb1, lb2, lb3⟩ := hob
      obtain ⟨Lc, lc1, lc2, lc3⟩ := hoc
      have hC := cat_C_right (b := zb) hza (v : Int) mb
      have hE1 : ∀ i, i < C za v ma → Lc.getD i 0 = La.getD i 0 := fun i hi => by
        rw [lc2 i (by omega), la2 i hi]
        exact cat_left hza (unhide HGA) (unhide HGC) hi
      have hE2 : ∀ i, i < C zb v mb → Lc.getD (C za v ma + i) 0 = Lb.getD i 0 := fun i hi => by
        rw [lc2 _ (by omega), lb2 i hi]
        exact cat_right hza (unhide HGB) (unhide HGC) hi
      have HE1 := hide hE1
      have HE2 := hide hE2
      have xa := C_le za v ma
      have xb := C_le zb v mb
      rw [hC] at lc1 ⊢
      clear la2 lb2 lc2 hE1 hE2 hfar hnar hfbr hnbr hfcr hncr hC
      generalize C za v ma = A at *
      generalize C zb v mb = B at *
      have ew : ((A : Int) + B == (A : Int) + B) = true := by simp
      obtain ⟨wv, hwv⟩ : ∃ x, x = wr := ⟨wr, rfl⟩
      subst hwv
      go_wp2
      go_loopw [21] (fun i wr => ∃ t : Nat, t ≤ A ∧ i = .int .i64 t ∧ Below wv.heap.size wv wr) (fun i _ => A - (intOf i).toNat)
      case atStart => exact ⟨0, Nat.zero_le _, rfl, Below.refl _ _⟩
      case round =>
        obtain ⟨t, ht, rfl, hbt⟩ := hrel
        by_cases htA : t < A
        · obtain ⟨p1, f1, hx1, hc1⟩ := la3.below hbt (by omega)
          obtain ⟨p2, f2, hx2, hc2⟩ := lc3.below hbt (by omega)
          cases hx1
          cases hx2
          have hk1 := hc1 t (by omega)
          have hk2 := hc2 t (by omega)
          rw [unhide HE1 t htA] at hk2
          generalize La.getD t 0 = y at hk1 hk2
          have ey : (y == y) = true := by simp
          clear hc1 hc2
          go_wp2
          go_quiet (fail)
          go_wp2
          go_roundw
          case rel => exact ⟨t + 1, by omega, by go_num, below_drewN hbt _⟩
          case measure => simp [intOf]; omega
        · obtain ⟨wz, hwz⟩ : ∃ x, x = wr := ⟨wr, rfl⟩
          subst hwz
          have lb4 := lb3.below hbt
          have lc4 := lc3.below hbt
          have hbz := below_chain hbr hbt
          go_wp2
          go_loopw [22] (fun i wr => ∃ t : Nat, t ≤ B ∧ i = .int .i64 t ∧ Below wz.heap.size wz wr) (fun i _ => B - (intOf i).toNat)
          case atStart => exact ⟨0, Nat.zero_le _, rfl, Below.refl _ _⟩
          case round =>
            obtain ⟨t, ht, rfl, hbt⟩ := hrel
            by_cases htB : t < B
            · obtain ⟨p1, f1, hx1, hc1⟩ := lb4.below hbt (by omega)
              obtain ⟨p2, f2, hx2, hc2⟩ := lc4.below hbt (by omega)
              cases hx1
              cases hx2
              have hk1 := hc1 t (by omega)
              have hk2 := hc2 (A + t) (by omega)
              rw [unhide HE2 t htB] at hk2
              generalize Lb.getD t 0 = y at hk1 hk2
              have ey : (y == y) = true := by simp
              clear hc1 hc2
              go_wp2
              go_quiet (fail)
              go_wp2
              go_roundw
              case rel => exact ⟨t + 1, by omega, by go_num, below_drewN hbt _⟩
              case measure => simp [intOf]; omega
            · go_wp2
              go_roundw
              case rel => exact ⟨v + 1, by omega, by go_num, below_chain hbz hbt⟩
              case measure => simp [intOf]; omega
    · go_wp2
      try go_ret
      exact unhide HQE _ _ ⟨rfl, below_chain hbX hbr⟩

end Go.Proofs.Qxb6601679aMods
