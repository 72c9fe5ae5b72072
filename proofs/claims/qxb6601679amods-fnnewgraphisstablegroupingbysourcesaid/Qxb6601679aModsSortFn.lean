import Derived.Test.Qxb6601679aModsSort
import Derived.Deep.DeepCutAuto
set_option linter.unusedVariables false
set_option linter.unusedSimpArgs false
namespace Go.Proofs.Qxb6601679aMods
open Go.RowKit

theorem mk22 (w : World) (m : Nat) (hm : m ≤ 1048576) : (Instr.makeSlice 22 (.int .i64 (m : Int)) (.int .i64 (m : Int))).run Trym.prog w = .ok (.slice (some ⟨w.heap.size, 0, none⟩) m m) (w.alloc (.cells (madeCells #[.int .i32 0, .int .i32 0] (m * 2)) 28)) := by
  obtain ⟨i0, hi, hz0, hz1, hz2⟩ := info_parts Trym.info28
  have := run_make (P := Trym.prog) w 22 28 i0 (.agg #[.int .i32 0, .int .i32 0]) Trym.underlying22 hi hz0 .i64 .i64 (m : Int) (m : Int) (by omega) (Int.le_refl _) (by rw [hz2]; omega) (by omega)
  rw [hz1] at this
  simpa [Value.cells] using this

set_option maxRecDepth 100000 in
set_option maxHeartbeats 8000000 in
theorem sort_any (a : Option Addr) (m c : Nat) (zs : List Int) (w : World) (hz : zs.length = m * 2) (hm : m ≤ 131072) (hr : Row w .i32 a zs) (hnil : a = none → m = 0 ∧ c = 0) :
    Calls Trym.prog 13 #[.slice a m c] w fun e w' => ∃ (g : Nat) (A : List Int) (P : Nat → Nat), e = .returned (.slice (some ⟨g, 0, none⟩) m m) ∧ Below w.heap.size w w' ∧ Blk w' g .i32 28 A ∧ A.length = m * 2 ∧ Run zs A P 0 m := by
  refine calls_all fun Q HQE => ?_
  have HNIL := hide hnil
  clear hnil
  obtain ⟨i0, hi, hz0, hz1, hz2⟩ := info_parts Trym.info28
  have mk := fun w => mk22 w m (by omega)
  have hb1 := (Below.refl w.heap.size w).alloc (Nat.le_refl _) (.cells (madeCells #[.int .i32 0, .int .i32 0] (m * 2)) 28)
  have hr1 := hr.below hb1
  have hblk := Blk.made2 w m
  go_enter Trym.func13, Trym.ntmps13
  go_wp2_with (refine wpList_copy_row rfl _ _ 22 22 rfl 28 i0 Trym.underlying22 hi hz1 w.heap.size m m a c zs (List.replicate (m * 2) 0) rfl rfl (unhide HNIL) hz (by simp) hr1 hblk ?_; intro w2 hblk2 hgr2)
  have hb2 : Below w.heap.size w w2 := hb1.grown hgr2 hb1.size (fun k hk => Nat.le_of_eq (Option.some.inj hk))
  have h12 : w.heap.size < w2.heap.size := hblk2.lt
  have two : Two w (w2.alloc (.cells (madeCells #[.int .i32 0, .int .i32 0] (m * 2)) 28)) w.heap.size w2.heap.size m zs (List.replicate (m * 2) 0) :=
    ⟨hb2.alloc hb2.size _, Nat.le_refl _, Nat.le_of_lt h12, Nat.ne_of_lt h12, hblk2.alloc _, Blk.made2 w2 m, hz, by simp⟩
  clear mk hb1 hr1 hblk hi hz0 hz1 hz2 hblk2 hgr2 hr
  go_loopw [3, 4, 5] (fun sa sb wd wr => ∃ (ga gb d : Nat) (A B : List Int) (P : Nat → Nat), sa = .slice (some ⟨ga, 0, none⟩) m m ∧ sb = .slice (some ⟨gb, 0, none⟩) m m ∧ wd = .int .i64 d ∧ 1 ≤ d ∧ d ≤ 262144 ∧ Two w wr ga gb m A B ∧ Hid (Sorted zs A P d m)) (fun _ _ wd _ => m - (intOf wd).toNat)
  case atStart => exact ⟨_, _, 1, zs, _, id, rfl, rfl, rfl, by omega, by omega, two, sorted_one zs m⟩
  case round =>
    clear two
    obtain ⟨ga, gb, d, A, B, P, rfl, rfl, rfl, d1, d2, two, hsd⟩ := hrel
    by_cases hdm : d < m
    · obtain ⟨w3, hw3⟩ : ∃ x, x = wr := ⟨wr, rfl⟩
      subst hw3
      go_wp2
      go_loopw [6] (fun lo wr => ∃ (l : Nat) (B : List Int) (R : Nat → Nat), lo = .int .i64 l ∧ l ≤ m + 2 * d ∧ Two w wr ga gb m A B ∧ Hid (2 * d ∣ l ∧ Done zs B R (2 * d) l m)) (fun lo _ => m - (intOf lo).toNat)
      case atStart => exact ⟨0, B, id, rfl, by omega, two, Nat.dvd_zero _, fun l h1 h2 h3 => by omega⟩
      case round =>
        clear two
        obtain ⟨l, B, R, rfl, hl, two, hdn⟩ := hrel
        by_cases hlm : l < m
        · obtain ⟨w4, hw4⟩ : ∃ x, x = wr := ⟨wr, rfl⟩
          subst hw4
          by_cases q1 : l + 2 * d ≤ m
          · have q0 : ((l : Int) + d ≤ m) := by omega
            have HL : Hid (Run zs A P l (l + d)) := by have h := sorted_left hsd.out hdn.out.1 hlm; rwa [show min (l + d) m = l + d by omega] at h
            have HRr : Hid (Run zs A P (l + d) (l + 2 * d)) := by have h := sorted_right hsd.out hdn.out.1 hlm; rwa [show min (l + d) m = l + d by omega, show min (l + 2 * d) m = l + 2 * d by omega] at h
            have HW : min (l + 2 * d) m = l + 2 * d := by omega
            have HW' := hide HW
            have hne := two.ne
            clear HW
            go_wp2
            go_loopw [9, 10, 11] (fun si sj sk wr => ∃ (i j k : Nat) (B : List Int) (R : Nat → Nat), si = .int .i64 i ∧ sj = .int .i64 j ∧ sk = .int .i64 k ∧ Two w wr ga gb m A B ∧ Hid (Merge zs A B P R l (l + d) (l + 2 * d) i j k ∧ Done zs B R (2 * d) l m)) (fun si sj _ _ => (l + d) + (l + 2 * d) - (intOf si).toNat - (intOf sj).toNat)
            case atStart => exact ⟨l, l + d, l, B, R, rfl, by go_num, rfl, two, merge_start _ _ _ _ _ _ _ _ (by omega) (by omega), hdn.out.2⟩
            case round =>
              have HDV := hide hdn.out.1
              clear two hdn
              obtain ⟨i, j, k, B, R, rfl, rfl, rfl, two, hmd⟩ := hrel
              obtain ⟨hmg, hdo⟩ := hmd.out
              have e1 := hmg.li
              have e2 := hmg.im
              have e3 := hmg.mj
              have e4 := hmg.jh
              have e5 := hmg.kk
              by_cases hij : i < l + d ∧ j < l + 2 * d
              · obtain ⟨hi1, hj1⟩ := hij
                have ha0 := two.fst.cell (i * 2) (by rw [two.la]; omega)
                have ha1 := two.fst.cell (i * 2 + 1) (by rw [two.la]; omega)
                rw [((unhide HL).has i hmg.li (by omega)).1] at ha0
                rw [((unhide HL).has i hmg.li (by omega)).2] at ha1
                have hb0 := two.fst.cell (j * 2) (by rw [two.la]; omega)
                have hb1 := two.fst.cell (j * 2 + 1) (by rw [two.la]; omega)
                rw [((unhide HRr).has j hmg.mj (by omega)).1] at hb0
                rw [((unhide HRr).has j hmg.mj (by omega)).2] at hb1
                have hkB : k < m := by have := hmg.kk; have := hmg.im; have := hmg.jh; omega
                have hw0 := two.snd.cell (k * 2) (by rw [two.lb]; omega)
                have hw1 := two.snd.cell (k * 2 + 1) (by rw [two.lb]; omega)
                have hwf0 := two.snd.frozen (k * 2)
                have hwf1 := two.snd.frozen (k * 2 + 1)
                generalize B.getD (k * 2) 0 = y0 at hw0
                generalize B.getD (k * 2 + 1) 0 = y1 at hw1
                have HMG := hide hmg
                have HDO := hide hdo
                have TWO := hide two
                by_cases hcmp : src zs (P j) < src zs (P i)
                · have HN := hide (merge_right hmg (unhide HL) (unhide HRr) (by rw [two.lb]; omega) hj1 (fun _ => hcmp))
                  have HD := hide (done_put (v := P j) (src zs (P j)) (dst zs (P j)) hdo (unhide HDV) (show l ≤ k by omega))
                  clear hmg hdo hmd
                  generalize src zs (P i) = xi at *
                  generalize dst zs (P i) = yi at *
                  generalize src zs (P j) = xj at *
                  generalize dst zs (P j) = yj at *
                  go_wp2
                  go_quiet (fail)
                  go_wp2
                  go_roundw
                  case rel => exact ⟨i, j + 1, k + 1, _, _, rfl, by go_num, by go_num, ((unhide TWO).drewN _).put k xj yj, unhide HN, unhide HD⟩
                  case measure => simp [intOf]; omega
                · have HN := hide (merge_left hmg (unhide HL) (unhide HRr) (by rw [two.lb]; omega) hi1 (fun _ => by omega))
                  have HD := hide (done_put (v := P i) (src zs (P i)) (dst zs (P i)) hdo (unhide HDV) (show l ≤ k by omega))
                  clear hmg hdo hmd
                  generalize src zs (P i) = xi at *
                  generalize dst zs (P i) = yi at *
                  generalize src zs (P j) = xj at *
                  generalize dst zs (P j) = yj at *
                  go_wp2
                  go_quiet (fail)
                  go_wp2
                  go_roundw
                  case rel => exact ⟨i + 1, j, k + 1, _, _, by go_num, rfl, by go_num, ((unhide TWO).drewN _).put k xi yi, unhide HN, unhide HD⟩
                  case measure => simp [intOf]; omega
              · obtain ⟨w5, hw5⟩ : ∃ x, x = wr := ⟨wr, rfl⟩
                subst hw5
                have HIJ : Hid (i < l + d → j = l + 2 * d) := fun h => by omega
                have HMG := hide hmg
                have HDO := hide hdo
                clear hmg hdo hmd
                by_cases hi1 : i < l + d
                · skip
                  go_wp2
                  go_loopw [9, 11] (fun si sk wr => ∃ (i k : Nat) (B : List Int) (R : Nat → Nat), si = .int .i64 i ∧ sk = .int .i64 k ∧ Two w wr ga gb m A B ∧ Hid (i < l + d → j = l + 2 * d) ∧ Hid (Merge zs A B P R l (l + d) (l + 2 * d) i j k ∧ Done zs B R (2 * d) l m)) (fun si _ _ => (l + d) - (intOf si).toNat)
                  case atStart => exact ⟨i, k, B, R, rfl, rfl, two, unhide HIJ, unhide HMG, unhide HDO⟩
                  case round =>
                    clear two HMG HDO HIJ e1 e2 e3 e4 e5 hij hi1
                    obtain ⟨i, k, B, R, rfl, rfl, two, hjj, hmd⟩ := hrel
                    obtain ⟨hmg, hdo⟩ := hmd.out
                    have e1 := hmg.li
                    have e2 := hmg.im
                    have e3 := hmg.mj
                    have e4 := hmg.jh
                    have e5 := hmg.kk
                    by_cases hi2 : i < l + d
                    · skip
                      have ha0 := two.fst.cell (i * 2) (by rw [two.la]; omega)
                      have ha1 := two.fst.cell (i * 2 + 1) (by rw [two.la]; omega)
                      rw [((unhide HL).has i hmg.li (by omega)).1] at ha0
                      rw [((unhide HL).has i hmg.li (by omega)).2] at ha1
                      have hkB : k < m := by have := hmg.kk; have := hmg.im; have := hmg.jh; omega
                      have hw0 := two.snd.cell (k * 2) (by rw [two.lb]; omega)
                      have hw1 := two.snd.cell (k * 2 + 1) (by rw [two.lb]; omega)
                      have hwf0 := two.snd.frozen (k * 2)
                      have hwf1 := two.snd.frozen (k * 2 + 1)
                      generalize B.getD (k * 2) 0 = y0 at hw0
                      generalize B.getD (k * 2 + 1) 0 = y1 at hw1
                      have TWO := hide two
                      have HN := hide (merge_left hmg (unhide HL) (unhide HRr) (by rw [two.lb]; omega) hi2 (fun h => by have := hjj.out hi2; omega))
                      have HD := hide (done_put (v := P i) (src zs (P i)) (dst zs (P i)) hdo (unhide HDV) (show l ≤ k by omega))
                      clear hmg hdo hmd
                      generalize src zs (P i) = xi at *
                      generalize dst zs (P i) = yi at *
                      go_wp2
                      go_roundw
                      case rel => exact ⟨i + 1, k + 1, _, _, by go_num, by go_num, (unhide TWO).put k xi yi, fun _ => hjj.out hi2, unhide HN, unhide HD⟩
                      case measure => simp [intOf]; omega
                    · skip
                      have hji : l + d = i := by omega
                      subst hji
                      obtain ⟨w6, hw6⟩ : ∃ x, x = wr := ⟨wr, rfl⟩
                      subst hw6
                      clear hjj
                      go_wp2
                      go_loopw [10, 11] (fun sj sk wr => ∃ (j k : Nat) (B : List Int) (R : Nat → Nat), sj = .int .i64 j ∧ sk = .int .i64 k ∧ Two w wr ga gb m A B ∧ Hid (Merge zs A B P R l (l + d) (l + 2 * d) (l + d) j k ∧ Done zs B R (2 * d) l m)) (fun sj _ _ => (l + 2 * d) - (intOf sj).toNat)
                      case atStart => exact ⟨j, k, B, R, rfl, rfl, two, hmg, hdo⟩
                      case round =>
                        clear two hmg hdo hmd e1 e2 e3 e4 e5
                        obtain ⟨j, k, B, R, rfl, rfl, two, hmd⟩ := hrel
                        obtain ⟨hmg, hdo⟩ := hmd.out
                        have e1 := hmg.li
                        have e2 := hmg.im
                        have e3 := hmg.mj
                        have e4 := hmg.jh
                        have e5 := hmg.kk
                        by_cases hj2 : j < l + 2 * d
                        · skip
                          have hb0 := two.fst.cell (j * 2) (by rw [two.la]; omega)
                          have hb1 := two.fst.cell (j * 2 + 1) (by rw [two.la]; omega)
                          rw [((unhide HRr).has j hmg.mj (by omega)).1] at hb0
                          rw [((unhide HRr).has j hmg.mj (by omega)).2] at hb1
                          have hkB : k < m := by have := hmg.kk; have := hmg.im; have := hmg.jh; omega
                          have hw0 := two.snd.cell (k * 2) (by rw [two.lb]; omega)
                          have hw1 := two.snd.cell (k * 2 + 1) (by rw [two.lb]; omega)
                          have hwf0 := two.snd.frozen (k * 2)
                          have hwf1 := two.snd.frozen (k * 2 + 1)
                          generalize B.getD (k * 2) 0 = y0 at hw0
                          generalize B.getD (k * 2 + 1) 0 = y1 at hw1
                          have TWO := hide two
                          have HN := hide (merge_right hmg (unhide HL) (unhide HRr) (by rw [two.lb]; omega) hj2 (fun h => by omega))
                          have HD := hide (done_put (v := P j) (src zs (P j)) (dst zs (P j)) hdo (unhide HDV) (show l ≤ k by omega))
                          clear hmg hdo hmd
                          generalize src zs (P j) = xj at *
                          generalize dst zs (P j) = yj at *
                          go_wp2
                          go_roundw
                          case rel => exact ⟨j + 1, k + 1, _, _, by go_num, by go_num, (unhide TWO).put k xj yj, unhide HN, unhide HD⟩
                          case measure => simp [intOf]; omega
                        · have hjh : l + 2 * d = j := by omega
                          subst hjh
                          have HF := hide (done_next hdo (unhide HDV) (by rw [unhide HW']; exact merge_end hmg))
                          clear hmg hdo hmd
                          go_wp2
                          go_roundw
                          case rel => exact ⟨l + 2 * d, B, R, by go_num, by omega, two, Nat.dvd_add (unhide HDV) (Nat.dvd_refl _), unhide HF⟩
                          case measure => simp [intOf]; omega
                · skip
                  go_wp2
                  go_loopw [9, 11] (fun si sk wr => ∃ (i k : Nat) (B : List Int) (R : Nat → Nat), si = .int .i64 i ∧ sk = .int .i64 k ∧ Two w wr ga gb m A B ∧ Hid (i < l + d → j = l + 2 * d) ∧ Hid (Merge zs A B P R l (l + d) (l + 2 * d) i j k ∧ Done zs B R (2 * d) l m)) (fun si _ _ => (l + d) - (intOf si).toNat)
                  case atStart => exact ⟨i, k, B, R, rfl, rfl, two, unhide HIJ, unhide HMG, unhide HDO⟩
                  case round =>
                    clear two HMG HDO HIJ e1 e2 e3 e4 e5 hij hi1
                    obtain ⟨i, k, B, R, rfl, rfl, two, hjj, hmd⟩ := hrel
                    obtain ⟨hmg, hdo⟩ := hmd.out
                    have e1 := hmg.li
                    have e2 := hmg.im
                    have e3 := hmg.mj
                    have e4 := hmg.jh
                    have e5 := hmg.kk
                    by_cases hi2 : i < l + d
                    · skip
                      have ha0 := two.fst.cell (i * 2) (by rw [two.la]; omega)
                      have ha1 := two.fst.cell (i * 2 + 1) (by rw [two.la]; omega)
                      rw [((unhide HL).has i hmg.li (by omega)).1] at ha0
                      rw [((unhide HL).has i hmg.li (by omega)).2] at ha1
                      have hkB : k < m := by have := hmg.kk; have := hmg.im; have := hmg.jh; omega
                      have hw0 := two.snd.cell (k * 2) (by rw [two.lb]; omega)
                      have hw1 := two.snd.cell (k * 2 + 1) (by rw [two.lb]; omega)
                      have hwf0 := two.snd.frozen (k * 2)
                      have hwf1 := two.snd.frozen (k * 2 + 1)
                      generalize B.getD (k * 2) 0 = y0 at hw0
                      generalize B.getD (k * 2 + 1) 0 = y1 at hw1
                      have TWO := hide two
                      have HN := hide (merge_left hmg (unhide HL) (unhide HRr) (by rw [two.lb]; omega) hi2 (fun h => by have := hjj.out hi2; omega))
                      have HD := hide (done_put (v := P i) (src zs (P i)) (dst zs (P i)) hdo (unhide HDV) (show l ≤ k by omega))
                      clear hmg hdo hmd
                      generalize src zs (P i) = xi at *
                      generalize dst zs (P i) = yi at *
                      go_wp2
                      go_roundw
                      case rel => exact ⟨i + 1, k + 1, _, _, by go_num, by go_num, (unhide TWO).put k xi yi, fun _ => hjj.out hi2, unhide HN, unhide HD⟩
                      case measure => simp [intOf]; omega
                    · skip
                      have hji : l + d = i := by omega
                      subst hji
                      obtain ⟨w6, hw6⟩ : ∃ x, x = wr := ⟨wr, rfl⟩
                      subst hw6
                      clear hjj
                      go_wp2
                      go_loopw [10, 11] (fun sj sk wr => ∃ (j k : Nat) (B : List Int) (R : Nat → Nat), sj = .int .i64 j ∧ sk = .int .i64 k ∧ Two w wr ga gb m A B ∧ Hid (Merge zs A B P R l (l + d) (l + 2 * d) (l + d) j k ∧ Done zs B R (2 * d) l m)) (fun sj _ _ => (l + 2 * d) - (intOf sj).toNat)
                      case atStart => exact ⟨j, k, B, R, rfl, rfl, two, hmg, hdo⟩
                      case round =>
                        clear two hmg hdo hmd e1 e2 e3 e4 e5
                        obtain ⟨j, k, B, R, rfl, rfl, two, hmd⟩ := hrel
                        obtain ⟨hmg, hdo⟩ := hmd.out
                        have e1 := hmg.li
                        have e2 := hmg.im
                        have e3 := hmg.mj
                        have e4 := hmg.jh
                        have e5 := hmg.kk
                        by_cases hj2 : j < l + 2 * d
                        · skip
                          have hb0 := two.fst.cell (j * 2) (by rw [two.la]; omega)
                          have hb1 := two.fst.cell (j * 2 + 1) (by rw [two.la]; omega)
                          rw [((unhide HRr).has j hmg.mj (by omega)).1] at hb0
                          rw [((unhide HRr).has j hmg.mj (by omega)).2] at hb1
                          have hkB : k < m := by have := hmg.kk; have := hmg.im; have := hmg.jh; omega
                          have hw0 := two.snd.cell (k * 2) (by rw [two.lb]; omega)
                          have hw1 := two.snd.cell (k * 2 + 1) (by rw [two.lb]; omega)
                          have hwf0 := two.snd.frozen (k * 2)
                          have hwf1 := two.snd.frozen (k * 2 + 1)
                          generalize B.getD (k * 2) 0 = y0 at hw0
                          generalize B.getD (k * 2 + 1) 0 = y1 at hw1
                          have TWO := hide two
                          have HN := hide (merge_right hmg (unhide HL) (unhide HRr) (by rw [two.lb]; omega) hj2 (fun h => by omega))
                          have HD := hide (done_put (v := P j) (src zs (P j)) (dst zs (P j)) hdo (unhide HDV) (show l ≤ k by omega))
                          clear hmg hdo hmd
                          generalize src zs (P j) = xj at *
                          generalize dst zs (P j) = yj at *
                          go_wp2
                          go_roundw
                          case rel => exact ⟨j + 1, k + 1, _, _, by go_num, by go_num, (unhide TWO).put k xj yj, unhide HN, unhide HD⟩
                          case measure => simp [intOf]; omega
                        · have hjh : l + 2 * d = j := by omega
                          subst hjh
                          have HF := hide (done_next hdo (unhide HDV) (by rw [unhide HW']; exact merge_end hmg))
                          clear hmg hdo hmd
                          go_wp2
                          go_roundw
                          case rel => exact ⟨l + 2 * d, B, R, by go_num, by omega, two, Nat.dvd_add (unhide HDV) (Nat.dvd_refl _), unhide HF⟩
                          case measure => simp [intOf]; omega
          · by_cases q2 : l + d ≤ m
            · skip
              have HL : Hid (Run zs A P l (l + d)) := by have h := sorted_left hsd.out hdn.out.1 hlm; rwa [show min (l + d) m = l + d by omega] at h
              have HRr : Hid (Run zs A P (l + d) (m)) := by have h := sorted_right hsd.out hdn.out.1 hlm; rwa [show min (l + d) m = l + d by omega, show min (l + 2 * d) m = m by omega] at h
              have HW : min (l + 2 * d) m = m := by omega
              have HW' := hide HW
              have hne := two.ne
              clear HW
              go_wp2
              go_loopw [9, 10, 11] (fun si sj sk wr => ∃ (i j k : Nat) (B : List Int) (R : Nat → Nat), si = .int .i64 i ∧ sj = .int .i64 j ∧ sk = .int .i64 k ∧ Two w wr ga gb m A B ∧ Hid (Merge zs A B P R l (l + d) (m) i j k ∧ Done zs B R (2 * d) l m)) (fun si sj _ _ => (l + d) + (m) - (intOf si).toNat - (intOf sj).toNat)
              case atStart => exact ⟨l, l + d, l, B, R, rfl, by go_num, rfl, two, merge_start _ _ _ _ _ _ _ _ (by omega) (by omega), hdn.out.2⟩
              case round =>
                have HDV := hide hdn.out.1
                clear two hdn
                obtain ⟨i, j, k, B, R, rfl, rfl, rfl, two, hmd⟩ := hrel
                obtain ⟨hmg, hdo⟩ := hmd.out
                have e1 := hmg.li
                have e2 := hmg.im
                have e3 := hmg.mj
                have e4 := hmg.jh
                have e5 := hmg.kk
                by_cases hij : i < l + d ∧ j < m
                · obtain ⟨hi1, hj1⟩ := hij
                  have ha0 := two.fst.cell (i * 2) (by rw [two.la]; omega)
                  have ha1 := two.fst.cell (i * 2 + 1) (by rw [two.la]; omega)
                  rw [((unhide HL).has i hmg.li (by omega)).1] at ha0
                  rw [((unhide HL).has i hmg.li (by omega)).2] at ha1
                  have hb0 := two.fst.cell (j * 2) (by rw [two.la]; omega)
                  have hb1 := two.fst.cell (j * 2 + 1) (by rw [two.la]; omega)
                  rw [((unhide HRr).has j hmg.mj (by omega)).1] at hb0
                  rw [((unhide HRr).has j hmg.mj (by omega)).2] at hb1
                  have hkB : k < m := by have := hmg.kk; have := hmg.im; have := hmg.jh; omega
                  have hw0 := two.snd.cell (k * 2) (by rw [two.lb]; omega)
                  have hw1 := two.snd.cell (k * 2 + 1) (by rw [two.lb]; omega)
                  have hwf0 := two.snd.frozen (k * 2)
                  have hwf1 := two.snd.frozen (k * 2 + 1)
                  generalize B.getD (k * 2) 0 = y0 at hw0
                  generalize B.getD (k * 2 + 1) 0 = y1 at hw1
                  have HMG := hide hmg
                  have HDO := hide hdo
                  have TWO := hide two
                  by_cases hcmp : src zs (P j) < src zs (P i)
                  · have HN := hide (merge_right hmg (unhide HL) (unhide HRr) (by rw [two.lb]; omega) hj1 (fun _ => hcmp))
                    have HD := hide (done_put (v := P j) (src zs (P j)) (dst zs (P j)) hdo (unhide HDV) (show l ≤ k by omega))
                    clear hmg hdo hmd
                    generalize src zs (P i) = xi at *
                    generalize dst zs (P i) = yi at *
                    generalize src zs (P j) = xj at *
                    generalize dst zs (P j) = yj at *
                    go_wp2
                    go_quiet (fail)
                    go_wp2
                    go_roundw
                    case rel => exact ⟨i, j + 1, k + 1, _, _, rfl, by go_num, by go_num, ((unhide TWO).drewN _).put k xj yj, unhide HN, unhide HD⟩
                    case measure => simp [intOf]; omega
                  · have HN := hide (merge_left hmg (unhide HL) (unhide HRr) (by rw [two.lb]; omega) hi1 (fun _ => by omega))
                    have HD := hide (done_put (v := P i) (src zs (P i)) (dst zs (P i)) hdo (unhide HDV) (show l ≤ k by omega))
                    clear hmg hdo hmd
                    generalize src zs (P i) = xi at *
                    generalize dst zs (P i) = yi at *
                    generalize src zs (P j) = xj at *
                    generalize dst zs (P j) = yj at *
                    go_wp2
                    go_quiet (fail)
                    go_wp2
                    go_roundw
                    case rel => exact ⟨i + 1, j, k + 1, _, _, by go_num, rfl, by go_num, ((unhide TWO).drewN _).put k xi yi, unhide HN, unhide HD⟩
                    case measure => simp [intOf]; omega
                · obtain ⟨w5, hw5⟩ : ∃ x, x = wr := ⟨wr, rfl⟩
                  subst hw5
                  have HIJ : Hid (i < l + d → j = m) := fun h => by omega
                  have HMG := hide hmg
                  have HDO := hide hdo
                  clear hmg hdo hmd
                  by_cases hi1 : i < l + d
                  · skip
                    go_wp2
                    go_loopw [9, 11] (fun si sk wr => ∃ (i k : Nat) (B : List Int) (R : Nat → Nat), si = .int .i64 i ∧ sk = .int .i64 k ∧ Two w wr ga gb m A B ∧ Hid (i < l + d → j = m) ∧ Hid (Merge zs A B P R l (l + d) (m) i j k ∧ Done zs B R (2 * d) l m)) (fun si _ _ => (l + d) - (intOf si).toNat)
                    case atStart => exact ⟨i, k, B, R, rfl, rfl, two, unhide HIJ, unhide HMG, unhide HDO⟩
                    case round =>
                      clear two HMG HDO HIJ e1 e2 e3 e4 e5 hij hi1
                      obtain ⟨i, k, B, R, rfl, rfl, two, hjj, hmd⟩ := hrel
                      obtain ⟨hmg, hdo⟩ := hmd.out
                      have e1 := hmg.li
                      have e2 := hmg.im
                      have e3 := hmg.mj
                      have e4 := hmg.jh
                      have e5 := hmg.kk
                      by_cases hi2 : i < l + d
                      · skip
                        have ha0 := two.fst.cell (i * 2) (by rw [two.la]; omega)
                        have ha1 := two.fst.cell (i * 2 + 1) (by rw [two.la]; omega)
                        rw [((unhide HL).has i hmg.li (by omega)).1] at ha0
                        rw [((unhide HL).has i hmg.li (by omega)).2] at ha1
                        have hkB : k < m := by have := hmg.kk; have := hmg.im; have := hmg.jh; omega
                        have hw0 := two.snd.cell (k * 2) (by rw [two.lb]; omega)
                        have hw1 := two.snd.cell (k * 2 + 1) (by rw [two.lb]; omega)
                        have hwf0 := two.snd.frozen (k * 2)
                        have hwf1 := two.snd.frozen (k * 2 + 1)
                        generalize B.getD (k * 2) 0 = y0 at hw0
                        generalize B.getD (k * 2 + 1) 0 = y1 at hw1
                        have TWO := hide two
                        have HN := hide (merge_left hmg (unhide HL) (unhide HRr) (by rw [two.lb]; omega) hi2 (fun h => by have := hjj.out hi2; omega))
                        have HD := hide (done_put (v := P i) (src zs (P i)) (dst zs (P i)) hdo (unhide HDV) (show l ≤ k by omega))
                        clear hmg hdo hmd
                        generalize src zs (P i) = xi at *
                        generalize dst zs (P i) = yi at *
                        go_wp2
                        go_roundw
                        case rel => exact ⟨i + 1, k + 1, _, _, by go_num, by go_num, (unhide TWO).put k xi yi, fun _ => hjj.out hi2, unhide HN, unhide HD⟩
                        case measure => simp [intOf]; omega
                      · skip
                        have hji : l + d = i := by omega
                        subst hji
                        obtain ⟨w6, hw6⟩ : ∃ x, x = wr := ⟨wr, rfl⟩
                        subst hw6
                        clear hjj
                        go_wp2
                        go_loopw [10, 11] (fun sj sk wr => ∃ (j k : Nat) (B : List Int) (R : Nat → Nat), sj = .int .i64 j ∧ sk = .int .i64 k ∧ Two w wr ga gb m A B ∧ Hid (Merge zs A B P R l (l + d) (m) (l + d) j k ∧ Done zs B R (2 * d) l m)) (fun sj _ _ => (m) - (intOf sj).toNat)
                        case atStart => exact ⟨j, k, B, R, rfl, rfl, two, hmg, hdo⟩
                        case round =>
                          clear two hmg hdo hmd e1 e2 e3 e4 e5
                          obtain ⟨j, k, B, R, rfl, rfl, two, hmd⟩ := hrel
                          obtain ⟨hmg, hdo⟩ := hmd.out
                          have e1 := hmg.li
                          have e2 := hmg.im
                          have e3 := hmg.mj
                          have e4 := hmg.jh
                          have e5 := hmg.kk
                          by_cases hj2 : j < m
                          · skip
                            have hb0 := two.fst.cell (j * 2) (by rw [two.la]; omega)
                            have hb1 := two.fst.cell (j * 2 + 1) (by rw [two.la]; omega)
                            rw [((unhide HRr).has j hmg.mj (by omega)).1] at hb0
                            rw [((unhide HRr).has j hmg.mj (by omega)).2] at hb1
                            have hkB : k < m := by have := hmg.kk; have := hmg.im; have := hmg.jh; omega
                            have hw0 := two.snd.cell (k * 2) (by rw [two.lb]; omega)
                            have hw1 := two.snd.cell (k * 2 + 1) (by rw [two.lb]; omega)
                            have hwf0 := two.snd.frozen (k * 2)
                            have hwf1 := two.snd.frozen (k * 2 + 1)
                            generalize B.getD (k * 2) 0 = y0 at hw0
                            generalize B.getD (k * 2 + 1) 0 = y1 at hw1
                            have TWO := hide two
                            have HN := hide (merge_right hmg (unhide HL) (unhide HRr) (by rw [two.lb]; omega) hj2 (fun h => by omega))
                            have HD := hide (done_put (v := P j) (src zs (P j)) (dst zs (P j)) hdo (unhide HDV) (show l ≤ k by omega))
                            clear hmg hdo hmd
                            generalize src zs (P j) = xj at *
                            generalize dst zs (P j) = yj at *
                            go_wp2
                            go_roundw
                            case rel => exact ⟨j + 1, k + 1, _, _, by go_num, by go_num, (unhide TWO).put k xj yj, unhide HN, unhide HD⟩
                            case measure => simp [intOf]; omega
                          · have hjh : m = j := by omega
                            subst hjh
                            have HF := hide (done_next hdo (unhide HDV) (by rw [unhide HW']; exact merge_end hmg))
                            clear hmg hdo hmd
                            go_wp2
                            go_roundw
                            case rel => exact ⟨l + 2 * d, B, R, by go_num, by omega, two, Nat.dvd_add (unhide HDV) (Nat.dvd_refl _), unhide HF⟩
                            case measure => simp [intOf]; omega
                  · skip
                    go_wp2
                    go_loopw [9, 11] (fun si sk wr => ∃ (i k : Nat) (B : List Int) (R : Nat → Nat), si = .int .i64 i ∧ sk = .int .i64 k ∧ Two w wr ga gb m A B ∧ Hid (i < l + d → j = m) ∧ Hid (Merge zs A B P R l (l + d) (m) i j k ∧ Done zs B R (2 * d) l m)) (fun si _ _ => (l + d) - (intOf si).toNat)
                    case atStart => exact ⟨i, k, B, R, rfl, rfl, two, unhide HIJ, unhide HMG, unhide HDO⟩
                    case round =>
                      clear two HMG HDO HIJ e1 e2 e3 e4 e5 hij hi1
                      obtain ⟨i, k, B, R, rfl, rfl, two, hjj, hmd⟩ := hrel
                      obtain ⟨hmg, hdo⟩ := hmd.out
                      have e1 := hmg.li
                      have e2 := hmg.im
                      have e3 := hmg.mj
                      have e4 := hmg.jh
                      have e5 := hmg.kk
                      by_cases hi2 : i < l + d
                      · skip
                        have ha0 := two.fst.cell (i * 2) (by rw [two.la]; omega)
                        have ha1 := two.fst.cell (i * 2 + 1) (by rw [two.la]; omega)
                        rw [((unhide HL).has i hmg.li (by omega)).1] at ha0
                        rw [((unhide HL).has i hmg.li (by omega)).2] at ha1
                        have hkB : k < m := by have := hmg.kk; have := hmg.im; have := hmg.jh; omega
                        have hw0 := two.snd.cell (k * 2) (by rw [two.lb]; omega)
                        have hw1 := two.snd.cell (k * 2 + 1) (by rw [two.lb]; omega)
                        have hwf0 := two.snd.frozen (k * 2)
                        have hwf1 := two.snd.frozen (k * 2 + 1)
                        generalize B.getD (k * 2) 0 = y0 at hw0
                        generalize B.getD (k * 2 + 1) 0 = y1 at hw1
                        have TWO := hide two
                        have HN := hide (merge_left hmg (unhide HL) (unhide HRr) (by rw [two.lb]; omega) hi2 (fun h => by have := hjj.out hi2; omega))
                        have HD := hide (done_put (v := P i) (src zs (P i)) (dst zs (P i)) hdo (unhide HDV) (show l ≤ k by omega))
                        clear hmg hdo hmd
                        generalize src zs (P i) = xi at *
                        generalize dst zs (P i) = yi at *
                        go_wp2
                        go_roundw
                        case rel => exact ⟨i + 1, k + 1, _, _, by go_num, by go_num, (unhide TWO).put k xi yi, fun _ => hjj.out hi2, unhide HN, unhide HD⟩
                        case measure => simp [intOf]; omega
                      · skip
                        have hji : l + d = i := by omega
                        subst hji
                        obtain ⟨w6, hw6⟩ : ∃ x, x = wr := ⟨wr, rfl⟩
                        subst hw6
                        clear hjj
                        go_wp2
                        go_loopw [10, 11] (fun sj sk wr => ∃ (j k : Nat) (B : List Int) (R : Nat → Nat), sj = .int .i64 j ∧ sk = .int .i64 k ∧ Two w wr ga gb m A B ∧ Hid (Merge zs A B P R l (l + d) (m) (l + d) j k ∧ Done zs B R (2 * d) l m)) (fun sj _ _ => (m) - (intOf sj).toNat)
                        case atStart => exact ⟨j, k, B, R, rfl, rfl, two, hmg, hdo⟩
                        case round =>
                          clear two hmg hdo hmd e1 e2 e3 e4 e5
                          obtain ⟨j, k, B, R, rfl, rfl, two, hmd⟩ := hrel
                          obtain ⟨hmg, hdo⟩ := hmd.out
                          have e1 := hmg.li
                          have e2 := hmg.im
                          have e3 := hmg.mj
                          have e4 := hmg.jh
                          have e5 := hmg.kk
                          by_cases hj2 : j < m
                          · skip
                            have hb0 := two.fst.cell (j * 2) (by rw [two.la]; omega)
                            have hb1 := two.fst.cell (j * 2 + 1) (by rw [two.la]; omega)
                            rw [((unhide HRr).has j hmg.mj (by omega)).1] at hb0
                            rw [((unhide HRr).has j hmg.mj (by omega)).2] at hb1
                            have hkB : k < m := by have := hmg.kk; have := hmg.im; have := hmg.jh; omega
                            have hw0 := two.snd.cell (k * 2) (by rw [two.lb]; omega)
                            have hw1 := two.snd.cell (k * 2 + 1) (by rw [two.lb]; omega)
                            have hwf0 := two.snd.frozen (k * 2)
                            have hwf1 := two.snd.frozen (k * 2 + 1)
                            generalize B.getD (k * 2) 0 = y0 at hw0
                            generalize B.getD (k * 2 + 1) 0 = y1 at hw1
                            have TWO := hide two
                            have HN := hide (merge_right hmg (unhide HL) (unhide HRr) (by rw [two.lb]; omega) hj2 (fun h => by omega))
                            have HD := hide (done_put (v := P j) (src zs (P j)) (dst zs (P j)) hdo (unhide HDV) (show l ≤ k by omega))
                            clear hmg hdo hmd
                            generalize src zs (P j) = xj at *
                            generalize dst zs (P j) = yj at *
                            go_wp2
                            go_roundw
                            case rel => exact ⟨j + 1, k + 1, _, _, by go_num, by go_num, (unhide TWO).put k xj yj, unhide HN, unhide HD⟩
                            case measure => simp [intOf]; omega
                          · have hjh : m = j := by omega
                            subst hjh
                            have HF := hide (done_next hdo (unhide HDV) (by rw [unhide HW']; exact merge_end hmg))
                            clear hmg hdo hmd
                            go_wp2
                            go_roundw
                            case rel => exact ⟨l + 2 * d, B, R, by go_num, by omega, two, Nat.dvd_add (unhide HDV) (Nat.dvd_refl _), unhide HF⟩
                            case measure => simp [intOf]; omega
            · skip
              have HL : Hid (Run zs A P l (m)) := by have h := sorted_left hsd.out hdn.out.1 hlm; rwa [show min (l + d) m = m by omega] at h
              have HRr : Hid (Run zs A P (m) (m)) := by have h := sorted_right hsd.out hdn.out.1 hlm; rwa [show min (l + d) m = m by omega, show min (l + 2 * d) m = m by omega] at h
              have HW : min (l + 2 * d) m = m := by omega
              have HW' := hide HW
              have hne := two.ne
              clear HW
              go_wp2
              go_loopw [9, 10, 11] (fun si sj sk wr => ∃ (i j k : Nat) (B : List Int) (R : Nat → Nat), si = .int .i64 i ∧ sj = .int .i64 j ∧ sk = .int .i64 k ∧ Two w wr ga gb m A B ∧ Hid (Merge zs A B P R l (m) (m) i j k ∧ Done zs B R (2 * d) l m)) (fun si sj _ _ => (m) + (m) - (intOf si).toNat - (intOf sj).toNat)
              case atStart => exact ⟨l, m, l, B, R, rfl, by go_num, rfl, two, merge_start _ _ _ _ _ _ _ _ (by omega) (by omega), hdn.out.2⟩
              case round =>
                have HDV := hide hdn.out.1
                clear two hdn
                obtain ⟨i, j, k, B, R, rfl, rfl, rfl, two, hmd⟩ := hrel
                obtain ⟨hmg, hdo⟩ := hmd.out
                have e1 := hmg.li
                have e2 := hmg.im
                have e3 := hmg.mj
                have e4 := hmg.jh
                have e5 := hmg.kk
                by_cases hij : i < m ∧ j < m
                · exfalso; omega
                · obtain ⟨w5, hw5⟩ : ∃ x, x = wr := ⟨wr, rfl⟩
                  subst hw5
                  have HIJ : Hid (i < m → j = m) := fun h => by omega
                  have HMG := hide hmg
                  have HDO := hide hdo
                  clear hmg hdo hmd
                  by_cases hi1 : i < m
                  · skip
                    go_wp2
                    go_loopw [9, 11] (fun si sk wr => ∃ (i k : Nat) (B : List Int) (R : Nat → Nat), si = .int .i64 i ∧ sk = .int .i64 k ∧ Two w wr ga gb m A B ∧ Hid (i < m → j = m) ∧ Hid (Merge zs A B P R l (m) (m) i j k ∧ Done zs B R (2 * d) l m)) (fun si _ _ => (m) - (intOf si).toNat)
                    case atStart => exact ⟨i, k, B, R, rfl, rfl, two, unhide HIJ, unhide HMG, unhide HDO⟩
                    case round =>
                      clear two HMG HDO HIJ e1 e2 e3 e4 e5 hij hi1
                      obtain ⟨i, k, B, R, rfl, rfl, two, hjj, hmd⟩ := hrel
                      obtain ⟨hmg, hdo⟩ := hmd.out
                      have e1 := hmg.li
                      have e2 := hmg.im
                      have e3 := hmg.mj
                      have e4 := hmg.jh
                      have e5 := hmg.kk
                      by_cases hi2 : i < m
                      · skip
                        have ha0 := two.fst.cell (i * 2) (by rw [two.la]; omega)
                        have ha1 := two.fst.cell (i * 2 + 1) (by rw [two.la]; omega)
                        rw [((unhide HL).has i hmg.li (by omega)).1] at ha0
                        rw [((unhide HL).has i hmg.li (by omega)).2] at ha1
                        have hkB : k < m := by have := hmg.kk; have := hmg.im; have := hmg.jh; omega
                        have hw0 := two.snd.cell (k * 2) (by rw [two.lb]; omega)
                        have hw1 := two.snd.cell (k * 2 + 1) (by rw [two.lb]; omega)
                        have hwf0 := two.snd.frozen (k * 2)
                        have hwf1 := two.snd.frozen (k * 2 + 1)
                        generalize B.getD (k * 2) 0 = y0 at hw0
                        generalize B.getD (k * 2 + 1) 0 = y1 at hw1
                        have TWO := hide two
                        have HN := hide (merge_left hmg (unhide HL) (unhide HRr) (by rw [two.lb]; omega) hi2 (fun h => by have := hjj.out hi2; omega))
                        have HD := hide (done_put (v := P i) (src zs (P i)) (dst zs (P i)) hdo (unhide HDV) (show l ≤ k by omega))
                        clear hmg hdo hmd
                        generalize src zs (P i) = xi at *
                        generalize dst zs (P i) = yi at *
                        go_wp2
                        go_roundw
                        case rel => exact ⟨i + 1, k + 1, _, _, by go_num, by go_num, (unhide TWO).put k xi yi, fun _ => hjj.out hi2, unhide HN, unhide HD⟩
                        case measure => simp [intOf]; omega
                      · skip
                        have hji : m = i := by omega
                        subst hji
                        obtain ⟨w6, hw6⟩ : ∃ x, x = wr := ⟨wr, rfl⟩
                        subst hw6
                        clear hjj
                        go_wp2
                        go_loopw [10, 11] (fun sj sk wr => ∃ (j k : Nat) (B : List Int) (R : Nat → Nat), sj = .int .i64 j ∧ sk = .int .i64 k ∧ Two w wr ga gb m A B ∧ Hid (Merge zs A B P R l (m) (m) (m) j k ∧ Done zs B R (2 * d) l m)) (fun sj _ _ => (m) - (intOf sj).toNat)
                        case atStart => exact ⟨j, k, B, R, rfl, rfl, two, hmg, hdo⟩
                        case round =>
                          clear two hmg hdo hmd e1 e2 e3 e4 e5
                          obtain ⟨j, k, B, R, rfl, rfl, two, hmd⟩ := hrel
                          obtain ⟨hmg, hdo⟩ := hmd.out
                          have e1 := hmg.li
                          have e2 := hmg.im
                          have e3 := hmg.mj
                          have e4 := hmg.jh
                          have e5 := hmg.kk
                          by_cases hj2 : j < m
                          · exfalso; omega
                          · have hjh : m = j := by omega
                            subst hjh
                            have HF := hide (done_next hdo (unhide HDV) (by rw [unhide HW']; exact merge_end hmg))
                            clear hmg hdo hmd
                            go_wp2
                            go_roundw
                            case rel => exact ⟨l + 2 * d, B, R, by go_num, by omega, two, Nat.dvd_add (unhide HDV) (Nat.dvd_refl _), unhide HF⟩
                            case measure => simp [intOf]; omega
                  · skip
                    go_wp2
                    go_loopw [9, 11] (fun si sk wr => ∃ (i k : Nat) (B : List Int) (R : Nat → Nat), si = .int .i64 i ∧ sk = .int .i64 k ∧ Two w wr ga gb m A B ∧ Hid (i < m → j = m) ∧ Hid (Merge zs A B P R l (m) (m) i j k ∧ Done zs B R (2 * d) l m)) (fun si _ _ => (m) - (intOf si).toNat)
                    case atStart => exact ⟨i, k, B, R, rfl, rfl, two, unhide HIJ, unhide HMG, unhide HDO⟩
                    case round =>
                      clear two HMG HDO HIJ e1 e2 e3 e4 e5 hij hi1
                      obtain ⟨i, k, B, R, rfl, rfl, two, hjj, hmd⟩ := hrel
                      obtain ⟨hmg, hdo⟩ := hmd.out
                      have e1 := hmg.li
                      have e2 := hmg.im
                      have e3 := hmg.mj
                      have e4 := hmg.jh
                      have e5 := hmg.kk
                      by_cases hi2 : i < m
                      · skip
                        have ha0 := two.fst.cell (i * 2) (by rw [two.la]; omega)
                        have ha1 := two.fst.cell (i * 2 + 1) (by rw [two.la]; omega)
                        rw [((unhide HL).has i hmg.li (by omega)).1] at ha0
                        rw [((unhide HL).has i hmg.li (by omega)).2] at ha1
                        have hkB : k < m := by have := hmg.kk; have := hmg.im; have := hmg.jh; omega
                        have hw0 := two.snd.cell (k * 2) (by rw [two.lb]; omega)
                        have hw1 := two.snd.cell (k * 2 + 1) (by rw [two.lb]; omega)
                        have hwf0 := two.snd.frozen (k * 2)
                        have hwf1 := two.snd.frozen (k * 2 + 1)
                        generalize B.getD (k * 2) 0 = y0 at hw0
                        generalize B.getD (k * 2 + 1) 0 = y1 at hw1
                        have TWO := hide two
                        have HN := hide (merge_left hmg (unhide HL) (unhide HRr) (by rw [two.lb]; omega) hi2 (fun h => by have := hjj.out hi2; omega))
                        have HD := hide (done_put (v := P i) (src zs (P i)) (dst zs (P i)) hdo (unhide HDV) (show l ≤ k by omega))
                        clear hmg hdo hmd
                        generalize src zs (P i) = xi at *
                        generalize dst zs (P i) = yi at *
                        go_wp2
                        go_roundw
                        case rel => exact ⟨i + 1, k + 1, _, _, by go_num, by go_num, (unhide TWO).put k xi yi, fun _ => hjj.out hi2, unhide HN, unhide HD⟩
                        case measure => simp [intOf]; omega
                      · skip
                        have hji : m = i := by omega
                        subst hji
                        obtain ⟨w6, hw6⟩ : ∃ x, x = wr := ⟨wr, rfl⟩
                        subst hw6
                        clear hjj
                        go_wp2
                        go_loopw [10, 11] (fun sj sk wr => ∃ (j k : Nat) (B : List Int) (R : Nat → Nat), sj = .int .i64 j ∧ sk = .int .i64 k ∧ Two w wr ga gb m A B ∧ Hid (Merge zs A B P R l (m) (m) (m) j k ∧ Done zs B R (2 * d) l m)) (fun sj _ _ => (m) - (intOf sj).toNat)
                        case atStart => exact ⟨j, k, B, R, rfl, rfl, two, hmg, hdo⟩
                        case round =>
                          clear two hmg hdo hmd e1 e2 e3 e4 e5
                          obtain ⟨j, k, B, R, rfl, rfl, two, hmd⟩ := hrel
                          obtain ⟨hmg, hdo⟩ := hmd.out
                          have e1 := hmg.li
                          have e2 := hmg.im
                          have e3 := hmg.mj
                          have e4 := hmg.jh
                          have e5 := hmg.kk
                          by_cases hj2 : j < m
                          · exfalso; omega
                          · have hjh : m = j := by omega
                            subst hjh
                            have HF := hide (done_next hdo (unhide HDV) (by rw [unhide HW']; exact merge_end hmg))
                            clear hmg hdo hmd
                            go_wp2
                            go_roundw
                            case rel => exact ⟨l + 2 * d, B, R, by go_num, by omega, two, Nat.dvd_add (unhide HDV) (Nat.dvd_refl _), unhide HF⟩
                            case measure => simp [intOf]; omega
        · have hso := done_sorted hdn.out.2 (by omega)
          rw [Nat.mul_comm 2 d] at hso
          have HSO := hide hso
          clear hso hdn
          go_wp2
          go_roundw
          case rel => exact ⟨gb, ga, d * 2, B, A, R, rfl, rfl, by go_num, by omega, by omega, two.swap, unhide HSO⟩
          case measure => simp [intOf]; omega
    · have hrun := sorted_end hsd.out (by omega)
      have HR := hide hrun
      clear hrun
      go_wp2
      try go_ret
      exact unhide HQE _ _ ⟨ga, A, P, rfl, two.below, two.fst, two.la, unhide HR⟩

end Go.Proofs.Qxb6601679aMods
