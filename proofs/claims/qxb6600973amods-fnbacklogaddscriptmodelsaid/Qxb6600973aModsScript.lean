import Derived.Test.Qxb6600973aModsScriptLaw
import Derived.Deep.DeepCutAuto
set_option linter.unusedVariables false
set_option linter.unusedSimpArgs false
namespace Go.Proofs.Qxb6600973aMods
open Go.RowKit

theorem below_chain {a b c : World} (h : Below a.heap.size a b) (k : Below b.heap.size b c) : Below a.heap.size a c := h.trans (k.mono h.size)

theorem bytesS_any (a : Option Addr) (n c : Nat) (w : World) (hn : n ≤ 9223372036854775807) :
    Calls Trym.prog 9 #[.slice a n c] w fun e w' => ∃ b, e = .returned (.bool b) ∧ w = w' := by
  refine calls_all fun Q HQE => ?_
  by_cases t0 : 1048576 < n
  · go_enter Trym.func9, Trym.ntmps9
    go_wp2
    try go_ret
    exact unhide HQE _ _ ⟨false, rfl, rfl⟩
  · go_enter Trym.func9, Trym.ntmps9
    go_wp2
    try go_ret
    exact unhide HQE _ _ ⟨true, rfl, rfl⟩

set_option maxRecDepth 100000 in
set_option maxHeartbeats 8000000 in
theorem script_any (a : Option Addr) (n c : Nat) (zs : List Int) (w : World) (hz : zs.length = n) (hn : n ≤ 9223372036854775807) (hr : Row w .i64 a zs) (hin : In64 zs) (hnil : a = none → n = 0 ∧ c = 0) :
    Calls Trym.prog 4 #[.slice a n c] w fun e w' => e = .returned (.bool true) ∧ Below w.heap.size w w' := by
  refine calls_all fun Q HQE => ?_
  have NIL := hide hnil
  clear hnil
  go_enter Trym.func4, Trym.ntmps4
  go_wp2_with fail
  refine (bytesS_any a n c w hn).mono ?_
  rintro e w0 ⟨x, rfl, rfl⟩
  cases x
  · go_wp2
    try go_ret
    exact unhide HQE _ _ ⟨rfl, Below.refl _ _⟩
  by_cases h17 : 131072 < n
  · go_wp2
    try go_ret
    exact unhide HQE _ _ ⟨rfl, Below.refl _ _⟩
  have h17' : decide ((131072 : Int) < (n : Int)) = false := decide_eq_false (by omega)
  obtain ⟨i3, hi3, hz0, hz1, hz2⟩ := info_parts Trym.info3
  have hmk : (Instr.makeSlice 26 (.int .i64 (n : Int)) (.int .i64 (n : Int))).run Trym.prog w = .ok (.slice (some ⟨w.heap.size, 0, none⟩) n n) (w.alloc (.cells (madeCells (Value.int .i64 0).cells (n * 1)) 3)) := by
    have := run_make (P := Trym.prog) w 26 3 i3 (.int .i64 0) Trym.underlying26 hi3 hz0 .i64 .i64 (n : Int) (n : Int) (by omega) (Int.le_refl _) (by rw [hz2]; omega) (by omega)
    rw [hz1] at this
    simpa using this
  have hne := fun w a n c => run_neq_slice_nil_any (P := Trym.prog) w 26 3 a n c 0 0 Trym.underlying26
  go_wp2
  go_loop [3, 4] (fun t i => ∃ k : Nat, k ≤ n ∧ i = .int .i64 k ∧ t = .int .i64 (S zs k) ∧ Hid (Pos zs k ∧ S zs k ≤ 1073741824)) (fun _ i => n - (intOf i).toNat)
  case atStart => exact ⟨0, Nat.zero_le _, rfl, rfl, fun j hj => absurd hj (Nat.not_lt_zero _), by show (0 : Int) ≤ _; decide⟩
  case round =>
    obtain ⟨k, hk, rfl, rfl, hps⟩ := hrel
    have hs0 := S_nonneg hps.out.1 k (Nat.le_refl _)
    have hs1 := hps.out.2
    by_cases hlt : k < n
    · obtain ⟨b, off, hx, hc⟩ := hr (by omega)
      subst hx
      have hck := hc k (by omega)
      have hbd := hin k (by omega)
      have hss : S zs (k + 1) = S zs k + zs.getD k 0 := rfl
      generalize hxk : zs.getD k 0 = x at hck hbd hss
      generalize S zs k = t at hs0 hs1 hss
      have HX := hide hxk
      have HS := hide hss
      obtain ⟨bd1, bd2⟩ := hbd
      clear hc hxk hss
      by_cases x0 : x < 0
      · go_wp2
        try go_ret
        exact unhide HQE _ _ ⟨rfl, Below.refl _ _⟩
      by_cases x1 : 1073741824 - t < x
      · go_wp2
        try go_ret
        exact unhide HQE _ _ ⟨rfl, Below.refl _ _⟩
      go_wp2
      go_round
      case rel =>
        refine ⟨k + 1, by omega, by go_num, by rw [unhide HS], fun j hj => ?_, by have := unhide HS; omega⟩
        rcases Nat.lt_or_ge j k with h | h
        · exact hps.out.1 j h
        · have : j = k := by omega
          subst this
          rw [unhide HX]; omega
      case measure => simp [intOf]; omega
    · have hkn : k = n := by omega
      subst hkn
      have hPos := hps.out.1
      have HP := hide hPos
      clear hPos hps
      have hSm := fun i (hi : i ≤ k) => S_mono (unhide HP) k i hi (Nat.le_refl _)
      have hSn := fun i (hi : i ≤ k) => S_nonneg (unhide HP) i hi
      have hMb := fun i (hi : i ≤ k) => M_bounds (unhide HP) i hi
      have HSM := hide hSm
      have HSN := hide hSn
      have HMB := hide hMb
      clear hSm hSn hMb
      generalize hT : S zs k = T at hs0 hs1
      have HT := hide hT
      clear hT
      go_upto_if 46 with fail
      go_cut [0, 46] (fun sv _ wc => ∃ (a' : Option Addr) (c' : Nat), sv = .slice a' k c' ∧ Row wc .i64 a' zs ∧ Below w.heap.size w wc)
      case first =>
        cases a with
        | none =>
          go_wp2
          go_meet
          case rel => exact ⟨none, c, rfl, hr, Below.refl _ _⟩
        | some x =>
          go_wp2
          go_loopw [7] (fun i wr => ∃ j : Nat, j ≤ k ∧ i = .int .i64 j ∧ Below w.heap.size w wr ∧ w.heap.size < wr.heap.size ∧ Blk wr w.heap.size .i64 3 (zs.take j ++ List.replicate (k - j) 0)) (fun i _ => k - (intOf i).toNat)
          case atStart =>
            refine ⟨0, Nat.zero_le _, rfl, (Below.refl _ _).alloc (Nat.le_refl _) _, by simp, ?_⟩
            simpa using Blk.made w .i64 3 k
          case round =>
            clear hmk
            obtain ⟨j, hj, rfl, hbel, hsz, hblk⟩ := hrel
            by_cases hlt : j < k
            · obtain ⟨b, off, hx, hc⟩ := hr.below hbel (by omega)
              obtain rfl := Option.some.inj hx
              have hck := hc j (by omega)
              have hfz := hblk.frozen j
              have hwc := hblk.cell j (by simp; omega)
              have hnew := hblk.set j (zs.getD j 0)
              rw [take_set_rep zs k j hz hlt] at hnew
              generalize zs.getD j 0 = z at hck hnew
              generalize (zs.take j ++ List.replicate (k - j) 0).getD j 0 = z0 at hwc
              have HN := hide hnew
              clear hnew hblk hc
              go_wp2
              go_roundw
              case rel => exact ⟨j + 1, by omega, by go_num, hbel.setCell (Nat.le_refl _) _, by simpa using hsz, unhide HN⟩
              case measure => simp [intOf]; omega
            · have hjk : j = k := by omega
              subst hjk
              have hb2 : Blk wr w.heap.size .i64 3 zs := by simpa [← hz] using hblk
              have HB2 := hide hb2
              clear hblk hb2
              go_wp2
              go_meet
              case rel => exact ⟨_, _, rfl, (unhide HB2).row, hbel⟩
      case rest =>
        obtain ⟨a', c', rfl, hr2, hbc⟩ := hcut
        clear hmk hr NIL
        obtain ⟨w1, hw1⟩ : ∃ x, x = wc := ⟨wc, rfl⟩
        subst hw1
        go_wp2
        go_loop [8, 9] (fun m i => ∃ j : Nat, j ≤ k ∧ i = .int .i64 j ∧ m = .int .i64 (M zs j)) (fun _ i => k - (intOf i).toNat)
        case atStart => exact ⟨0, Nat.zero_le _, rfl, rfl⟩
        case round =>
          obtain ⟨j, hj, rfl, rfl⟩ := hrel
          by_cases hlt : j < k
          · obtain ⟨b, off, hx, hc⟩ := hr2 (by omega)
            subst hx
            have hck := hc j (by omega)
            have hms : M zs (j + 1) = if M zs j < zs.getD j 0 then zs.getD j 0 else M zs j := rfl
            generalize zs.getD j 0 = x at hck hms
            generalize M zs j = m at hms
            clear hc
            by_cases hxm : m < x
            · rw [if_pos hxm] at hms
              have HMS := hide hms
              clear hms
              go_wp2
              go_round
              case rel => exact ⟨j + 1, by omega, by go_num, by rw [unhide HMS]⟩
              case measure => simp [intOf]; omega
            · rw [if_neg hxm] at hms
              have HMS := hide hms
              clear hms
              go_wp2
              go_round
              case rel => exact ⟨j + 1, by omega, by go_num, by rw [unhide HMS]⟩
              case measure => simp [intOf]; omega
          · have hjk : j = k := by omega
            subst hjk
            generalize hB : M zs j = big
            have HB := hide hB
            clear hB
            have hrw := hr2
            go_wp2
            go_loop [10, 11] (fun l i => ∃ q : Nat, q ≤ j ∧ l = .int .i64 (-1) ∧ i = .int .i64 ((q : Int) - 1) ∧ Hid (∀ r, q ≤ r → r < j → zs.getD r 0 ≠ big)) (fun _ i => (intOf i + 1).toNat)
            case atStart => exact ⟨j, Nat.le_refl _, rfl, rfl, fun r h1 h2 => by omega⟩
            case round =>
              obtain ⟨q, hq, rfl, rfl, hno⟩ := hrel
              rcases Nat.eq_zero_or_pos q with h0 | h0
              · subst h0
                have hlast : Last zs j big 0 := ⟨Nat.zero_le _, fun r _ h2 => hno.out r (Nat.zero_le _) h2, fun h => by omega⟩
                go_wp2
                go_loop [12, 13] (fun t i => ∃ r : Nat, 0 ≤ r ∧ r ≤ j ∧ i = .int .i64 r ∧ t = .int .i64 (S zs r - S zs 0)) (fun _ i => j - (intOf i).toNat)
                case atStart => exact ⟨0, Nat.le_refl _, hlast.le, by go_num, by go_num⟩
                case round =>
                  obtain ⟨r, hr1, hr3, rfl, rfl⟩ := hrel
                  have hb1 := unhide HSM r hr3
                  have hb2 := unhide HSN r hr3
                  have hb3 := unhide HSN 0 hlast.le
                  have hb4 := unhide HSM 0 hlast.le
                  have hT0 : S zs j ≤ 1073741824 := by rw [unhide HT]; omega
                  by_cases hlt : r < j
                  · obtain ⟨b, off, hx, hc⟩ := hr2 (by omega)
                    cases hx
                    have hck := hc r (by omega)
                    have hss : S zs (r + 1) = S zs r + zs.getD r 0 := rfl
                    have hb5 := unhide HSM (r + 1) (by omega)
                    have hb6 := unhide HSN (r + 1) (by omega)
                    rw [hss] at hb5 hb6
                    generalize zs.getD r 0 = x at hck hss hb5 hb6
                    generalize S zs r = t1 at hb1 hb2 hss hb5 hb6
                    generalize S zs 0 = t0 at hb3 hb4 ⊢
                    generalize S zs j = tj at hb1 hb4 hb5 hT0
                    have HSS := hide hss
                    clear hc hss
                    go_wp2
                    go_round
                    case rel => exact ⟨r + 1, by omega, by omega, by go_num, by rw [unhide HSS]; try go_num⟩
                    case measure => simp [intOf]; omega
                  · have hrj : r = j := by omega
                    subst hrj
                    have HLST := hide hlast
                    clear hb1 hb2 hb3 hb4 hlt
                    go_wp2
                    go_loopw [14, 15, 16, 17] (fun u l av i wr => ∃ (g pp : Nat), g ≤ r ∧ i = .int .i64 g ∧ u = .int .i64 (S zs g) ∧ l = .int .i64 (M zs g) ∧ av = .int .i64 (S zs g - S zs pp) ∧ Hid (At zs g pp) ∧ Below w1.heap.size w1 wr) (fun _ _ _ i _ => r - (intOf i).toNat)
                    case atStart => exact ⟨0, 0, Nat.zero_le _, rfl, rfl, rfl, rfl, ⟨Nat.le_refl _, fun j h1 h2 => by omega, fun h => by omega, fun _ => rfl⟩, Below.refl _ _⟩
                    case round =>
                      obtain ⟨g, pp, hg, rfl, rfl, rfl, rfl, hat, hbg⟩ := hrel
                      by_cases hlt : g < r
                      · obtain ⟨b, off, hx, hc⟩ := hrw.below hbg (by omega)
                        cases hx
                        have hck := hc g (by omega)
                        obtain ⟨p', hp', hL, hA⟩ := at_step (fun j hj => unhide HP j (by omega)) hat.out
                        have hss : S zs (g + 1) = S zs g + zs.getD g 0 := rfl
                        have q1 := unhide HSM g hg
                        have q2 := unhide HSN g hg
                        have q3 := unhide HSM pp (by have := hat.out.le; omega)
                        have q4 := unhide HSN pp (by have := hat.out.le; omega)
                        have q5 := unhide HSM (g + 1) (by omega)
                        have q6 := unhide HSN (g + 1) (by omega)
                        have q7 := unhide HP g (by omega)
                        rw [hss] at q5 q6
                        have hTr : S zs r ≤ 1073741824 := by rw [unhide HT]; omega
                        have hav : ∃ av, av = S zs g - S zs pp := ⟨_, rfl⟩
                        obtain ⟨av, hav⟩ := hav
                        rw [← hav] at hL hA ⊢
                        have av1 : -2147483648 ≤ av ∧ av ≤ 2147483648 := by omega
                        have sg1 : -2147483648 ≤ S zs g ∧ S zs g ≤ 2147483648 := by omega
                        have zz1 : 0 ≤ zs.getD g 0 ∧ zs.getD g 0 ≤ 2147483648 := by omega
                        clear q1 q2 q3 q4 q5 q6 q7 hav hTr hT0
                        generalize zs.getD g 0 = zz at hck hL hA hss zz1
                        generalize S zs g = sg at hL hA hss sg1
                        generalize M zs g = mg at hL hA
                        have H' := hide hp'
                        have HL := hide hL
                        have HA := hide hA
                        have HSS := hide hss
                        clear hp' hL hA hss hc hat
                        go_wp2_with fail
                        refine (zzadd_any sg mg av zz wr sg1 av1 zz1).mono ?_
                        rintro e w5 ⟨rfl, hb5⟩
                        clear hck
                        generalize addL sg mg av zz = l9 at HL
                        generalize addA sg mg av zz = a9 at HA
                        go_wp2
                        go_roundw
                        case rel => exact ⟨g + 1, p', by omega, by go_num, by rw [unhide HSS], by rw [unhide HL], by rw [unhide HA], unhide H', below_chain hbg hb5⟩
                        case measure => simp [intOf]; omega
                      · have hgr : g = r := by omega
                        subst hgr
                        have hpq : pp = 0 := by
                          refine last_at hat.out ?_
                          rw [unhide HB]
                          exact unhide HLST
                        have hTT := unhide HT
                        have hBB := unhide HB
                        subst hpq
                        rw [hTT, hBB]
                        go_wp2
                        try go_ret
                        exact unhide HQE _ _ ⟨by first | rfl | simp, below_chain hbc hbg⟩
              · obtain ⟨q', rfl⟩ : ∃ q', q = q' + 1 := ⟨q - 1, by omega⟩
                obtain ⟨b, off, hx, hc⟩ := hr2 (by omega)
                cases hx
                have hck := hc q' (by omega)
                have hqq : (((q' + 1 : Nat) : Int) - 1) = (q' : Int) := by omega
                rw [hqq]
                clear hqq hc
                generalize hy : zs.getD q' 0 = y at hck
                have HY := hide hy
                clear hy
                by_cases hyb : y = big
                · have hyb' : (y == big) = true := by simp [hyb]
                  have hlast : Last zs j big (q' + 1) := ⟨hq, fun r h1 h2 => hno.out r h1 h2, fun _ => by show zs.getD q' 0 = big; rw [unhide HY]; exact hyb⟩
                  clear hyb
                  go_wp2
                  go_loop [12, 13] (fun t i => ∃ r : Nat, (q' + 1) ≤ r ∧ r ≤ j ∧ i = .int .i64 r ∧ t = .int .i64 (S zs r - S zs (q' + 1))) (fun _ i => j - (intOf i).toNat)
                  case atStart => exact ⟨(q' + 1), Nat.le_refl _, hlast.le, by go_num, by go_num⟩
                  case round =>
                    obtain ⟨r, hr1, hr3, rfl, rfl⟩ := hrel
                    have hb1 := unhide HSM r hr3
                    have hb2 := unhide HSN r hr3
                    have hb3 := unhide HSN (q' + 1) hlast.le
                    have hb4 := unhide HSM (q' + 1) hlast.le
                    have hT0 : S zs j ≤ 1073741824 := by rw [unhide HT]; omega
                    by_cases hlt : r < j
                    · obtain ⟨b, off, hx, hc⟩ := hr2 (by omega)
                      cases hx
                      have hck := hc r (by omega)
                      have hss : S zs (r + 1) = S zs r + zs.getD r 0 := rfl
                      have hb5 := unhide HSM (r + 1) (by omega)
                      have hb6 := unhide HSN (r + 1) (by omega)
                      rw [hss] at hb5 hb6
                      generalize zs.getD r 0 = x at hck hss hb5 hb6
                      generalize S zs r = t1 at hb1 hb2 hss hb5 hb6
                      generalize S zs (q' + 1) = t0 at hb3 hb4 ⊢
                      generalize S zs j = tj at hb1 hb4 hb5 hT0
                      have HSS := hide hss
                      clear hc hss
                      go_wp2
                      go_round
                      case rel => exact ⟨r + 1, by omega, by omega, by go_num, by rw [unhide HSS]; try go_num⟩
                      case measure => simp [intOf]; omega
                    · have hrj : r = j := by omega
                      subst hrj
                      have HLST := hide hlast
                      clear hb1 hb2 hb3 hb4 hlt
                      go_wp2
                      go_loopw [14, 15, 16, 17] (fun u l av i wr => ∃ (g pp : Nat), g ≤ r ∧ i = .int .i64 g ∧ u = .int .i64 (S zs g) ∧ l = .int .i64 (M zs g) ∧ av = .int .i64 (S zs g - S zs pp) ∧ Hid (At zs g pp) ∧ Below w1.heap.size w1 wr) (fun _ _ _ i _ => r - (intOf i).toNat)
                      case atStart => exact ⟨0, 0, Nat.zero_le _, rfl, rfl, rfl, rfl, ⟨Nat.le_refl _, fun j h1 h2 => by omega, fun h => by omega, fun _ => rfl⟩, Below.refl _ _⟩
                      case round =>
                        obtain ⟨g, pp, hg, rfl, rfl, rfl, rfl, hat, hbg⟩ := hrel
                        by_cases hlt : g < r
                        · obtain ⟨b, off, hx, hc⟩ := hrw.below hbg (by omega)
                          cases hx
                          have hck := hc g (by omega)
                          obtain ⟨p', hp', hL, hA⟩ := at_step (fun j hj => unhide HP j (by omega)) hat.out
                          have hss : S zs (g + 1) = S zs g + zs.getD g 0 := rfl
                          have q1 := unhide HSM g hg
                          have q2 := unhide HSN g hg
                          have q3 := unhide HSM pp (by have := hat.out.le; omega)
                          have q4 := unhide HSN pp (by have := hat.out.le; omega)
                          have q5 := unhide HSM (g + 1) (by omega)
                          have q6 := unhide HSN (g + 1) (by omega)
                          have q7 := unhide HP g (by omega)
                          rw [hss] at q5 q6
                          have hTr : S zs r ≤ 1073741824 := by rw [unhide HT]; omega
                          have hav : ∃ av, av = S zs g - S zs pp := ⟨_, rfl⟩
                          obtain ⟨av, hav⟩ := hav
                          rw [← hav] at hL hA ⊢
                          have av1 : -2147483648 ≤ av ∧ av ≤ 2147483648 := by omega
                          have sg1 : -2147483648 ≤ S zs g ∧ S zs g ≤ 2147483648 := by omega
                          have zz1 : 0 ≤ zs.getD g 0 ∧ zs.getD g 0 ≤ 2147483648 := by omega
                          clear q1 q2 q3 q4 q5 q6 q7 hav hTr hT0
                          generalize zs.getD g 0 = zz at hck hL hA hss zz1
                          generalize S zs g = sg at hL hA hss sg1
                          generalize M zs g = mg at hL hA
                          have H' := hide hp'
                          have HL := hide hL
                          have HA := hide hA
                          have HSS := hide hss
                          clear hp' hL hA hss hc hat
                          go_wp2_with fail
                          refine (zzadd_any sg mg av zz wr sg1 av1 zz1).mono ?_
                          rintro e w5 ⟨rfl, hb5⟩
                          clear hck
                          generalize addL sg mg av zz = l9 at HL
                          generalize addA sg mg av zz = a9 at HA
                          go_wp2
                          go_roundw
                          case rel => exact ⟨g + 1, p', by omega, by go_num, by rw [unhide HSS], by rw [unhide HL], by rw [unhide HA], unhide H', below_chain hbg hb5⟩
                          case measure => simp [intOf]; omega
                        · have hgr : g = r := by omega
                          subst hgr
                          have hpq : pp = (q' + 1) := by
                            refine last_at hat.out ?_
                            rw [unhide HB]
                            exact unhide HLST
                          have hTT := unhide HT
                          have hBB := unhide HB
                          rw [hpq]
                          rw [hTT, hBB]
                          go_wp2
                          try go_ret
                          exact unhide HQE _ _ ⟨by first | rfl | simp, below_chain hbc hbg⟩
                · have hyb' : (y == big) = false := by simp [hyb]
                  go_wp2
                  go_round
                  case rel =>
                    refine ⟨q', by omega, rfl, by go_num, fun r h1 h2 => ?_⟩
                    rcases Nat.lt_or_ge q' r with h | h
                    · exact hno.out r (by omega) h2
                    · have : r = q' := by omega
                      subst this
                      rw [unhide HY]; exact hyb
                  case measure => simp [intOf] <;> omega

end Go.Proofs.Qxb6600973aMods
