import Derived.Test.Qxb6601679aModsSortFn
import Derived.Test.Qxb6601679aModsOut
set_option linter.unusedVariables false
set_option linter.unusedSimpArgs false
namespace Go.Proofs.Qxb6601679aMods
open Go.RowKit

theorem row_nil3 {w : World} {a : Option Addr} {m : Nat} {zs : List Int} (hz : zs.length = m * 2) (hr : Row w .i32 a zs) : a = none → m = 0 ∧ m = 0 := by
  intro h
  subst h
  rcases Nat.eq_zero_or_pos m with h | h
  · exact ⟨h, h⟩
  · obtain ⟨b, off, hx, _⟩ := hr (by omega)
    cases hx

set_option maxRecDepth 100000 in
set_option maxHeartbeats 8000000 in
theorem stab_any (n : Int) (a : Option Addr) (m c : Nat) (zs : List Int) (w : World) (wn : -9223372036854775808 ≤ n ∧ n ≤ 9223372036854775807)
    (hz : zs.length = m * 2) (hr : Row w .i32 a zs) (hin : In32 zs) (hnil : a = none → m = 0 ∧ c = 0) (hl : m ≤ 9223372036854775807) :
    Calls Trym.prog 3 #[.int .i64 n, .slice a m c] w fun e w' => e = .returned (.bool true) ∧ Below w.heap.size w w' := by
  refine calls_all fun Q HQE => ?_
  obtain ⟨wn1, wn2⟩ := wn
  have HN := hide hnil
  clear hnil
  go_enter Trym.func3, Trym.ntmps3
  go_wp2_with fail
  refine (bytes9 n a m c w hl).mono ?_
  rintro e w0 ⟨x, rfl, rfl⟩
  cases x
  · go_wp2
    try go_ret
    exact unhide HQE _ _ ⟨rfl, Below.refl _ _⟩
  by_cases ta : 131072 < m
  · go_wp2
    try go_ret
    exact unhide HQE _ _ ⟨rfl, Below.refl _ _⟩
  by_cases tn : n < 0
  · go_wp2
    try go_ret
    exact unhide HQE _ _ ⟨rfl, Below.refl _ _⟩
  by_cases tn2 : 65536 < n
  · go_wp2
    try go_ret
    exact unhide HQE _ _ ⟨rfl, Below.refl _ _⟩
  obtain ⟨k, rfl⟩ : ∃ k : Nat, n = (k : Int) := ⟨n.toNat, by omega⟩
  have hk : k ≤ 65536 := by omega
  clear tn tn2
  go_wp2_with fail
  refine (sources_any k a m c zs w hz (by omega) (by omega) hr hin).mono ?_
  rintro e w1 ⟨x, rfl, hb1, hs1⟩
  cases x
  · go_wp2
    try go_ret
    exact unhide HQE _ _ ⟨rfl, hb1⟩
  have HS1 := hide (hs1 rfl)
  clear hs1
  go_wp2_with fail
  refine (clone_any a m c zs w1 hz (by omega) (hr.below hb1) (unhide HN)).mono ?_
  rintro e w2 ⟨a', rfl, hb2, hr2⟩
  have hb12 := below_chain hb1 hb2
  clear hr hin HN hb1 hb2
  go_wp2_with fail
  refine (zznew_any k a' m m zs w2 hz hk (by omega) hr2 (unhide HS1)).mono ?_
  rintro e w3 ⟨fb, nb, Fs, Ns, rfl, hb3, hf3, hn3, hg3⟩
  have HG := hide hg3
  have hb13 := below_chain hb12 hb3
  have hr3 := hr2.below hb3
  clear hg3 hr2 hb12 hb3
  have el : ((k : Int) + 1 == (k : Int) + 1) = true := by simp
  have em : ((m : Int) == (m : Int)) = true := by simp
  go_wp2_with fail
  refine (sort_any a' m m zs w3 hz (by omega) hr3 (row_nil3 hz hr3)).mono ?_
  rintro e w4 ⟨g, A, P, rfl, hb4, hA4, hla, hrun⟩
  have hN : ∀ x, x < m → Ns.getD x 0 = A.getD (x * 2 + 1) 0 := fun x hx => sorted_next hrun (unhide HG) x hx
  have hF : ∀ (v : Int) (x : Nat), x < m → (A.getD (x * 2) 0 < v ↔ x < G zs v m) := fun v x hx => sorted_first hrun v x hx
  have HBB : Hid (∀ x, x < m → 0 ≤ A.getD (x * 2) 0 ∧ A.getD (x * 2) 0 < k) := fun x hx => by
    rw [(hrun.has x (Nat.zero_le _) hx).1]
    exact unhide HS1 (P x) (hrun.rng x (Nat.zero_le _) hx).2
  have HNN := hide hN
  have HFF := hide hF
  have hb14 := below_chain hb13 hb4
  have hf4 := hf3.below hb4 hf3.lt
  have hn4 := hn3.below hb4 hn3.lt
  clear hN hF hrun hr3 hb13 hb4 hf3 hn3
  go_wp2
  go_loopw [8] (fun i wr => ∃ t : Nat, t ≤ m ∧ i = .int .i64 t ∧ Below w4.heap.size w4 wr) (fun i _ => m - (intOf i).toNat)
  case atStart => exact ⟨0, Nat.zero_le _, rfl, Below.refl _ _⟩
  case round =>
    obtain ⟨t, ht, rfl, hbt⟩ := hrel
    by_cases htm : t < m
    · have c1 := (hn4.below hbt hn4.lt).cell t (by rw [(unhide HG).nlen]; exact htm)
      have c2 := (hA4.below hbt hA4.lt).cell (t * 2 + 1) (by rw [hla]; omega)
      rw [unhide HNN t htm] at c1
      generalize A.getD (t * 2 + 1) 0 = y at c1 c2
      have ey : (y == y) = true := by simp
      go_wp2
      go_quiet (fail)
      go_wp2
      go_roundw
      case rel => exact ⟨t + 1, by omega, by go_num, below_drewN hbt _⟩
      case measure => simp [intOf]; omega
    · obtain ⟨w5, hw5⟩ : ∃ x, x = wr := ⟨wr, rfl⟩
      subst hw5
      have hf5 := hf4.below hbt hf4.lt
      have hA5 := hA4.below hbt hA4.lt
      have hb15 := below_chain hb14 hbt
      clear hbt hf4 hn4 hA4 hb14
      go_wp2
      go_loop [9, 10] (fun sk sv => ∃ (x v : Nat), sk = .int .i64 x ∧ sv = .int .i64 v ∧ v ≤ k + 1 ∧ x ≤ m ∧ Hid (x ≤ G zs v m)) (fun _ sv => k + 1 - (intOf sv).toNat)
      case atStart => exact ⟨0, 0, rfl, rfl, by omega, Nat.zero_le _, Nat.zero_le _⟩
      case round =>
        obtain ⟨x, v, rfl, rfl, hv, hx, hxg⟩ := hrel
        by_cases hvk : v ≤ k
        · have hfv := (unhide HG).first v hvk
          have cf := hf5.cell v (by rw [(unhide HG).flen]; omega)
          rw [hfv] at cf
          have gl := G_le zs v m
          have HGV : Hid (G zs v m ≤ G zs ((v + 1 : Nat) : Int) m) := G_mono zs (by omega) m
          have hF := fun x hx => unhide HFF v x hx
          have HF := hide hF
          generalize G zs v m = gv at *
          clear hfv hF
          go_wp2
          go_loop [9] (fun sk => ∃ x : Nat, sk = .int .i64 x ∧ x ≤ m ∧ Hid (x ≤ gv)) (fun sk => m - (intOf sk).toNat)
          case atStart => exact ⟨x, rfl, hx, hxg⟩
          case round =>
            clear hx hxg
            obtain ⟨x, rfl, hx, hxg⟩ := hrel
            by_cases hxm : x < m
            · have ca := hA5.cell (x * 2) (by rw [hla]; omega)
              have hq := unhide HF x hxm
              obtain ⟨hy0, hy1⟩ := unhide HBB x hxm
              generalize A.getD (x * 2) 0 = y at ca hq hy0 hy1
              have HQ := hide hq
              by_cases hyv : y < (v : Int)
              · have hxl := hq.1 hyv
                clear hq
                go_wp2
                go_round
                case rel => exact ⟨x + 1, by go_num, by omega, hxl⟩
                case measure => simp [intOf]; omega
              · have hxe : x = gv := by have h1 := hxg.out; have h2 : ¬ x < gv := fun h => hyv (hq.2 h); omega
                clear hq
                have ee : ((x : Int) == (x : Int)) = true := by simp
                subst hxe
                go_wp2
                go_round
                case rel => exact ⟨x, v + 1, rfl, by go_num, by omega, hx, unhide HGV⟩
                case measure => simp [intOf]; omega
            · have hxe : x = gv := by have h1 := hxg.out; omega
              have ee : ((x : Int) == (x : Int)) = true := by simp
              subst hxe
              go_wp2
              go_round
              case rel => exact ⟨x, v + 1, rfl, by go_num, by omega, hx, unhide HGV⟩
              case measure => simp [intOf]; omega
        · go_wp2
          try go_ret
          exact unhide HQE _ _ ⟨rfl, hb15⟩

end Go.Proofs.Qxb6601679aMods
