import Derived.Test.Qxb6600623aModsAgree2
set_option linter.unusedVariables false
set_option linter.unusedSimpArgs false
namespace Go.Proofs.Qxb6600623aMods
open Go.RowKit

theorem addA_other {c : Call} {K V : ByteArray} (h : ¬ c.key = K ∨ ¬ c.kind = 0) : addC c (K, some (some V)) = [] := by
  unfold addC
  simp only [addOf, decide_eq_true_eq]
  rw [if_neg (fun e => h.elim (fun h => h e.1.symm) (fun h => h e.2))]
theorem addA_hit {c : Call} {K V : ByteArray} (h : c.key = K) (hk : c.kind = 0) : addC c (K, some (some V)) = List.replicate (cntV V c.vals) c.id := by
  unfold addC
  simp only [addOf, decide_eq_true_eq]
  rw [if_pos ⟨h.symm, hk⟩]
theorem cntV_succ (V : ByteArray) (vs : List ByteArray) (t : Nat) (ht : t < vs.length) : cntV V (vs.take (t + 1)) = cntV V (vs.take t) + if vs.getD t ByteArray.empty = V then 1 else 0 := by
  have : vs.take (t + 1) = vs.take t ++ [vs.getD t ByteArray.empty] := by
    rw [List.take_succ_eq_append_getElem ht]
    simp [List.getD, ht]
  rw [this, cntV_snoc]
theorem cntV_take_le (V : ByteArray) (vs : List ByteArray) (t : Nat) : cntV V (vs.take t) ≤ cntV V vs := by
  have h : cntV V vs = cntV V (vs.take t) + cntV V (vs.drop t) := by
    unfold cntV
    rw [← List.length_append, ← List.filter_append, List.take_append_drop]
  omega

theorem getD_mid (A C : List Int) (r q : Nat) (x : Int) (hq : q < r) : A.length + q < (A ++ (List.replicate r x ++ C)).length ∧ (A ++ (List.replicate r x ++ C)).getD (A.length + q) 0 = x := by
  refine ⟨by simp; omega, ?_⟩
  have h1 : (A ++ (List.replicate r x ++ C))[A.length + q]? = some x := by
    rw [List.getElem?_append_right (by omega), Nat.add_sub_cancel_left, List.getElem?_append_left (by simpa using hq)]
    simp [hq]
  simp [List.getD, h1]
theorem ids_take_len (cs : List Call) (j : Nat) (t : Tag) : (ids (cs.take j) t).length ≤ (ids cs t).length := by
  have h3 : ids (cs.take j ++ cs.drop j) t = ids (cs.take j) t ++ ids (cs.drop j) t := List.flatMap_append
  rw [List.take_append_drop] at h3
  rw [h3]; simp

set_option maxRecDepth 100000 in
set_option maxHeartbeats 4000000 in
theorem allowAgrees_any (a : Option Addr) (n c : Nat) (cs : List Call) (K V : ByteArray) (a1 : Option Addr) (n1 c1 : Nat) (w : World) (hz : cs.length = n) (hn : n ≤ 1048576) (hr : CRow w a cs) (hvl : ∀ j, j < n → (cs.getD j Call.nil).vals.length ≤ 1048576)
    (hz1 : (ids cs (K, some (some V))).length = n1) (hn1 : n1 ≤ 1048576) (hr1 : Row w .i64 a1 (ids cs (K, some (some V)))) :
    Calls Trym.prog 27 #[.slice a n c, .string K, .string V, .slice a1 n1 c1] w fun e w' => e = .returned (.bool true) ∧ Below w.heap.size w w' := by
  refine calls_all fun Q HQE => ?_
  go_enter Trym.func27, Trym.ntmps27
  go_wp2
  go_loopw [9, 10] (fun p i wr => ∃ j : Nat, j ≤ n ∧ i = .int .i64 j ∧ p = .int .i64 (ids (cs.take j) (K, some (some V))).length ∧ Below w.heap.size w wr) (fun _ i _ => n - (intOf i).toNat)
  case atStart => exact ⟨0, Nat.zero_le _, rfl, by simp [ids], Below.refl _ _⟩
  case round =>
    obtain ⟨j, hj, rfl, rfl, hbel0⟩ := hrel
    by_cases hlt : j < n
    · obtain ⟨b, off, hx, hc⟩ := hr (by omega)
      subst hx
      have hC := hc j (by omega)
      have hvj := hvl j hlt
      have hsp := ids_split cs j (by omega) (K, some (some V))
      have hts := ids_take_succ cs j (by omega) (K, some (some V))
      generalize cs.getD j Call.nil = d at hC hsp hts hvj
      have hblt : b < w.heap.size := World.block_lt_of_cell? w _ hC.key
      obtain ⟨k1, k2, ⟨va, vc, k3, s3, _⟩, k4⟩ := hC
      have e1 := (hbel0.cell (p := ⟨b, off + j * 4, none⟩) hblt).trans k1
      have e2 := (hbel0.cell (p := ⟨b, off + j * 4 + 1, none⟩) hblt).trans k2
      have S3 := hide s3
      clear hc s3
      by_cases hm : d.key = K ∧ d.kind = 0
      · obtain ⟨e, hk⟩ := hm
        rw [addA_hit e hk] at hts hsp
        obtain ⟨s1, s2⟩ := str_eq e
        have hkb : (d.kind != 0) = false := by simp [hk]
        have hlen : (ids (cs.take (j + 1)) (K, some (some V))).length = (ids (cs.take j) (K, some (some V))).length + cntV V d.vals := by rw [hts]; simp
        have hall : ∀ q, q < cntV V d.vals → (ids (cs.take j) (K, some (some V))).length + q < n1 ∧ (ids cs (K, some (some V))).getD ((ids (cs.take j) (K, some (some V))).length + q) 0 = d.id := by
          intro q hq
          rw [← hz1, hsp]
          exact getD_mid _ _ _ _ _ hq
        generalize (ids (cs.take j) (K, some (some V))).length = m at hlen hall
        have HL := hide hlen
        have HA := hide hall
        have hmb : m + cntV V d.vals ≤ n1 := by
          rcases Nat.eq_zero_or_pos (cntV V d.vals) with h0 | h0
          · have := ids_take_len cs (j + 1) (K, some (some V))
            omega
          · have := (hall (cntV V d.vals - 1) (by omega)).1; omega
        have hmb1 : m ≤ 1048576 := by omega
        clear e hk hsp hts hlen hall
        go_wp2
        go_loopw [9, 11] (fun p i wr => ∃ t : Nat, t ≤ d.vals.length ∧ i = .int .i64 t ∧ p = .int .i64 ((m + cntV V (d.vals.take t) : Nat) : Int) ∧ Below w.heap.size w wr) (fun _ i _ => d.vals.length - (intOf i).toNat)
        case atStart => exact ⟨0, Nat.zero_le _, rfl, by simp [cntV], hbel0⟩
        case round =>
          obtain ⟨t, ht, rfl, rfl, hbel⟩ := hrel
          have f3 := (hbel.cell (p := ⟨b, off + j * 4 + 2, none⟩) hblt).trans k3
          have f4 := (hbel.cell (p := ⟨b, off + j * 4 + 3, none⟩) hblt).trans k4
          by_cases hlt2 : t < d.vals.length
          · obtain ⟨bv, ov, hxv, hcv⟩ := (unhide S3).below hbel (by omega)
            subst hxv
            have hcv' := hcv t hlt2
            have hcs := cntV_succ V d.vals t hlt2
            have hcl := cntV_take_le V d.vals (t + 1)
            generalize d.vals.getD t ByteArray.empty = v at hcv' hcs
            clear hcv
            by_cases ev : v = V
            · rw [if_pos ev] at hcs
              obtain ⟨v1, v2⟩ := str_eq ev
              obtain ⟨q1, q2⟩ := unhide HA (cntV V (d.vals.take t)) (by omega)
              obtain ⟨b1, off1, hx1, hc1⟩ := hr1.below hbel (by omega)
              subst hx1
              have hg1 := hc1 _ (by rw [hz1]; exact q1)
              rw [q2] at hg1
              generalize hmm : m + cntV V (d.vals.take t) = mm at q1 hg1
              have hmm2 : m + cntV V (d.vals.take (t + 1)) = mm + 1 := by omega
              have HM := hide hmm2
              have hge : decide ((n1 : Int) ≤ (mm : Int)) = false := decide_eq_false (by omega)
              have hmi : (mm : Int) < (n1 : Int) := by omega
              clear ev hcs hcl q2 hc1 hmm hmm2
              go_wp2
              go_quiet (fail)
              go_wp2
              go_roundw
              case rel => exact ⟨t + 1, by omega, by go_num, by rw [unhide HM]; go_num, below_drewN hbel _⟩
              case measure => simp [intOf]; omega
            · rw [if_neg ev] at hcs
              obtain ⟨v1, v2⟩ := str_ne ev
              have hmm2 : m + cntV V (d.vals.take (t + 1)) = m + cntV V (d.vals.take t) := by omega
              have HM := hide hmm2
              clear ev hcs hcl hmm2
              generalize m + cntV V (d.vals.take t) = mm at HM ⊢
              go_wp2
              go_roundw
              case rel => exact ⟨t + 1, by omega, by go_num, by rw [unhide HM], hbel⟩
              case measure => simp [intOf]; omega
          · have et : d.vals.take t = d.vals := List.take_of_length_le (by omega)
            rw [et]
            have hL2 := unhide HL
            generalize m + cntV V d.vals = mm at hL2 hmb ⊢
            have HL2 := hide hL2
            clear hL2 HL et
            go_wp2
            go_roundw
            case rel => exact ⟨j + 1, by omega, by go_num, by rw [unhide HL2], hbel⟩
            case measure => simp [intOf]; omega
      · have hor : ¬ d.key = K ∨ ¬ d.kind = 0 := by
          rcases Classical.em (d.key = K) with h | h
          · exact .inr (fun h2 => hm ⟨h, h2⟩)
          · exact .inl h
        rw [addA_other hor, List.append_nil] at hts
        have HTS := hide hts
        by_cases e : d.key = K
        · obtain ⟨s1, s2⟩ := str_eq e
          have hkb : (d.kind != 0) = true := by simpa using hor.resolve_left (fun h => h e)
          clear e hsp hts hm hor
          go_wp2
          go_roundw
          case rel => exact ⟨j + 1, by omega, by go_num, by rw [unhide HTS], hbel0⟩
          case measure => simp [intOf]; omega
        · obtain ⟨s1, s2⟩ := str_ne e
          clear e hsp hts hm hor
          go_wp2
          go_roundw
          case rel => exact ⟨j + 1, by omega, by go_num, by rw [unhide HTS], hbel0⟩
          case measure => simp [intOf]; omega
    · have e : cs.take j = cs := List.take_of_length_le (by omega)
      rw [e, hz1]
      clear e
      go_wp2
      try go_ret
      exact unhide HQE _ _ ⟨by simp, hbel0⟩

end Go.Proofs.Qxb6600623aMods
