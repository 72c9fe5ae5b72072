import Derived.Test.Qxb6600623aModsAgree
set_option linter.unusedVariables false
set_option linter.unusedSimpArgs false
namespace Go.Proofs.Qxb6600623aMods
open Go.RowKit

theorem keyCount_any (W0 w : World) (gb : Nat) (I : Tag → List Int) (G : GS) (n c : Nat) (h : Grp W0 w gb I G n c) :
    Calls Trym.prog 29 #[.pointer (some ⟨gb, 0, none⟩)] w fun e w' => e = .returned (.int .i64 c) ∧ w = w' := by
  refine calls_all fun Q HQE => ?_
  rcases h with ⟨h1, h2, h3, h4, h5, rfl⟩ | ⟨h1, h2⟩
  · have hc := (fourC h2).2.2.2.1
    have hln := Maps.len_nil (P := Trym.prog) (w := w) (t := 61) Trym.underlying61 3
    go_enter Trym.func29, Trym.ntmps29
    go_wp2
    try go_ret
    exact unhide HQE _ _ ⟨rfl, rfl⟩
  · have hc := (fourC h1.group).2.2.2.1
    obtain ⟨D, hown, hsz, _⟩ := h1.keys
    have HSZ := hide hsz
    clear hsz
    go_enter Trym.func29, Trym.ntmps29
    go_wp2_with (at_len; refine wpList_len_own _ rfl _ 61 rfl 9 67 Trym.underlying61 _ G.mb0 n D rfl hown ?_)
    try go_ret
    exact unhide HQE _ _ ⟨by rw [← unhide HSZ]; rfl, rfl⟩

theorem ids_split (cs : List Call) (j : Nat) (hj : j < cs.length) (t : Tag) : ids cs t = ids (cs.take j) t ++ (addC (cs.getD j Call.nil) t ++ ids (cs.drop (j + 1)) t) := by
  have h1 : cs = cs.take j ++ (cs.getD j Call.nil :: cs.drop (j + 1)) := by
    conv => lhs; rw [← List.take_append_drop j cs]
    rw [List.drop_eq_getElem_cons hj]
    simp [List.getD, hj]
  have h2 : ∀ xs ys : List Call, ids (xs ++ ys) t = ids xs t ++ ids ys t := fun xs ys => by simp [ids]
  conv => lhs; rw [h1, h2]
  congr 1
theorem ids_take_succ (cs : List Call) (j : Nat) (hj : j < cs.length) (t : Tag) : ids (cs.take (j + 1)) t = ids (cs.take j) t ++ addC (cs.getD j Call.nil) t := by
  rw [take_succ_getD cs j hj, ids_snoc]
  rfl

/-- The tag that 'zzListAgrees' looks at. -/
def tagL (K : ByteArray) (b : Bool) : Tag := if b then (K, some none) else (K, none)
theorem addC_other {c : Call} {K : ByteArray} {b : Bool} (h : ¬ c.key = K) : addC c (tagL K b) = [] := by
  have h' : ¬ K = c.key := fun e => h e.symm
  unfold addC tagL
  cases b <;> simp [addOf, h']
theorem addC_unvalued {c : Call} {K : ByteArray} (h : ¬ c.kind = 0) : addC c (tagL K true) = [] := by
  unfold addC tagL
  simp [addOf, h]
theorem addC_hit {c : Call} {K : ByteArray} {b : Bool} (h : c.key = K) (hk : b = true → c.kind = 0) : addC c (tagL K b) = [c.id] := by
  unfold addC tagL
  cases b
  · simp [addOf, h]
  · simp [addOf, h, hk rfl]

set_option maxRecDepth 100000 in
set_option maxHeartbeats 4000000 in
theorem listAgrees_any (a : Option Addr) (n c : Nat) (cs : List Call) (K : ByteArray) (vo : Bool) (a1 : Option Addr) (n1 c1 : Nat) (w : World) (hz : cs.length = n) (hn : n ≤ 1048576) (hr : CRow w a cs)
    (hz1 : (ids cs (tagL K vo)).length = n1) (hn1 : n1 ≤ 1048576) (hr1 : Row w .i64 a1 (ids cs (tagL K vo))) :
    Calls Trym.prog 24 #[.slice a n c, .string K, .bool vo, .slice a1 n1 c1] w fun e w' => e = .returned (.bool true) ∧ Below w.heap.size w w' := by
  refine calls_all fun Q HQE => ?_
  go_enter Trym.func24, Trym.ntmps24
  go_wp2
  go_loopw [9, 10] (fun p i wr => ∃ j : Nat, j ≤ n ∧ i = .int .i64 j ∧ p = .int .i64 (ids (cs.take j) (tagL K vo)).length ∧ Below w.heap.size w wr) (fun _ i _ => n - (intOf i).toNat)
  case atStart => exact ⟨0, Nat.zero_le _, rfl, by simp [ids], Below.refl _ _⟩
  case round =>
    obtain ⟨j, hj, rfl, rfl, hbel⟩ := hrel
    by_cases hlt : j < n
    · obtain ⟨b, off, hx, hc⟩ := hr.below hbel (by omega)
      subst hx
      have hC := hc j (by omega)
      have hsp := ids_split cs j (by omega) (tagL K vo)
      have hts := ids_take_succ cs j (by omega) (tagL K vo)
      generalize cs.getD j Call.nil = d at hC hsp hts
      obtain ⟨k1, k2, _, k4⟩ := hC
      clear hc
      by_cases e : d.key = K
      · by_cases hk : vo = true ∧ ¬ d.kind = 0
        · obtain ⟨rfl, hk⟩ := hk
          rw [addC_unvalued hk, List.append_nil] at hts
          obtain ⟨s1, s2⟩ := str_eq e
          have hkb : (d.kind != 0) = true := by simp [hk]
          have HTS := hide hts
          clear e hsp hts hk
          go_wp2
          go_roundw
          case rel => exact ⟨j + 1, by omega, by go_num, by rw [unhide HTS], hbel⟩
          case measure => simp [intOf]; omega
        · have hk0 : vo = true → d.kind = 0 := fun h => by
            rcases Classical.em (d.kind = 0) with h' | h'
            · exact h'
            · exact absurd ⟨h, h'⟩ hk
          have hh := addC_hit (K := K) e hk0
          rw [hh] at hts hsp
          have hpos : (ids (cs.take j) (tagL K vo)).length < n1 := by
            rw [← hz1, hsp]; simp
          have hget : (ids cs (tagL K vo)).getD (ids (cs.take j) (tagL K vo)).length 0 = d.id := by
            rw [hsp]; simp [List.getD]
          have hlen : (ids (cs.take (j + 1)) (tagL K vo)).length = (ids (cs.take j) (tagL K vo)).length + 1 := by rw [hts]; simp
          obtain ⟨b1, off1, hx1, hc1⟩ := hr1.below hbel (by omega)
          subst hx1
          have hg1 := hc1 _ (by rw [hz1]; exact hpos)
          rw [hget] at hg1
          generalize (ids (cs.take j) (tagL K vo)).length = m at hpos hlen hg1
          obtain ⟨s1, s2⟩ := str_eq e
          have HL := hide hlen
          have hge : decide ((n1 : Int) ≤ (m : Int)) = false := decide_eq_false (by omega)
          have hmi : (m : Int) < (n1 : Int) := by omega
          clear e hsp hts hk hh hget hlen hc1
          cases vo
          · clear hk0
            go_wp2
            go_quiet (fail)
            go_wp2
            go_roundw
            case rel => exact ⟨j + 1, by omega, by go_num, by rw [unhide HL]; go_num, below_drewN hbel _⟩
            case measure => simp [intOf]; omega
          · have hkb : (d.kind != 0) = false := by simp [hk0 rfl]
            clear hk0
            go_wp2
            go_quiet (fail)
            go_wp2
            go_roundw
            case rel => exact ⟨j + 1, by omega, by go_num, by rw [unhide HL]; go_num, below_drewN hbel _⟩
            case measure => simp [intOf]; omega
      · rw [addC_other e, List.append_nil] at hts
        obtain ⟨s1, s2⟩ := str_ne e
        have HTS := hide hts
        clear e hsp hts
        go_wp2
        go_roundw
        case rel => exact ⟨j + 1, by omega, by go_num, by rw [unhide HTS], hbel⟩
        case measure => simp [intOf]; omega
    · have e : cs.take j = cs := List.take_of_length_le (by omega)
      rw [e, hz1]
      clear e
      go_wp2
      try go_ret
      exact unhide HQE _ _ ⟨by simp, hbel⟩

end Go.Proofs.Qxb6600623aMods
