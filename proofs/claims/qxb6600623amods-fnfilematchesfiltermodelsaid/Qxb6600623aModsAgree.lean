import Derived.Test.Qxb6600623aModsIds
import Derived.BigQuiet
import Derived.Deep.QuietTactic
set_option linter.unusedVariables false
set_option linter.unusedSimpArgs false
namespace Go.Proofs.Qxb6600623aMods
open Go.RowKit

theorem str_ne {x y : ByteArray} (h : ¬ x = y) : (x.toList == y.toList) = false ∧ (x.toList != y.toList) = true := by
  have e : x.toList ≠ y.toList := fun e => h (WideShapes.bytes_inj (by rw [← ByteArray.toList_eq, ← ByteArray.toList_eq]; exact e))
  exact ⟨by simp [e], by simp [e]⟩
theorem str_eq {x y : ByteArray} (h : x = y) : (x.toList == y.toList) = true ∧ (x.toList != y.toList) = false := by
  subst h; simp

def anyB (cs : List Call) (K : ByteArray) : Bool := cs.any (fun c => decide (c.key = K))
theorem anyB_true {cs : List Call} {K : ByteArray} {k : Nat} (hk : k < cs.length) (h : (cs.getD k Call.nil).key = K) : anyB cs K = true := by
  unfold anyB
  rw [List.any_eq_true]
  exact ⟨cs.getD k Call.nil, by simp [List.getD, hk], decide_eq_true h⟩
theorem anyB_false {cs : List Call} {K : ByteArray} (h : ∀ j, j < cs.length → (cs.getD j Call.nil).key ≠ K) : anyB cs K = false := by
  unfold anyB
  rw [List.any_eq_false]
  intro c hc
  obtain ⟨i, hi, rfl⟩ := List.mem_iff_getElem.1 hc
  have := h i hi
  simpa [List.getD, hi] using this

set_option maxRecDepth 100000 in
set_option maxHeartbeats 2000000 in
theorem anyWith_any (a : Option Addr) (n c : Nat) (cs : List Call) (K : ByteArray) (w : World) (hz : cs.length = n) (hn : n ≤ 1048576) (hr : CRow w a cs) :
    Calls Trym.prog 30 #[.slice a n c, .string K] w fun e w' => e = .returned (.bool (anyB cs K)) ∧ w = w' := by
  refine calls_all fun Q HQE => ?_
  go_enter Trym.func30, Trym.ntmps30
  go_wp2
  go_loop [5] (fun i => ∃ k : Nat, k ≤ n ∧ i = .int .i64 k ∧ Hid (∀ j, j < k → (cs.getD j Call.nil).key ≠ K)) (fun i => n - (intOf i).toNat)
  case atStart => exact ⟨0, Nat.zero_le _, rfl, fun j hj => absurd hj (Nat.not_lt_zero _)⟩
  case round =>
    obtain ⟨k, hk, rfl, hall⟩ := hrel
    by_cases hlt : k < n
    · obtain ⟨b, off, hx, hc⟩ := hr (by omega)
      subst hx
      have hck := (hc k (by omega)).key
      clear hc
      generalize hy : (cs.getD k Call.nil).key = y at hck
      have HY := hide hy
      clear hy
      by_cases e : y = K
      · have hs := (str_eq e).1
        have HE := hide e
        clear e
        go_wp2
        try go_ret
        refine unhide HQE _ _ ⟨?_, rfl⟩
        rw [anyB_true (k := k) (by omega) (by rw [unhide HY]; exact unhide HE)]
      · have hs := (str_ne e).1
        have HE := hide e
        clear e
        go_wp2
        go_round
        case rel =>
          refine ⟨k + 1, by omega, by go_num, fun j hj => ?_⟩
          rcases Nat.lt_or_ge j k with h | h
          · exact hall.out j h
          · have : j = k := by omega
            subst this
            rw [unhide HY]; exact unhide HE
        case measure => simp [intOf]; omega
    · go_wp2
      try go_ret
      refine unhide HQE _ _ ⟨?_, rfl⟩
      rw [anyB_false (fun j hj => hall.out j (by omega))]

def firstB (cs : List Call) (k : Nat) : Bool := !anyB (cs.take k) (cs.getD k Call.nil).key
theorem getD_take (cs : List Call) (k j : Nat) (h : j < k) : (cs.take k).getD j Call.nil = cs.getD j Call.nil := by
  simp [List.getD, List.getElem?_take, h]

set_option maxRecDepth 100000 in
set_option maxHeartbeats 2000000 in
theorem first_any (a : Option Addr) (n c k : Nat) (cs : List Call) (w : World) (hz : cs.length = n) (hn : n ≤ 1048576) (hk : k < n) (hr : CRow w a cs) :
    Calls Trym.prog 21 #[.slice a n c, .int .i64 k] w fun e w' => e = .returned (.bool (firstB cs k)) ∧ Below w.heap.size w w' := by
  refine calls_all fun Q HQE => ?_
  obtain ⟨b, off, hx, hc0⟩ := hr (by omega)
  subst hx
  have hlt0 : b < w.heap.size := World.block_lt_of_cell? w _ (hc0 k (by omega)).key
  have hKk := (hc0 k (by omega)).key
  generalize hK : (cs.getD k Call.nil).key = K at hKk
  have HK := hide hK
  have HC := hide hc0
  clear hK hc0
  go_enter Trym.func21, Trym.ntmps21
  go_wp2
  go_loopw [5] (fun i wr => ∃ j : Nat, j ≤ k ∧ i = .int .i64 j ∧ Below w.heap.size w wr ∧ Hid (∀ p, p < j → (cs.getD p Call.nil).key ≠ K)) (fun i _ => k - (intOf i).toNat)
  case atStart => exact ⟨0, Nat.zero_le _, rfl, Below.refl _ _, fun j hj => absurd hj (Nat.not_lt_zero _)⟩
  case round =>
    obtain ⟨j, hj, rfl, hbel, hall⟩ := hrel
    have e1 := (hbel.cell (p := ⟨b, off + k * 4, none⟩) hlt0).trans hKk
    by_cases hlt : j < k
    · have hck := (hbel.cell (p := ⟨b, off + j * 4, none⟩) hlt0).trans (unhide HC j (by omega)).key
      generalize hy : (cs.getD j Call.nil).key = y at hck
      have HY := hide hy
      clear hy
      by_cases e : y = K
      · have hs := (str_eq e).1
        have HE := hide e
        clear e
        go_wp2
        go_region
        all_goals go_wp2
        all_goals try go_ret
        refine unhide HQE _ _ ⟨?_, hbel.drew⟩
        unfold firstB
        rw [unhide HK, anyB_true (k := j) (by simp; omega) (by rw [getD_take cs k j hlt, unhide HY]; exact unhide HE)]
        rfl
      · have hs := (str_ne e).1
        have HE := hide e
        clear e
        go_wp2
        go_region
        all_goals go_wp2
        all_goals go_roundw
        case rel =>
          refine ⟨j + 1, by omega, by go_num, hbel.drew, fun p hp => ?_⟩
          rcases Nat.lt_or_ge p j with h | h
          · exact hall.out p h
          · have : p = j := by omega
            subst this
            rw [unhide HY]; exact unhide HE
        case measure => simp [intOf]; omega
    · go_wp2
      try go_ret
      refine unhide HQE _ _ ⟨?_, hbel⟩
      unfold firstB
      rw [unhide HK, anyB_false (fun p hp => by simp at hp; rw [getD_take cs k p (by omega)]; exact hall.out p (by omega))]
      rfl

theorem hasKey_any (W0 w : World) (gb : Nat) (I : Tag → List Int) (G : GS) (n c : Nat) (K : ByteArray) (h : Grp W0 w gb I G n c) (hK : K.size ≤ 9223372036854775807) :
    Calls Trym.prog 22 #[.pointer (some ⟨gb, 0, none⟩), .string K] w fun e w' => e = .returned (.bool (G.pk K)) ∧ w = w' := by
  refine calls_all fun Q HQE => ?_
  obtain ⟨mv, hc, pa, hpa, hlk⟩ := h.look K hK
  have hpe := fun w p => run_neq_pointer_nil (P := Trym.prog) w 67 p ptr67
  cases hp : G.pk K
  · rw [hp] at hpa
    have e : pa = none := by simpa using hpa
    subst e
    clear hpa
    go_enter Trym.func22, Trym.ntmps22
    go_wp2
    try go_ret
    exact unhide HQE _ _ ⟨by rw [hp]; rfl, rfl⟩
  · rw [hp] at hpa
    have e : pa = some ⟨G.ob K, 0, none⟩ := by simpa using hpa
    subst e
    clear hpa
    go_enter Trym.func22, Trym.ntmps22
    go_wp2
    try go_ret
    exact unhide HQE _ _ ⟨by rw [hp]; rfl, rfl⟩

theorem otherKey_any (W0 w : World) (gb : Nat) (I : Tag → List Int) (G : GS) (n c : Nat) (K : ByteArray) (h : Grp W0 w gb I G n c) (hK : K.size ≤ 9223372036854775807) (hp : G.pk K = true) :
    Calls Trym.prog 23 #[.pointer (some ⟨gb, 0, none⟩), .string K] w fun e w' => e = .returned (.string K) ∧ w = w' := by
  refine calls_all fun Q HQE => ?_
  obtain ⟨mv, hc, pa, hpa, hlk⟩ := h.look K hK
  have hpe := fun w p => run_eql_pointer_nil (P := Trym.prog) w 67 p ptr67
  rw [hp] at hpa
  have e : pa = some ⟨G.ob K, 0, none⟩ := by simpa using hpa
  subst e
  clear hpa
  rcases h with ⟨_, _, _, h4, _⟩ | ⟨h1, _⟩
  · rw [h4] at hp; cases hp
  have hoth := h1.oth K hp
  unfold othC at hoth
  obtain ⟨o0, o1, o3, o5, of⟩ := six hoth
  clear hoth
  go_enter Trym.func23, Trym.ntmps23
  go_wp2
  try go_ret
  exact unhide HQE _ _ ⟨rfl, rfl⟩

end Go.Proofs.Qxb6600623aMods
