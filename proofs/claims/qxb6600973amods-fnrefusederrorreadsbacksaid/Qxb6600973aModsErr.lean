import Derived.Test.Qxb6600973aModsBase
import Derived.BigQuiet
import Derived.Deep.QuietTactic
set_option linter.unusedVariables false
set_option linter.unusedSimpArgs false
namespace Go.Proofs.Qxb6600973aMods
open Go.RowKit

def peerP : ByteArray := ⟨#[116, 104, 101, 32, 112, 101, 101, 114, 32, 114, 101, 102, 117, 115, 101, 100, 32, 116, 104, 101, 32, 108, 105, 110, 107, 58, 32]⟩
def nodeP : ByteArray := ⟨#[116, 104, 105, 115, 32, 110, 111, 100, 101, 32, 114, 101, 102, 117, 115, 101, 100, 32, 116, 104, 101, 32, 108, 105, 110, 107, 58, 32]⟩
/-- What stands ahead of the reason. -/
def headP (p : Bool) : ByteArray := if p then peerP else nodeP

set_option maxRecDepth 100000 in
set_option maxHeartbeats 2000000 in
theorem error_any (b : Nat) (s : ByteArray) (p : Bool) (w : World) (h : w.heap[b]? = some (.cells #[.string s, .bool p] 35 (0, 0))) (hs : s.size ≤ 1048576) :
    Calls Trym.prog 12 #[.pointer (some ⟨b, 0, none⟩)] w fun e w' => e = .returned (.string (headP p ++ s)) ∧ w = w' := by
  refine calls_all fun Q HQE => ?_
  have c0 : w.cell? ⟨b, 0, none⟩ = some (.string s) := by simp [World.cell?, h]
  have c1 : w.cell? ⟨b, 1, none⟩ = some (.bool p) := by simp [World.cell?, h]
  cases p
  · go_enter Trym.func12, Trym.ntmps12
    go_wp2
    try go_ret
    exact unhide HQE _ _ ⟨rfl, rfl⟩
  · go_enter Trym.func12, Trym.ntmps12
    go_wp2
    try go_ret
    exact unhide HQE _ _ ⟨rfl, rfl⟩

set_option maxRecDepth 100000 in
set_option maxHeartbeats 2000000 in
theorem text_any (s : ByteArray) (p : Bool) (w : World) (hs : s.size ≤ 1048576) :
    Calls Trym.prog 7 #[.string s, .bool p] w fun e w' => e = .returned (.string (headP p ++ s)) ∧ Below w.heap.size w w' := by
  refine calls_all fun Q HQE => ?_
  go_enter Trym.func7, Trym.ntmps7
  go_wp2_with fail
  refine (error_any w.heap.size s p _ (heap_alloc_new w _) hs).mono ?_
  rintro e w1 ⟨rfl, rfl⟩
  generalize headP p ++ s = t at HQE ⊢
  go_wp2
  try go_ret
  exact unhide HQE _ _ ⟨rfl, (Below.refl _ _).alloc (Nat.le_refl _) _⟩

set_option maxRecDepth 100000 in
set_option maxHeartbeats 4000000 in
theorem cut_any (s : ByteArray) (m : Nat) (w : World) (hs : s.size ≤ 2097152) (hm : m + 1 < s.size) (hno : ∀ i (h : i < s.size), i < m → (s[i].toNat : Int) ≠ 58) (h58 : (s[m].toNat : Int) = 58) (h32 : (s[m + 1].toNat : Int) = 32) :
    Calls Trym.prog 8 #[.string s] w fun e w' => e = .returned (.tuple #[.string (s.extract 0 m), .string (s.extract (m + 2) s.size), .bool true]) ∧ Below w.heap.size w w' := by
  refine calls_all fun Q HQE => ?_
  have HNO := hide hno
  have H58 := hide h58
  have H32 := hide h32
  clear hno h58 h32
  go_enter Trym.func8, Trym.ntmps8
  go_wp2
  go_loopw [5] (fun i wr => ∃ k : Nat, k ≤ m ∧ i = .int .i64 k ∧ Below w.heap.size w wr) (fun i _ => m - (intOf i).toNat)
  case atStart => exact ⟨0, Nat.zero_le _, rfl, Below.refl _ _⟩
  case round =>
    obtain ⟨k, hk, rfl, hbel⟩ := hrel
    by_cases hlt : k < m
    · have h0 : k < s.size := by omega
      have hne := unhide HNO k h0 hlt
      have hb : ((s[k].toNat : Int) == 58) = false := by simpa using hne
      clear hne
      go_wp2
      go_roundw
      case rel => exact ⟨k + 1, by omega, by go_num, hbel⟩
      case measure => simp [intOf]; omega
    · have hkm : k = m := by omega
      subst hkm
      have h0 : k < s.size := by omega
      have hb : ((s[k].toNat : Int) == 58) = true := by simpa using unhide H58
      have hb1 : ((s[k + 1].toNat : Int) == 32) = true := by simpa using unhide H32
      have hi1 : (k : Int) ≤ (s.size : Int) := by omega
      have hi2 : (k : Int) + 2 ≤ (s.size : Int) := by omega
      go_wp2
      go_region
      all_goals go_wp2
      all_goals try go_ret3
      all_goals exact unhide HQE _ _ ⟨rfl, hbel.drew⟩

end Go.Proofs.Qxb6600973aMods
