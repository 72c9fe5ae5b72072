import Derived.WalkKit
set_option linter.unusedVariables false
set_option linter.unusedSimpArgs false
namespace Go.Proofs.Qxb6600623aMods
open Go.RowKit

/-- Bit j of a word. -/
def tb (a : Int) (j : Nat) : Bool := a.toNat.testBit j
/-- A uint64. -/
def U (a : Int) : Prop := 0 ≤ a ∧ a < 18446744073709551616

theorem U_wrap (n : Int) : U (IntKind.u64.wrap n) := by
  rw [IntKind.wrap_u64]; unfold U; omega
theorem U_or (a b : Int) : U (bits .or .u64 a b) := U_wrap _
theorem U_and (a b : Int) : U (bits .and .u64 a b) := U_wrap _
theorem U_andNot (a b : Int) : U (bits .andNot .u64 a b) := U_wrap _

theorem tb_or {a b : Int} (ha : U a) (hb : U b) (j : Nat) : tb (bits .or .u64 a b) j = (tb a j || tb b j) := by
  rw [u64_or a b ha.1 ha.2 hb.1 hb.2]
  simp [tb, Nat.testBit_or]
theorem tb_and {a b : Int} (ha : U a) (hb : U b) (j : Nat) : tb (bits .and .u64 a b) j = (tb a j && tb b j) := by
  rw [u64_and a b ha.1 ha.2 hb.1 hb.2]
  simp [tb, Nat.testBit_and]
theorem tb_andNot {a b : Int} (ha : U a) (hb : U b) {j : Nat} (hj : j < 64) : tb (bits .andNot .u64 a b) j = (tb a j && !tb b j) := by
  rw [u64_andNot a b ha.1 ha.2 hb.1 hb.2]
  have h1 : b.toNat < 2 ^ 64 := by have := hb.2; have := hb.1; omega
  have h2 : 18446744073709551615 - b.toNat = 2 ^ 64 - (b.toNat + 1) := by omega
  rw [h2]
  show (((a.toNat &&& (2 ^ 64 - (b.toNat + 1)) : Nat) : Int)).toNat.testBit j = (a.toNat.testBit j && !b.toNat.testBit j)
  rw [Int.toNat_natCast, Nat.testBit_and, Nat.testBit_two_pow_sub_succ h1, decide_eq_true hj, Bool.true_and]
/-- The word of the one bit m % 64. -/
def bitw (m : Nat) : Int := IntKind.u64.wrap (2 ^ (m % 64))
theorem U_bitw (m : Nat) : U (bitw m) := U_wrap _
theorem bitw_eq (m : Nat) : bitw m = ((2 ^ (m % 64) : Nat) : Int) := by
  unfold bitw
  rw [IntKind.wrap_u64]
  have h : 2 ^ (m % 64) < 2 ^ 64 := Nat.pow_lt_pow_right (by omega) (Nat.mod_lt _ (by omega))
  have h2 : ((2 : Int) ^ (m % 64)) = ((2 ^ (m % 64) : Nat) : Int) := by simp
  rw [h2]
  generalize (2 : Nat) ^ (m % 64) = p at h
  omega
theorem tb_bitw (m j : Nat) : tb (bitw m) j = decide (m % 64 = j) := by
  rw [bitw_eq]
  unfold tb
  rw [Int.toNat_natCast, Nat.testBit_two_pow]
theorem tb_zero (j : Nat) : tb 0 j = false := by simp [tb]
theorem eq_of_tb {a b : Int} (ha : U a) (hb : U b) (h : ∀ j, j < 64 → tb a j = tb b j) : a = b := by
  have e : a.toNat = b.toNat := by
    apply Nat.eq_of_testBit_eq
    intro i
    by_cases hi : i < 64
    · exact h i hi
    · have h1 : a.toNat < 2 ^ i := Nat.lt_of_lt_of_le (show a.toNat < 2 ^ 64 by have := ha.2; have := ha.1; omega) (Nat.pow_le_pow_right (by omega) (by omega))
      have h2 : b.toNat < 2 ^ i := Nat.lt_of_lt_of_le (show b.toNat < 2 ^ 64 by have := hb.2; have := hb.1; omega) (Nat.pow_le_pow_right (by omega) (by omega))
      rw [Nat.testBit_lt_two_pow h1, Nat.testBit_lt_two_pow h2]
  have := ha.1; have := hb.1; omega
/-- 'word & bit != 0'. -/
theorem and_bit_ne {a : Int} (ha : U a) (m : Nat) : (bits .and .u64 a (bitw m) != 0) = tb a (m % 64) := by
  cases h : tb a (m % 64)
  · have : bits .and .u64 a (bitw m) = 0 := by
      apply eq_of_tb (U_and _ _) (by unfold U; omega)
      intro j hj
      rw [tb_and ha (U_bitw m), tb_bitw, tb_zero]
      by_cases e : m % 64 = j
      · subst e; simp [h]
      · simp [e]
    simp [this]
  · have : bits .and .u64 a (bitw m) ≠ 0 := by
      intro e
      have h2 := tb_and ha (U_bitw m) (m % 64)
      rw [e, tb_bitw, tb_zero, h] at h2
      simp at h2
    simp [this]

/-- Bit j of word t of a row of words. -/
def bt (A : List Int) (t j : Nat) : Bool := tb (A.getD t 0) j

theorem bt_set {A : List Int} {q : Nat} {x : Int} (hq : q < A.length) (t j : Nat) : bt (A.set q x) t j = if t = q then tb x j else bt A t j := by
  unfold bt
  by_cases e : t = q
  · subst e; simp [List.getD, hq]
  · simp [List.getD, e, show ¬ q = t from fun h => e h.symm]
/-- Each is a uint64. -/
def AllU (A : List Int) : Prop := ∀ t, U (A.getD t 0)
theorem AllU.set {A : List Int} (h : AllU A) (q : Nat) {x : Int} (hx : U x) : AllU (A.set q x) := by
  intro t
  by_cases e : t = q
  · subst e
    by_cases hl : t < A.length
    · simpa [List.getD, hl] using hx
    · simpa [List.getD, hl, List.getElem?_set] using h t
  · simpa [List.getD, e, List.getElem?_set, show ¬ q = t from fun h => e h.symm] using h t
theorem AllU_replicate (n : Nat) : AllU (List.replicate n 0) := by
  intro t
  by_cases h : t < n
  · simp [List.getD, h, U]
  · simp [List.getD, h, U]
theorem bt_replicate (n t j : Nat) : bt (List.replicate n 0) t j = false := by
  unfold bt
  by_cases h : t < n
  · simp [List.getD, h, tb_zero]
  · simp [List.getD, h, tb_zero]
/-- 'A[m/64] |= 1 << (m%64)' -/
theorem bt_orbit {A : List Int} (hA : AllU A) {m : Nat} (hm : m / 64 < A.length) {t j : Nat} (hj : j < 64) :
    bt (A.set (m / 64) (bits .or .u64 (A.getD (m / 64) 0) (bitw m))) t j = (bt A t j || decide (m = 64 * t + j)) := by
  rw [bt_set hm]
  by_cases e : t = m / 64
  · rw [if_pos e, tb_or (hA _) (U_bitw m), tb_bitw, e]
    unfold bt
    congr 1
    rw [decide_eq_decide]
    omega
  · rw [if_neg e]
    have : decide (m = 64 * t + j) = false := decide_eq_false (by omega)
    rw [this, Bool.or_false]
/-- 'A[q] |= x' -/
theorem bt_orw {A : List Int} (hA : AllU A) {q : Nat} (hq : q < A.length) {x : Int} (hx : U x) {t j : Nat} :
    bt (A.set q (bits .or .u64 (A.getD q 0) x)) t j = (bt A t j || (decide (t = q) && tb x j)) := by
  rw [bt_set hq]
  by_cases e : t = q
  · rw [if_pos e, tb_or (hA _) hx, e]
    simp [bt]
  · rw [if_neg e]
    simp [e]
end Go.Proofs.Qxb6600623aMods
namespace Go.Proofs.Qxb6600623aMods

theorem mem_take_succ (L : List Int) (k : Nat) (hk : k < L.length) (x : Int) : x ∈ L.take (k + 1) ↔ x ∈ L.take k ∨ x = L.getD k 0 := by
  rw [List.take_succ_eq_append_getElem hk, List.mem_append, List.mem_singleton]
  simp [List.getD, hk]

/-- The first k places laid as a bitmap of n words. -/
def D1 (L : List Int) (k n : Nat) (A : List Int) : Prop :=
  A.length = n ∧ AllU A ∧ ∀ t j, t < n → j < 64 → bt A t j = decide (((64 * t + j : Nat) : Int) ∈ L.take k)

theorem D1_start (L : List Int) (n : Nat) : D1 L 0 n (List.replicate n 0) := by
  refine ⟨by simp, AllU_replicate n, fun t j ht hj => ?_⟩
  rw [bt_replicate]
  simp

theorem D1_skip {L : List Int} {k n : Nat} {A : List Int} (hk : k < L.length) (hx : L.getD k 0 < 0 ∨ (n : Int) ≤ L.getD k 0 / 64) (h : D1 L k n A) : D1 L (k + 1) n A := by
  obtain ⟨h1, h2, h3⟩ := h
  refine ⟨h1, h2, fun t j ht hj => ?_⟩
  rw [h3 t j ht hj, decide_eq_decide, mem_take_succ L k hk]
  constructor
  · intro h; exact .inl h
  · intro h
    rcases h with h | h
    · exact h
    · omega

theorem D1_set {L : List Int} {k n m : Nat} {A : List Int} (hk : k < L.length) (hx : L.getD k 0 = (m : Int)) (hm : m / 64 < n) (h : D1 L k n A) :
    D1 L (k + 1) n (A.set (m / 64) (bits .or .u64 (A.getD (m / 64) 0) (bitw m))) := by
  obtain ⟨h1, h2, h3⟩ := h
  refine ⟨by simpa using h1, h2.set _ (U_or _ _), fun t j ht hj => ?_⟩
  rw [bt_orbit h2 (by omega) hj, h3 t j ht hj, Bool.eq_iff_iff]
  simp only [Bool.or_eq_true, decide_eq_true_eq]
  rw [mem_take_succ L k hk, hx]
  have e : (((64 * t + j : Nat) : Int) = (m : Int)) ↔ m = 64 * t + j := by omega
  rw [e]

/-- All places and the first k words, as a bitmap of n words. -/
def D2 (L W : List Int) (k n : Nat) (A : List Int) : Prop :=
  A.length = n ∧ AllU A ∧ ∀ t j, t < n → j < 64 → bt A t j = (decide (((64 * t + j : Nat) : Int) ∈ L) || (decide (t < k) && bt W t j))

theorem D2_start {L W : List Int} {n : Nat} {A : List Int} (h : D1 L L.length n A) : D2 L W 0 n A := by
  obtain ⟨h1, h2, h3⟩ := h
  refine ⟨h1, h2, fun t j ht hj => ?_⟩
  rw [h3 t j ht hj]
  simp

theorem D2_step {L W : List Int} {k n : Nat} {A : List Int} (hk : k < n) (hW : AllU W) (h : D2 L W k n A) : D2 L W (k + 1) n (A.set k (bits .or .u64 (A.getD k 0) (W.getD k 0))) := by
  obtain ⟨h1, h2, h3⟩ := h
  refine ⟨by simpa using h1, h2.set _ (U_or _ _), fun t j ht hj => ?_⟩
  rw [bt_orw h2 (by omega) (hW _), h3 t j ht hj]
  by_cases e : t = k
  · subst e; simp [bt]
  · have : decide (t < k + 1) = decide (t < k) := by rw [decide_eq_decide]; omega
    rw [this]
    simp [e]

/-- The set of places L and words W as a bitmap of n words. -/
def Dense (L W : List Int) (n : Nat) (A : List Int) : Prop :=
  A.length = n ∧ AllU A ∧ ∀ t j, t < n → j < 64 → bt A t j = (decide (((64 * t + j : Nat) : Int) ∈ L) || bt W t j)

theorem bt_past (W : List Int) (t j : Nat) (h : W.length ≤ t) : bt W t j = false := by
  unfold bt
  rw [show W.getD t 0 = 0 by simp [List.getD, h]]
  exact tb_zero j

theorem D2_end {L W : List Int} {k n : Nat} {A : List Int} (hk : W.length ≤ k ∨ n ≤ k) (h : D2 L W k n A) : Dense L W n A := by
  obtain ⟨h1, h2, h3⟩ := h
  refine ⟨h1, h2, fun t j ht hj => ?_⟩
  rw [h3 t j ht hj]
  by_cases e : t < k
  · simp [e]
  · rw [bt_past W t j (by omega)]
    simp
end Go.Proofs.Qxb6600623aMods
