import Derived.Test.Qxb6600973aModsLog
set_option linter.unusedVariables false
set_option linter.unusedSimpArgs false
namespace Go.Proofs.Qxb6600973aMods

/-- The sum of the first k sizes. -/
def S (zs : List Int) : Nat → Int
  | 0 => 0
  | k + 1 => S zs k + zs.getD k 0
/-- The greatest of the first k sizes (0 if none). -/
def M (zs : List Int) : Nat → Int
  | 0 => 0
  | k + 1 => if M zs k < zs.getD k 0 then zs.getD k 0 else M zs k
/-- Each of the first k sizes is not negative. -/
def Pos (zs : List Int) (k : Nat) : Prop := ∀ j, j < k → 0 ≤ zs.getD j 0

theorem S_mono {zs : List Int} {n : Nat} (h : Pos zs n) : ∀ k i, i ≤ k → k ≤ n → S zs i ≤ S zs k := by
  intro k
  induction k with
  | zero => intro i hi _; have : i = 0 := by omega
            subst this; exact Int.le_refl _
  | succ k ih =>
    intro i hi hk
    have h1 := h k (by omega)
    rcases Nat.lt_or_ge i (k + 1) with h2 | h2
    · have := ih i (by omega) (by omega)
      show S zs i ≤ S zs k + zs.getD k 0
      omega
    · have : i = k + 1 := by omega
      subst this; exact Int.le_refl _
theorem S_nonneg {zs : List Int} {n : Nat} (h : Pos zs n) (k : Nat) (hk : k ≤ n) : 0 ≤ S zs k := S_mono h k 0 (Nat.zero_le _) hk
theorem M_bounds {zs : List Int} {n : Nat} (h : Pos zs n) : ∀ k, k ≤ n → 0 ≤ M zs k ∧ M zs k ≤ S zs k := by
  intro k
  induction k with
  | zero => intro _; exact ⟨Int.le_refl _, Int.le_refl _⟩
  | succ k ih =>
    intro hk
    have h0 := ih (by omega)
    have h1 := h k (by omega)
    have h2 := S_nonneg h k (by omega)
    show 0 ≤ (if M zs k < zs.getD k 0 then zs.getD k 0 else M zs k) ∧ (if M zs k < zs.getD k 0 then zs.getD k 0 else M zs k) ≤ S zs k + zs.getD k 0
    split <;> omega

/-- p is where what was queued behind the last greatest frame begins. -/
structure At (zs : List Int) (k p : Nat) : Prop where
  le : p ≤ k
  low : ∀ j, p ≤ j → j < k → zs.getD j 0 < M zs k
  hit : 0 < p → zs.getD (p - 1) 0 = M zs k
  none : p = 0 → k = 0

theorem lon_at {zs : List Int} {k p : Nat} (h : Pos zs k) (hp : At zs k p) : lon (S zs k) (M zs k) (S zs k - S zs p) = M zs k := by
  have hb := M_bounds h k (Nat.le_refl _)
  have hsp : M zs k ≤ S zs p := by
    rcases Nat.eq_zero_or_pos p with h0 | h0
    · have := hp.none h0
      subst this
      subst h0
      exact Int.le_refl _
    · have h1 := hp.hit h0
      have h2 : S zs p = S zs (p - 1) + zs.getD (p - 1) 0 := by
        obtain ⟨r, rfl⟩ : ∃ r, p = r + 1 := ⟨p - 1, by omega⟩
        rfl
      have h3 := S_nonneg h (p - 1) (by have := hp.le; omega)
      omega
  rcases lon_cases (S zs k) (M zs k) (S zs k - S zs p) with h1 | h1 | h1 <;> omega

theorem at_step {zs : List Int} {k p : Nat} (h : Pos zs (k + 1)) (hp : At zs k p) :
    ∃ p', At zs (k + 1) p' ∧ addL (S zs k) (M zs k) (S zs k - S zs p) (zs.getD k 0) = M zs (k + 1) ∧ addA (S zs k) (M zs k) (S zs k - S zs p) (zs.getD k 0) = S zs (k + 1) - S zs p' := by
  have hl := lon_at (fun j hj => h j (by omega)) hp
  have e : lon (S zs k + zs.getD k 0) (M zs k) (S zs k - S zs p + zs.getD k 0) = M zs k := by
    have e0 : lon (S zs k + zs.getD k 0) (M zs k) (S zs k - S zs p + zs.getD k 0) = lon (S zs k) (M zs k) (S zs k - S zs p) := by
      unfold lon
      rw [show S zs k + zs.getD k 0 - (S zs k - S zs p + zs.getD k 0) = S zs k - (S zs k - S zs p) by omega]
    rw [e0]; exact hl
  have hMs : M zs (k + 1) = if M zs k < zs.getD k 0 then zs.getD k 0 else M zs k := rfl
  have hSs : S zs (k + 1) = S zs k + zs.getD k 0 := rfl
  unfold addL addA
  rw [e]
  by_cases hc : M zs k ≤ zs.getD k 0
  · refine ⟨k + 1, ⟨Nat.le_refl _, fun j h1 h2 => by omega, fun _ => ?_, fun h => by omega⟩, ?_, ?_⟩
    · rw [hMs]
      show zs.getD k 0 = _
      split <;> omega
    · rw [if_pos hc, hMs]; split <;> omega
    · rw [if_pos hc]; omega
  · have hM1 : M zs (k + 1) = M zs k := by rw [hMs, if_neg (by omega)]
    refine ⟨p, ⟨by have := hp.le; omega, fun j h1 h2 => ?_, fun h0 => by rw [hM1]; exact hp.hit h0, fun h0 => ?_⟩, ?_, ?_⟩
    · rw [hM1]
      rcases Nat.lt_or_ge j k with h3 | h3
      · exact hp.low j h1 h3
      · have : j = k := by omega
        subst this; omega
    · have := hp.none h0
      subst this
      have h1 := h 0 (by omega)
      have h2 : M zs 0 = 0 := rfl
      omega
    · rw [if_neg hc, hM1]
    · rw [if_neg hc]; omega

/-- Where the law's own search stops. -/
structure Last (zs : List Int) (n : Nat) (big : Int) (q : Nat) : Prop where
  le : q ≤ n
  no : ∀ j, q ≤ j → j < n → zs.getD j 0 ≠ big
  hit : 0 < q → zs.getD (q - 1) 0 = big

theorem last_at {zs : List Int} {n p q : Nat} (hp : At zs n p) (hq : Last zs n (M zs n) q) : p = q := by
  rcases Nat.lt_trichotomy p q with h | h | h
  · have h1 := hp.low (q - 1) (by omega) (by have := hq.le; omega)
    have h2 := hq.hit (by omega)
    omega
  · exact h
  · have h1 := hp.hit (by omega)
    exact absurd h1 (hq.no (p - 1) (by omega) (by have := hp.le; omega))

end Go.Proofs.Qxb6600973aMods
