import Derived.Test.Qxb6601679aModsPairs
set_option linter.unusedVariables false
set_option linter.unusedSimpArgs false
namespace Go.Proofs.Qxb6601679aMods

/-- The source and the target of pair i. -/
abbrev src (zs : List Int) (i : Nat) : Int := zs.getD (i * 2) 0
abbrev dst (zs : List Int) (i : Nat) : Int := zs.getD (i * 2 + 1) 0
/-- How many of the first t pairs start at v. -/
def C (zs : List Int) (v : Int) : Nat → Nat
  | 0 => 0
  | t + 1 => C zs v t + if src zs t = v then 1 else 0
/-- How many of the first t pairs start below v. -/
def G (zs : List Int) (v : Int) : Nat → Nat
  | 0 => 0
  | t + 1 => G zs v t + if src zs t < v then 1 else 0

theorem C_le (zs : List Int) (v : Int) (t : Nat) : C zs v t ≤ t := by
  induction t with
  | zero => exact Nat.le_refl _
  | succ t ih => show C zs v t + (if src zs t = v then 1 else 0) ≤ _; split <;> omega
theorem G_le (zs : List Int) (v : Int) (t : Nat) : G zs v t ≤ t := by
  induction t with
  | zero => exact Nat.le_refl _
  | succ t ih => show G zs v t + (if src zs t < v then 1 else 0) ≤ _; split <;> omega
theorem G_succ (zs : List Int) (v : Int) (t : Nat) : G zs (v + 1) t = G zs v t + C zs v t := by
  induction t with
  | zero => rfl
  | succ t ih =>
    show G zs (v + 1) t + (if src zs t < v + 1 then 1 else 0) = G zs v t + (if src zs t < v then 1 else 0) + (C zs v t + if src zs t = v then 1 else 0)
    rw [ih]
    rcases Int.lt_trichotomy (src zs t) v with h | h | h
    · rw [if_pos (by omega), if_pos h, if_neg (by omega)]; omega
    · rw [if_pos (by omega), if_neg (by omega), if_pos h]; omega
    · rw [if_neg (by omega), if_neg (by omega), if_neg (by omega)]; omega
theorem G_mono (zs : List Int) {v u : Int} (h : v ≤ u) (t : Nat) : G zs v t ≤ G zs u t := by
  induction t with
  | zero => exact Nat.le_refl _
  | succ t ih =>
    show G zs v t + (if src zs t < v then 1 else 0) ≤ G zs u t + (if src zs t < u then 1 else 0)
    split <;> split <;> omega
theorem G_zero {zs : List Int} {n : Int} {t : Nat} (h : SrcIn n zs t) : G zs 0 t = 0 := by
  induction t with
  | zero => rfl
  | succ t ih =>
    show G zs 0 t + (if src zs t < 0 then 1 else 0) = 0
    have := h t (by omega)
    rw [ih (fun i hi => h i (by omega)), if_neg (by show ¬ zs.getD (t * 2) 0 < 0; omega)]
theorem C_mono (zs : List Int) (v : Int) {s t : Nat} (h : s ≤ t) : C zs v s ≤ C zs v t := by
  induction t with
  | zero => have : s = 0 := by omega
            subst this; exact Nat.le_refl _
  | succ t ih =>
    rcases Nat.lt_or_ge s (t + 1) with h1 | h1
    · have := ih (by omega)
      show _ ≤ C zs v t + _
      omega
    · have : s = t + 1 := by omega
      subst this; exact Nat.le_refl _
theorem C_succ_hit {zs : List Int} {v : Int} {t : Nat} (h : src zs t = v) : C zs v (t + 1) = C zs v t + 1 := by
  show C zs v t + (if src zs t = v then 1 else 0) = _
  rw [if_pos h]
theorem C_succ_miss {zs : List Int} {v : Int} {t : Nat} (h : src zs t ≠ v) : C zs v (t + 1) = C zs v t := by
  show C zs v t + (if src zs t = v then 1 else 0) = _
  rw [if_neg h]; rfl
theorem C_lt {zs : List Int} {v : Int} {i t : Nat} (hi : i < t) (h : src zs i = v) : C zs v i < C zs v t := by
  have h1 := C_mono zs v (show i + 1 ≤ t by omega)
  rw [C_succ_hit h] at h1
  omega
theorem C_find {zs : List Int} {v : Int} : ∀ {t x : Nat}, x < C zs v t → ∃ i, i < t ∧ src zs i = v ∧ C zs v i = x := by
  intro t
  induction t with
  | zero => intro x h; exact absurd h (Nat.not_lt_zero _)
  | succ t ih =>
    intro x h
    by_cases hs : src zs t = v
    · rw [C_succ_hit hs] at h
      rcases Nat.lt_or_ge x (C zs v t) with h1 | h1
      · obtain ⟨i, h2, h3, h4⟩ := ih h1
        exact ⟨i, by omega, h3, h4⟩
      · exact ⟨t, by omega, hs, by omega⟩
    · rw [C_succ_miss hs] at h
      obtain ⟨i, h2, h3, h4⟩ := ih h
      exact ⟨i, by omega, h3, h4⟩

/-- Where pair i goes. -/
def pos (zs : List Int) (m i : Nat) : Nat := G zs (src zs i) m + C zs (src zs i) i
theorem pos_lt_next {zs : List Int} {m i : Nat} (h : i < m) : pos zs m i < G zs (src zs i + 1) m := by
  rw [G_succ]
  unfold pos
  have := C_lt (zs := zs) (v := src zs i) h rfl
  omega
theorem pos_lt {zs : List Int} {m i : Nat} (h : i < m) : pos zs m i < m := Nat.lt_of_lt_of_le (pos_lt_next h) (G_le _ _ _)
theorem pos_ge (zs : List Int) (m i : Nat) : G zs (src zs i) m ≤ pos zs m i := Nat.le_add_right _ _

/-- The order of the stable sort. -/
def Lt (zs : List Int) (i j : Nat) : Prop := src zs i < src zs j ∨ (src zs i = src zs j ∧ i < j)
theorem Lt.trans {zs : List Int} {i j k : Nat} (h : Lt zs i j) (g : Lt zs j k) : Lt zs i k := by
  unfold Lt at *
  rcases h with h | ⟨h, h'⟩ <;> rcases g with g | ⟨g, g'⟩
  · exact .inl (by omega)
  · exact .inl (by omega)
  · exact .inl (by omega)
  · exact .inr ⟨by omega, by omega⟩
theorem Lt.irrefl {zs : List Int} {i : Nat} (h : Lt zs i i) : False := by
  rcases h with h | ⟨_, h⟩ <;> omega
theorem Lt.tri (zs : List Int) {i j : Nat} (h : i ≠ j) : Lt zs i j ∨ Lt zs j i := by
  unfold Lt
  rcases Int.lt_trichotomy (src zs i) (src zs j) with h1 | h1 | h1
  · exact .inl (.inl h1)
  · rcases Nat.lt_or_ge i j with h2 | h2
    · exact .inl (.inr ⟨h1, h2⟩)
    · exact .inr (.inr ⟨h1.symm, by omega⟩)
  · exact .inr (.inl h1)
theorem pos_mono {zs : List Int} {m i j : Nat} (hi : i < m) (hj : j < m) (h : Lt zs i j) : pos zs m i < pos zs m j := by
  rcases h with h | ⟨h, h'⟩
  · have h1 := pos_lt_next (zs := zs) hi
    have h2 := G_mono zs (show src zs i + 1 ≤ src zs j by omega) m
    have h3 := pos_ge zs m j
    omega
  · unfold pos
    rw [h]
    have := C_lt (zs := zs) (v := src zs j) h' h
    omega
theorem pos_inj {zs : List Int} {m i j : Nat} (hi : i < m) (hj : j < m) (h : i ≠ j) : pos zs m i ≠ pos zs m j := by
  rcases Lt.tri zs h with h1 | h1
  · have := pos_mono hi hj h1; omega
  · have := pos_mono hj hi h1; omega

/-- What newGraph's two rows hold. -/
structure IsGraph (zs : List Int) (n m : Nat) (fs ns : List Int) : Prop where
  flen : fs.length = n + 1
  nlen : ns.length = m
  first : ∀ v, v ≤ n → fs.getD v 0 = (G zs v m : Int)
  next : ∀ i, i < m → ns.getD (pos zs m i) 0 = dst zs i

end Go.Proofs.Qxb6601679aMods
