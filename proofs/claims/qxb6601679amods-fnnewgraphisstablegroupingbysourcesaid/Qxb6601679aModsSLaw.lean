import Derived.Test.Qxb6601679aModsGLaw
set_option linter.unusedVariables false
set_option linter.unusedSimpArgs false
namespace Go.Proofs.Qxb6601679aMods

/-- Place x of A holds pair P x of zs. -/
def Holds (zs A : List Int) (P : Nat → Nat) (x : Nat) : Prop := A.getD (x * 2) 0 = src zs (P x) ∧ A.getD (x * 2 + 1) 0 = dst zs (P x)
/-- The places lo to hi hold the pairs lo to hi, in order. -/
structure Run (zs A : List Int) (P : Nat → Nat) (lo hi : Nat) : Prop where
  rng : ∀ x, lo ≤ x → x < hi → lo ≤ P x ∧ P x < hi
  inc : ∀ x y, lo ≤ x → x < y → y < hi → Lt zs (P x) (P y)
  has : ∀ x, lo ≤ x → x < hi → Holds zs A P x

/-- A run of one is there from the start. -/
theorem run_one (zs : List Int) (x : Nat) : Run zs zs id x (x + 1) :=
  ⟨fun y h1 h2 => ⟨h1, h2⟩, fun y z h1 h2 h3 => by omega, fun y h1 h2 => ⟨rfl, rfl⟩⟩

/-- The merge under way: i, j the next of each half, k the next place. -/
structure Merge (zs A B : List Int) (P R : Nat → Nat) (lo mid hi i j k : Nat) : Prop where
  li : lo ≤ i
  im : i ≤ mid
  mj : mid ≤ j
  jh : j ≤ hi
  kk : k + mid = i + j
  rng : ∀ x, lo ≤ x → x < k → lo ≤ R x ∧ R x < hi
  inc : ∀ x y, lo ≤ x → x < y → y < k → Lt zs (R x) (R y)
  has : ∀ x, lo ≤ x → x < k → Holds zs B R x
  belI : ∀ x y, lo ≤ x → x < k → i ≤ y → y < mid → Lt zs (R x) (P y)
  belJ : ∀ x y, lo ≤ x → x < k → j ≤ y → y < hi → Lt zs (R x) (P y)

theorem merge_start (zs A B : List Int) (P R : Nat → Nat) (lo mid hi : Nat) (h1 : lo ≤ mid) (h2 : mid ≤ hi) : Merge zs A B P R lo mid hi lo mid lo :=
  ⟨Nat.le_refl _, h1, Nat.le_refl _, h2, by omega, fun x a b => by omega, fun x y a b c => by omega, fun x a b => by omega, fun x y a b c d => by omega, fun x y a b c d => by omega⟩

def upd (R : Nat → Nat) (k v : Nat) : Nat → Nat := fun x => if x = k then v else R x
theorem upd_same (R : Nat → Nat) (k v : Nat) : upd R k v k = v := if_pos rfl
theorem upd_other (R : Nat → Nat) {k x : Nat} (v : Nat) (h : x ≠ k) : upd R k v x = R x := if_neg h

/-- What the store of a pair at place k leaves. -/
def put2 (B : List Int) (k : Nat) (a b : Int) : List Int := (B.set (k * 2) a).set (k * 2 + 1) b
theorem put2_len (B : List Int) (k : Nat) (a b : Int) : (put2 B k a b).length = B.length := by simp [put2]
theorem put2_same {B : List Int} {k : Nat} (a b : Int) (h : k * 2 + 1 < B.length) : (put2 B k a b).getD (k * 2) 0 = a ∧ (put2 B k a b).getD (k * 2 + 1) 0 = b := by
  unfold put2
  constructor
  · simp [List.getD, List.getElem?_set, show k * 2 < B.length by omega]
  · simp [List.getD, List.getElem?_set, h]
theorem put2_other {B : List Int} {k x : Nat} (a b : Int) (h : x ≠ k) : (put2 B k a b).getD (x * 2) 0 = B.getD (x * 2) 0 ∧ (put2 B k a b).getD (x * 2 + 1) 0 = B.getD (x * 2 + 1) 0 := by
  unfold put2
  constructor
  · simp [List.getD, List.getElem?_set, show k * 2 + 1 ≠ x * 2 by omega, show k * 2 ≠ x * 2 by omega]
  · simp [List.getD, List.getElem?_set, show k * 2 ≠ x * 2 by omega, show k * 2 ≠ x * 2 + 1 by omega]

theorem holds_put {zs B : List Int} {R : Nat → Nat} {k v : Nat} (hk : k * 2 + 1 < B.length) (x : Nat) (h : x ≠ k → Holds zs B R x) : Holds zs (put2 B k (src zs v) (dst zs v)) (upd R k v) x := by
  by_cases hx : x = k
  · subst hx
    unfold Holds
    rw [upd_same]
    exact put2_same _ _ hk
  · obtain ⟨h1, h2⟩ := h hx
    obtain ⟨p1, p2⟩ := put2_other (B := B) (src zs v) (dst zs v) hx
    unfold Holds
    rw [upd_other R v hx, p1, p2]
    exact ⟨h1, h2⟩

/-- One more pair of the left half. -/
theorem merge_left {zs A B : List Int} {P R : Nat → Nat} {lo mid hi i j k : Nat} (hm : Merge zs A B P R lo mid hi i j k) (hl : Run zs A P lo mid) (hr : Run zs A P mid hi) (hB : hi * 2 ≤ B.length) (hi' : i < mid)
    (hle : j < hi → src zs (P i) ≤ src zs (P j)) : Merge zs A (put2 B k (src zs (P i)) (dst zs (P i))) P (upd R k (P i)) lo mid hi (i + 1) j (k + 1) := by
  have h1 := hm.li; have h2 := hm.im; have h3 := hm.mj; have h4 := hm.jh; have h5 := hm.kk
  have hPi := hl.rng i hm.li hi'
  have hnew : ∀ x, lo ≤ x → x < k → upd R k (P i) x = R x := fun x a b => upd_other _ _ (by omega)
  refine ⟨by omega, by omega, h3, h4, by omega, fun x a b => ?_, fun x y a b c => ?_, fun x a b => ?_, fun x y a b c d => ?_, fun x y a b c d => ?_⟩
  · by_cases hx : x = k
    · subst hx; rw [upd_same]; omega
    · rw [upd_other _ _ hx]; exact hm.rng x a (by omega)
  · by_cases hy : y = k
    · subst hy
      rw [upd_same, hnew x a b]
      exact hm.belI x i a b (Nat.le_refl _) hi'
    · rw [upd_other _ _ hy, hnew x a (by omega)]
      exact hm.inc x y a b (by omega)
  · exact holds_put (by omega) x (fun hx => hm.has x a (by omega))
  · by_cases hx : x = k
    · subst hx
      rw [upd_same]
      exact hl.inc i y hm.li (by omega) d
    · rw [upd_other _ _ hx]
      exact hm.belI x y a (by omega) (by omega) d
  · by_cases hx : x = k
    · subst hx
      rw [upd_same]
      have hPy := hr.rng y (by omega) d
      have hle' := hle (by omega)
      have hsy : src zs (P j) ≤ src zs (P y) := by
        rcases Nat.lt_or_ge j y with g | g
        · rcases hr.inc j y (by omega) g d with q | ⟨q, _⟩ <;> omega
        · have : j = y := by omega
          subst this; exact Int.le_refl _
      rcases Int.lt_or_le (src zs (P i)) (src zs (P y)) with g | g
      · exact .inl g
      · exact .inr ⟨by omega, by omega⟩
    · rw [upd_other _ _ hx]
      exact hm.belJ x y a (by omega) c d

/-- One more of the right. -/
theorem merge_right {zs A B : List Int} {P R : Nat → Nat} {lo mid hi i j k : Nat} (hm : Merge zs A B P R lo mid hi i j k) (hl : Run zs A P lo mid) (hr : Run zs A P mid hi) (hB : hi * 2 ≤ B.length) (hj' : j < hi)
    (hlt : i < mid → src zs (P j) < src zs (P i)) : Merge zs A (put2 B k (src zs (P j)) (dst zs (P j))) P (upd R k (P j)) lo mid hi i (j + 1) (k + 1) := by
  have h1 := hm.li; have h2 := hm.im; have h3 := hm.mj; have h4 := hm.jh; have h5 := hm.kk
  have hPj := hr.rng j hm.mj hj'
  have hnew : ∀ x, lo ≤ x → x < k → upd R k (P j) x = R x := fun x a b => upd_other _ _ (by omega)
  refine ⟨h1, h2, by omega, by omega, by omega, fun x a b => ?_, fun x y a b c => ?_, fun x a b => ?_, fun x y a b c d => ?_, fun x y a b c d => ?_⟩
  · by_cases hx : x = k
    · subst hx; rw [upd_same]; omega
    · rw [upd_other _ _ hx]; exact hm.rng x a (by omega)
  · by_cases hy : y = k
    · subst hy
      rw [upd_same, hnew x a b]
      exact hm.belJ x j a b (Nat.le_refl _) hj'
    · rw [upd_other _ _ hy, hnew x a (by omega)]
      exact hm.inc x y a b (by omega)
  · exact holds_put (by omega) x (fun hx => hm.has x a (by omega))
  · by_cases hx : x = k
    · subst hx
      rw [upd_same]
      have hlt' := hlt (by omega)
      rcases Nat.lt_or_ge i y with g | g
      · rcases hl.inc i y hm.li g d with q | ⟨q, _⟩
        · exact .inl (by omega)
        · exact .inl (by omega)
      · have : i = y := by omega
        subst this; exact .inl hlt'
    · rw [upd_other _ _ hx]
      exact hm.belI x y a (by omega) c d
  · by_cases hx : x = k
    · subst hx
      rw [upd_same]
      exact hr.inc j y hm.mj (by omega) d
    · rw [upd_other _ _ hx]
      exact hm.belJ x y a (by omega) (by omega) d

theorem merge_end {zs A B : List Int} {P R : Nat → Nat} {lo mid hi k : Nat} (hm : Merge zs A B P R lo mid hi mid hi k) : Run zs B R lo hi := by
  have : k = hi := by have := hm.kk; omega
  subst this
  exact ⟨hm.rng, hm.inc, hm.has⟩

/-- Strictly rising from [0,m) into [0,m): each place is its own. -/
theorem rise_id {m : Nat} (f : Nat → Nat) (hlt : ∀ x, x < m → f x < m) (hup : ∀ x y, x < y → y < m → f x < f y) : ∀ x, x < m → f x = x := by
  have hge : ∀ x, x < m → x ≤ f x := by
    intro x
    induction x with
    | zero => intro _; exact Nat.zero_le _
    | succ x ih =>
      intro h
      have h1 := ih (by omega)
      have h2 := hup x (x + 1) (by omega) h
      omega
  have hle : ∀ d x, x + d + 1 = m → f x ≤ x := by
    intro d
    induction d with
    | zero => intro x h; have := hlt x (by omega); omega
    | succ d ih =>
      intro x h
      have h1 := ih (x + 1) (by omega)
      have h2 := hup x (x + 1) (by omega) (by omega)
      omega
  intro x hx
  have h1 := hge x hx
  have h2 := hle (m - x - 1) x (by omega)
  omega

/-- The whole row in one run: place x holds the pair that goes to x. -/
theorem run_pos {zs A : List Int} {P : Nat → Nat} {m : Nat} (h : Run zs A P 0 m) : ∀ x, x < m → pos zs m (P x) = x :=
  rise_id (fun x => pos zs m (P x)) (fun x hx => pos_lt (h.rng x (Nat.zero_le _) hx).2) (fun x y hxy hy => pos_mono (h.rng x (Nat.zero_le _) (by omega)).2 (h.rng y (Nat.zero_le _) hy).2 (h.inc x y (Nat.zero_le _) hxy hy))

/-- What the law asks of 'next'. -/
theorem sorted_next {zs A fs ns : List Int} {P : Nat → Nat} {n m : Nat} (h : Run zs A P 0 m) (g : IsGraph zs n m fs ns) (x : Nat) (hx : x < m) : ns.getD x 0 = A.getD (x * 2 + 1) 0 := by
  have h1 := g.next (P x) (h.rng x (Nat.zero_le _) hx).2
  rw [run_pos h x hx] at h1
  rw [h1, (h.has x (Nat.zero_le _) hx).2]
/-- What it asks of 'first'. -/
theorem sorted_first {zs A : List Int} {P : Nat → Nat} {m : Nat} (h : Run zs A P 0 m) (v : Int) (x : Nat) (hx : x < m) : A.getD (x * 2) 0 < v ↔ x < G zs v m := by
  rw [(h.has x (Nat.zero_le _) hx).1]
  have hp := run_pos h x hx
  have hr := (h.rng x (Nat.zero_le _) hx).2
  constructor
  · intro hs
    have h1 := pos_lt_next (zs := zs) hr
    have h2 := G_mono zs (show src zs (P x) + 1 ≤ v by omega) m
    omega
  · intro hs
    rcases Int.lt_or_le (src zs (P x)) v with g | g
    · exact g
    · have h1 := pos_ge zs m (P x)
      have h2 := G_mono zs g m
      omega

end Go.Proofs.Qxb6601679aMods
