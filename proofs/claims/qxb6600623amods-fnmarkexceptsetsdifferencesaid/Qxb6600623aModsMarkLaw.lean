import Derived.Test.Qxb6600623aModsBits
set_option linter.unusedVariables false
set_option linter.unusedSimpArgs false
namespace Go.Proofs.Qxb6600623aMods

theorem nonDec_le {zs : List Int} (h : ∀ j, j + 1 < zs.length → zs.getD j 0 ≤ zs.getD (j + 1) 0) {i j : Nat} (hij : i ≤ j) (hj : j < zs.length) : zs.getD i 0 ≤ zs.getD j 0 := by
  induction j with
  | zero => 
    have : i = 0 := by omega
    subst this; exact Int.le_refl _
  | succ j ih =>
    rcases Nat.lt_or_ge i (j + 1) with h1 | h1
    · exact Int.le_trans (ih (by omega) (by omega)) (h j hj)
    · have : i = j + 1 := by omega
      subst this; exact Int.le_refl _

/-- Is the place x one of q's? -/
def inq (ql qb : List Int) (qn : Bool) (x : Nat) : Bool := decide ((x : Int) ∈ ql) || (!qn && bt qb (x / 64) (x % 64))

/-- The bitmap behind the first k places of p's list. -/
def M1 (A0 pl ql qb : List Int) (qn : Bool) (k n : Nat) (A : List Int) : Prop :=
  A.length = n ∧ AllU A ∧ ∀ t j, t < n → j < 64 → bt A t j = (bt A0 t j || (decide (((64 * t + j : Nat) : Int) ∈ pl.take k) && !inq ql qb qn (64 * t + j)))

theorem M1_start {A0 : List Int} (pl ql qb : List Int) (qn : Bool) {n : Nat} (h : A0.length = n) (hu : AllU A0) : M1 A0 pl ql qb qn 0 n A0 := by
  refine ⟨h, hu, fun t j _ _ => ?_⟩
  simp

theorem M1_skip {A0 pl ql qb : List Int} {qn : Bool} {k n m : Nat} {A : List Int} (hk : k < pl.length) (hx : pl.getD k 0 = (m : Int)) (hq : inq ql qb qn m = true) (h : M1 A0 pl ql qb qn k n A) : M1 A0 pl ql qb qn (k + 1) n A := by
  obtain ⟨h1, h2, h3⟩ := h
  refine ⟨h1, h2, fun t j ht hj => ?_⟩
  rw [h3 t j ht hj, Bool.eq_iff_iff]
  simp only [Bool.or_eq_true, Bool.and_eq_true, decide_eq_true_eq]
  rw [mem_take_succ pl k hk, hx]
  constructor
  · rintro (h | ⟨h, h'⟩)
    · exact .inl h
    · exact .inr ⟨.inl h, h'⟩
  · rintro (h | ⟨h | h, h'⟩)
    · exact .inl h
    · exact .inr ⟨h, h'⟩
    · have e : 64 * t + j = m := by omega
      rw [e, hq] at h'
      simp at h'

theorem M1_set {A0 pl ql qb : List Int} {qn : Bool} {k n m : Nat} {A : List Int} (hk : k < pl.length) (hx : pl.getD k 0 = (m : Int)) (hm : m / 64 < n) (hq : inq ql qb qn m = false) (h : M1 A0 pl ql qb qn k n A) :
    M1 A0 pl ql qb qn (k + 1) n (A.set (m / 64) (bits .or .u64 (A.getD (m / 64) 0) (bitw m))) := by
  obtain ⟨h1, h2, h3⟩ := h
  refine ⟨by simpa using h1, h2.set _ (U_or _ _), fun t j ht hj => ?_⟩
  rw [bt_orbit h2 (by omega) hj, h3 t j ht hj, Bool.eq_iff_iff]
  simp only [Bool.or_eq_true, Bool.and_eq_true, decide_eq_true_eq]
  rw [mem_take_succ pl k hk, hx]
  have e : (((64 * t + j : Nat) : Int) = (m : Int)) ↔ m = 64 * t + j := by omega
  rw [e]
  constructor
  · rintro ((h | ⟨h, h'⟩) | h)
    · exact .inl h
    · exact .inr ⟨.inl h, h'⟩
    · exact .inr ⟨.inr h, by rw [← h, hq]; rfl⟩
  · rintro (h | ⟨h | h, h'⟩)
    · exact .inl (.inl h)
    · exact .inl (.inr ⟨h, h'⟩)
    · exact .inr h

/-- Where the left part of q's list stands: x is q's by the list exactly if it is the next. -/
theorem mem_left {ql : List Int} (hs : ∀ j, j + 1 < ql.length → ql.getD j 0 ≤ ql.getD (j + 1) 0) {d : Nat} {x : Int} (hlow : ∀ i, i < d → ql.getD i 0 < x) (hd : d < ql.length → x ≤ ql.getD d 0) :
    x ∈ ql ↔ d < ql.length ∧ ql.getD d 0 = x := by
  constructor
  · intro h
    obtain ⟨i, hi, e⟩ := List.mem_iff_getElem.1 h
    have e' : ql.getD i 0 = x := by simp [List.getD, hi, e]
    have h1 : d ≤ i := by
      rcases Nat.lt_or_ge i d with h' | h'
      · have := hlow i h'; omega
      · exact h'
    have h2 : d < ql.length := by omega
    have h3 := nonDec_le hs h1 hi
    have h4 := hd h2
    exact ⟨h2, by omega⟩
  · rintro ⟨h1, h2⟩
    rw [← h2]
    simp [List.getD, h1]

/-- The bitmap behind p's list and the first k words of p's bitmap. -/
def M3 (A0 pl pb ql qb : List Int) (qn : Bool) (k n : Nat) (A : List Int) : Prop :=
  A.length = n ∧ AllU A ∧ ∀ t j, t < n → j < 64 → bt A t j = (bt A0 t j || ((decide (((64 * t + j : Nat) : Int) ∈ pl) || (decide (t < k) && bt pb t j)) && !inq ql qb qn (64 * t + j)))

theorem M3_start {A0 pl pb ql qb : List Int} {qn : Bool} {n : Nat} {A : List Int} (h : M1 A0 pl ql qb qn pl.length n A) : M3 A0 pl pb ql qb qn 0 n A := by
  obtain ⟨h1, h2, h3⟩ := h
  refine ⟨h1, h2, fun t j ht hj => ?_⟩
  rw [h3 t j ht hj]
  simp

/-- Word k of p's bitmap less q's bitmap and the first d places of q's list. -/
def W4 (pb ql qb : List Int) (qn : Bool) (k d : Nat) (x : Int) : Prop :=
  U x ∧ ∀ j, j < 64 → tb x j = (bt pb k j && !(!qn && bt qb k j) && !decide (((64 * k + j : Nat) : Int) ∈ ql.take d))

theorem not_mem_low {ql : List Int} {k d : Nat} (hlow : ∀ i, i < d → i < ql.length → ql.getD i 0 < 64 * k) (j : Nat) : decide (((64 * k + j : Nat) : Int) ∈ ql.take d) = false := by
  refine decide_eq_false fun h => ?_
  obtain ⟨i, hi, e⟩ := List.mem_iff_getElem.1 h
  rw [List.length_take] at hi
  have hi1 : i < d := by omega
  have hi2 : i < ql.length := by omega
  have h1 := hlow i hi1 hi2
  simp only [List.getD, List.getElem?_eq_getElem hi2, Option.getD_some] at h1
  rw [List.getElem_take] at e
  omega

theorem W4_start_nil {pb ql qb : List Int} {k d : Nat} (hp : AllU pb) (hlow : ∀ i, i < d → i < ql.length → ql.getD i 0 < 64 * k) : W4 pb ql qb true k d (pb.getD k 0) := by
  refine ⟨hp k, fun j hj => ?_⟩
  rw [not_mem_low hlow]
  simp [bt]

theorem W4_start {pb ql qb : List Int} {k d : Nat} (hp : AllU pb) (hq : AllU qb) (hlow : ∀ i, i < d → i < ql.length → ql.getD i 0 < 64 * k) : W4 pb ql qb false k d (bits .andNot .u64 (pb.getD k 0) (qb.getD k 0)) := by
  refine ⟨U_andNot _ _, fun j hj => ?_⟩
  rw [not_mem_low hlow, tb_andNot (hp k) (hq k) hj]
  simp [bt]

theorem W4_step {pb ql qb : List Int} {qn : Bool} {k d m : Nat} {x : Int} (hd : d < ql.length) (hm : ql.getD d 0 = (m : Int)) (h1 : 64 * k ≤ m) (h2 : m < 64 * (k + 1)) (h : W4 pb ql qb qn k d x) :
    W4 pb ql qb qn k (d + 1) (bits .andNot .u64 x (bitw m)) := by
  refine ⟨U_andNot _ _, fun j hj => ?_⟩
  rw [tb_andNot h.1 (U_bitw m) hj, h.2 j hj, tb_bitw, Bool.and_assoc]
  congr 1
  rw [Bool.eq_iff_iff]
  simp only [Bool.and_eq_true, Bool.not_eq_true', decide_eq_false_iff_not]
  rw [mem_take_succ ql d hd, hm]
  have e : (((64 * k + j : Nat) : Int) = (m : Int)) ↔ m % 64 = j := by omega
  rw [e, not_or]

theorem W4_end {pb ql qb : List Int} {qn : Bool} {k d : Nat} {x : Int} (hs : ∀ j, j + 1 < ql.length → ql.getD j 0 ≤ ql.getD (j + 1) 0) (hd : d < ql.length → 64 * ((k : Int) + 1) ≤ ql.getD d 0) (h : W4 pb ql qb qn k d x) :
    ∀ j, j < 64 → tb x j = (bt pb k j && !inq ql qb qn (64 * k + j)) := by
  intro j hj
  rw [h.2 j hj]
  have e1 : (64 * k + j) / 64 = k := by omega
  have e2 : (64 * k + j) % 64 = j := by omega
  unfold inq
  rw [e1, e2]
  have e : (((64 * k + j : Nat) : Int) ∈ ql.take d) ↔ (((64 * k + j : Nat) : Int) ∈ ql) := by
    constructor
    · exact List.mem_of_mem_take
    · intro h
      obtain ⟨i, hi, e⟩ := List.mem_iff_getElem.1 h
      have e' : ql.getD i 0 = ((64 * k + j : Nat) : Int) := by simp [List.getD, hi, e]
      have hid : i < d := by
        rcases Nat.lt_or_ge i d with h' | h'
        · exact h'
        · have h3 := nonDec_le hs h' hi
          have h4 := hd (by omega)
          omega
      rw [← e]
      exact List.mem_iff_getElem.2 ⟨i, by simp; omega, by simp⟩
  rw [decide_eq_decide.2 e]
  simp only [Bool.not_or, Bool.and_assoc]
  congr 1
  rw [Bool.and_comm]

theorem M3_step {A0 pl pb ql qb : List Int} {qn : Bool} {k n : Nat} {A : List Int} {x : Int} (hk : k < n) (hx : U x) (hw : ∀ j, j < 64 → tb x j = (bt pb k j && !inq ql qb qn (64 * k + j)))
    (h : M3 A0 pl pb ql qb qn k n A) : M3 A0 pl pb ql qb qn (k + 1) n (A.set k (bits .or .u64 (A.getD k 0) x)) := by
  obtain ⟨h1, h2, h3⟩ := h
  refine ⟨by simpa using h1, h2.set _ (U_or _ _), fun t j ht hj => ?_⟩
  rw [bt_orw h2 (by omega) hx, h3 t j ht hj]
  by_cases e : t = k
  · subst e
    rw [hw j hj]
    cases bt A0 t j <;> cases decide (((64 * t + j : Nat) : Int) ∈ pl) <;> cases bt pb t j <;> cases inq ql qb qn (64 * t + j) <;> simp
  · have : decide (t < k + 1) = decide (t < k) := by rw [decide_eq_decide]; omega
    rw [this]
    simp [e]

/-- The law: what the bitmap holds in the end is what was wanted. -/
theorem M3_law {A0 pl pb ql qb : List Int} {qn : Bool} {n : Nat} {A P Q : List Int} (hpb : pb.length ≤ n) (hqn : qn = true → qb = []) (h : M3 A0 pl pb ql qb qn pb.length n A) (hP : Dense pl pb n P) (hQ : Dense ql qb n Q) (hA0 : AllU A0) :
    ∀ t, t < n → A.getD t 0 = bits .or .u64 (A0.getD t 0) (bits .andNot .u64 (P.getD t 0) (Q.getD t 0)) := by
  intro t ht
  obtain ⟨h1, h2, h3⟩ := h
  obtain ⟨p1, p2, p3⟩ := hP
  obtain ⟨q1, q2, q3⟩ := hQ
  refine eq_of_tb (h2 t) (U_or _ _) fun j hj => ?_
  rw [tb_or (hA0 t) (U_andNot _ _), tb_andNot (p2 t) (q2 t) hj]
  have a := h3 t j ht hj
  have b := p3 t j ht hj
  have c := q3 t j ht hj
  unfold bt at a b c
  rw [a, b, c]
  congr 1
  have e1 : (decide (t < pb.length) && bt pb t j) = bt pb t j := by
    by_cases e : t < pb.length
    · simp [e]
    · rw [bt_past pb t j (by omega)]; simp
  have e2 : inq ql qb qn (64 * t + j) = (decide (((64 * t + j : Nat) : Int) ∈ ql) || bt qb t j) := by
    unfold inq
    have e1 : (64 * t + j) / 64 = t := by omega
    have e2 : (64 * t + j) % 64 = j := by omega
    rw [e1, e2]
    cases hq : qn
    · simp
    · rw [hqn hq, bt_past [] t j (by simp)]
      simp
  unfold bt at e1
  rw [e1, e2]
  rfl
end Go.Proofs.Qxb6600623aMods
