import Derived.Test.Qxb6600623aModsAsc
import Derived.Test.Qxb6600623aModsCLen2
import Derived.Test.Qxb6600623aModsRead
set_option linter.unusedVariables false
set_option linter.unusedSimpArgs false
namespace Go.Proofs.Qxb6600623aMods
open Go.RowKit

/-- What one call adds. -/
def addC (c : Call) (t : Tag) : List Int := addOf c.key (decide (c.kind = 0)) c.vals c.id t
/-- The lists behind a script of calls. -/
def ids (cs : List Call) (t : Tag) : List Int := cs.flatMap (fun c => addC c t)

theorem ids_nil (t : Tag) : ids [] t = [] := rfl
theorem ids_snoc (cs : List Call) (c : Call) : ids (cs ++ [c]) = fun t => ids cs t ++ addOf c.key (decide (c.kind = 0)) c.vals c.id t := by
  funext t
  simp [ids, addC]
theorem ids_len (cs : List Call) (t : Tag) : (ids cs t).length ≤ cs.length + vsum cs := by
  induction cs with
  | nil => simp [ids]
  | cons c cs ih =>
    have h1 := addOf_len c.key (decide (c.kind = 0)) c.vals c.id t
    have h2 : (ids (c :: cs) t).length = (addC c t).length + (ids cs t).length := by simp [ids]
    have h3 : vsum (c :: cs) = c.vals.length + vsum cs := by simp [vsum]
    unfold addC at h2
    simp only [List.length_cons]
    omega

theorem cntV_pos {V : ByteArray} {vs : List ByteArray} : 0 < cntV V vs ↔ V ∈ vs := by
  unfold cntV
  rw [List.length_pos_iff_exists_mem]
  constructor
  · rintro ⟨x, hx⟩
    simp at hx
    rw [← hx.2]; exact hx.1
  · intro h
    exact ⟨V, by simp [h]⟩

theorem mem_addC_req (c : Call) (K : ByteArray) (x : Int) : x ∈ addC c (K, none) ↔ c.key = K ∧ x = c.id := by
  unfold addC
  simp only [addOf]
  split
  · rename_i h; simp [h]
  · rename_i h; simp; intro e; exact absurd e.symm h
theorem mem_addC_val (c : Call) (K : ByteArray) (x : Int) : x ∈ addC c (K, some none) ↔ c.key = K ∧ c.kind = 0 ∧ x = c.id := by
  unfold addC
  simp only [addOf, decide_eq_true_eq]
  split
  · rename_i h; simp [h.1, h.2]
  · rename_i h; simp; intro e e2; exact absurd ⟨e.symm, e2⟩ h
theorem mem_addC_all (c : Call) (K V : ByteArray) (x : Int) : x ∈ addC c (K, some (some V)) ↔ c.key = K ∧ c.kind = 0 ∧ x = c.id ∧ V ∈ c.vals := by
  unfold addC
  simp only [addOf, decide_eq_true_eq]
  split
  · rename_i h
    rw [List.mem_replicate, ← cntV_pos]
    simp [h.1, h.2]
    constructor
    · rintro ⟨h1, h2⟩; exact ⟨h2, by omega⟩
    · rintro ⟨h1, h2⟩; exact ⟨by omega, h1⟩
  · rename_i h; simp; intro e e2; exact absurd ⟨e.symm, e2⟩ h

theorem mem_req (cs : List Call) (K : ByteArray) (x : Int) : x ∈ ids cs (K, none) ↔ ∃ c ∈ cs, c.key = K ∧ x = c.id := by
  unfold ids
  rw [List.mem_flatMap]
  simp only [mem_addC_req]
theorem mem_val (cs : List Call) (K : ByteArray) (x : Int) : x ∈ ids cs (K, some none) ↔ ∃ c ∈ cs, c.key = K ∧ c.kind = 0 ∧ x = c.id := by
  unfold ids
  rw [List.mem_flatMap]
  simp only [mem_addC_val]
theorem mem_all (cs : List Call) (K V : ByteArray) (x : Int) : x ∈ ids cs (K, some (some V)) ↔ ∃ c ∈ cs, c.key = K ∧ c.kind = 0 ∧ x = c.id ∧ V ∈ c.vals := by
  unfold ids
  rw [List.mem_flatMap]
  simp only [mem_addC_all]

theorem strict_pw {cs : List Call} (h : StrictIds cs) : cs.Pairwise (fun a b => a.id < b.id) := by
  have mono : ∀ j i, i < j → j < cs.length → (cs.getD i Call.nil).id < (cs.getD j Call.nil).id := by
    intro j
    induction j with
    | zero => intro i hi; omega
    | succ j ih =>
      intro i hi hj
      have h1 := h j hj
      rcases Nat.lt_or_ge i j with h2 | h2
      · have := ih i h2 (by omega); omega
      · have : i = j := by omega
        subst this; exact h1
  rw [List.pairwise_iff_getElem]
  intro i j hi hj hij
  have := mono j i hij hj
  simpa [List.getD, hi, hj] using this

theorem pw_flat {cs : List Call} (h : cs.Pairwise (fun a b => a.id < b.id)) (f : Call → List Int) (hf : ∀ c, ∀ x ∈ f c, x = c.id) : (cs.flatMap f).Pairwise (fun a b => a ≤ b) := by
  induction cs with
  | nil => simp
  | cons c cs ih =>
    rw [List.pairwise_cons] at h
    rw [List.flatMap_cons, List.pairwise_append]
    refine ⟨?_, ih h.2, fun a ha b hb => ?_⟩
    · rw [List.pairwise_iff_forall_sublist]
      intro a b hab
      have ha := hf c a (hab.subset (by simp))
      have hb := hf c b (hab.subset (by simp))
      omega
    · rw [List.mem_flatMap] at hb
      obtain ⟨d, hd, hb⟩ := hb
      have h1 := hf c a ha
      have h2 := hf d b hb
      have h3 := h.1 d hd
      omega
theorem pw_flat1 {cs : List Call} (h : cs.Pairwise (fun a b => a.id < b.id)) (f : Call → List Int) (hf : ∀ c, ∀ x ∈ f c, x = c.id) (h1 : ∀ c, (f c).length ≤ 1) : (cs.flatMap f).Pairwise (fun a b => a < b) := by
  induction cs with
  | nil => simp
  | cons c cs ih =>
    rw [List.pairwise_cons] at h
    rw [List.flatMap_cons, List.pairwise_append]
    refine ⟨?_, ih h.2, fun a ha b hb => ?_⟩
    · match hh : f c, h1 c with
      | [], _ => simp
      | [x], _ => simp
      | x :: y :: r, hl => simp at hl
    · rw [List.mem_flatMap] at hb
      obtain ⟨d, hd, hb⟩ := hb
      have h1 := hf c a ha
      have h2 := hf d b hb
      have h3 := h.1 d hd
      omega
theorem asc_of_pw {zs : List Int} (h : zs.Pairwise (fun a b => a < b)) : Asc zs := by
  rw [List.pairwise_iff_getElem] at h
  intro j hj
  have := h j (j + 1) (by omega) hj (by omega)
  simpa [List.getD, hj, show j < zs.length by omega] using this
theorem ndec_of_pw {zs : List Int} (h : zs.Pairwise (fun a b => a ≤ b)) : NDec zs := by
  rw [List.pairwise_iff_getElem] at h
  intro j hj
  have := h j (j + 1) (by omega) hj (by omega)
  simpa [List.getD, hj, show j < zs.length by omega] using this

theorem asc_req {cs : List Call} (h : StrictIds cs) (K : ByteArray) : Asc (ids cs (K, none)) := by
  refine asc_of_pw (pw_flat1 (strict_pw h) _ (fun c x hx => ((mem_addC_req c K x).1 hx).2) (fun c => ?_))
  unfold addC
  simp only [addOf]
  split <;> simp
theorem asc_val {cs : List Call} (h : StrictIds cs) (K : ByteArray) : Asc (ids cs (K, some none)) := by
  refine asc_of_pw (pw_flat1 (strict_pw h) _ (fun c x hx => ((mem_addC_val c K x).1 hx).2.2) (fun c => ?_))
  unfold addC
  simp only [addOf]
  split <;> simp
theorem ndec_all {cs : List Call} (h : StrictIds cs) (K V : ByteArray) : NDec (ids cs (K, some (some V))) :=
  ndec_of_pw (pw_flat (strict_pw h) _ (fun c x hx => ((mem_addC_all c K V x).1 hx).2.2.1))
theorem val_in_req (cs : List Call) (K : ByteArray) : ∀ x ∈ ids cs (K, some none), x ∈ ids cs (K, none) := by
  intro x hx
  obtain ⟨c, hc, h1, h2, h3⟩ := (mem_val cs K x).1 hx
  exact (mem_req cs K x).2 ⟨c, hc, h1, h3⟩
theorem all_in_val (cs : List Call) (K V : ByteArray) : ∀ x ∈ ids cs (K, some (some V)), x ∈ ids cs (K, some none) := by
  intro x hx
  obtain ⟨c, hc, h1, h2, h3, _⟩ := (mem_all cs K V x).1 hx
  exact (mem_val cs K x).2 ⟨c, hc, h1, h2, h3⟩
theorem id_inj {cs : List Call} (h : StrictIds cs) {c d : Call} (hc : c ∈ cs) (hd : d ∈ cs) (e : c.id = d.id) : c = d := by
  have pw := strict_pw h
  rw [List.pairwise_iff_getElem] at pw
  obtain ⟨i, hi, rfl⟩ := List.mem_iff_getElem.1 hc
  obtain ⟨j, hj, rfl⟩ := List.mem_iff_getElem.1 hd
  rcases Nat.lt_trichotomy i j with h1 | h1 | h1
  · have := pw i j hi hj h1; omega
  · subst h1; rfl
  · have := pw j i hj hi h1; omega
theorem in_req {cs : List Call} {c : Call} (hc : c ∈ cs) : c.id ∈ ids cs (c.key, none) := (mem_req cs _ _).2 ⟨c, hc, rfl, rfl⟩
theorem in_val {cs : List Call} (h : StrictIds cs) {c : Call} (hc : c ∈ cs) : decide (c.id ∈ ids cs (c.key, some none)) = decide (c.kind = 0) := by
  rw [decide_eq_decide, mem_val]
  constructor
  · rintro ⟨d, hd, _, h2, h3⟩
    rw [id_inj h hc hd h3]; exact h2
  · intro h0
    exact ⟨c, hc, rfl, h0, rfl⟩
theorem in_all {cs : List Call} (h : StrictIds cs) {c : Call} (hc : c ∈ cs) {V : ByteArray} (hV : V ∈ c.vals) : decide (c.id ∈ ids cs (c.key, some (some V))) = decide (c.kind = 0) := by
  rw [decide_eq_decide, mem_all]
  constructor
  · rintro ⟨d, hd, _, h2, h3, _⟩
    rw [id_inj h hc hd h3]; exact h2
  · intro h0
    exact ⟨c, hc, rfl, h0, rfl, hV⟩

end Go.Proofs.Qxb6600623aMods
