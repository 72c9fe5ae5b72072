import Derived.Test.Qxb6600623aModsGrp
set_option linter.unusedVariables false
set_option linter.unusedSimpArgs false
namespace Go.Proofs.Qxb6600623aMods
open Go.RowKit

theorem gr_setAny (w : World) (a : Addr) (v : Value) : w.grownBy (w.setCell a v) (some a.block) :=
  ⟨rfl, rfl, rfl, by simp, fun k _ hn => heap_setCell_other w a k v (fun e => hn (by simp [e]))⟩

/-- A map stays while a cell is written. -/
theorem MapIs.setCell {w : World} {b n : Nat} {f : ByteArray → Option Value} {c : Nat} (h : MapIs w b n f c) {a : Addr} {cs : Array Value} {t : TypeId} {fr : Nat × Nat} (ha : w.heap[a.block]? = some (.cells cs t fr)) (v : Value) : MapIs (w.setCell a v) b n f c := by
  refine h.kept (gr_setAny w a v) fun e => ?_
  obtain ⟨es, cl, h2⟩ := h.block
  obtain rfl := Option.some.inj e
  rw [ha] at h2
  cases h2

/-- A list's slice stored into its other. -/
theorem Hold.setCell {w : World} {B gb : Nat} {G : GS} {n c : Nat} (h : Hold w B gb G n c) (K : ByteArray) (hK : G.pk K = true) (x : Option (Option ByteArray)) (hx : ∀ V, x ≠ some (some V)) (j : Nat) (v : Value)
    (hC : (othC G K).setIfInBounds j v = othC { G with sl := updT G.sl (K, x) v } K) : Hold (w.setCell ⟨G.ob K, j, none⟩ v) B gb { G with sl := updT G.sl (K, x) v } n c := by
  have hblk := h.oth K hK
  have hv : ∀ K', valsF { G with sl := updT G.sl (K, x) v } K' = valsF G K' := by
    intro K'
    funext V
    unfold valsF
    have : updT G.sl (K, x) v (K', some (some V)) = G.sl (K', some (some V)) := updT_other _ _ (fun e => hx V (Prod.mk.inj e).2.symm)
    simp [this]
  have hne : ∀ K', K' ≠ K → ∀ y, updT G.sl (K, x) v (K', y) = G.sl (K', y) := fun K' e y => updT_other _ _ (fun e' => e (Prod.mk.inj e').1)
  refine ⟨h.gB, ?_, h.mB, h.keys.setCell (a := ⟨G.ob K, j, none⟩) hblk v, h.oB, fun K' hK' => ?_, h.aB, h.a0, fun K' hK' => ?_, h.obinj, h.mbinj, fun K' y hy => ?_, fun K' V hV => ?_, h.abspv⟩
  · rw [heap_setCell_other _ _ _ _ (fun e => ?_)]
    · exact h.group
    · have h1 := h.group
      have e' : gb = G.ob K := e
      rw [e', hblk] at h1
      simp [othC] at h1
  · by_cases e : K' = K
    · subst e
      have := heap_setCell_same w (G.ob K') j _ 70 v hblk
      rw [hC] at this
      exact this
    · have h1 := h.oth K' hK'
      show (w.setCell ⟨G.ob K, j, none⟩ v).heap[G.ob K']? = _
      rw [heap_setCell_other _ _ _ _ (fun e' => e (h.obinj K' K hK' hK e')), h1]
      simp [othC, hne K' e]
  · obtain ⟨c', hm⟩ := h.maps K' hK'
    refine ⟨c', ?_⟩
    rw [hv K']
    exact hm.setCell (a := ⟨G.ob K, j, none⟩) hblk v
  · have e : K' ≠ K := fun e => by subst e; rw [hK] at hy; cases hy
    show updT G.sl (K, x) v (K', y) = nilS
    rw [hne K' e]
    exact h.absk K' y hy
  · show updT G.sl (K, x) v (K', some (some V)) = nilS
    rw [updT_other _ _ (fun e => hx V (Prod.mk.inj e).2.symm)]
    exact h.absv K' V hV

theorem othC_req (G : GS) (K : ByteArray) (v : Value) : (othC G K).setIfInBounds 1 v = othC { G with sl := updT G.sl (K, none) v } K := by
  simp [othC, updT]
theorem othC_val (G : GS) (K : ByteArray) (v : Value) : (othC G K).setIfInBounds 3 v = othC { G with sl := updT G.sl (K, some none) v } K := by
  simp [othC, updT]

theorem Rows3.setCell {w : World} {B gb : Nat} {G : GS} {n c : Nat} {sl : Tag → Value} {I : Tag → List Int} (hR : Rows3 w B sl I) (h : Hold w B gb G n c) (K : ByteArray) (hK : G.pk K = true) (j : Nat) (v : Value) : Rows3 (w.setCell ⟨G.ob K, j, none⟩ v) B sl I :=
  hR.kept (gr_setAny w _ v) (hR.ne (h.oth K hK) (fun cur e => by simp at e))

/-- A value stored into the map of an other. -/
def putV (G : GS) (K V : ByteArray) (v : Value) : GS := { G with sl := updT G.sl (K, some (some V)) v, pv := fun K' V' => if K' = K ∧ V' = V then true else G.pv K' V' }

theorem Hold.store {w w' : World} {B gb : Nat} {G : GS} {n c c' : Nat} (h : Hold w B gb G n c) (K : ByteArray) (hK : G.pk K = true) (V : ByteArray) (v : Value)
    (hm : MapIs w' (G.mb K) (n + 1) (updM (valsF G K) V (.agg #[v, nilS])) c') (hg : w.grownBy w' (some (G.mb K))) : Hold w' B gb (putV G K V v) (n + 1) c := by
  obtain ⟨c0, hm0⟩ := h.maps K hK
  obtain ⟨es, cl, hb0⟩ := hm0.block
  have hvK : valsF (putV G K V v) K = updM (valsF G K) V (.agg #[v, nilS]) := by
    funext U
    unfold valsF updM putV
    by_cases e : U = V
    · subst e; simp [updT]
    · simp [e, updT]
  have hvO : ∀ K', K' ≠ K → valsF (putV G K V v) K' = valsF G K' := by
    intro K' e
    funext U
    unfold valsF putV
    simp [e, updT]
  have cellsNe : ∀ b cs t, w.heap[b]? = some (.cells cs t (0, 0)) → some b ≠ some (G.mb K) := by
    intro b cs t hb e
    obtain rfl := Option.some.inj e
    rw [hb0] at hb
    cases hb
  have hoth : ∀ K', othC (putV G K V v) K' = othC G K' := by
    intro K'
    simp [othC, putV, updT]
  refine ⟨h.gB, ?_, h.mB, (h.keys.kept hg (fun e => h.a0 K hK (Option.some.inj e).symm)).mono (by omega), h.oB, fun K' hK' => ?_, h.aB, h.a0, fun K' hK' => ?_, h.obinj, h.mbinj, fun K' y hy => ?_, fun K' U hU => ?_, fun K' U hU => ?_⟩
  · rw [hg.block gb (lt_of_block h.group) (cellsNe _ _ _ h.group)]; exact h.group
  · rw [hoth K', show (putV G K V v).ob = G.ob from rfl, hg.block _ (lt_of_block (h.oth K' hK')) (cellsNe _ _ _ (h.oth K' hK'))]; exact h.oth K' hK'
  · by_cases e : K' = K
    · subst e
      exact ⟨c', by rw [hvK]; exact hm⟩
    · obtain ⟨c1, hm1⟩ := h.maps K' hK'
      exact ⟨c1, by rw [hvO K' e]; exact (hm1.kept hg (fun e' => e (h.mbinj K' K hK' hK (Option.some.inj e')))).mono (by omega)⟩
  · have e : K' ≠ K := fun e => by subst e; have : G.pk K' = false := hy; rw [hK] at this; cases this
    show updT G.sl (K, some (some V)) v (K', y) = nilS
    rw [updT_other _ _ (fun e' => e (Prod.mk.inj e').1)]
    exact h.absk K' y hy
  · have hU' : (if K' = K ∧ U = V then true else G.pv K' U) = false := hU
    by_cases e : K' = K ∧ U = V
    · simp [e] at hU'
    · rw [if_neg e] at hU'
      show updT G.sl (K, some (some V)) v (K', some (some U)) = nilS
      rw [updT_other _ _ (fun e' => e (by simp at e'; exact e'))]
      exact h.absv K' U hU'
  · have e : K' ≠ K := fun e => by subst e; have : G.pk K' = false := hU; rw [hK] at this; cases this
    show (if K' = K ∧ U = V then true else G.pv K' U) = false
    rw [if_neg (fun h => e h.1)]
    exact h.abspv K' U hU

theorem Rows3.store {w w' : World} {B gb : Nat} {G : GS} {n c : Nat} {sl : Tag → Value} {I : Tag → List Int} (hR : Rows3 w B sl I) (h : Hold w B gb G n c) (K : ByteArray) (hK : G.pk K = true) (hg : w.grownBy w' (some (G.mb K))) : Rows3 w' B sl I := by
  obtain ⟨c0, hm0⟩ := h.maps K hK
  obtain ⟨es, cl, hb0⟩ := hm0.block
  exact hR.kept hg (hR.ne hb0 (fun cur e => by cases e))

/-- A new key: its other and its map lie in new blocks. -/
def putK (G : GS) (K : ByteArray) (o m : Nat) : GS := { G with pk := updB G.pk K true, ob := updB G.ob K o, mb := updB G.mb K m }

theorem Hold.newKey {w wa w' : World} {B gb : Nat} {G : GS} {n c c' : Nat} (h : Hold w B gb G n c) (K : ByteArray) (hK : G.pk K = false) {o m : Nat} (ha : Below w.heap.size w wa) (hB : B ≤ w.heap.size) (ho : w.heap.size ≤ o) (hm : w.heap.size ≤ m)
    (hoc : wa.heap[o]? = some (.cells #[.string K, nilS, nilS, nilS, nilS, .map (some m)] 70 (0, 0))) (hmm : MapIs wa m 0 (fun _ => none) 0)
    (hk : MapIs w' G.mb0 (n + 1) (updM (keysF G) K (.pointer (some ⟨o, 0, none⟩))) c') (hg : wa.grownBy w' (some G.mb0)) : Hold w' B gb (putK G K o m) (n + 1) c' := by
  have ha' := h.below ha
  obtain ⟨es, cl, hb0⟩ := ha'.keys.block
  have cellsNe : ∀ b cs t, wa.heap[b]? = some (.cells cs t (0, 0)) → some b ≠ some G.mb0 := by
    intro b cs t hb e
    obtain rfl := Option.some.inj e
    rw [hb0] at hb
    cases hb
  have hm0 : m ≠ G.mb0 := by have := h.keys.lt; omega
  have hpk : ∀ K', (putK G K o m).pk K' = true → K' = K ∨ (K' ≠ K ∧ G.pk K' = true) := by
    intro K' hp
    by_cases e : K' = K
    · exact .inl e
    · have : updB G.pk K true K' = true := hp
      rw [updB_other _ _ e] at this
      exact .inr ⟨e, this⟩
  have obK : (putK G K o m).ob K = o := updB_same _ _ _
  have mbK : (putK G K o m).mb K = m := updB_same _ _ _
  have obO : ∀ K', K' ≠ K → (putK G K o m).ob K' = G.ob K' := fun K' e => updB_other _ _ e
  have mbO : ∀ K', K' ≠ K → (putK G K o m).mb K' = G.mb K' := fun K' e => updB_other _ _ e
  have ob_lt : ∀ K', G.pk K' = true → G.ob K' < w.heap.size := fun K' hp => lt_of_block (h.oth K' hp)
  have mb_lt : ∀ K', G.pk K' = true → G.mb K' < w.heap.size := fun K' hp => by obtain ⟨_, q⟩ := h.maps K' hp; exact q.lt
  have hkf : keysF (putK G K o m) = updM (keysF G) K (.pointer (some ⟨o, 0, none⟩)) := by
    funext K'
    unfold updM
    by_cases e : K' = K
    · subst e
      rw [if_pos rfl]
      unfold keysF
      rw [obK, show (putK G K' o m).pk K' = true from updB_same _ _ _]
      rfl
    · rw [if_neg e]
      unfold keysF
      rw [obO K' e, show (putK G K o m).pk K' = G.pk K' from updB_other _ _ e]
  refine ⟨h.gB, ?_, h.mB, by rw [hkf]; exact hk, fun K' hp => ?_, fun K' hp => ?_, fun K' hp => ?_, fun K' hp => ?_, fun K' hp => ?_, fun K1 K2 h1 h2 he => ?_, fun K1 K2 h1 h2 he => ?_, fun K' y hy => ?_, h.absv, fun K' U hU => ?_⟩
  · rw [hg.block gb (lt_of_block ha'.group) (cellsNe _ _ _ ha'.group)]; exact ha'.group
  · rcases hpk K' hp with rfl | ⟨e, hp'⟩
    · rw [obK]; omega
    · rw [obO K' e]; exact h.oB K' hp'
  · rcases hpk K' hp with rfl | ⟨e, hp'⟩
    · rw [obK, hg.block o (lt_of_block hoc) (cellsNe _ _ _ hoc), hoc]
      simp [othC, mbK, h.absk K' _ hK, putK, updB]
    · rw [obO K' e, hg.block _ (lt_of_block (ha'.oth K' hp')) (cellsNe _ _ _ (ha'.oth K' hp')), ha'.oth K' hp']
      simp [othC, mbO K' e]
      simp [putK]
  · rcases hpk K' hp with rfl | ⟨e, hp'⟩
    · rw [mbK]; omega
    · rw [mbO K' e]; exact h.aB K' hp'
  · rcases hpk K' hp with rfl | ⟨e, hp'⟩
    · rw [mbK]; exact hm0
    · rw [mbO K' e]; exact h.a0 K' hp'
  · rcases hpk K' hp with rfl | ⟨e, hp'⟩
    · refine ⟨0, ?_⟩
      rw [mbK]
      have e1 : valsF (putK G K' o m) K' = fun _ => none := by
        funext V
        unfold valsF
        rw [show (putK G K' o m).pv K' V = false from h.abspv K' V hK]
        rfl
      rw [e1]
      exact (hmm.kept hg (fun e => hm0 (Option.some.inj e))).mono (by omega)
    · obtain ⟨c1, hm1⟩ := ha'.maps K' hp'
      refine ⟨c1, ?_⟩
      rw [mbO K' e]
      exact (hm1.kept hg (fun e' => h.a0 K' hp' (Option.some.inj e'))).mono (by omega)
  · rcases hpk K1 h1 with e1 | ⟨e1, p1⟩ <;> rcases hpk K2 h2 with e2 | ⟨e2, p2⟩
    · rw [e1, e2]
    · rw [e1, obK, obO K2 e2] at he; have := ob_lt K2 p2; omega
    · rw [e2, obK, obO K1 e1] at he; have := ob_lt K1 p1; omega
    · rw [obO K1 e1, obO K2 e2] at he; exact h.obinj K1 K2 p1 p2 he
  · rcases hpk K1 h1 with e1 | ⟨e1, p1⟩ <;> rcases hpk K2 h2 with e2 | ⟨e2, p2⟩
    · rw [e1, e2]
    · rw [e1, mbK, mbO K2 e2] at he; have := mb_lt K2 p2; omega
    · rw [e2, mbK, mbO K1 e1] at he; have := mb_lt K1 p1; omega
    · rw [mbO K1 e1, mbO K2 e2] at he; exact h.mbinj K1 K2 p1 p2 he
  · have hy' : updB G.pk K true K' = false := hy
    have e : K' ≠ K := fun e => by subst e; rw [updB_same] at hy'; cases hy'
    rw [updB_other _ _ e] at hy'
    exact h.absk K' y hy'
  · have hy' : updB G.pk K true K' = false := hU
    have e : K' ≠ K := fun e => by subst e; rw [updB_same] at hy'; cases hy'
    rw [updB_other _ _ e] at hy'
    exact h.abspv K' U hy'

theorem Rows3.newKey {w wa w' : World} {B gb : Nat} {G : GS} {n c : Nat} {sl : Tag → Value} {I : Tag → List Int} (hR : Rows3 w B sl I) (h : Hold w B gb G n c) (ha : Below w.heap.size w wa) (hg : wa.grownBy w' (some G.mb0)) : Rows3 w' B sl I := by
  obtain ⟨es, cl, hb0⟩ := (h.below ha).keys.block
  exact (hR.below ha).kept hg ((hR.below ha).ne hb0 (fun cur e => by cases e))

/-- The first file makes the map of keys. -/
def GS.start (m : Nat) : GS := ⟨m, fun _ => false, fun _ _ => false, fun _ => 0, fun _ => 0, fun _ => nilS⟩

theorem Hold.first {w : World} {B gb m : Nat} (hB : B ≤ gb) (hm : B ≤ m) (hgrp : w.heap[gb]? = some (.cells #[nilS, nilS, nilS, .map (some m)] 63 (0, 0))) (hmap : MapIs w m 0 (fun _ => none) 0) : Hold w B gb (GS.start m) 0 0 :=
  ⟨hB, hgrp, hm, hmap, fun K h => (by cases h), fun K h => (by cases h), fun K h => (by cases h), fun K h => (by cases h), fun K h => (by cases h), fun K _ h => (by cases h), fun K _ h => (by cases h), fun _ _ _ => rfl, fun _ _ _ => rfl, fun _ _ _ => rfl⟩
theorem Rows3.first (w : World) (B m : Nat) : Rows3 w B (GS.start m).sl (fun _ => []) :=
  ⟨fun t => World.ownsRow_nil _ _ _ _, fun t t' b h => (by cases h)⟩

end Go.Proofs.Qxb6600623aMods
