import Derived.Test.Qxb6600623aModsMaps
import Derived.Deep.AppendLies
set_option linter.unusedVariables false
set_option linter.unusedSimpArgs false
namespace Go.Proofs.Qxb6600623aMods
open Go.RowKit

/-- Which list of a group: (K, none): requiring of K; (K, some none): valued of K; (K, some (some V)): allowing[V] of K. -/
abbrev Tag := ByteArray × Option (Option ByteArray)
/-- The nil slice. -/
abbrev nilS : Value := .slice none 0 0

/-- The ghosts: where the map of keys lies; which keys are there; which values; where each other lies, and its map; the lists' slices. -/
structure GS where
  mb0 : Nat
  pk : ByteArray → Bool
  pv : ByteArray → ByteArray → Bool
  ob : ByteArray → Nat
  mb : ByteArray → Nat
  sl : Tag → Value

def keysF (G : GS) : ByteArray → Option Value := fun K => if G.pk K then some (.pointer (some ⟨G.ob K, 0, none⟩)) else none
def valsF (G : GS) (K : ByteArray) : ByteArray → Option Value := fun V => if G.pv K V then some (.agg #[G.sl (K, some (some V)), nilS]) else none
def othC (G : GS) (K : ByteArray) : Array Value := #[.string K, G.sl (K, none), nilS, G.sl (K, some none), nilS, .map (some (G.mb K))]

/-- Who holds the lists. -/
structure Hold (w : World) (B gb : Nat) (G : GS) (n c : Nat) : Prop where
  gB : B ≤ gb
  group : w.heap[gb]? = some (.cells #[nilS, nilS, nilS, .map (some G.mb0)] 63 (0, 0))
  mB : B ≤ G.mb0
  keys : MapIs w G.mb0 n (keysF G) c
  oB : ∀ K, G.pk K = true → B ≤ G.ob K
  oth : ∀ K, G.pk K = true → w.heap[G.ob K]? = some (.cells (othC G K) 70 (0, 0))
  aB : ∀ K, G.pk K = true → B ≤ G.mb K
  a0 : ∀ K, G.pk K = true → G.mb K ≠ G.mb0
  maps : ∀ K, G.pk K = true → ∃ c, MapIs w (G.mb K) n (valsF G K) c
  obinj : ∀ K K', G.pk K = true → G.pk K' = true → G.ob K = G.ob K' → K = K'
  mbinj : ∀ K K', G.pk K = true → G.pk K' = true → G.mb K = G.mb K' → K = K'
  absk : ∀ K x, G.pk K = false → G.sl (K, x) = nilS
  absv : ∀ K V, G.pv K V = false → G.sl (K, some (some V)) = nilS
  abspv : ∀ K V, G.pk K = false → G.pv K V = false

/-- The lists' rows: each holds its numbers; no two lie in one block. -/
structure Rows3 (w : World) (B : Nat) (sl : Tag → Value) (I : Tag → List Int) : Prop where
  rows : ∀ t, w.ownsRow B 3 1 (sl t) (I t).length ((I t).map (Value.int .i64))
  apart : ∀ t t' b, (sl t).ownBlock = some b → (sl t').ownBlock = some b → t = t'

theorem ownsRow_block {w : World} {B : Nat} {v : Value} {n : Nat} {xs : List Value} (h : w.ownsRow B 3 1 v n xs) {b : Nat} (hb : v.ownBlock = some b) : ∃ cur, w.heap[b]? = some (.cells cur 3 (0, 0)) := by
  rcases h.2 with ⟨rfl, _⟩ | ⟨g, cap, cur, rfl, _, hg, _⟩
  · cases hb
  · have : g = b := by simpa [Value.ownBlock] using hb
    subst this
    exact ⟨cur, hg⟩

theorem gr_of_below {w w' : World} {r : Option Nat} (hb : Below w.heap.size w w') : w.grownBy w' r := ⟨hb.os, hb.tape, hb.output, hb.size, fun k hk _ => hb.block k hk⟩

theorem Rows3.kept {w w' : World} {B : Nat} {sl : Tag → Value} {I : Tag → List Int} {r : Option Nat} (h : Rows3 w B sl I) (hg : w.grownBy w' r) (hr : ∀ t b, (sl t).ownBlock = some b → r ≠ some b) : Rows3 w' B sl I := by
  refine ⟨fun t => (h.rows t).kept hg ?_, h.apart⟩
  cases hv : (sl t).ownBlock with
  | none => exact .inl rfl
  | some b => exact .inr (fun e => hr t b hv e.symm)

/-- Blocks that are no row. -/
theorem Rows3.ne {w : World} {B : Nat} {sl : Tag → Value} {I : Tag → List Int} (h : Rows3 w B sl I) {b : Nat} {o : Obj} (hb : w.heap[b]? = some o) (ho : ∀ cur, o ≠ .cells cur 3 (0, 0)) : ∀ t b', (sl t).ownBlock = some b' → some b ≠ some b' := by
  intro t b' hv e
  obtain rfl := Option.some.inj e
  obtain ⟨cur, hc⟩ := ownsRow_block (h.rows t) hv
  rw [hb] at hc
  exact ho cur (Option.some.inj hc)

/-- The holders stand while a block that is none of theirs is written. -/
theorem Hold.kept {w w' : World} {B gb : Nat} {G : GS} {n c : Nat} {r : Option Nat} (h : Hold w B gb G n c) (hg : w.grownBy w' r) (hr : ∀ b, r = some b → ∃ cur t, w.heap[b]? = some (.cells cur t (0, 0)) ∧ t ≠ 63 ∧ t ≠ 70) : Hold w' B gb G n c := by
  have cellsNe : ∀ b cs t, w.heap[b]? = some (.cells cs t (0, 0)) → (t = 63 ∨ t = 70) → some b ≠ r := by
    intro b cs t hb ht e
    obtain ⟨cur, t', h1, h2, h3⟩ := hr b e.symm
    rw [hb] at h1
    simp at h1
    rcases ht with ht | ht
    · exact h2 (h1.2.symm.trans ht)
    · exact h3 (h1.2.symm.trans ht)
  have mapNe : ∀ b n f c, MapIs w b n f c → some b ≠ r := by
    intro b n f c hm e
    obtain ⟨cur, t', h1, _⟩ := hr b e.symm
    obtain ⟨es, cl, h2⟩ := hm.block
    rw [h2] at h1
    cases h1
  refine ⟨h.gB, ?_, h.mB, h.keys.kept hg (mapNe _ _ _ _ h.keys), h.oB, fun K hK => ?_, h.aB, h.a0, fun K hK => ?_, h.obinj, h.mbinj, h.absk, h.absv, h.abspv⟩
  · rw [hg.block gb (lt_of_block h.group) (cellsNe _ _ _ h.group (.inl rfl))]; exact h.group
  · rw [hg.block _ (lt_of_block (h.oth K hK)) (cellsNe _ _ _ (h.oth K hK) (.inr rfl))]; exact h.oth K hK
  · obtain ⟨c', hm⟩ := h.maps K hK
    exact ⟨c', hm.kept hg (mapNe _ _ _ _ hm)⟩

theorem Hold.below {w w' : World} {B gb : Nat} {G : GS} {n c : Nat} (h : Hold w B gb G n c) (hb : Below w.heap.size w w') : Hold w' B gb G n c :=
  h.kept (r := none) (gr_of_below hb) (fun b e => by cases e)
theorem Rows3.below {w w' : World} {B : Nat} {sl : Tag → Value} {I : Tag → List Int} (h : Rows3 w B sl I) (hb : Below w.heap.size w w') : Rows3 w' B sl I :=
  h.kept (r := none) (gr_of_below hb) (fun t b _ e => by cases e)

theorem Hold.mono {w : World} {B gb : Nat} {G : GS} {n n' c : Nat} (h : Hold w B gb G n c) (hn : n ≤ n') : Hold w B gb G n' c :=
  ⟨h.gB, h.group, h.mB, h.keys.mono hn, h.oB, h.oth, h.aB, h.a0, fun K hK => (by obtain ⟨c', hm⟩ := h.maps K hK; exact ⟨c', hm.mono hn⟩), h.obinj, h.mbinj, h.absk, h.absv, h.abspv⟩

/-- f, but x at t. -/
def updT {α : Type} (f : Tag → α) (t : Tag) (x : α) : Tag → α := fun u => if u = t then x else f u
def updB {α : Type} (f : ByteArray → α) (t : ByteArray) (x : α) : ByteArray → α := fun u => if u = t then x else f u
theorem updT_same {α : Type} (f : Tag → α) (t : Tag) (x : α) : updT f t x t = x := by simp [updT]
theorem updT_other {α : Type} (f : Tag → α) {t u : Tag} (x : α) (h : u ≠ t) : updT f t x u = f u := by simp [updT, h]
theorem updB_same {α : Type} (f : ByteArray → α) (t : ByteArray) (x : α) : updB f t x t = x := by simp [updB]
theorem updB_other {α : Type} (f : ByteArray → α) {t u : ByteArray} (x : α) (h : u ≠ t) : updB f t x u = f u := by simp [updB, h]

/-- One number appended to the list t: its row, old or new, and all the others. -/
theorem Rows3.append {w wa w1 : World} {B : Nat} {sl : Tag → Value} {I : Tag → List Int} (h : Rows3 w B sl I) (t : Tag) (i : Int) {g' cap : Nat}
    (ha : Below w.heap.size w wa) (hgr : wa.grownBy w1 (sl t).ownBlock) (hown : w1.ownsRow B 3 1 (.slice (some ⟨g', 0, none⟩) ((I t).length + 1) cap) ((I t).length + 1) ((I t).map (Value.int .i64) ++ [.int .i64 i]))
    (hloc : (sl t).ownBlock = some g' ∨ w.heap.size ≤ g') : Rows3 w1 B (updT sl t (.slice (some ⟨g', 0, none⟩) ((I t).length + 1) cap)) (updT I t (I t ++ [i])) := by
  have h2 := h.below ha
  have old : ∀ u b, (sl u).ownBlock = some b → b < w.heap.size := fun u b hu => by
    obtain ⟨cur, hc⟩ := ownsRow_block (h.rows u) hu
    exact lt_of_block hc
  refine ⟨fun u => ?_, fun u u' b hu hu' => ?_⟩
  · by_cases e : u = t
    · subst e
      rw [updT_same, updT_same]
      simpa using hown
    · rw [updT_other _ _ e, updT_other _ _ e]
      refine (h2.rows u).kept hgr ?_
      cases hv : (sl u).ownBlock with
      | none => exact .inl rfl
      | some b => exact .inr (fun e' => e (h.apart u t b hv e'.symm))
  · have key : ∀ v, v ≠ t → (sl v).ownBlock = some b → g' = b → False := by
      intro v hv hb e
      subst e
      rcases hloc with h' | h'
      · exact hv (h.apart v t _ hb h')
      · have := old v _ hb; omega
    by_cases e : u = t
    · by_cases e' : u' = t
      · rw [e, e']
      · exfalso
        rw [e, updT_same] at hu
        rw [updT_other _ _ e'] at hu'
        exact key u' e' hu' (by simpa [Value.ownBlock] using hu)
    · rw [updT_other _ _ e] at hu
      by_cases e' : u' = t
      · exfalso
        rw [e', updT_same] at hu'
        exact key u e hu (by simpa [Value.ownBlock] using hu')
      · rw [updT_other _ _ e'] at hu'
        exact h.apart u u' b hu hu'

/-- .. and the holders stand. -/
theorem Hold.append {w wa w1 : World} {B gb : Nat} {G : GS} {n c : Nat} {I : Tag → List Int} (h : Hold w B gb G n c) (hR : Rows3 w B G.sl I) (t : Tag)
    (ha : Below w.heap.size w wa) (hgr : wa.grownBy w1 (G.sl t).ownBlock) : Hold w1 B gb G n c := by
  refine (h.below ha).kept hgr fun b hb => ?_
  obtain ⟨cur, hc⟩ := ownsRow_block (hR.rows t) hb
  exact ⟨cur, 3, by rw [ha.block b (lt_of_block hc)]; exact hc, by decide, by decide⟩

end Go.Proofs.Qxb6600623aMods
