import Derived.Test.Qxb6600623aModsBase
import Derived.Maps.Own
import Derived.Maps.OwnSet
set_option linter.unusedVariables false
set_option linter.unusedSimpArgs false
namespace Go.Proofs.Qxb6600623aMods
open Go.RowKit
open Go.Maps (Keyed)

theorem keyLaw : Keyed Trym.prog 9 := Maps.string_keyed Trym.underlying9

/-- An element read as itself. -/
def rawR (v : Value) : Option (DataW Value × List MemPlace) := some (.held v, [])

/-- What the key reads as. -/
def kl (s : ByteArray) : Lit := .string s.data.toList

theorem kl_inj {s t : ByteArray} (h : kl s = kl t) : s = t := by
  unfold kl at h
  simp at h
  cases s; cases t
  simp at h
  simp [h]

/-- Block b is a map of at most n entries: at the string s it holds f s; it has c entries. -/
def MapIs (w : World) (b n : Nat) (f : ByteArray → Option Value) (c : Nat) : Prop :=
  ∃ D : DataW Value, w.ownsMap Trym.prog 9 rawR b n D ∧ Maps.size D = c ∧ ∀ s, (∀ v, f s = some v → ∀ z, D.atKey (kl s) z = .held v) ∧ (f s = none → ∀ z, D.atKey (kl s) z = z)

theorem MapIs.mono {w : World} {b n n' : Nat} {f : ByteArray → Option Value} {c : Nat} (h : MapIs w b n f c) (hn : n ≤ n') : MapIs w b n' f c := by
  obtain ⟨D, h1, h2⟩ := h
  exact ⟨D, h1.mono hn, h2⟩

theorem MapIs.kept {w w' : World} {b n : Nat} {f : ByteArray → Option Value} {c : Nat} {row : Option Nat} (h : MapIs w b n f c) (hg : w.grownBy w' row) (hne : some b ≠ row) : MapIs w' b n f c := by
  obtain ⟨D, h1, h2⟩ := h
  exact ⟨D, h1.kept hg hne, h2⟩

theorem MapIs.block {w : World} {b n : Nat} {f : ByteArray → Option Value} {c : Nat} (h : MapIs w b n f c) : ∃ es clock, w.heap[b]? = some (.map es clock) := by
  obtain ⟨D, ⟨es, clock, h1, _⟩, h2⟩ := h
  exact ⟨es, clock, h1⟩

theorem MapIs.lt {w : World} {b n : Nat} {f : ByteArray → Option Value} {c : Nat} (h : MapIs w b n f c) : b < w.heap.size := by
  obtain ⟨es, clock, h1⟩ := h.block
  exact lt_of_block h1

theorem MapIs.made (w : World) : MapIs (w.alloc (.map #[] 0)) w.heap.size 0 (fun _ => none) 0 := by
  refine ⟨.map [], World.ownsMap_made w _ _ _, rfl, fun s => ⟨fun v h => (by cases h), fun _ z => rfl⟩⟩

theorem key_of (s : ByteArray) (hs : s.size ≤ 9223372036854775807) : keyOf Trym.prog 9 (.string s) = some (kl s) :=
  WideMaps.keyOf_string_mk Trym.underlying9 hs

theorem MapIs.look {w : World} {b n : Nat} {f : ByteArray → Option Value} {c : Nat} (h : MapIs w b n f c) {t e : TypeId} (ht : Trym.prog.underlying t = some (.map 9 e)) {z : Value} (hz : (zeroValue e).run Trym.prog w = .ok z w)
    (s : ByteArray) (hs : s.size ≤ 9223372036854775807) : (Instr.lookup t (.map (some b)) (.string s) false).run Trym.prog w = .ok ((f s).getD z) w := by
  obtain ⟨D, h1, _, h2⟩ := h
  obtain ⟨v, ps, hrun, hv⟩ := h1.lookup keyLaw ht hz (zd := .held z) (zp := []) rfl (key_of s hs)
  rw [hrun]
  unfold rawR at hv
  simp at hv
  cases hf : f s with
  | none =>
    have := (h2 s).2 hf (.held z)
    rw [this] at hv
    simp at hv
    simp [hv.1]
  | some u =>
    have := (h2 s).1 u hf (.held z)
    rw [this] at hv
    simp at hv
    simp [hv.1]

/-- f, but v at s. -/
def updM (f : ByteArray → Option Value) (s : ByteArray) (v : Value) : ByteArray → Option Value := fun t => if t = s then some v else f t

theorem MapIs.store {w : World} {b n : Nat} {f : ByteArray → Option Value} {c : Nat} (h : MapIs w b n f c) {t e : TypeId} (ht : Trym.prog.underlying t = some (.map 9 e)) (hn : n < 9223372036854775807)
    (s : ByteArray) (hs : s.size ≤ 9223372036854775807) (v : Value) :
    ∃ w', (Instr.mapUpdate t (.map (some b)) (.string s) v).run Trym.prog w = .ok () w' ∧ MapIs w' b (n + 1) (updM f s v) (if (f s).isSome then c else c + 1) ∧ w.grownBy w' (some b) := by
  obtain ⟨D, h1, h3, h2⟩ := h
  obtain ⟨w', hrun, ho, hg⟩ := h1.update keyLaw ht hn (val := v) (d := .held v) (ps := []) (key_of s hs) rfl
  have hm := h1.isMap
  have hti := h1.tidy keyLaw
  refine ⟨w', hrun, ⟨_, ho, ?_, fun u => ⟨fun x hx z => ?_, fun hx z => ?_⟩⟩, hg⟩
  · rw [Maps.size_put hti]
    cases hf : f s with
    | none =>
      rw [Maps.has_false_of_atKey ((h2 s).2 hf)]
      simp [h3]
    | some u =>
      rw [Maps.has_true_of_atKey ((h2 s).1 u hf)]
      simp [h3]
  · unfold updM at hx
    by_cases e : u = s
    · subst e
      rw [if_pos rfl] at hx
      rw [Maps.atKey_put_same hm (by trivial)]
      simpa using hx
    · rw [if_neg e] at hx
      rw [Maps.atKey_put_other (fun h => e (kl_inj h))]
      exact (h2 u).1 x hx z
  · unfold updM at hx
    by_cases e : u = s
    · rw [if_pos e] at hx
      cases hx
    · rw [if_neg e] at hx
      rw [Maps.atKey_put_other (fun h => e (kl_inj h))]
      exact (h2 u).2 hx z

theorem MapIs.len {w : World} {b n : Nat} {f : ByteArray → Option Value} {c : Nat} (h : MapIs w b n f c) {t e : TypeId} (ht : Trym.prog.underlying t = some (.map 9 e)) (ty : TypeId) :
    (Builtin.len_ #[t] ty #[.map (some b)]).run Trym.prog w = .ok (.int .i64 c) w := by
  obtain ⟨D, h1, h3, _⟩ := h
  rw [h1.len ht ty, h3]

theorem zero67 (w : World) : (zeroValue 67).run Trym.prog w = .ok (.pointer none) w := by kernel_rfl
theorem zero57 (w : World) : (zeroValue 57).run Trym.prog w = .ok (.agg #[.slice none 0 0, .slice none 0 0]) w := by kernel_rfl
end Go.Proofs.Qxb6600623aMods
