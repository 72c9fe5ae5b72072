import Derived.Test.Qxb6600623aModsCBase
import Derived.Deep.Slices
import Derived.Lib.SmallJoins
set_option linter.unusedVariables false
set_option linter.unusedSimpArgs false
namespace Go.Proofs.Qxb6600623aMods
open Go.RowKit Go.Deep Go.Joins

theorem Trym.cells9 : Trym.prog.cellsOf 9 = 1 := by kernel_rfl
theorem Trym.cells3 : Trym.prog.cellsOf 3 = 1 := by kernel_rfl
theorem Trym.cells32 : Trym.prog.cellsOf 32 = 1 := by kernel_rfl
theorem Trym.cells41 : Trym.prog.cellsOf 41 = 4 := by kernel_rfl

section
variable {H : Type} {enc : TypeId × Value → H} {w : World} {spare : Nat → Bool} {fuel : Nat} {cs : List Value} {x : DataW H × List MemPlace}

theorem open_strs (h : DataW.trod enc Trym.prog w 0 spare true fuel 32 cs = some x) : ∃ a len cap, cs = [.slice a len cap] ∧ (a = none → len = 0 ∧ cap = 0) ∧ len ≤ 9223372036854775807 ∧
    ∃ ss : List ByteArray, ss.length = len ∧ SRow w a ss ∧ ∀ i, i < ss.length → (ss.getD i ByteArray.empty).size ≤ 9223372036854775807 := by
  rcases open_slice1 Trym.underlying32 Trym.cells9 h with ⟨rfl, _⟩ | ⟨a, len, cap, m, n, V, D, Pl, rfl, _, hl, hm, hmm, _, hx⟩
  · exact ⟨none, 0, 0, rfl, fun _ => ⟨rfl, rfl⟩, by omega, [], rfl, fun h => by simp at h, fun i hi => by simp at hi⟩
  · have hlm : len ≤ m := by rw [hmm]; split <;> omega
    obtain ⟨f, hf⟩ := choose_lt (α := ByteArray) (n := len) (p := fun i s => w.cell? (a.add i) = some (.string s) ∧ s.size ≤ maxLen) (fun i hi => by
      obtain ⟨h1, h2⟩ := hx i (by omega)
      obtain ⟨s, e, _, hs⟩ := DataW.trod_string Trym.underlying9 h2
      simp at e
      exact ⟨s, by rw [h1, e], hs⟩)
    have hml : maxLen = 9223372036854775807 := rfl
    refine ⟨some a, len, cap, rfl, fun h => (by cases h), by omega, (List.range len).map f, by simp, fun hpos => ?_, fun i hi => ?_⟩
    · simp at hpos
      obtain ⟨b, off, spot⟩ := a
      have hspot : spot = none := by simpa [Addr.add] using World.cell?_spot (hf 0 hpos).1
      subst hspot
      refine ⟨b, off, rfl, fun i hi => ?_⟩
      simp at hi
      rw [← Addr.add_lit, (hf i hi).1]
      simp [List.getD, hi]
    · simp at hi
      have := (hf i hi).2
      simp [List.getD, hi]
      omega

theorem open_call (h : DataW.trod enc Trym.prog w 0 spare true fuel 41 cs = some x) (b o : Nat) (hc : ∀ i, i < 4 → w.cell? ⟨b, o + i, none⟩ = cs[i]?) : ∃ c : Call, CellsOf w b o c ∧ c.Fits := by
  obtain ⟨y0, y1, y2, y3, n, _, hl, h0, h1, h2, h3⟩ := trod_struct4 Trym.underlying41 h
  rw [Trym.cells41] at hl
  match cs, hl with
  | [c0, c1, c2, c3], _ =>
    simp [Trym.cells9, Trym.cells3, Trym.cells32] at h0 h1 h2 h3
    obtain ⟨s, e0, _, hs⟩ := DataW.trod_string Trym.underlying9 h0
    obtain ⟨k, e1, _, hk⟩ := DataW.trod_int Trym.underlying3 h1
    obtain ⟨a, len, cap, e2, hn, hb, ss, hsl, hsr, hss⟩ := open_strs h2
    obtain ⟨i, e3, _, hi⟩ := DataW.trod_int Trym.underlying3 h3
    simp at e0 e1 e2 e3
    subst e0 e1 e2 e3
    have g0 := hc 0 (by omega)
    have g1 := hc 1 (by omega)
    have g2 := hc 2 (by omega)
    have g3 := hc 3 (by omega)
    simp at g0 g1 g2 g3
    have hml : maxLen = 9223372036854775807 := rfl
    refine ⟨⟨s, k, ss, i⟩, ⟨g0, g1, ⟨a, cap, by rw [g2, hsl], hsr, fun h => by rw [hsl]; exact hn h⟩, g3⟩, ⟨by show s.size ≤ _; omega, bounds_i64 hk, by show ss.length ≤ _; omega, hss, bounds_i64 hi⟩⟩

theorem open_calls (h : DataW.trod enc Trym.prog w 0 spare true fuel 31 cs = some x) : ∃ a len cap, cs = [.slice a len cap] ∧ (a = none → len = 0 ∧ cap = 0) ∧ len ≤ 9223372036854775807 ∧
    ∃ cl : List Call, cl.length = len ∧ CRow w a cl ∧ CFits cl := by
  rcases open_slice Trym.underlying31 h with ⟨rfl, _⟩ | ⟨a, len, cap, m, n, D, Pl, rfl, _, hl, hm, hmm, _, hx⟩
  · exact ⟨none, 0, 0, rfl, fun _ => ⟨rfl, rfl⟩, by omega, [], rfl, fun h => by simp at h, fun i hi => by simp at hi⟩
  · have hlm : len ≤ m := by rw [hmm]; split <;> omega
    have hml : maxLen = 9223372036854775807 := rfl
    rw [Trym.cells41] at hx
    rcases Nat.eq_zero_or_pos len with h0 | hpos
    · subst h0
      exact ⟨some a, 0, cap, rfl, fun h => (by cases h), by omega, [], rfl, fun h => by simp at h, fun i hi => by simp at hi⟩
    · obtain ⟨b, off, spot⟩ := a
      have hspot : spot = none := by
        obtain ⟨cs', h1, h2⟩ := hx 0 (by omega)
        obtain ⟨_, hlen, hcell⟩ := World.cells?_some h1
        match cs', hlen, hcell 0 (by omega) with
        | v :: r, _, hv => 
          simp at hv
          simpa [Addr.add] using World.cell?_spot hv
      subst hspot
      have inh : Inhabited Call := ⟨Call.nil⟩
      obtain ⟨f, hf⟩ := choose_lt (α := Call) (n := len) (p := fun i c => CellsOf w b (off + i * 4) c ∧ c.Fits) (fun i hi => by
        obtain ⟨cs', h1, h2⟩ := hx i (by omega)
        obtain ⟨_, hlen, hcell⟩ := World.cells?_some h1
        refine open_call h2 b (off + i * 4) (fun j hj => ?_)
        have := hcell j hj
        rw [Addr.add_lit, Addr.add_lit] at this
        exact this)
      refine ⟨some ⟨b, off, none⟩, len, cap, rfl, fun h => (by cases h), by omega, (List.range len).map f, by simp, fun _ => ⟨b, off, rfl, fun i hi => ?_⟩, fun i hi => ?_⟩
      · simp at hi
        have := (hf i hi).1
        simpa [List.getD, hi] using this
      · simp at hi
        have := (hf i hi).2
        simpa [List.getD, hi] using this
end
end Go.Proofs.Qxb6600623aMods
