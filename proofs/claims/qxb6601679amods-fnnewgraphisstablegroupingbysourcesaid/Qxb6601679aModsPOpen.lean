import Derived.Test.Qxb6601679aModsBase
import Derived.OpenShut
import Derived.Deep.Slices
import Derived.Lib.SmallJoins
set_option linter.unusedVariables false
set_option linter.unusedSimpArgs false
namespace Go.Proofs.Qxb6601679aMods
open Go.RowKit Go.Deep Go.Joins

theorem Trym.cells21 : Trym.prog.cellsOf 21 = 1 := by kernel_rfl
theorem Trym.cells28 : Trym.prog.cellsOf 28 = 2 := by kernel_rfl

section
variable {H : Type} {enc : TypeId × Value → H} {w : World} {spare : Nat → Bool} {fuel : Nat} {cs : List Value} {x : DataW H × List MemPlace}

def I32 (z : Int) : Prop := -2147483648 ≤ z ∧ z ≤ 2147483647

theorem open_pair (h : DataW.trod enc Trym.prog w 0 spare true fuel 28 cs = some x) (b o : Nat) (hc : ∀ i, i < 2 → w.cell? ⟨b, o + i, none⟩ = cs[i]?) :
    ∃ p : Int × Int, w.cell? ⟨b, o, none⟩ = some (.int .i32 p.1) ∧ w.cell? ⟨b, o + 1, none⟩ = some (.int .i32 p.2) ∧ I32 p.1 ∧ I32 p.2 := by
  obtain ⟨xs, m, _, _, hl, hxl, hx⟩ := DataW.trod_array Trym.underlying28 h
  rw [Trym.cells28] at hl
  rw [Trym.cells21] at hx
  have h0 := hx 0 (by omega)
  have h1 := hx 1 (by omega)
  match cs, hl with
  | [c0, c1], _ =>
    match xs, hxl with
    | [x0, x1], _ =>
      simp at h0 h1
      obtain ⟨k, e1, _, hk⟩ := DataW.trod_int Trym.underlying21 h0
      obtain ⟨k', e2, _, hk'⟩ := DataW.trod_int Trym.underlying21 h1
      simp at e1 e2
      subst e1 e2
      have g0 := hc 0 (by omega)
      have g1 := hc 1 (by omega)
      simp at g0 g1
      exact ⟨(k, k'), g0, g1, bounds_i32 hk, bounds_i32 hk'⟩

theorem open_pairs (h : DataW.trod enc Trym.prog w 0 spare true fuel 22 cs = some x) : ∃ a len cap, cs = [.slice a len cap] ∧ (a = none → len = 0 ∧ cap = 0) ∧ len ≤ 9223372036854775807 ∧
    ∃ zs : List Int, zs.length = len * 2 ∧ Row w .i32 a zs ∧ In32 zs := by
  rcases open_slice Trym.underlying22 h with ⟨rfl, _⟩ | ⟨a, len, cap, m, n, D, Pl, rfl, _, hl, hm, hmm, _, hx⟩
  · exact ⟨none, 0, 0, rfl, fun _ => ⟨rfl, rfl⟩, by omega, [], rfl, fun h => by simp at h, fun i hi => by simp at hi⟩
  · have hlm : len ≤ m := by rw [hmm]; split <;> omega
    have hml : maxLen = 9223372036854775807 := rfl
    rw [Trym.cells28] at hx
    rcases Nat.eq_zero_or_pos len with h0 | hpos
    · subst h0
      exact ⟨some a, 0, cap, rfl, fun h => (by cases h), by omega, [], rfl, fun h => by simp at h, fun i hi => by simp at hi⟩
    · obtain ⟨b, off, spot⟩ := a
      have hspot : spot = none := by
        obtain ⟨cs', h1, h2⟩ := hx 0 (by omega)
        obtain ⟨_, hlen, hcell⟩ := World.cells?_some h1
        match cs', hlen, hcell 0 (by omega) with
        | v :: r, _, hv =>
          simp at hv
          simpa [Addr.add] using World.cell?_spot hv
      subst hspot
      obtain ⟨f, hf⟩ := choose_lt (α := Int × Int) (n := len) (p := fun i p => w.cell? ⟨b, off + i * 2, none⟩ = some (.int .i32 p.1) ∧ w.cell? ⟨b, off + i * 2 + 1, none⟩ = some (.int .i32 p.2) ∧ I32 p.1 ∧ I32 p.2) (fun i hi => by
        obtain ⟨cs', h1, h2⟩ := hx i (by omega)
        obtain ⟨_, hlen, hcell⟩ := World.cells?_some h1
        refine open_pair h2 b (off + i * 2) (fun j hj => ?_)
        have := hcell j hj
        rw [Addr.add_lit, Addr.add_lit] at this
        exact this)
      have hget : ∀ i, i < len * 2 → ((List.range (len * 2)).map (fun j => if j % 2 = 0 then (f (j / 2)).1 else (f (j / 2)).2)).getD i 0 = if i % 2 = 0 then (f (i / 2)).1 else (f (i / 2)).2 := fun i hi => by simp [List.getD, hi]
      refine ⟨some ⟨b, off, none⟩, len, cap, rfl, fun h => (by cases h), by omega, (List.range (len * 2)).map (fun j => if j % 2 = 0 then (f (j / 2)).1 else (f (j / 2)).2), by simp, fun _ => ⟨b, off, rfl, fun i hi => ?_⟩, fun i hi => ?_⟩
      · rw [List.length_map, List.length_range] at hi
        rw [hget i hi]
        obtain ⟨g0, g1, _, _⟩ := hf (i / 2) (by omega)
        by_cases h2 : i % 2 = 0
        · have e : off + i = off + i / 2 * 2 := by omega
          rw [if_pos h2, e, g0]
        · have e : off + i = off + i / 2 * 2 + 1 := by omega
          rw [if_neg h2, e, g1]
      · rw [List.length_map, List.length_range] at hi
        rw [hget i hi]
        obtain ⟨_, _, g2, g3⟩ := hf (i / 2) (by omega)
        split
        · exact g2
        · exact g3
end

end Go.Proofs.Qxb6601679aMods
