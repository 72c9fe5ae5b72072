import Derived.Test.Qxb6600973aModsErrLaw
set_option linter.unusedVariables false
set_option linter.unusedSimpArgs false
namespace Go.Proofs.Qxb6600973aMods
open Go.RowKit

theorem str_ne {x y : ByteArray} (h : ¬ x = y) : (x.toList == y.toList) = false ∧ (x.toList != y.toList) = true := by
  have e : x.toList ≠ y.toList := fun e => h (WideShapes.bytes_inj (by rw [← ByteArray.toList_eq, ← ByteArray.toList_eq]; exact e))
  exact ⟨by simp [e], by simp [e]⟩
theorem below_chain {a b c : World} (h : Below a.heap.size a b) (k : Below b.heap.size b c) : Below a.heap.size a c := h.trans (k.mono h.size)

set_option maxRecDepth 100000 in
set_option maxHeartbeats 2000000 in
theorem bytesR_any (s t : ByteArray) (p : Bool) (w : World) (hs : s.size ≤ 9223372036854775807) (ht : t.size ≤ 9223372036854775807) :
    Calls Trym.prog 6 #[.string s, .string t, .bool p] w fun e w' => ∃ b, e = .returned (.bool b) ∧ w = w' ∧ (b = true → s.size + t.size ≤ 1048576) := by
  refine calls_all fun Q HQE => ?_
  by_cases t0 : 1048576 < s.size
  · go_enter Trym.func6, Trym.ntmps6
    go_wp2
    try go_ret
    exact unhide HQE _ _ ⟨false, rfl, rfl, fun h => by cases h⟩
  by_cases t1 : 1048576 < t.size
  · go_enter Trym.func6, Trym.ntmps6
    go_wp2
    try go_ret
    exact unhide HQE _ _ ⟨false, rfl, rfl, fun h => by cases h⟩
  by_cases s1 : 1048576 < s.size + t.size
  · go_enter Trym.func6, Trym.ntmps6
    go_wp2
    try go_ret
    exact unhide HQE _ _ ⟨false, rfl, rfl, fun h => by cases h⟩
  · go_enter Trym.func6, Trym.ntmps6
    go_wp2
    try go_ret
    exact unhide HQE _ _ ⟨true, rfl, rfl, fun _ => by omega⟩

set_option maxRecDepth 100000 in
set_option maxHeartbeats 4000000 in
theorem refused_any (s t : ByteArray) (p : Bool) (w : World) (hs : s.size ≤ 9223372036854775807) (ht : t.size ≤ 9223372036854775807) :
    Calls Trym.prog 3 #[.string s, .string t, .bool p] w fun e w' => e = .returned (.bool true) ∧ Below w.heap.size w w' := by
  refine calls_all fun Q HQE => ?_
  go_enter Trym.func3, Trym.ntmps3
  go_wp2_with fail
  refine (bytesR_any s t p w hs ht).mono ?_
  rintro e w0 ⟨x, rfl, rfl, hx⟩
  cases x
  · go_wp2
    try go_ret
    exact unhide HQE _ _ ⟨rfl, Below.refl _ _⟩
  have hst := hx rfl
  clear hx
  by_cases h1 : 524288 < s.size
  · go_wp2
    try go_ret
    exact unhide HQE _ _ ⟨rfl, Below.refl _ _⟩
  by_cases h2 : 524288 < t.size
  · go_wp2
    try go_ret
    exact unhide HQE _ _ ⟨rfl, Below.refl _ _⟩
  go_wp2_with fail
  refine (text_any s p w (by omega)).mono ?_
  rintro e w1 ⟨rfl, hb1⟩
  go_wp2_with fail
  refine (text_any t p w1 (by omega)).mono ?_
  rintro e w2 ⟨rfl, hb2⟩
  go_wp2_with fail
  refine (text_any s (!p) w2 (by omega)).mono ?_
  rintro e w3 ⟨rfl, hb3⟩
  go_wp2_with fail
  refine (cut_text p s w3 (by omega)).mono ?_
  rintro e w4 ⟨rfl, hb4⟩
  go_wp2_with fail
  refine (cut_text p t w4 (by omega)).mono ?_
  rintro e w5 ⟨rfl, hb5⟩
  go_wp2_with fail
  refine (cut_text (!p) s w5 (by omega)).mono ?_
  rintro e w6 ⟨rfl, hb6⟩
  have hb := below_chain hb1 (below_chain hb2 (below_chain hb3 (below_chain hb4 (below_chain hb5 hb6))))
  have hne : ¬ stem p = stem (!p) := by cases p <;> first | exact stem_ne.1 | exact stem_ne.2
  obtain ⟨n1, n2⟩ := str_ne hne
  generalize stem p = x at n1 n2 ⊢
  generalize stem (!p) = y at n1 n2 ⊢
  generalize headP p ++ s = z1
  generalize headP p ++ t = z2
  generalize headP (!p) ++ s = z3
  clear hne
  go_wp2
  try go_ret
  exact unhide HQE _ _ ⟨by simp [n1, n2], hb⟩

end Go.Proofs.Qxb6600973aMods
