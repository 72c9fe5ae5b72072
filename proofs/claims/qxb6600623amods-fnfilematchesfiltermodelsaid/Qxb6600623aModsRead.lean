import Derived.Test.Qxb6600623aModsFile
set_option linter.unusedVariables false
set_option linter.unusedSimpArgs false
namespace Go.Proofs.Qxb6600623aMods
open Go.RowKit

theorem Grp.below {W0 w w' : World} {gb : Nat} {I : Tag → List Int} {G : GS} {n c : Nat} (h : Grp W0 w gb I G n c) (hb : Below w.heap.size w w') : Grp W0 w' gb I G n c := by
  rcases h with ⟨h1, h2, h3⟩ | ⟨h1, h2⟩
  · exact .inl ⟨h1, by rw [hb.block gb (lt_of_block h2)]; exact h2, h3⟩
  · exact .inr ⟨h1.below hb, h2.below hb⟩

theorem Grp.look {W0 w : World} {gb : Nat} {I : Tag → List Int} {G : GS} {n c : Nat} (h : Grp W0 w gb I G n c) (K : ByteArray) (hK : K.size ≤ 9223372036854775807) :
    ∃ mv, w.cell? ⟨gb, 3, none⟩ = some (.map mv) ∧ ∃ pa, pa = (if G.pk K then some (⟨G.ob K, 0, none⟩ : Addr) else none) ∧ (Instr.lookup 61 (.map mv) (.string K) false).run Trym.prog w = .ok (.pointer pa) w := by
  rcases h with ⟨h1, h2, h3, h4, h5⟩ | ⟨h1, h2⟩
  · refine ⟨none, (fourC h2).2.2.2.1, none, by rw [h4]; rfl, ?_⟩
    exact Maps.look_nil false keyLaw Trym.underlying61 (zero67 w) (key_of K hK)
  · refine ⟨_, (fourC h1.group).2.2.2.1, _, rfl, ?_⟩
    rw [h1.keys.look Trym.underlying61 (zero67 w) K hK]
    unfold keysF
    cases G.pk K <;> rfl

theorem Grp.row {W0 w : World} {gb : Nat} {I : Tag → List Int} {G : GS} {n c : Nat} (h : Grp W0 w gb I G n c) (t : Tag) : w.ownsRow W0.heap.size 3 1 (G.sl t) (I t).length ((I t).map (Value.int .i64)) := by
  rcases h with ⟨h1, h2, h3, h4, h5, _⟩ | ⟨h1, h2⟩
  · rw [h5, h3 t]; exact World.ownsRow_nil _ _ _ _
  · exact h2.rows t

/-- What a list's slice is: its address leads to its numbers. -/
theorem Grp.slice {W0 w : World} {gb : Nat} {I : Tag → List Int} {G : GS} {n c : Nat} (h : Grp W0 w gb I G n c) (t : Tag) : ∃ a cap, G.sl t = .slice a (I t).length cap ∧ Row w .i64 a (I t) := by
  have hr := h.row t
  rcases hr.2 with ⟨e, e0⟩ | ⟨g, cap, cur, e, _⟩
  · refine ⟨none, 0, by rw [e, e0], fun hl => by omega⟩
  · refine ⟨_, cap, e, fun hl => ⟨g, 0, rfl, fun i hi => ?_⟩⟩
    rw [e] at hr
    have := hr.cellAt i (by omega)
    rw [Nat.zero_add, this]
    simp [List.getD, hi]

theorem newGroup_any (w : World) : Calls Trym.prog 19 #[] w fun e w' => e = .returned (.pointer (some ⟨w.heap.size, 0, none⟩)) ∧ w' = w.alloc (.cells #[nilS, nilS, nilS, .map none] 63) := by
  go_enter Trym.func19, Trym.ntmps19
  go_wp2
  go_ret
  exact ⟨rfl, rfl⟩

theorem requiring_any (W0 w : World) (gb : Nat) (I : Tag → List Int) (G : GS) (n c : Nat) (K : ByteArray) (h : Grp W0 w gb I G n c) (hK : K.size ≤ 9223372036854775807) :
    Calls Trym.prog 25 #[.pointer (some ⟨gb, 0, none⟩), .string K] w fun e w' => e = .returned (G.sl (K, none)) ∧ w = w' := by
  refine calls_all fun Q HQE => ?_
  obtain ⟨mv, hc, pa, hpa, hlk⟩ := h.look K hK
  have hpe := fun w p => run_eql_pointer_nil (P := Trym.prog) w 67 p ptr67
  cases hp : G.pk K
  · rw [hp] at hpa
    have e : pa = none := by simpa using hpa
    subst e
    clear hpa
    go_enter Trym.func25, Trym.ntmps25
    go_wp2
    try go_ret
    refine unhide HQE _ _ ⟨?_, rfl⟩
    rcases h with ⟨_, _, _, _, h5, _⟩ | ⟨h1, _⟩
    · rw [h5]; rfl
    · rw [h1.absk K none hp]; rfl
  · rw [hp] at hpa
    have e : pa = some ⟨G.ob K, 0, none⟩ := by simpa using hpa
    subst e
    clear hpa
    rcases h with ⟨_, _, _, h4, _⟩ | ⟨h1, _⟩
    · rw [h4] at hp; cases hp
    have hoth := h1.oth K hp
    unfold othC at hoth
    obtain ⟨o0, o1, o3, o5, of⟩ := six hoth
    clear hoth
    go_enter Trym.func25, Trym.ntmps25
    go_wp2
    try go_ret
    exact unhide HQE _ _ ⟨rfl, rfl⟩

theorem valued_any (W0 w : World) (gb : Nat) (I : Tag → List Int) (G : GS) (n c : Nat) (K : ByteArray) (h : Grp W0 w gb I G n c) (hK : K.size ≤ 9223372036854775807) :
    Calls Trym.prog 26 #[.pointer (some ⟨gb, 0, none⟩), .string K] w fun e w' => e = .returned (G.sl (K, some none)) ∧ w = w' := by
  refine calls_all fun Q HQE => ?_
  obtain ⟨mv, hc, pa, hpa, hlk⟩ := h.look K hK
  have hpe := fun w p => run_eql_pointer_nil (P := Trym.prog) w 67 p ptr67
  cases hp : G.pk K
  · rw [hp] at hpa
    have e : pa = none := by simpa using hpa
    subst e
    clear hpa
    go_enter Trym.func26, Trym.ntmps26
    go_wp2
    try go_ret
    refine unhide HQE _ _ ⟨?_, rfl⟩
    rcases h with ⟨_, _, _, _, h5, _⟩ | ⟨h1, _⟩
    · rw [h5]; rfl
    · rw [h1.absk K _ hp]; rfl
  · rw [hp] at hpa
    have e : pa = some ⟨G.ob K, 0, none⟩ := by simpa using hpa
    subst e
    clear hpa
    rcases h with ⟨_, _, _, h4, _⟩ | ⟨h1, _⟩
    · rw [h4] at hp; cases hp
    have hoth := h1.oth K hp
    unfold othC at hoth
    obtain ⟨o0, o1, o3, o5, of⟩ := six hoth
    clear hoth
    go_enter Trym.func26, Trym.ntmps26
    go_wp2
    try go_ret
    exact unhide HQE _ _ ⟨rfl, rfl⟩

theorem allowing_any (W0 w : World) (gb : Nat) (I : Tag → List Int) (G : GS) (n c : Nat) (K V : ByteArray) (h : Grp W0 w gb I G n c) (hK : K.size ≤ 9223372036854775807) (hV : V.size ≤ 9223372036854775807) :
    Calls Trym.prog 28 #[.pointer (some ⟨gb, 0, none⟩), .string K, .string V] w fun e w' => e = .returned (G.sl (K, some (some V))) ∧ w = w' := by
  refine calls_all fun Q HQE => ?_
  obtain ⟨mv, hc, pa, hpa, hlk⟩ := h.look K hK
  have hpe := fun w p => run_eql_pointer_nil (P := Trym.prog) w 67 p ptr67
  have hf57 := field57
  cases hp : G.pk K
  · rw [hp] at hpa
    have e : pa = none := by simpa using hpa
    subst e
    clear hpa
    go_enter Trym.func28, Trym.ntmps28
    go_wp2
    try go_ret
    refine unhide HQE _ _ ⟨?_, rfl⟩
    rcases h with ⟨_, _, _, _, h5, _⟩ | ⟨h1, _⟩
    · rw [h5]; rfl
    · rw [h1.absk K _ hp]; rfl
  · rw [hp] at hpa
    have e : pa = some ⟨G.ob K, 0, none⟩ := by simpa using hpa
    subst e
    clear hpa
    rcases h with ⟨_, _, _, h4, _⟩ | ⟨h1, _⟩
    · rw [h4] at hp; cases hp
    have hoth := h1.oth K hp
    unfold othC at hoth
    obtain ⟨o0, o1, o3, o5, of⟩ := six hoth
    obtain ⟨c', hm⟩ := h1.maps K hp
    have hlk2 : (Instr.lookup 68 (.map (some (G.mb K))) (.string V) false).run Trym.prog w = .ok (.agg #[G.sl (K, some (some V)), .slice none 0 0]) w := by
      rw [hm.look Trym.underlying68 (zero57 _) V hV]
      unfold valsF
      cases hpv : G.pv K V
      · simp [h1.absv K V hpv]
      · rfl
    clear hoth
    go_enter Trym.func28, Trym.ntmps28
    go_wp2
    try go_ret
    exact unhide HQE _ _ ⟨rfl, rfl⟩

theorem zzfile_any (W0 : World) (gb : Nat) (G : GS) (I : Tag → List Int) (n c : Nat) (K : ByteArray) (kind : Int) (va : Option Addr) (nv vc : Nat) (vals : List ByteArray) (i : Int) (w : World)
    (hG : Grp W0 w gb I G n c) (hb0 : Below W0.heap.size W0 w) (hK : K.size ≤ 9223372036854775807) (hnv : vals.length = nv) (hv4 : nv ≤ 4096) (hvr : SRow W0 va vals) (hvs : ∀ j, j < nv → (vals.getD j ByteArray.empty).size ≤ 9223372036854775807) (hn : n ≤ 100000) (hIl : ∀ t, (I t).length ≤ 100000) :
    Calls Trym.prog 20 #[.pointer (some ⟨gb, 0, none⟩), .string K, .int .i64 kind, .slice va nv vc, .int .i64 i] w fun e w' => e = .returned (.tuple #[]) ∧ ∃ (G' : GS) (n' : Nat), n' ≤ n + 1 + nv ∧ G'.pk = updB G.pk K true ∧ Below W0.heap.size W0 w' ∧ Hold w' W0.heap.size gb G' n' (if G.pk K then c else c + 1) ∧ Rows3 w' W0.heap.size G'.sl (fun t => I t ++ addOf K (decide (kind = 0)) vals i t) := by
  refine calls_all fun Q HQE => ?_
  go_enter Trym.func20, Trym.ntmps20
  go_wp2_with fail
  refine (file_any W0 gb G I n c K kind va nv vc vals 0 i w hG hb0 hK hnv hv4 hvr hvs hn hIl).mono ?_
  rintro e w' ⟨rfl, hrest⟩
  have HR := hide hrest
  clear hrest
  go_wp2
  try go_end0
  exact unhide HQE _ _ ⟨rfl, unhide HR⟩

end Go.Proofs.Qxb6600623aMods
