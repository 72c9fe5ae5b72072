import Derived.Test.Qxb6601679aModsGLaw
import Derived.Deep.AppendLies
import Derived.Deep.DeepAppendRoom
set_option linter.unusedVariables false
set_option linter.unusedSimpArgs false
namespace Go.Proofs.Qxb6601679aMods
open Go.RowKit

/-- Block g begins with these numbers. -/
def Pre (w : World) (g : Nat) (k : IntKind) (e : TypeId) (zs : List Int) : Prop := ∃ rest : List Value, w.heap[g]? = some (.cells (zs.map (Value.int k) ++ rest).toArray e (0, 0))
theorem Blk.pre {w : World} {g : Nat} {k : IntKind} {e : TypeId} {zs : List Int} (h : Blk w g k e zs) : Pre w g k e zs := ⟨[], by rw [List.append_nil]; exact h⟩
theorem Pre.lt {w : World} {g : Nat} {k : IntKind} {e : TypeId} {zs : List Int} (h : Pre w g k e zs) : g < w.heap.size := by
  obtain ⟨r, h⟩ := h; exact lt_of_block h
theorem Pre.cell {w : World} {g : Nat} {k : IntKind} {e : TypeId} {zs : List Int} (h : Pre w g k e zs) (j : Nat) (hj : j < zs.length) :
    w.cell? ⟨g, j, none⟩ = some (.int k (zs.getD j 0)) := by
  obtain ⟨r, h⟩ := h
  rw [cell_of_row w g j _ e (0, 0) h]
  simp [hj, List.getD, List.getElem?_append]
theorem Pre.frozen {w : World} {g : Nat} {k : IntKind} {e : TypeId} {zs : List Int} (h : Pre w g k e zs) (j : Nat) : w.frozen? ⟨g, j, none⟩ = false := by
  obtain ⟨r, h⟩ := h
  exact frozen_of_row w g j _ e h
theorem Pre.set {w : World} {g : Nat} {k : IntKind} {e : TypeId} {zs : List Int} (h : Pre w g k e zs) (j : Nat) (hj : j < zs.length) (x : Int) :
    Pre (w.setCell ⟨g, j, none⟩ (.int k x)) g k e (zs.set j x) := by
  obtain ⟨r, h⟩ := h
  refine ⟨r, ?_⟩
  rw [heap_setCell_same w g j _ e (.int k x) h]
  simp [List.map_set, List.set_append, hj]
theorem Pre.other {w : World} {g : Nat} {k : IntKind} {e : TypeId} {zs : List Int} (h : Pre w g k e zs) (a : Addr) (v : Value) (hne : g ≠ a.block) : Pre (w.setCell a v) g k e zs := by
  obtain ⟨r, h⟩ := h
  exact ⟨r, by rw [heap_setCell_other w a g v hne]; exact h⟩
theorem Pre.alloc {w : World} {g : Nat} {k : IntKind} {e : TypeId} {zs : List Int} (h : Pre w g k e zs) (o : Obj) : Pre (w.alloc o) g k e zs := by
  have hl := h.lt
  obtain ⟨r, h⟩ := h
  exact ⟨r, by rw [Below.heap_alloc w o g hl]; exact h⟩
theorem Pre.below {w w' : World} {B g : Nat} {k : IntKind} {e : TypeId} {zs : List Int} (h : Pre w g k e zs) (hb : Below B w w') (hg : g < B) : Pre w' g k e zs := by
  obtain ⟨r, h⟩ := h
  exact ⟨r, by rw [hb.block g hg]; exact h⟩
theorem Pre.row {w : World} {g : Nat} {k : IntKind} {e : TypeId} {zs : List Int} (h : Pre w g k e zs) : Row w k (some ⟨g, 0, none⟩) zs :=
  fun _ => ⟨g, 0, rfl, fun i hi => by rw [Nat.zero_add]; exact h.cell i hi⟩
theorem Pre.of_own {w : World} {base g n cap size : Nat} {k : IntKind} {e : TypeId} {zs : List Int} (h : w.ownsRow base e size (.slice (some ⟨g, 0, none⟩) n cap) n (zs.map (Value.int k))) : Pre w g k e zs := by
  rcases h.2 with ⟨h', _⟩ | ⟨g', cap', cur, h', _, hg, _, _, _, htake⟩
  · simp at h'
  · simp only [Value.slice.injEq, Option.some.injEq, Addr.mk.injEq, and_true, true_and] at h'
    obtain ⟨rfl, rfl⟩ := h'
    refine ⟨cur.toList.drop (n * size), ?_⟩
    rw [hg, ← htake, List.take_append_drop]

theorem news_of {w : World} {x : Addr} {k : IntKind} {zs : List Int} (h : Row w k (some x) zs) : ∀ j u, (zs.map (Value.int k))[j]? = some u → w.cell? (x.add j) = some u := by
  intro j u hu
  rw [List.getElem?_map, Option.map_eq_some_iff] at hu
  obtain ⟨y, hy, rfl⟩ := hu
  have hj : j < zs.length := by
    rcases Nat.lt_or_ge j zs.length with h | h
    · exact h
    · rw [List.getElem?_eq_none h] at hy; cases hy
  obtain ⟨b, off, hx, hc⟩ := h (by omega)
  obtain rfl := Option.some.inj hx
  have e : (⟨b, off, none⟩ : Addr).add j = ⟨b, off + j, none⟩ := by
    unfold Addr.add
    split <;> simp_all
  rw [e, hc j hj]
  simp [List.getD, hy]
theorem one_of (k : IntKind) (zs : List Int) : ∀ u ∈ zs.map (Value.int k), u.oneCell' = true := by
  intro u hu
  obtain ⟨z, _, rfl⟩ := List.mem_map.1 hu
  rfl

theorem clone30 (x : Addr) (n c : Nat) (zs : List Int) (w : World) (hz : zs.length = n) (hn : n ≤ 1048576) (hr : Row w .i32 (some x) zs) :
    Calls Trym.prog 30 #[.slice (some x) n c] w fun e w' => ∃ g cap, e = .returned (.slice (some ⟨g, 0, none⟩) n cap) ∧ Below w.heap.size w w' ∧ w.heap.size ≤ g ∧ Pre w' g .i32 21 zs := by
  refine calls_all fun Q HQE => ?_
  obtain ⟨i3, hi3, hz0, hz1, hz2⟩ := info_parts Trym.info21
  have hne := Lib.run_eql_slice_nil (P := Trym.prog)
  have hown := World.ownsRow_lit (base := w.heap.size) (e := 21) (size := 1) w #[] 0 (Nat.le_refl _) (by unfold maxLen; omega) rfl
  have hbel := (Below.refl w.heap.size w).alloc (Nat.le_refl _) (.cells #[] 21)
  have hnew := news_of (w := w.alloc (.cells #[] 21)) (hr.below hbel)
  have HN := hide hnew
  clear hnew
  rcases Nat.eq_zero_or_pos n with h0 | h0
  · subst h0
    have hz' : zs = [] := List.length_eq_zero_iff.1 hz
    subst hz'
    go_enter Trym.func30, Trym.ntmps30
    go_wp2_with (at_builtin; refine wpList_append_own_spare _ rfl _ _ 25 rfl w.heap.size 21 i3 1 Trym.underlying25 hi3 hz1 w.heap.size 0 0 _ rfl hown x 0 c [] rfl rfl (unhide HN) (one_of .i32 []) (by omega) ?_; intro w1 hown1 hgrow1)
    try go_ret
    exact unhide HQE _ _ ⟨_, _, rfl, hbel.grown hgrow1 (by simp) (fun k hk => by simp [Value.ownBlock] at hk; omega), Nat.le_refl _, Pre.of_own hown1⟩
  · go_enter Trym.func30, Trym.ntmps30
    go_wp2_with (at_builtin; refine wpList_append_lies _ rfl _ _ 25 rfl w.heap.size 21 i3 (.int .i32 0) 1 4 Trym.underlying25 hi3 hz0 hz1 hz2 rfl (by decide) _ _ _ rfl hown x n c (zs.map (Value.int .i32)) rfl (by simp [hz]) (unhide HN) (one_of .i32 zs) h0 (by unfold maxLen; omega) (by omega) (by simp) (w.heap.size + 1) (by simp) ?_; intro g1 cap1 w1 hown1 hgr1 hat1 hlt1)
    try go_ret
    try rw [Nat.zero_add] at hown1
    try simp only [Nat.zero_add]
    exact unhide HQE _ _ ⟨_, _, rfl, hbel.grown hgr1 (by simp) (fun k hk => Nat.le_of_eq (Option.some.inj hk)), by rcases hat1 with h | h; exact Nat.le_of_eq (Option.some.inj h); omega, Pre.of_own (by simpa using hown1)⟩

end Go.Proofs.Qxb6601679aMods
