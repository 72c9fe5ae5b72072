import Derived.Test.Qxb6601679aModsOut
import Derived.Laws.AppendOwnNone
set_option linter.unusedVariables false
set_option linter.unusedSimpArgs false
namespace Go.Proofs.Qxb6601679aMods
open Go.RowKit

theorem cat_getD_left {a b : List Int} {i : Nat} (h : i < a.length) : (a ++ b).getD i 0 = a.getD i 0 := by simp [List.getD, List.getElem?_append, h]
theorem cat_getD_right {a b : List Int} {i : Nat} : (a ++ b).getD (a.length + i) 0 = b.getD i 0 := by
  unfold List.getD
  rw [List.getElem?_append_right (by omega)]
  simp
theorem cat_src_left {a b : List Int} {m i : Nat} (ha : a.length = m * 2) (h : i < m) : src (a ++ b) i = src a i := cat_getD_left (by omega)
theorem cat_dst_left {a b : List Int} {m i : Nat} (ha : a.length = m * 2) (h : i < m) : dst (a ++ b) i = dst a i := cat_getD_left (by omega)
theorem cat_src_right {a b : List Int} {m i : Nat} (ha : a.length = m * 2) : src (a ++ b) (m + i) = src b i := by
  show (a ++ b).getD ((m + i) * 2) 0 = _
  rw [show (m + i) * 2 = a.length + i * 2 by omega]; exact cat_getD_right
theorem cat_dst_right {a b : List Int} {m i : Nat} (ha : a.length = m * 2) : dst (a ++ b) (m + i) = dst b i := by
  show (a ++ b).getD ((m + i) * 2 + 1) 0 = _
  rw [show (m + i) * 2 + 1 = a.length + (i * 2 + 1) by omega]; exact cat_getD_right
theorem cat_C_left {a b : List Int} {m : Nat} (ha : a.length = m * 2) (v : Int) : ∀ i, i ≤ m → C (a ++ b) v i = C a v i := by
  intro i
  induction i with
  | zero => intro _; rfl
  | succ i ih =>
    intro h
    show C (a ++ b) v i + (if src (a ++ b) i = v then 1 else 0) = C a v i + (if src a i = v then 1 else 0)
    rw [ih (by omega), cat_src_left ha (by omega)]
theorem cat_C_right {a b : List Int} {m : Nat} (ha : a.length = m * 2) (v : Int) : ∀ i, C (a ++ b) v (m + i) = C a v m + C b v i := by
  intro i
  induction i with
  | zero => exact cat_C_left ha v m (Nat.le_refl _)
  | succ i ih =>
    show C (a ++ b) v (m + i) + (if src (a ++ b) (m + i) = v then 1 else 0) = C a v m + (C b v i + (if src b i = v then 1 else 0))
    rw [ih, cat_src_right ha]; omega
theorem graph_at {zs fs ns : List Int} {n m : Nat} (hg : IsGraph zs n m fs ns) {v : Int} {i : Nat} (hi : i < m) (hs : src zs i = v) : ns.getD (G zs v m + C zs v i) 0 = dst zs i := by
  have := hg.next i hi
  unfold pos at this
  rwa [hs] at this
theorem cat_left {a b fa na fc nc : List Int} {n ma mb : Nat} (ha : a.length = ma * 2) (ga : IsGraph a n ma fa na) (gc : IsGraph (a ++ b) n (ma + mb) fc nc) {v : Int} {x : Nat} (hx : x < C a v ma) :
    nc.getD (G (a ++ b) v (ma + mb) + x) 0 = na.getD (G a v ma + x) 0 := by
  obtain ⟨i, hi, hs, rfl⟩ := C_find hx
  have h1 := graph_at ga hi hs
  have h2 := graph_at gc (v := v) (i := i) (by omega) (by rw [cat_src_left ha hi]; exact hs)
  rw [cat_C_left ha v i (by omega)] at h2
  rw [h1, h2, cat_dst_left ha hi]
theorem cat_right {a b fb nb fc nc : List Int} {n ma mb : Nat} (ha : a.length = ma * 2) (gb : IsGraph b n mb fb nb) (gc : IsGraph (a ++ b) n (ma + mb) fc nc) {v : Int} {x : Nat} (hx : x < C b v mb) :
    nc.getD (G (a ++ b) v (ma + mb) + (C a v ma + x)) 0 = nb.getD (G b v mb + x) 0 := by
  obtain ⟨i, hi, hs, rfl⟩ := C_find hx
  have h1 := graph_at gb hi hs
  have h2 := graph_at gc (v := v) (i := ma + i) (by omega) (by rw [cat_src_right ha]; exact hs)
  rw [cat_C_right ha v i] at h2
  rw [h1, h2, cat_dst_right ha]
theorem cat_src {a b : List Int} {n : Int} {ma mb : Nat} (ha : a.length = ma * 2) (h1 : SrcIn n a ma) (h2 : SrcIn n b mb) : SrcIn n (a ++ b) (ma + mb) := by
  intro i hi
  rcases Nat.lt_or_ge i ma with h | h
  · have e : (a ++ b).getD (i * 2) 0 = a.getD (i * 2) 0 := cat_src_left (b := b) ha h
    rw [e]; exact h1 i h
  · obtain ⟨j, rfl⟩ : ∃ j, i = ma + j := ⟨i - ma, by omega⟩
    have e : (a ++ b).getD ((ma + j) * 2) 0 = b.getD (j * 2) 0 := cat_src_right (b := b) ha
    rw [e]; exact h2 j (by omega)

theorem wpList_append_row {P : Program} {w : World} {ops : Array Oper} {rest : List Oper} {o : Oper} {a : Act} {Q : Exit → Act → World → Prop} (hgd : o.guard = none) (s x : Operand) (t : TypeId)
    (ho : o.op = .call { callee := .builtin .append, args := #[s, x], argTypes := #[t, t] })
    (base : Nat) (e : TypeId) (i : TypeInfo) (size : Nat) (ht : P.underlying t = some (.slice e)) (hi : P.info? e = some i) (hsize : i.size = size)
    (g n cap : Nat) (xs : List Value) (hs : a.eval s = .slice (some ⟨g, 0, none⟩) n cap) (hown : w.ownsRow base e size (.slice (some ⟨g, 0, none⟩) n cap) n xs)
    (ao : Option Addr) (m c : Nat) (news : List Value) (hx : a.eval x = .slice ao m c) (hnil : ao = none → m = 0 ∧ c = 0) (hl : news.length = m * size) (hnews : ∀ ad, ao = some ad → ∀ j u, news[j]? = some u → w.cell? (ad.add j) = some u) (h1 : ∀ u ∈ news, u.oneCell' = true)
    (hroom : n + m ≤ cap)
    (h : ∀ w', w'.ownsRow base e size (.slice (some ⟨g, 0, none⟩) (n + m) cap) (n + m) (xs ++ news) → w.grownBy w' (some g) → wpList P ops Q rest (a.put o.dst (.slice (some ⟨g, 0, none⟩) (n + m) cap)) w') : wpList P ops Q (o :: rest) a w := by
  cases ao with
  | none =>
    obtain ⟨rfl, rfl⟩ := hnil rfl
    have hn : news = [] := List.length_eq_zero_iff.1 (by simpa using hl)
    subst hn
    refine wpList_append_own_none hgd s x t ho base e i size ht hi (.slice (some ⟨g, 0, none⟩) n cap) n xs hs hown hx ?_
    exact h w (by simpa using hown) ⟨rfl, rfl, rfl, Nat.le_refl _, fun _ _ _ => rfl⟩
  | some ad => exact wpList_append_own_spare w hgd s x t ho base e i size ht hi hsize g n cap xs hs hown ad m c news hx hl (hnews ad rfl) h1 hroom h

end Go.Proofs.Qxb6601679aMods
