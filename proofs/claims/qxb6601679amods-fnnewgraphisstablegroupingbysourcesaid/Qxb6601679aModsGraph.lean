import Derived.Test.Qxb6601679aModsCl
import Derived.Deep.RegionHeld3
import Derived.Deep.DeepCutAuto
set_option linter.unusedVariables false
set_option linter.unusedSimpArgs false
namespace Go.Proofs.Qxb6601679aMods
open Go.RowKit

theorem mk25 (w : World) (n : Nat) (hn : n ≤ 1048576) : (Instr.makeSlice 25 (.int .i64 (n : Int)) (.int .i64 (n : Int))).run Trym.prog w = .ok (.slice (some ⟨w.heap.size, 0, none⟩) n n) (w.alloc (.cells (madeCells #[.int .i32 0] n) 21)) := by
  obtain ⟨i0, hi, hz0, hz1, hz2⟩ := info_parts Trym.info21
  have := run_make (P := Trym.prog) w 25 21 i0 (.int .i32 0) Trym.underlying25 hi hz0 .i64 .i64 (n : Int) (n : Int) (by omega) (Int.le_refl _) (by rw [hz2]; omega) (by omega)
  rw [hz1] at this
  simpa [Value.cells] using this

theorem four (w : World) (A B C D : Obj) : ((((w.alloc A).alloc B).alloc C).alloc D).drew.heap[w.heap.size]? = some A ∧ ((((w.alloc A).alloc B).alloc C).alloc D).drew.heap[w.heap.size + 1]? = some B ∧ ((((w.alloc A).alloc B).alloc C).alloc D).drew.heap[w.heap.size + 1 + 1]? = some C ∧ ((((w.alloc A).alloc B).alloc C).alloc D).drew.heap[w.heap.size + 1 + 1 + 1]? = some D := by
  have e : ((((w.alloc A).alloc B).alloc C).alloc D).drew.heap = (((w.heap.push A).push B).push C).push D := rfl
  rw [e]
  simp only [Array.getElem?_push, Array.size_push]
  refine ⟨?_, ?_, ?_, ?_⟩
  · rw [if_neg (by omega), if_neg (by omega), if_neg (by omega), if_pos trivial]
  · rw [if_neg (by omega), if_neg (by omega), if_pos trivial]
  · rw [if_neg (by omega), if_pos trivial]
  · rw [if_pos trivial]
theorem below_four (w : World) (A B C D : Obj) : Below w.heap.size w ((((w.alloc A).alloc B).alloc C).alloc D).drew :=
  (((((Below.refl _ w).alloc (Nat.le_refl _) A).alloc (by simp) B).alloc (by simp; omega) C).alloc (by simp; omega) D).drew
theorem blk_of {w : World} {g n : Nat} (h : w.heap[g]? = some (.cells (madeCells #[Value.int .i32 0] n) 21)) : Pre w g .i32 21 (List.replicate n 0) := by
  refine Blk.pre ?_
  unfold Blk
  rw [h]
  have : madeCells #[Value.int .i32 0] n = ints .i32 (List.replicate n 0) := by
    apply Array.toList_inj.1
    rw [toList_madeCells_one]
    simp [ints]
  rw [this]

structure Apart (B b1 b2 b3 : Nat) : Prop where
  l1 : B < b1
  l2 : B < b2
  l3 : B < b3
  n12 : b1 ≠ b2
  n13 : b1 ≠ b3
  n23 : b2 ≠ b3

/-- The graph under way. -/
structure Mem (w wr : World) (b1 b2 b3 n m : Nat) (fs ns : List Int) : Prop where
  below : Below w.heap.size w wr
  fst : Pre wr b1 .i32 21 fs
  nxt : Pre wr b2 .i32 21 ns
  res : wr.heap[w.heap.size]? = some (.cells #[.slice none 0 0, .slice none 0 0] 44 (0, 0))
  gr : wr.heap[b3]? = some (.cells #[.slice (some ⟨b1, 0, none⟩) (n + 1) (n + 1), .slice (some ⟨b2, 0, none⟩) m m] 44 (0, 0))

theorem Mem.grow {w wr wq : World} {b1 b2 b3 n m : Nat} {fs ns : List Int} (h : Mem w wr b1 b2 b3 n m fs ns) (hb : Below wr.heap.size wr wq) : Mem w wq b1 b2 b3 n m fs ns :=
  ⟨below_chain h.below hb, h.fst.below hb h.fst.lt, h.nxt.below hb h.nxt.lt, by rw [hb.block _ (lt_of_block h.res)]; exact h.res, by rw [hb.block _ (lt_of_block h.gr)]; exact h.gr⟩
theorem Mem.alloc {w wr : World} {b1 b2 b3 n m : Nat} {fs ns : List Int} (h : Mem w wr b1 b2 b3 n m fs ns) (o : Obj) : Mem w (wr.alloc o) b1 b2 b3 n m fs ns := h.grow ((Below.refl _ _).alloc (Nat.le_refl _) o)
theorem Mem.drew {w wr : World} {b1 b2 b3 n m : Nat} {fs ns : List Int} (h : Mem w wr b1 b2 b3 n m fs ns) : Mem w wr.drew b1 b2 b3 n m fs ns := h.grow ((Below.refl _ _).drew)
theorem Mem.setF {w wr : World} {b1 b2 b3 n m : Nat} {fs ns : List Int} (h : Mem w wr b1 b2 b3 n m fs ns) (ap : Apart w.heap.size b1 b2 b3) (j : Nat) (hj : j < fs.length) (x : Int) : Mem w (wr.setCell ⟨b1, j, none⟩ (.int .i32 x)) b1 b2 b3 n m (fs.set j x) ns :=
  ⟨h.below.setCell (Nat.le_of_lt ap.l1) _, h.fst.set j hj x, h.nxt.other _ _ (fun e => ap.n12 e.symm), by rw [heap_setCell_other _ _ _ _ (by have := ap.l1; simp; omega)]; exact h.res, by rw [heap_setCell_other _ _ _ _ (fun e => ap.n13 e.symm)]; exact h.gr⟩
theorem Mem.setN {w wr : World} {b1 b2 b3 n m : Nat} {fs ns : List Int} (h : Mem w wr b1 b2 b3 n m fs ns) (ap : Apart w.heap.size b1 b2 b3) (j : Nat) (hj : j < ns.length) (x : Int) : Mem w (wr.setCell ⟨b2, j, none⟩ (.int .i32 x)) b1 b2 b3 n m fs (ns.set j x) :=
  ⟨h.below.setCell (Nat.le_of_lt ap.l2) _, h.fst.other _ _ ap.n12, h.nxt.set j hj x, by rw [heap_setCell_other _ _ _ _ (by have := ap.l2; simp; omega)]; exact h.res, by rw [heap_setCell_other _ _ _ _ (fun e => ap.n23 e.symm)]; exact h.gr⟩
theorem Mem.setO {w wr : World} {b1 b2 b3 n m : Nat} {fs ns : List Int} (h : Mem w wr b1 b2 b3 n m fs ns) (g : Nat) (h0 : w.heap.size < g) (h1 : b1 ≠ g) (h2 : b2 ≠ g) (h3 : b3 ≠ g) (j : Nat) (x : Value) : Mem w (wr.setCell ⟨g, j, none⟩ x) b1 b2 b3 n m fs ns :=
  ⟨h.below.setCell (Nat.le_of_lt h0) _, h.fst.other _ _ h1, h.nxt.other _ _ h2, by rw [heap_setCell_other _ _ _ _ (by simp; omega)]; exact h.res, by rw [heap_setCell_other _ _ _ _ h3]; exact h.gr⟩
theorem Mem.cells {w wr : World} {b1 b2 b3 n m : Nat} {fs ns : List Int} (h : Mem w wr b1 b2 b3 n m fs ns) : wr.cell? ⟨b3, 0, none⟩ = some (.slice (some ⟨b1, 0, none⟩) (n + 1) (n + 1)) ∧ wr.cell? ⟨b3, 1, none⟩ = some (.slice (some ⟨b2, 0, none⟩) m m) := by
  have := h.gr
  constructor <;> simp [World.cell?, this]
theorem Mem.cellsR {w wr : World} {b1 b2 b3 n m : Nat} {fs ns : List Int} (h : Mem w wr b1 b2 b3 n m fs ns) : wr.cell? ⟨w.heap.size, 0, none⟩ = some (.slice none 0 0) ∧ wr.cell? ⟨w.heap.size, 1, none⟩ = some (.slice none 0 0) ∧ ∀ j, wr.frozen? ⟨w.heap.size, j, none⟩ = false := by
  have := h.res
  simp [World.cell?, World.frozen?, this]

/-- 'first' behind k pairs of the first loop. -/
def C1 (zs : List Int) (v t : Nat) : Int := if v = 0 then 0 else (C zs ((v : Int) - 1) t : Int)
theorem C1_start (zs : List Int) (v : Nat) : C1 zs v 0 = 0 := by unfold C1; split <;> rfl
theorem C1_hit {zs : List Int} {x t : Nat} (h : src zs t = x) : C1 zs (x + 1) (t + 1) = C1 zs (x + 1) t + 1 := by
  unfold C1
  rw [if_neg (by omega), if_neg (by omega), show ((x + 1 : Nat) : Int) - 1 = x by omega, C_succ_hit h]
  omega
theorem C1_miss {zs : List Int} {x t v : Nat} (h : src zs t = x) (hv : v ≠ x + 1) : C1 zs v (t + 1) = C1 zs v t := by
  unfold C1
  split
  · rfl
  · rw [C_succ_miss (by rw [h]; omega)]
theorem C1_le (zs : List Int) (v t : Nat) : 0 ≤ C1 zs v t ∧ C1 zs v t ≤ t := by
  unfold C1
  have := C_le zs ((v : Int) - 1) t
  split <;> omega
/-- .. behind k nodes of the second. -/
def C2 (zs : List Int) (m v k : Nat) : Int := if v ≤ k then (G zs v m : Int) else C1 zs v m
theorem getD_set_eq {l : List Int} {j : Nat} (h : j < l.length) (x : Int) : (l.set j x).getD j 0 = x := by simp [List.getD, h]
theorem getD_set_ne {l : List Int} {i j : Nat} (h : i ≠ j) (x : Int) : (l.set j x).getD i 0 = l.getD i 0 := by simp [List.getD, List.getElem?_set, h.symm]

set_option maxRecDepth 100000 in
set_option maxHeartbeats 4000000 in
theorem newGraph_any (n : Nat) (a : Option Addr) (m c : Nat) (zs : List Int) (w : World) (hz : zs.length = m * 2) (hn : n ≤ 65536) (hm : m ≤ 131072) (hr : Row w .i32 a zs) (hsrc : SrcIn n zs m) :
    Calls Trym.prog 27 #[.int .i64 n, .slice a m c] w fun e w' => ∃ (b1 b2 : Nat) (fs ns : List Int), e = .returned (.agg #[.slice (some ⟨b1, 0, none⟩) (n + 1) (n + 1), .slice (some ⟨b2, 0, none⟩) m m]) ∧ Below w.heap.size w w' ∧ Pre w' b1 .i32 21 fs ∧ Pre w' b2 .i32 21 ns ∧ IsGraph zs n m fs ns := by
  refine calls_all fun Q HQE => ?_
  have HS := hide hsrc
  clear hsrc
  have mk1 := fun w => mk25 w (n + 1) (by omega)
  have mk2 := fun w => mk25 w m (by omega)
  have e1 : ((n + 1 : Nat) : Int) = (n : Int) + 1 := by omega
  rw [e1] at mk1
  clear e1
  go_enter Trym.func27, Trym.ntmps27
  go_wp2
  go_cut [5, 12, 13, 14, 15, 16, 17, 18] (fun g _ _ _ _ _ _ _ wc => ∃ b1 b2 b3 : Nat, g = .pointer (some ⟨b3, 0, none⟩) ∧ Apart w.heap.size b1 b2 b3 ∧ Mem w wc b1 b2 b3 n m (List.replicate (n + 1) 0) (List.replicate m 0))
  case first =>
    go_region
    all_goals
      go_wp2
      go_meet
      case rel =>
        obtain ⟨h0, h1, h2, h3⟩ := four w _ _ _ _
        first
          | exact ⟨w.heap.size + 1, w.heap.size + 1 + 1, w.heap.size + 1 + 1 + 1, rfl, ⟨by omega, by omega, by omega, by omega, by omega, by omega⟩, below_four _ _ _ _ _, blk_of h1, blk_of h2, h0, h3⟩
          | exact ⟨w.heap.size + 1, w.heap.size + 1 + 1 + 1, w.heap.size + 1 + 1, rfl, ⟨by omega, by omega, by omega, by omega, by omega, by omega⟩, below_four _ _ _ _ _, blk_of h1, blk_of h3, h0, h2⟩
          | exact ⟨w.heap.size + 1 + 1, w.heap.size + 1, w.heap.size + 1 + 1 + 1, rfl, ⟨by omega, by omega, by omega, by omega, by omega, by omega⟩, below_four _ _ _ _ _, blk_of h2, blk_of h1, h0, h3⟩
          | exact ⟨w.heap.size + 1 + 1, w.heap.size + 1 + 1 + 1, w.heap.size + 1, rfl, ⟨by omega, by omega, by omega, by omega, by omega, by omega⟩, below_four _ _ _ _ _, blk_of h2, blk_of h3, h0, h1⟩
          | exact ⟨w.heap.size + 1 + 1 + 1, w.heap.size + 1, w.heap.size + 1 + 1, rfl, ⟨by omega, by omega, by omega, by omega, by omega, by omega⟩, below_four _ _ _ _ _, blk_of h3, blk_of h1, h0, h2⟩
          | exact ⟨w.heap.size + 1 + 1 + 1, w.heap.size + 1 + 1, w.heap.size + 1, rfl, ⟨by omega, by omega, by omega, by omega, by omega, by omega⟩, below_four _ _ _ _ _, blk_of h3, blk_of h2, h0, h1⟩
  case rest =>
    clear mk1 mk2
    obtain ⟨b1, b2, b3, rfl, ap, hmem⟩ := hcut
    obtain ⟨w1, hw1⟩ : ∃ x, x = wc := ⟨wc, rfl⟩
    subst hw1
    go_wp2
    go_loopw [21] (fun i wr => ∃ (k : Nat) (fs : List Int), k ≤ m ∧ i = .int .i64 k ∧ Mem w wr b1 b2 b3 n m fs (List.replicate m 0) ∧ Hid (fs.length = n + 1 ∧ ∀ v, v ≤ n → fs.getD v 0 = C1 zs v k)) (fun i _ => m - (intOf i).toNat)
    case atStart => exact ⟨0, _, Nat.zero_le _, rfl, hmem, by simp, fun v hv => by rw [C1_start]; simp [List.getD, List.getElem?_replicate, show v < n + 1 by omega]⟩
    case round =>
      obtain ⟨k, fs, hk, rfl, hmr, hfs⟩ := hrel
      by_cases hlt : k < m
      · obtain ⟨b, off, hx, hc⟩ := hr.below hmr.below (by omega)
        subst hx
        have hck := hc (k * 2) (by omega)
        have hck' := hc (k * 2 + 1) (by omega)
        rw [← Nat.add_assoc] at hck'
        obtain ⟨hx0, hx1⟩ := unhide HS k hlt
        obtain ⟨xn, hxn⟩ : ∃ xn : Nat, zs.getD (k * 2) 0 = (xn : Int) := ⟨(zs.getD (k * 2) 0).toNat, by omega⟩
        have hC := fun h => C1_hit (zs := zs) (x := xn) (t := k) h
        rw [hxn] at hck hx0 hx1
        generalize zs.getD (k * 2 + 1) 0 = y at hck'
        have hfl := hfs.out.1
        have hfc := hmr.fst.cell (xn + 1) (by omega)
        have hff := hmr.fst.frozen (xn + 1)
        have hfv := hfs.out.2 (xn + 1) (by omega)
        have hfb := C1_le zs (xn + 1) k
        rw [hfv] at hfc
        generalize hC1 : C1 zs (xn + 1) k = f0 at hfc hfb
        have HC1 := hide hC1
        have HX := hide hxn
        obtain ⟨hf1, hf2⟩ := hfb
        obtain ⟨g0, g1⟩ := hmr.cells
        have HM := hide hmr
        have hl1 := hmr.fst.lt
        have hl3 := lt_of_block hmr.gr
        have n13 := ap.n13
        clear hc hfv hC hxn hC1
        go_wp2
        go_roundw
        case rel =>
          refine ⟨k + 1, fs.set (xn + 1) (f0 + 1), by omega, by go_num, ((unhide HM).setF ap (xn + 1) (by omega) _).alloc _, by simp [hfl], fun v hv => ?_⟩
          by_cases hvx : v = xn + 1
          · subst hvx
            rw [getD_set_eq (by omega), C1_hit (unhide HX), unhide HC1]
          · rw [getD_set_ne hvx, C1_miss (unhide HX) hvx]
            exact hfs.out.2 v hv
        case measure => simp [intOf]; omega
      · have hkm : k = m := by omega
        subst hkm
        obtain ⟨w2, hw2⟩ : ∃ x, x = wr := ⟨wr, rfl⟩
        subst hw2
        clear hmem
        go_wp2
        go_loopw [36] (fun i wr => ∃ (q : Nat) (gs : List Int), q ≤ n ∧ i = .int .i64 q ∧ Mem w wr b1 b2 b3 n k gs (List.replicate k 0) ∧ Hid (gs.length = n + 1 ∧ ∀ v, v ≤ n → gs.getD v 0 = C2 zs k v q)) (fun i _ => n - (intOf i).toNat)
        case atStart =>
          refine ⟨0, fs, Nat.zero_le _, rfl, hmr, hfs.out.1, fun v hv => ?_⟩
          rw [hfs.out.2 v hv]
          unfold C2
          split
          · have : v = 0 := by omega
            subst this
            show C1 zs 0 k = ((G zs 0 k : Nat) : Int)
            rw [G_zero (unhide HS)]; rfl
          · rfl
        case round =>
          clear hmr hfs
          obtain ⟨q, gs, hq, rfl, hmr, hfs⟩ := hrel
          by_cases hqn : q < n
          · have hl := hfs.out.1
            have hc0 := hmr.fst.cell q (by omega)
            have hc1 := hmr.fst.cell (q + 1) (by omega)
            have hff := hmr.fst.frozen (q + 1)
            have hv0 := hfs.out.2 q (by omega)
            have hv1 := hfs.out.2 (q + 1) (by omega)
            have hsum : (G zs ((q : Int) + 1) k : Int) = G zs q k + C zs q k := by rw [G_succ]; omega
            have hG0 := G_le zs ((q : Int) + 1) k
            have hv0' : gs.getD q 0 = (G zs q k : Int) := by rw [hv0]; unfold C2; rw [if_pos (Nat.le_refl _)]
            have hv1' : gs.getD (q + 1) 0 = (C zs q k : Int) := by rw [hv1]; unfold C2 C1; rw [if_neg (by omega), if_neg (by omega), show ((q + 1 : Nat) : Int) - 1 = q by omega]
            rw [hv0'] at hc0
            rw [hv1'] at hc1
            generalize G zs q k = x0 at hc0 hsum
            generalize C zs q k = x1 at hc1 hsum
            have HSUM := hide hsum
            have hsb : (x0 : Int) + x1 ≤ 131072 := by omega
            obtain ⟨g0, g1⟩ := hmr.cells
            have HM := hide hmr
            have n13 := ap.n13
            clear hv0 hv1 hv0' hv1' hsum
            go_wp2
            go_region
            go_wp2
            go_roundw
            case rel =>
              refine ⟨q + 1, gs.set (q + 1) ((x1 : Int) + x0), by omega, by go_num, ((unhide HM).setF ap (q + 1) (by omega) _).drew, by simp [hl], fun v hv => ?_⟩
              by_cases hvq : v = q + 1
              · subst hvq
                rw [getD_set_eq (by omega)]
                unfold C2
                rw [if_pos (Nat.le_refl _), show ((q + 1 : Nat) : Int) = (q : Int) + 1 by omega, unhide HSUM]
                omega
              · rw [getD_set_ne hvq, hfs.out.2 v hv]
                unfold C2
                by_cases h2 : v ≤ q
                · rw [if_pos h2, if_pos (by omega)]
                · rw [if_neg h2, if_neg (by omega)]
            case measure => simp [intOf]; omega
          · have hqq : q = n := by omega
            subst hqq
            obtain ⟨w3, hw3⟩ : ∃ x, x = wr := ⟨wr, rfl⟩
            subst hw3
            have hF : ∀ v, v ≤ q → gs.getD v 0 = (G zs v k : Int) := fun v hv => by rw [hfs.out.2 v hv]; unfold C2; rw [if_pos hv]
            have hl := hfs.out.1
            have HF := hide hF
            obtain ⟨g0, g1⟩ := hmr.cells
            have hrow : Row w3 .i32 (some ⟨b1, 0, none⟩) (gs.take q) := fun h0 => ⟨b1, 0, rfl, fun i hi => by
              have hi' : i < q := by simp at hi; omega
              rw [Nat.zero_add, hmr.fst.cell i (by omega)]
              simp [List.getD, hi']⟩
            have HM := hide hmr
            have l3 : w.heap.size < w3.heap.size := lt_of_block hmr.res
            clear hfs hF
            go_wp2_with fail
            refine (clone30 ⟨b1, 0, none⟩ q _ (gs.take q) _ (by simp [hl]) (by omega) hrow).mono ?_
            rintro e w4 ⟨b4, cap4, rfl, hb4, hge4, hp4⟩
            have hm4 := (unhide HM).grow hb4
            have HM4 := hide hm4
            have n1 : b1 ≠ b4 := fun e => by have := (unhide HM).fst.lt; omega
            have n2 : b2 ≠ b4 := fun e => by have := (unhide HM).nxt.lt; omega
            have n3 : b3 ≠ b4 := fun e => by have := lt_of_block (unhide HM).gr; omega
            clear g0 g1 hrow hb4 hm4
            go_wp2
            go_loopw [60] (fun i wr => ∃ (t : Nat) (hs ns : List Int), t ≤ k ∧ i = .int .i64 t ∧ Mem w wr b1 b2 b3 q k gs ns ∧ Pre wr b4 .i32 21 hs ∧ Hid (hs.length = q ∧ (∀ v, v < q → hs.getD v 0 = (G zs v k : Int) + C zs v t) ∧ ns.length = k ∧ ∀ i, i < t → ns.getD (pos zs k i) 0 = dst zs i)) (fun i _ => k - (intOf i).toNat)
            case atStart =>
              refine ⟨0, gs.take q, List.replicate k 0, Nat.zero_le _, rfl, unhide HM4, hp4, by simp [hl], fun v hv => ?_, by simp, fun i hi => by omega⟩
              have : (gs.take q).getD v 0 = gs.getD v 0 := by simp [List.getD, hv]
              rw [this, unhide HF v (by omega)]
              show _ = _ + ((0 : Nat) : Int)
              omega
            case round =>
              clear hp4
              obtain ⟨t, hs, ns, ht, rfl, hmr, hpr, hfs⟩ := hrel
              by_cases htk : t < k
              · obtain ⟨b, off, hx, hc⟩ := hr.below hmr.below (by omega)
                cases hx
                have hck := hc (t * 2) (by omega)
                have hck' := hc (t * 2 + 1) (by omega)
                rw [← Nat.add_assoc] at hck'
                obtain ⟨hx0, hx1⟩ := unhide HS t htk
                obtain ⟨xn, hxn⟩ : ∃ xn : Nat, zs.getD (t * 2) 0 = (xn : Int) := ⟨(zs.getD (t * 2) 0).toNat, by omega⟩
                rw [hxn] at hck hx0 hx1
                have hxs : src zs t = (xn : Int) := hxn
                have hyd : dst zs t = zs.getD (t * 2 + 1) 0 := rfl
                generalize zs.getD (t * 2 + 1) 0 = y at hck' hyd
                have HX := hide hxs
                have HY := hide hyd
                have hpos := pos_lt (zs := zs) htk
                have hpe : (pos zs k t : Int) = (G zs xn k : Int) + C zs xn t := by unfold pos; rw [hxs]; omega
                have hpc := hpr.cell xn (by rw [hfs.out.1]; omega)
                rw [hfs.out.2.1 xn (by omega), ← hpe] at hpc
                have hpf := hpr.frozen xn
                have hnc := hmr.nxt.cell (pos zs k t) (by rw [hfs.out.2.2.1]; exact hpos)
                have hnf := hmr.nxt.frozen (pos zs k t)
                have HPE := hide hpe
                have HPR := hide hpr
                have HM := hide hmr
                obtain ⟨p, hp⟩ : ∃ p, p = pos zs k t := ⟨_, rfl⟩
                rw [← hp] at hpc hnc hnf hpos
                generalize ns.getD p 0 = z0 at hnc
                have HP := hide hp
                obtain ⟨o, ho⟩ : ∃ o, o = Obj.cells #[Value.int .i32 (xn : Int), Value.int .i32 y] 28 := ⟨_, rfl⟩
                have hpc5 : (wr.alloc o).cell? ⟨b4, xn, none⟩ = some (.int .i32 (p : Int)) := by
                  rw [((Below.refl wr.heap.size wr).alloc (Nat.le_refl _) o).cell (p := ⟨b4, xn, none⟩) (unhide HPR).lt]; exact hpc
                have hpf5 : (wr.alloc o).frozen? ⟨b4, xn, none⟩ = false := ((unhide HPR).alloc o).frozen xn
                have hnc5 : (wr.alloc o).cell? ⟨b2, p, none⟩ = some (.int .i32 z0) := by
                  rw [((Below.refl wr.heap.size wr).alloc (Nat.le_refl _) o).cell (p := ⟨b2, p, none⟩) (unhide HM).nxt.lt]; exact hnc
                have hnf5 : (wr.alloc o).frozen? ⟨b2, p, none⟩ = false := ((unhide HM).alloc o).nxt.frozen p
                have hm5 := hmr.alloc o
                obtain ⟨g0, g1⟩ := hmr.cells
                obtain ⟨g05, g15⟩ := hm5.cells
                have c05 : (wr.alloc o).cell? ⟨wr.heap.size, 0, none⟩ = some (.int .i32 (xn : Int)) := by
                  rw [ho, cell_of_row _ _ _ _ _ (0, 0) (heap_alloc_new wr _)]; rfl
                have c15 : (wr.alloc o).cell? ⟨wr.heap.size, 1, none⟩ = some (.int .i32 y) := by
                  rw [ho, cell_of_row _ _ _ _ _ (0, 0) (heap_alloc_new wr _)]; rfl
                have n26 : b2 ≠ wr.heap.size := fun e => by have := hmr.nxt.lt; omega
                have n46 : b4 ≠ wr.heap.size := fun e => by have := hpr.lt; omega
                have hp5 := hpr.alloc o
                have HM5 := hide hm5
                have HP5 := hide hp5
                clear hc hxn hxs hyd hpe hp hmr hpr hm5 hp5 hpc hpf hnc hnf HM HPR
                go_wp2
                rw [← ho]
                generalize wr.alloc o = w5 at *
                generalize wr.heap.size = b6 at *
                clear g0 g1
                go_region
                go_wp2
                go_roundw
                case rel =>
                  refine ⟨t + 1, hs.set xn ((p : Int) + 1), ns.set p y, by omega, by go_num, ?_, ?_, ?_⟩
                  · exact (((unhide HM5).setN ap p (by rw [hfs.out.2.2.1]; exact hpos) _).drew).setO b4 (by omega) n1 n2 n3 _ _
                  · exact (Pre.other (unhide HP5) _ _ (fun e => n2 e.symm)).set xn (by rw [hfs.out.1]; omega) _
                  · refine ⟨by simp [hfs.out.1], fun v hv => ?_, by simp [hfs.out.2.2.1], fun i hi => ?_⟩
                    · by_cases hvx : v = xn
                      · subst hvx
                        rw [getD_set_eq (by rw [hfs.out.1]; exact hv), C_succ_hit (unhide HX), unhide HP, unhide HPE]
                        omega
                      · rw [getD_set_ne hvx, C_succ_miss (by rw [unhide HX]; omega)]
                        exact hfs.out.2.1 v hv
                    · by_cases hit : i = t
                      · subst hit
                        rw [← unhide HP, getD_set_eq (by rw [hfs.out.2.2.1]; exact hpos), unhide HY]
                      · have hpi := pos_inj (zs := zs) (m := k) (i := i) (j := t) (by omega) htk hit
                        rw [getD_set_ne (by rw [unhide HP]; exact hpi)]
                        exact hfs.out.2.2.2 i (by omega)
                case measure => simp [intOf]; omega
              · have htt : t = k := by omega
                subst htt
                obtain ⟨g0, g1⟩ := hmr.cells
                obtain ⟨r0, r1, rf⟩ := hmr.cellsR
                have HM := hide hmr
                go_wp2
                refine bodyPost_ret (v := .agg #[.slice (some ⟨b1, 0, none⟩) (q + 1) (q + 1), .slice (some ⟨b2, 0, none⟩) t t]) (by simp [results, Trym.results27, go_sem, r0, r1, rf]) rfl ?_
                refine unhide HQE _ _ ⟨b1, b2, gs, ns, rfl, ?_, ?_, ?_, ⟨hl, hfs.out.2.2.1, unhide HF, hfs.out.2.2.2⟩⟩
                · exact ((unhide HM).below.setCell (Nat.le_refl _) _).setCell (Nat.le_refl _) _
                · exact ((unhide HM).fst.other _ _ (by have := ap.l1; simp; omega)).other _ _ (by have := ap.l1; simp; omega)
                · exact ((unhide HM).nxt.other _ _ (by have := ap.l2; simp; omega)).other _ _ (by have := ap.l2; simp; omega)

end Go.Proofs.Qxb6601679aMods
