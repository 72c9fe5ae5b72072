import Derived.Test.Qxb6600623aModsDense
import Derived.Test.Qxb6600623aModsMarkLaw
import Derived.BigQuiet
import Derived.Deep.QuietTactic
set_option linter.unusedVariables false
set_option linter.unusedSimpArgs false
namespace Go.Proofs.Qxb6600623aMods
open Go.RowKit

def sliceLen : Value → Nat | .slice _ n _ => n | _ => 0

theorem gr_refl (w : World) (r : Option Nat) : w.grownBy w r := ⟨rfl, rfl, rfl, Nat.le_refl _, fun _ _ _ => rfl⟩
theorem gr_alloc {w wr : World} {r : Option Nat} (h : w.grownBy wr r) (o : Obj) : w.grownBy (wr.alloc o) r :=
  ⟨h.os, h.tape, h.output, by have := h.size; simp; omega, fun k hk hn => (Below.heap_alloc wr o k (by have := h.size; omega)).trans (h.block k hk hn)⟩
theorem gr_set {w wr : World} {g : Nat} (h : w.grownBy wr (some g)) (j : Nat) (v : Value) : w.grownBy (wr.setCell ⟨g, j, none⟩ v) (some g) :=
  ⟨h.os, h.tape, h.output, by have := h.size; simpa using this, fun k hk hn => (heap_setCell_other wr ⟨g, j, none⟩ k v (fun e => hn (by simp [e]))).trans (h.block k hk hn)⟩
theorem gr_drew {w wr : World} {r : Option Nat} (h : w.grownBy wr r) : w.grownBy wr.drew r := ⟨h.os, h.tape, h.output, h.size, h.block⟩
theorem Row.grown {w w' : World} {k : IntKind} {a : Option Addr} {zs : List Int} {g : Nat} (h : Row w k a zs) (hg : w.grownBy w' (some g)) (hn : ∀ x, a = some x → x.block ≠ g) : Row w' k a zs := by
  intro hl
  obtain ⟨b, off, ha, hc⟩ := h hl
  refine ⟨b, off, ha, fun i hi => ?_⟩
  exact hg.cell (hc i hi) (fun e => hn _ ha (by simpa using e))

/-- A block of two cells. -/
theorem two_cell0 {w : World} {b : Nat} {x y : Value} {t : TypeId} (h : w.heap[b]? = some (.cells #[x, y] t (0, 0))) : w.cell? ⟨b, 0, none⟩ = some x := by simp [World.cell?, h]
theorem two_cell1 {w : World} {b : Nat} {x y : Value} {t : TypeId} (h : w.heap[b]? = some (.cells #[x, y] t (0, 0))) : w.cell? ⟨b, 1, none⟩ = some y := by simp [World.cell?, h]

/-- Memory while markExcept goes: the two boxes of its own, the bitmap, all else as it was. -/
structure Mem (w wr : World) (g : Nat) (p q : Array Value) (n4 : Nat) (A : List Int) : Prop where
  grown : w.grownBy wr (some g)
  boxp : wr.heap[w.heap.size]? = some (.cells p 57 (0, 0))
  boxq : wr.heap[w.heap.size + 1]? = some (.cells q 57 (0, 0))
  blk : 0 < n4 → Blk wr g .u64 29 A

theorem Mem.drew {w wr : World} {g : Nat} {p q : Array Value} {n4 : Nat} {A : List Int} (h : Mem w wr g p q n4 A) : Mem w wr.drew g p q n4 A := ⟨gr_drew h.grown, h.boxp, h.boxq, h.blk⟩
theorem Mem.drewN {w wr : World} {g : Nat} {p q : Array Value} {n4 : Nat} {A : List Int} (h : Mem w wr g p q n4 A) (n : Nat) : Mem w (wr.drewN n) g p q n4 A := ⟨⟨h.grown.os, h.grown.tape, h.grown.output, h.grown.size, h.grown.block⟩, h.boxp, h.boxq, h.blk⟩
theorem Mem.set {w wr : World} {g : Nat} {p q : Array Value} {n4 : Nat} {A : List Int} (h : Mem w wr g p q n4 A) (hg : g < w.heap.size) (hn : 0 < n4) (j : Nat) (x : Int) : Mem w (wr.setCell ⟨g, j, none⟩ (.int .u64 x)) g p q n4 (A.set j x) :=
  ⟨gr_set h.grown _ _, (heap_setCell_other wr ⟨g, j, none⟩ _ _ (show w.heap.size ≠ g by omega)).trans h.boxp, (heap_setCell_other wr ⟨g, j, none⟩ _ _ (show w.heap.size + 1 ≠ g by omega)).trans h.boxq, fun _ => (h.blk hn).set j x⟩
theorem Mem.start {w : World} {g : Nat} {p q : Array Value} {n4 : Nat} {A : List Int} (hb : 0 < n4 → Blk w g .u64 29 A) : Mem w ((w.alloc (.cells p 57)).alloc (.cells q 57)) g p q n4 A := by
  refine ⟨gr_alloc (gr_alloc (gr_refl _ _) _) _, ?_, ?_, fun h => ((hb h).alloc _).alloc _⟩
  · rw [Below.heap_alloc _ _ _ (by simp)]; exact heap_alloc_new w _
  · have := heap_alloc_new (w.alloc (.cells p 57)) (.cells q 57)
    simpa using this

/-- What is left of q's list: from its d-th place on. -/
structure Lft (bq oq n2 d r : Nat) (al : Option Addr) : Prop where
  sum : d + r = n2
  addr : 0 < r → al = some ⟨bq, oq + d, none⟩

/-- What was left behind lies below all places of p to come. -/
def Low (ql pl : List Int) (d k n0 : Nat) : Prop := ∀ i, i < d → ∀ k', k ≤ k' → k' < n0 → ql.getD i 0 < pl.getD k' 0
def LowB (ql : List Int) (d : Nat) (x : Int) : Prop := ∀ i, i < d → ql.getD i 0 < x

set_option maxRecDepth 100000 in
set_option maxHeartbeats 2000000 in
theorem mark_any (a0 : Option Addr) (n0 : Nat) (pl : List Int) (a1 : Option Addr) (n1 : Nat) (pb : List Int) (a2 : Option Addr) (n2 : Nat) (ql : List Int) (a3 : Option Addr) (n3 : Nat) (qb : List Int) (a4 : Option Addr) (n4 g : Nat) (A0 : List Int) (w : World) (qn : Bool)
    (h0 : pl.length = n0) (b0 : n0 ≤ 1048576) (r0 : Row w .i64 a0 pl) (i0 : In64 pl) (g0 : ∀ x, a0 = some x → x.block ≠ g)
    (h1 : pb.length = n1) (b1 : n1 ≤ 1048576) (r1 : Row w .u64 a1 pb) (i1 : AllU pb) (g1 : ∀ x, a1 = some x → x.block ≠ g)
    (h2 : ql.length = n2) (b2 : n2 ≤ 1048576) (r2 : Row w .i64 a2 ql) (i2 : In64 ql) (g2 : ∀ x, a2 = some x → x.block ≠ g)
    (h3 : qb.length = n3) (b3 : n3 ≤ 1048576) (r3 : Row w .u64 a3 qb) (i3 : AllU qb) (g3 : ∀ x, a3 = some x → x.block ≠ g) (hqn : a3.isNone = qn)
    (h4 : A0.length = n4) (b4 : n4 ≤ 1048576) (i4 : AllU A0) (hg : g < w.heap.size) (hblk : 0 < n4 → a4 = some ⟨g, 0, none⟩ ∧ Blk w g .u64 29 A0)
    (hP : Prem pl n1 ql n3 qn n4) :
    Calls Trym.prog 37 #[.agg #[.slice a0 n0 n0, .slice a1 n1 n1], .slice a4 n4 n4, .agg #[.slice a2 n2 n2, .slice a3 n3 n3]] w fun e w' => e = .returned (.tuple #[]) ∧ w.grownBy w' (some g) ∧
      ∃ A, (0 < n4 → Blk w' g .u64 29 A) ∧ M3 A0 pl pb ql qb qn n1 n4 A := by
  refine calls_all fun Q HQE => ?_
  obtain ⟨bq, oq, hq2, hqc⟩ : ∃ bq oq, (0 < n2 → a2 = some ⟨bq, oq, none⟩) ∧ ∀ i, i < n2 → w.cell? ⟨bq, oq + i, none⟩ = some (.int .i64 (ql.getD i 0)) := by
    by_cases h : 0 < n2
    · obtain ⟨b, off, e, hc⟩ := r2 (by omega)
      exact ⟨b, off, fun _ => e, fun i hi => hc i (by omega)⟩
    · exact ⟨0, 0, fun h' => absurd h' h, fun i hi => by omega⟩
  have hne := run_neq_slice_nil_any (P := Trym.prog)
  go_enter Trym.func37, Trym.ntmps37
  go_wp2
  have HB := hide hblk
  have HQ2 := hide hq2
  have HQC := hide hqc
  clear hblk hq2 hqc
  go_loopw [6, 16] (fun l i wr => ∃ (k d r : Nat) (A : List Int) (al : Option Addr), k ≤ n0 ∧ i = .int .i64 k ∧ l = .slice al r r ∧ Mem w wr g #[.slice a0 n0 n0, .slice a1 n1 n1] #[.slice a2 n2 n2, .slice a3 n3 n3] n4 A ∧ Lft bq oq n2 d r al ∧ Low ql pl d k n0 ∧ M1 A0 pl ql qb qn k n4 A)
    (fun _ i _ => n0 - (intOf i).toNat)
  case atStart =>
    exact ⟨0, 0, n2, A0, a2, Nat.zero_le _, rfl, rfl, Mem.start (fun h => (unhide HB h).2), ⟨by omega, fun h => unhide HQ2 h⟩, fun i hi => absurd hi (Nat.not_lt_zero _), M1_start pl ql qb qn h4 i4⟩
  case round =>
    obtain ⟨k, d, r, A, al, hk, rfl, rfl, hmem, hlft, hlow, hM⟩ := hrel
    have hAl := hM.1
    by_cases hlt : k < n0
    · obtain ⟨b, off, hx, hc⟩ := r0.grown hmem.grown g0 (by omega)
      subst hx
      have hck := hc k (by omega)
      have hbd := i0 k (by omega)
      have hpin := hP.pin k (by omega)
      generalize hxk : pl.getD k 0 = x at hck hbd hpin
      obtain ⟨bd1, bd2⟩ := hbd
      obtain ⟨x0, x1, x2⟩ := hpin
      obtain ⟨m, rfl⟩ := Int.eq_ofNat_of_zero_le x0
      have x1' : m / 64 < n4 := by omega
      have HX := hide hxk
      have HX2 := hide x2
      clear hxk hc x2
      have hpos : 0 < n4 := by omega
      obtain rfl := (unhide HB hpos).1
      have hbk := hmem.blk hpos
      have hfz := hbk.frozen (m / 64)
      have hwc := hbk.cell (m / 64) (by omega)
      have hMs := fun (hn : inq ql qb qn m = false) => M1_set (by omega) (unhide HX) x1' hn hM
      have hMk := fun (hn : inq ql qb qn m = true) => M1_skip (by omega) (unhide HX) hn hM
      generalize A.getD (m / 64) 0 = z at hwc hMs
      have HMS := hide hMs
      have HMK := hide hMk
      have hq1 := two_cell1 hmem.boxq
      have HMEM := hide hmem
      clear hMs hMk hbk hmem
      go_wp2
      go_loop [6] (fun l => ∃ (d' r' : Nat) (al' : Option Addr), l = .slice al' r' r' ∧ Lft bq oq n2 d' r' al' ∧ LowB ql d' m) (fun l => sliceLen l)
      case atStart => exact ⟨d, r, al, rfl, hlft, fun i hi => by have := hlow i hi k (Nat.le_refl _) hlt; rw [unhide HX] at this; exact this⟩
      case round =>
        obtain ⟨d', r', al', rfl, hl', hlb⟩ := hrel
        rcases r' with _ | r'
        · have hsum := hl'.sum
          have HN : Hid (decide ((m : Int) ∈ ql) = false) := decide_eq_false (fun h => by have := (mem_left hP.qdec hlb (fun h => by omega)).1 h; omega)
          clear hsum
          cases hqv : qn
          · -- q has a bitmap
            rw [hqv] at hqn
            have x2 := unhide HX2 hqv
            obtain ⟨b3', o3, hx3, hc3⟩ := (r3.grown (unhide HMEM).grown g3) (by omega)
            subst hx3
            have hc3k := hc3 (m / 64) (by omega)
            have hu := i3 (m / 64)
            have hinq : inq ql qb qn m = tb (qb.getD (m / 64) 0) (m % 64) := by unfold inq bt; rw [unhide HN, hqv]; simp
            generalize qb.getD (m / 64) 0 = v at hc3k hu hinq
            have hbit := and_bit_ne hu m
            have x2' : (m : Int) / 64 < (n3 : Int) := x2
            unfold bitw at hbit
            clear hc3
            cases hv : tb v (m % 64)
            · rw [hv] at hbit hinq
              have HI := hide hinq
              clear hinq hv hqv
              go_wp2
              go_quiet (fail)
              go_wp2
              go_region
              all_goals go_wp2
              all_goals go_roundw
              case rel => exact ⟨k + 1, d', 0, _, _, by omega, by go_num, rfl, ((unhide HMEM).drewN _).set hg hpos _ _, hl', fun i hi k' h1 h2 => Int.lt_of_lt_of_le (hlb i hi) (by rw [← unhide HX]; exact nonDec_le hP.pdec (by omega) (by omega)), unhide HMS (unhide HI)⟩
              case measure => simp [intOf]; omega
            · rw [hv] at hbit hinq
              have HI := hide hinq
              clear hinq hv hqv
              go_wp2
              go_quiet (fail)
              go_wp2
              all_goals go_roundw
              case rel => exact ⟨k + 1, d', 0, _, _, by omega, by go_num, rfl, (unhide HMEM).drewN _, hl', fun i hi k' h1 h2 => Int.lt_of_lt_of_le (hlb i hi) (by rw [← unhide HX]; exact nonDec_le hP.pdec (by omega) (by omega)), unhide HMK (unhide HI)⟩
              case measure => simp [intOf]; omega
          · -- q has no bitmap
            rw [hqv] at hqn
            have hinq : inq ql qb qn m = false := by unfold inq; rw [unhide HN, hqv]; simp
            have HI := hide hinq
            clear hinq hqv
            go_wp2
            go_quiet (fail)
            go_wp2
            go_region
            all_goals go_wp2
            all_goals go_roundw
            case rel => exact ⟨k + 1, d', 0, _, _, by omega, by go_num, rfl, ((unhide HMEM).drewN _).set hg hpos _ _, hl', fun i hi k' h1 h2 => Int.lt_of_lt_of_le (hlb i hi) (by rw [← unhide HX]; exact nonDec_le hP.pdec (by omega) (by omega)), unhide HMS (unhide HI)⟩
            case measure => simp [intOf]; omega
        · obtain rfl := hl'.addr (by omega)
          have hsum := hl'.sum
          have hbg : bq ≠ g := by have := g2 _ (unhide HQ2 (by omega)); exact this
          have hcy := (unhide HMEM).grown.cell (unhide HQC d' (by omega)) (fun e => hbg (by simpa using e))
          have hyb := i2 d' (by omega)
          have hyl := fun h => (mem_left (x := (m : Int)) hP.qdec hlb h)
          generalize hyk : ql.getD d' 0 = y at hcy hyb hyl
          have HYL := hide hyl
          have HY := hide hyk
          have HSUM := hide hsum
          clear hyk hsum hyl
          by_cases hy : y < m
          · go_wp2
            go_round
            case rel =>
              refine ⟨d' + 1, r', _, rfl, ⟨by have := unhide HSUM; omega, fun h => by rw [if_neg (by omega)]; rfl⟩, fun i hi => ?_⟩
              rcases Nat.lt_or_ge i d' with h | h
              · exact hlb i h
              · have : i = d' := by omega
                subst this
                rw [unhide HY]; exact hy
            case measure => simp [sliceLen]
          · by_cases hy2 : y = m
            · subst hy2
              have HI : Hid (inq ql qb qn m = true) := by
                have h := (unhide HYL (fun _ => Int.le_refl _)).2 ⟨by have := unhide HSUM; omega, rfl⟩
                show inq ql qb qn m = true
                unfold inq
                rw [decide_eq_true h, Bool.true_or]
              go_wp2
              go_quiet (fail)
              go_wp2
              all_goals go_roundw
              case rel => exact ⟨k + 1, d', r' + 1, _, _, by omega, by go_num, rfl, (unhide HMEM).drewN _, hl', fun i hi k' h1 h2 => Int.lt_of_lt_of_le (hlb i hi) (by rw [← unhide HX]; exact nonDec_le hP.pdec (by omega) (by omega)), unhide HMK (unhide HI)⟩
              case measure => simp [intOf]; omega
            · have HN : Hid (decide ((m : Int) ∈ ql) = false) := decide_eq_false (fun h => by have := (unhide HYL (fun _ => by omega)).1 h; omega)
              have hy3 : (y == (m : Int)) = false := by simp [hy2]
              cases hqv : qn
              · -- q has a bitmap
                rw [hqv] at hqn
                have x2 := unhide HX2 hqv
                obtain ⟨b3', o3, hx3, hc3⟩ := (r3.grown (unhide HMEM).grown g3) (by omega)
                subst hx3
                have hc3k := hc3 (m / 64) (by omega)
                have hu := i3 (m / 64)
                have hinq : inq ql qb qn m = tb (qb.getD (m / 64) 0) (m % 64) := by unfold inq bt; rw [unhide HN, hqv]; simp
                generalize qb.getD (m / 64) 0 = v at hc3k hu hinq
                have hbit := and_bit_ne hu m
                have x2' : (m : Int) / 64 < (n3 : Int) := x2
                unfold bitw at hbit
                clear hc3
                cases hv : tb v (m % 64)
                · rw [hv] at hbit hinq
                  have HI := hide hinq
                  clear hinq hv hqv
                  go_wp2
                  go_quiet (fail)
                  go_wp2
                  go_region
                  all_goals go_wp2
                  all_goals go_roundw
                  case rel => exact ⟨k + 1, d', (r' + 1), _, _, by omega, by go_num, rfl, ((unhide HMEM).drewN _).set hg hpos _ _, hl', fun i hi k' h1 h2 => Int.lt_of_lt_of_le (hlb i hi) (by rw [← unhide HX]; exact nonDec_le hP.pdec (by omega) (by omega)), unhide HMS (unhide HI)⟩
                  case measure => simp [intOf]; omega
                · rw [hv] at hbit hinq
                  have HI := hide hinq
                  clear hinq hv hqv
                  go_wp2
                  go_quiet (fail)
                  go_wp2
                  all_goals go_roundw
                  case rel => exact ⟨k + 1, d', (r' + 1), _, _, by omega, by go_num, rfl, (unhide HMEM).drewN _, hl', fun i hi k' h1 h2 => Int.lt_of_lt_of_le (hlb i hi) (by rw [← unhide HX]; exact nonDec_le hP.pdec (by omega) (by omega)), unhide HMK (unhide HI)⟩
                  case measure => simp [intOf]; omega
              · -- q has no bitmap
                rw [hqv] at hqn
                have hinq : inq ql qb qn m = false := by unfold inq; rw [unhide HN, hqv]; simp
                have HI := hide hinq
                clear hinq hqv
                go_wp2
                go_quiet (fail)
                go_wp2
                go_region
                all_goals go_wp2
                all_goals go_roundw
                case rel => exact ⟨k + 1, d', (r' + 1), _, _, by omega, by go_num, rfl, ((unhide HMEM).drewN _).set hg hpos _ _, hl', fun i hi k' h1 h2 => Int.lt_of_lt_of_le (hlb i hi) (by rw [← unhide HX]; exact nonDec_le hP.pdec (by omega) (by omega)), unhide HMS (unhide HI)⟩
                case measure => simp [intOf]; omega
    · have hkk : k = n0 := by omega
      subst hkk
      subst h0
      have HM0 := hide (M3_start (pb := pb) hM)
      have hbq0 := two_cell0 hmem.boxq
      have hbp1 := two_cell1 hmem.boxp
      have HMEM := hide hmem
      clear hM hmem hlft hlow
      go_wp2
      go_loopw [6, 76] (fun l i wr => ∃ (k d r : Nat) (A : List Int) (al : Option Addr), k ≤ n1 ∧ i = .int .i64 k ∧ l = .slice al r r ∧ Mem w wr g #[.slice a0 pl.length pl.length, .slice a1 n1 n1] #[.slice a2 n2 n2, .slice a3 n3 n3] n4 A ∧ Lft bq oq n2 d r al ∧ LowB ql d (64 * (k : Int)) ∧ (d < n2 → 64 * (k : Int) ≤ ql.getD d 0) ∧ M3 A0 pl pb ql qb qn k n4 A)
        (fun _ i _ => n1 - (intOf i).toNat)
      case atStart =>
        exact ⟨0, 0, n2, A, a2, Nat.zero_le _, rfl, rfl, unhide HMEM, ⟨by omega, fun h => unhide HQ2 h⟩, fun i hi => absurd hi (Nat.not_lt_zero _), fun h => by have := hP.qin 0 (by omega); omega, unhide HM0⟩
      case round =>
        clear HMEM HM0 hbq0 hbp1 hAl
        obtain ⟨k, d, r, B, al, hk, rfl, rfl, hmem, hlft, hlow, hnx, hM3⟩ := hrel
        have HNX := hide hnx
        clear hnx
        have hBl := hM3.1
        by_cases hlt : k < n1
        · have hpb := hP.pbits
          have hpos : 0 < n4 := by omega
          obtain rfl := (unhide HB hpos).1
          obtain ⟨b, off, hx, hc⟩ := r1.grown hmem.grown g1 (by omega)
          subst hx
          have hck := hc k (by omega)
          have hbk := hmem.blk hpos
          have hfz := hbk.frozen k
          have hwc := hbk.cell k (by omega)
          have hbq1 := two_cell1 hmem.boxq
          have HMEM := hide hmem
          clear hc hbk hmem
          cases hqv : qn
          · have hqb := hP.qbits hqv
            rw [hqv] at hqn hM3
            obtain ⟨b3', o3, hx3, hc3⟩ := (r3.grown (unhide HMEM).grown g3) (by omega)
            subst hx3
            have hc3k := hc3 k (by omega)
            have HW0 := hide (W4_start (k := k) i1 i3 (fun i hi _ => hlow i hi))
            generalize pb.getD k 0 = x at hck HW0
            generalize qb.getD k 0 = v at hc3k HW0
            clear hc3 hqv
            go_wp2
            go_loop [6, 10] (fun l x => ∃ (d' r' : Nat) (al' : Option Addr) (v : Int), l = .slice al' r' r' ∧ x = .int .u64 v ∧ Lft bq oq n2 d' r' al' ∧ LowB ql d' (64 * ((k : Int) + 1)) ∧ (d' < n2 → 64 * (k : Int) ≤ ql.getD d' 0) ∧ W4 pb ql qb false k d' v) (fun l _ => sliceLen l)
            case atStart => exact ⟨d, r, al, _, rfl, rfl, hlft, fun i hi => by have := hlow i hi; omega, unhide HNX, unhide HW0⟩
            case round =>
              clear HNX HW0
              obtain ⟨d', r', al', v, rfl, rfl, hl', hlb, hnx', hw4⟩ := hrel
              have HNX' := hide hnx'
              clear hnx'
              rcases r' with _ | r'
              · have hsum := hl'.sum
                have HW := hide (W4_end hP.qdec (fun h => by omega) hw4)
                have hU := hw4.1
                have HM3 := hide (M3_step (by omega) hU (unhide HW) hM3)
                generalize B.getD k 0 = z at hwc HM3
                clear hw4 hU HW hM3
                go_wp2
                go_roundw
                case rel => exact ⟨k + 1, d', 0, _, _, by omega, by go_num, rfl, (unhide HMEM).set hg hpos _ _, hl', by simpa using hlb, fun h => by omega, unhide HM3⟩
                case measure => simp [intOf]; omega
              · obtain rfl := hl'.addr (by omega)
                have hsum := hl'.sum
                have hbg : bq ≠ g := by have := g2 _ (unhide HQ2 (by omega)); exact this
                have hcy := (unhide HMEM).grown.cell (unhide HQC d' (by omega)) (fun e => hbg (by simpa using e))
                have hyb := i2 d' (by omega)
                have hyl := unhide HNX' (by omega)
                have hmono : d' + 1 < n2 → ql.getD d' 0 ≤ ql.getD (d' + 1) 0 := fun h => hP.qdec d' (by omega)
                generalize hyk : ql.getD d' 0 = y at hcy hyb hyl hmono
                have HMONO := hide hmono
                have HY := hide hyk
                have HSUM := hide hsum
                clear hyk hsum hmono
                obtain ⟨m, rfl⟩ := Int.eq_ofNat_of_zero_le (show 0 ≤ y by omega)
                by_cases hy : (m : Int) < ((k : Int) + 1) * 64
                · have HWS := hide (W4_step (by have := unhide HSUM; omega) (unhide HY) (by omega) (by omega) hw4)
                  clear hw4
                  go_wp2
                  go_round
                  case rel =>
                    refine ⟨d' + 1, r', _, _, rfl, rfl, ⟨by have := unhide HSUM; omega, fun h => by rw [if_neg (by omega)]; rfl⟩, fun i hi => ?_, fun h => by have := unhide HMONO h; omega, unhide HWS⟩
                    rcases Nat.lt_or_ge i d' with h | h
                    · exact hlb i h
                    · have : i = d' := by omega
                      subst this
                      rw [unhide HY]; omega
                  case measure => simp [sliceLen]
                · have hend : d' < ql.length → 64 * ((k : Int) + 1) ≤ ql.getD d' 0 := fun _ => by rw [unhide HY]; omega
                  have HEND := hide hend
                  clear hend
                  have HW := hide (W4_end hP.qdec (unhide HEND) hw4)
                  have hU := hw4.1
                  have HM3 := hide (M3_step (by omega) hU (unhide HW) hM3)
                  generalize B.getD k 0 = z at hwc HM3
                  clear hw4 hU HW hM3
                  go_wp2
                  go_roundw
                  case rel => exact ⟨k + 1, d', (r' + 1), _, _, by omega, by go_num, rfl, (unhide HMEM).set hg hpos _ _, hl', by simpa using hlb, fun _ => by rw [unhide HY]; omega, unhide HM3⟩
                  case measure => simp [intOf]; omega
          · rw [hqv] at hqn hM3
            have HW0 := hide (W4_start_nil (k := k) (qb := qb) i1 (fun i hi _ => hlow i hi))
            generalize pb.getD k 0 = x at hck HW0
            clear hqv
            go_wp2
            go_loop [6, 10] (fun l x => ∃ (d' r' : Nat) (al' : Option Addr) (v : Int), l = .slice al' r' r' ∧ x = .int .u64 v ∧ Lft bq oq n2 d' r' al' ∧ LowB ql d' (64 * ((k : Int) + 1)) ∧ (d' < n2 → 64 * (k : Int) ≤ ql.getD d' 0) ∧ W4 pb ql qb true k d' v) (fun l _ => sliceLen l)
            case atStart => exact ⟨d, r, al, _, rfl, rfl, hlft, fun i hi => by have := hlow i hi; omega, unhide HNX, unhide HW0⟩
            case round =>
              clear HNX HW0
              obtain ⟨d', r', al', v, rfl, rfl, hl', hlb, hnx', hw4⟩ := hrel
              have HNX' := hide hnx'
              clear hnx'
              rcases r' with _ | r'
              · have hsum := hl'.sum
                have HW := hide (W4_end hP.qdec (fun h => by omega) hw4)
                have hU := hw4.1
                have HM3 := hide (M3_step (by omega) hU (unhide HW) hM3)
                generalize B.getD k 0 = z at hwc HM3
                clear hw4 hU HW hM3
                go_wp2
                go_roundw
                case rel => exact ⟨k + 1, d', 0, _, _, by omega, by go_num, rfl, (unhide HMEM).set hg hpos _ _, hl', by simpa using hlb, fun h => by omega, unhide HM3⟩
                case measure => simp [intOf]; omega
              · obtain rfl := hl'.addr (by omega)
                have hsum := hl'.sum
                have hbg : bq ≠ g := by have := g2 _ (unhide HQ2 (by omega)); exact this
                have hcy := (unhide HMEM).grown.cell (unhide HQC d' (by omega)) (fun e => hbg (by simpa using e))
                have hyb := i2 d' (by omega)
                have hyl := unhide HNX' (by omega)
                have hmono : d' + 1 < n2 → ql.getD d' 0 ≤ ql.getD (d' + 1) 0 := fun h => hP.qdec d' (by omega)
                generalize hyk : ql.getD d' 0 = y at hcy hyb hyl hmono
                have HMONO := hide hmono
                have HY := hide hyk
                have HSUM := hide hsum
                clear hyk hsum hmono
                obtain ⟨m, rfl⟩ := Int.eq_ofNat_of_zero_le (show 0 ≤ y by omega)
                by_cases hy : (m : Int) < ((k : Int) + 1) * 64
                · have HWS := hide (W4_step (by have := unhide HSUM; omega) (unhide HY) (by omega) (by omega) hw4)
                  clear hw4
                  go_wp2
                  go_round
                  case rel =>
                    refine ⟨d' + 1, r', _, _, rfl, rfl, ⟨by have := unhide HSUM; omega, fun h => by rw [if_neg (by omega)]; rfl⟩, fun i hi => ?_, fun h => by have := unhide HMONO h; omega, unhide HWS⟩
                    rcases Nat.lt_or_ge i d' with h | h
                    · exact hlb i h
                    · have : i = d' := by omega
                      subst this
                      rw [unhide HY]; omega
                  case measure => simp [sliceLen]
                · have hend : d' < ql.length → 64 * ((k : Int) + 1) ≤ ql.getD d' 0 := fun _ => by rw [unhide HY]; omega
                  have HEND := hide hend
                  clear hend
                  have HW := hide (W4_end hP.qdec (unhide HEND) hw4)
                  have hU := hw4.1
                  have HM3 := hide (M3_step (by omega) hU (unhide HW) hM3)
                  generalize B.getD k 0 = z at hwc HM3
                  clear hw4 hU HW hM3
                  go_wp2
                  go_roundw
                  case rel => exact ⟨k + 1, d', (r' + 1), _, _, by omega, by go_num, rfl, (unhide HMEM).set hg hpos _ _, hl', by simpa using hlb, fun _ => by rw [unhide HY]; omega, unhide HM3⟩
                  case measure => simp [intOf]; omega
        · have hkk : k = n1 := by omega
          subst hkk
          have HMEM := hide hmem
          have HM3 := hide hM3
          clear hmem hM3
          go_wp2
          try go_end0
          exact unhide HQE _ _ ⟨rfl, (unhide HMEM).grown, B, (unhide HMEM).blk, unhide HM3⟩

end Go.Proofs.Qxb6600623aMods
