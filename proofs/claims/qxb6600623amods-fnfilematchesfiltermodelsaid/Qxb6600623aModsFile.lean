import Derived.Test.Qxb6600623aModsGrp2
import Derived.Test.Qxb6600623aModsCBase
import Derived.BigQuiet
import Derived.Deep.QuietTactic
import Derived.Deep.RegionHeld3
import Derived.Deep.DeepCutAuto
set_option linter.unusedVariables false
set_option linter.unusedSimpArgs false
namespace Go.Proofs.Qxb6600623aMods
open Go.RowKit

theorem six {w : World} {b : Nat} {x0 x1 x2 x3 x4 x5 : Value} {t : TypeId} (h : w.heap[b]? = some (.cells #[x0, x1, x2, x3, x4, x5] t (0, 0))) :
    w.cell? ⟨b, 0, none⟩ = some x0 ∧ w.cell? ⟨b, 1, none⟩ = some x1 ∧ w.cell? ⟨b, 3, none⟩ = some x3 ∧ w.cell? ⟨b, 5, none⟩ = some x5 ∧ ∀ j, w.frozen? ⟨b, j, none⟩ = false := by
  simp [World.cell?, World.frozen?, h]
theorem fourC {w : World} {b : Nat} {x0 x1 x2 x3 : Value} {t : TypeId} (h : w.heap[b]? = some (.cells #[x0, x1, x2, x3] t (0, 0))) :
    w.cell? ⟨b, 0, none⟩ = some x0 ∧ w.cell? ⟨b, 1, none⟩ = some x1 ∧ w.cell? ⟨b, 2, none⟩ = some x2 ∧ w.cell? ⟨b, 3, none⟩ = some x3 ∧ ∀ j, w.frozen? ⟨b, j, none⟩ = false := by
  simp [World.cell?, World.frozen?, h]

theorem field57 (v x : Value) (w : World) : (Instr.field 57 (.agg #[v, x]) 0).run Trym.prog w = .ok v w := by kernel_rfl
theorem ptr67 : Trym.prog.underlying 67 = some (.pointer (Trym.prog.pointee 67)) := by kernel_rfl

/-- Memory in the midst of 'file': the group, the lists, the box of the key. -/
structure Mid (W0 w : World) (gb bx : Nat) (box : Array Value) (G : GS) (I : Tag → List Int) (n c : Nat) : Prop where
  hold : Hold w W0.heap.size gb G n c
  rows : Rows3 w W0.heap.size G.sl I
  boxd : w.heap[bx]? = some (.cells box 66 (0, 0))
  base : Below W0.heap.size W0 w
  bxB : W0.heap.size ≤ bx

theorem Mid.drewN {W0 w : World} {gb bx : Nat} {box : Array Value} {G : GS} {I : Tag → List Int} {n c : Nat} (h : Mid W0 w gb bx box G I n c) (q : Nat) : Mid W0 (w.drewN q) gb bx box G I n c := by
  have hb : Below w.heap.size w (w.drewN q) := below_drewN (Below.refl _ _) q
  exact ⟨h.hold.below hb, h.rows.below hb, h.boxd, below_drewN h.base q, h.bxB⟩

theorem mid_newKey {W0 w wa w' : World} {gb bx : Nat} {box : Array Value} {G : GS} {I : Tag → List Int} {n c : Nat} (h : Mid W0 w gb bx box G I n c) (K : ByteArray) (hK : G.pk K = false) (ha : Below w.heap.size w wa)
    (hoc : wa.heap[w.heap.size + 1]? = some (.cells #[.string K, nilS, nilS, nilS, nilS, .map (some w.heap.size)] 70 (0, 0))) (hmm : MapIs wa w.heap.size 0 (fun _ => none) 0)
    (hk : MapIs w' G.mb0 (n + 1) (updM (keysF G) K (.pointer (some ⟨w.heap.size + 1, 0, none⟩))) (c + 1)) (hg : wa.grownBy w' (some G.mb0)) : Mid W0 w' gb bx box (putK G K (w.heap.size + 1) w.heap.size) I (n + 1) (c + 1) := by
  have hs := h.base.size
  have hs2 := ha.size
  refine ⟨h.hold.newKey K hK ha hs (by omega) (Nat.le_refl _) hoc hmm hk hg, h.rows.newKey h.hold ha hg, ?_, (h.base.trans (ha.mono hs)).grown hg (by omega) (fun k hk => by obtain rfl := Option.some.inj hk; exact h.hold.mB), h.bxB⟩
  have hb := ha.block bx (lt_of_block h.boxd)
  rw [h.boxd] at hb
  rw [hg.block bx (lt_of_block hb) (fun e => ?_), hb]
  obtain ⟨es, cl, hb0⟩ := (h.hold.below ha).keys.block
  obtain rfl := Option.some.inj e
  rw [hb] at hb0
  cases hb0

/-- A group as the calls so far left it: nothing yet, or a map. -/
def Grp (W0 w : World) (gb : Nat) (I : Tag → List Int) (G : GS) (n c : Nat) : Prop :=
  (W0.heap.size ≤ gb ∧ w.heap[gb]? = some (.cells #[nilS, nilS, nilS, .map none] 63 (0, 0)) ∧ (∀ t, I t = []) ∧ G.pk = (fun _ => false) ∧ G.sl = (fun _ => nilS) ∧ c = 0) ∨ (Hold w W0.heap.size gb G n c ∧ Rows3 w W0.heap.size G.sl I)

/-- The first file: the map of keys is made. -/
theorem mid_first {W0 w : World} {gb : Nat} {box : Array Value} {I : Tag → List Int} (hb0 : Below W0.heap.size W0 w) (h1 : W0.heap.size ≤ gb) (h2 : w.heap[gb]? = some (.cells #[nilS, nilS, nilS, .map none] 63 (0, 0))) (h3 : ∀ t, I t = []) :
    Mid W0 (((w.setCell ⟨gb, 3, none⟩ (.map (some (w.heap.size + 1)))).alloc (.cells box 66)).alloc (.map #[] 0)) gb w.heap.size box (GS.start (w.heap.size + 1)) I 0 0 := by
  have hI : I = fun _ => [] := funext h3
  subst hI
  have hs := hb0.size
  have hlt := lt_of_block h2
  have e1 : ((w.setCell ⟨gb, 3, none⟩ (.map (some (w.heap.size + 1)))).alloc (.cells box 66)).heap.size = w.heap.size + 1 := by simp
  refine ⟨Hold.first h1 (by omega) ?_ ?_, Rows3.first _ _ _, ?_, ?_, hs⟩
  · rw [Below.heap_alloc _ _ _ (by simp; omega), Below.heap_alloc _ _ _ (by simp; omega)]
    have := heap_setCell_same w gb 3 _ 63 (.map (some (w.heap.size + 1))) h2
    simpa using this
  · have := MapIs.made ((w.setCell ⟨gb, 3, none⟩ (.map (some (w.heap.size + 1)))).alloc (.cells box 66))
    rw [e1] at this
    exact this
  · rw [Below.heap_alloc _ _ _ (by simp)]
    have := heap_alloc_new (w.setCell ⟨gb, 3, none⟩ (.map (some (w.heap.size + 1)))) (.cells box 66)
    simpa using this
  · exact ((hb0.setCell h1 _).alloc (by simpa using hs) _).alloc (by simp; omega) _

theorem mid_next {W0 w : World} {gb : Nat} {box : Array Value} {G : GS} {I : Tag → List Int} {n c : Nat} (hb0 : Below W0.heap.size W0 w) (h : Hold w W0.heap.size gb G n c) (hR : Rows3 w W0.heap.size G.sl I) :
    Mid W0 (w.alloc (.cells box 66)) gb w.heap.size box G I n c := by
  have hb : Below w.heap.size w (w.alloc (.cells box 66)) := (Below.refl _ _).alloc (Nat.le_refl _) _
  exact ⟨h.below hb, hR.below hb, heap_alloc_new w _, hb0.alloc hb0.size _, hb0.size⟩

/-- How often V stands among the values. -/
def cntV (V : ByteArray) (vs : List ByteArray) : Nat := (vs.filter (fun v => decide (v = V))).length
/-- What one call adds to each list. -/
def addOf (K : ByteArray) (valued : Bool) (vs : List ByteArray) (i : Int) : Tag → List Int
  | (K', none) => if K' = K then [i] else []
  | (K', some none) => if K' = K ∧ valued = true then [i] else []
  | (K', some (some V)) => if K' = K ∧ valued = true then List.replicate (cntV V vs) i else []

theorem addOf_plain (I : Tag → List Int) (K : ByteArray) (vs : List ByteArray) (i : Int) : updT I (K, none) (I (K, none) ++ [i]) = fun t => I t ++ addOf K false vs i t := by
  funext t
  obtain ⟨K', x⟩ := t
  unfold updT
  by_cases e : K' = K
  · subst e
    rcases x with _ | _ | V <;> simp [addOf]
  · rcases x with _ | _ | V <;> simp [addOf, e]
theorem addOf_start (I : Tag → List Int) (K : ByteArray) (i : Int) : updT (updT I (K, none) (I (K, none) ++ [i])) (K, some none) (updT I (K, none) (I (K, none) ++ [i]) (K, some none) ++ [i]) = fun t => I t ++ addOf K true [] i t := by
  funext t
  obtain ⟨K', x⟩ := t
  unfold updT
  by_cases e : K' = K
  · subst e
    rcases x with _ | _ | V <;> simp [addOf, cntV]
  · rcases x with _ | _ | V <;> simp [addOf, e]
theorem cntV_snoc (V : ByteArray) (vs : List ByteArray) (v : ByteArray) : cntV V (vs ++ [v]) = cntV V vs + if v = V then 1 else 0 := by
  unfold cntV
  by_cases e : v = V <;> simp [e]
theorem addOf_step (I : Tag → List Int) (K : ByteArray) (vs : List ByteArray) (v : ByteArray) (i : Int) :
    updT (fun t => I t ++ addOf K true vs i t) (K, some (some v)) ((I (K, some (some v)) ++ addOf K true vs i (K, some (some v))) ++ [i]) = fun t => I t ++ addOf K true (vs ++ [v]) i t := by
  funext t
  obtain ⟨K', x⟩ := t
  unfold updT
  by_cases e : K' = K
  · subst e
    rcases x with _ | _ | V
    · simp [addOf]
    · simp [addOf]
    · by_cases e : V = v
      · subst e
        simp [addOf, cntV_snoc, List.replicate_succ']
      · have e' : ¬ v = V := fun h => e h.symm
        simp [addOf, cntV_snoc, e, e']
  · rcases x with _ | _ | V <;> simp [addOf, e]
theorem addOf_len (K : ByteArray) (b : Bool) (vs : List ByteArray) (i : Int) (t : Tag) : (addOf K b vs i t).length ≤ vs.length + 1 := by
  obtain ⟨K', x⟩ := t
  rcases x with _ | _ | V
  · simp only [addOf]; split <;> simp
  · simp only [addOf]; split <;> simp
  · simp only [addOf]
    split
    · have := List.length_filter_le (fun v => decide (v = V)) vs
      simp [cntV]
      omega
    · simp

theorem store_keeps {w w' : World} {b m n c : Nat} {f : ByteArray → Option Value} {cs : Array Value} {t : TypeId} (h : w.heap[b]? = some (.cells cs t (0, 0))) (hm : MapIs w m n f c) (hg : w.grownBy w' (some m)) : w'.heap[b]? = some (.cells cs t (0, 0)) := by
  rw [hg.block b (lt_of_block h) (fun e => ?_), h]
  obtain ⟨es, cl, hb0⟩ := hm.block
  obtain rfl := Option.some.inj e
  rw [h] at hb0
  cases hb0

/-- Memory between an append and the store of the new slice. -/
structure MidX (W0 w : World) (gb bx : Nat) (box : Array Value) (G : GS) (sl : Tag → Value) (I : Tag → List Int) (n c : Nat) : Prop where
  hold : Hold w W0.heap.size gb G n c
  rows : Rows3 w W0.heap.size sl I
  boxd : w.heap[bx]? = some (.cells box 66 (0, 0))
  base : Below W0.heap.size W0 w
  bxB : W0.heap.size ≤ bx

theorem mid_append {W0 w wa w1 : World} {gb bx : Nat} {box : Array Value} {G : GS} {I : Tag → List Int} {n c : Nat} (h : Mid W0 w gb bx box G I n c) (t : Tag) (i : Int) {g' cap : Nat}
    (ha : Below w.heap.size w wa) (hgr : wa.grownBy w1 (G.sl t).ownBlock) (hown : w1.ownsRow W0.heap.size 3 1 (.slice (some ⟨g', 0, none⟩) ((I t).length + 1) cap) ((I t).length + 1) ((I t).map (Value.int .i64) ++ [.int .i64 i]))
    (hloc : (G.sl t).ownBlock = some g' ∨ w.heap.size ≤ g') : MidX W0 w1 gb bx box G (updT G.sl t (.slice (some ⟨g', 0, none⟩) ((I t).length + 1) cap)) (updT I t (I t ++ [i])) n c := by
  have hs := h.base.size
  have hs2 := ha.size
  refine ⟨h.hold.append h.rows t ha hgr, h.rows.append t i ha hgr hown hloc, ?_, (h.base.trans (ha.mono hs)).grown hgr (by omega) (fun k hk => ?_), h.bxB⟩
  · have hb := ha.block bx (lt_of_block h.boxd)
    rw [h.boxd] at hb
    rw [hgr.block bx (lt_of_block hb) (fun e => ?_), hb]
    obtain ⟨cur, hc⟩ := ownsRow_block (h.rows.rows t) e.symm
    rw [h.boxd] at hc
    simp at hc
  · exact ((h.rows.rows t).lt k hk).1

theorem mid_store {W0 w : World} {gb bx : Nat} {box : Array Value} {G : GS} {I : Tag → List Int} {n c : Nat} {K : ByteArray} {x : Option (Option ByteArray)} {v : Value} (h : MidX W0 w gb bx box G (updT G.sl (K, x) v) I n c) (hK : G.pk K = true) (hx : ∀ V, x ≠ some (some V)) (j : Nat)
    (hC : (othC G K).setIfInBounds j v = othC { G with sl := updT G.sl (K, x) v } K) : Mid W0 (w.setCell ⟨G.ob K, j, none⟩ v) gb bx box { G with sl := updT G.sl (K, x) v } I n c := by
  refine ⟨h.hold.setCell K hK x hx j v hC, h.rows.setCell h.hold K hK j v, ?_, h.base.setCell (h.hold.oB K hK) _, h.bxB⟩
  rw [heap_setCell_other _ _ _ _ (fun e => ?_)]
  · exact h.boxd
  · have h1 := h.boxd
    have e' : bx = G.ob K := e
    rw [e', h.hold.oth K hK] at h1
    simp at h1

theorem mid_put {W0 w w' : World} {gb bx : Nat} {box : Array Value} {G : GS} {I : Tag → List Int} {n c c' : Nat} {K V : ByteArray} {v : Value} (h : MidX W0 w gb bx box G (updT G.sl (K, some (some V)) v) I n c) (hK : G.pk K = true)
    (hm : MapIs w' (G.mb K) (n + 1) (updM (valsF G K) V (.agg #[v, nilS])) c') (hg : w.grownBy w' (some (G.mb K))) : Mid W0 w' gb bx box (putV G K V v) I (n + 1) c := by
  refine ⟨h.hold.store K hK V v hm hg, h.rows.store h.hold K hK hg, ?_, h.base.grown hg h.base.size (fun k hk => by obtain rfl := Option.some.inj hk; exact h.hold.aB K hK), h.bxB⟩
  rw [hg.block bx (lt_of_block h.boxd) (fun e => ?_), h.boxd]
  obtain ⟨c0, hm0⟩ := h.hold.maps K hK
  obtain ⟨es, cl, hb0⟩ := hm0.block
  obtain rfl := Option.some.inj e
  rw [h.boxd] at hb0
  cases hb0

set_option maxRecDepth 100000 in
set_option maxHeartbeats 4000000 in
theorem file_any (W0 : World) (gb : Nat) (G : GS) (I : Tag → List Int) (n c : Nat) (K : ByteArray) (kind : Int) (va : Option Addr) (nv vc : Nat) (vals : List ByteArray) (sh i : Int) (w : World)
    (hG : Grp W0 w gb I G n c) (hb0 : Below W0.heap.size W0 w) (hK : K.size ≤ 9223372036854775807) (hnv : vals.length = nv) (hv4 : nv ≤ 4096) (hvr : SRow W0 va vals) (hvs : ∀ j, j < nv → (vals.getD j ByteArray.empty).size ≤ 9223372036854775807) (hn : n ≤ 100000) (hIl : ∀ t, (I t).length ≤ 100000) :
    Calls Trym.prog 39 #[.pointer (some ⟨gb, 0, none⟩), .agg #[.string K, .int .i64 kind, .slice va nv vc, .int .i64 sh], .int .i64 i] w fun e w' => e = .returned (.tuple #[]) ∧ ∃ (G' : GS) (n' : Nat), n' ≤ n + 1 + nv ∧ G'.pk = updB G.pk K true ∧ Below W0.heap.size W0 w' ∧ Hold w' W0.heap.size gb G' n' (if G.pk K then c else c + 1) ∧ Rows3 w' W0.heap.size G'.sl (fun t => I t ++ addOf K (decide (kind = 0)) vals i t) := by
  refine calls_all fun Q HQE => ?_
  obtain ⟨i3, hi3, hz0, hz1, hz2⟩ := info_parts Trym.info3
  have hmn := fun w r => run_eql_map_nil (P := Trym.prog) w 61 9 67 r Trym.underlying61
  have hmm := @run_makeMap Trym.prog
  have hf57 := field57
  have HG := hide hG
  obtain ⟨mv, hmv, g3, gf⟩ : ∃ mv : Option Nat, w.heap[gb]? = some (.cells #[nilS, nilS, nilS, .map mv] 63 (0, 0)) ∧ w.cell? ⟨gb, 3, none⟩ = some (.map mv) ∧ w.frozen? ⟨gb, 3, none⟩ = false := by
    rcases hG with ⟨_, h, _⟩ | ⟨h, _⟩
    · exact ⟨_, h, (fourC h).2.2.2.1, (fourC h).2.2.2.2 3⟩
    · exact ⟨_, h.group, (fourC h.group).2.2.2.1, (fourC h.group).2.2.2.2 3⟩
  have HMV := hide hmv
  have hgl := lt_of_block hmv
  have hgn : ¬ w.heap.size = gb := by omega
  clear hG hmv
  go_enter Trym.func39, Trym.ntmps39
  go_upto_if 13 with fail
  go_cut [13] (fun _ wc => ∃ (G' : GS) (n' : Nat), n' ≤ n ∧ G'.pk = G.pk ∧ Mid W0 wc gb w.heap.size #[.string K, .int .i64 kind, .slice va nv vc, .int .i64 sh] G' I n' c)
  case first =>
    cases hm : mv
    · subst hm
      go_wp2
      go_meet
      case rel =>
        rcases unhide HG with ⟨q1, q2, q3, q4, q5, rfl⟩ | ⟨q1, _⟩
        · exact ⟨GS.start (w.heap.size + 1), 0, Nat.zero_le _, by rw [q4]; rfl, mid_first hb0 q1 q2 q3⟩
        · have := q1.group
          rw [unhide HMV] at this
          simp at this
    · subst hm
      go_wp2
      go_meet
      case rel =>
        rcases unhide HG with ⟨q1, q2, q3, q4, q5, rfl⟩ | ⟨q1, q2⟩
        · rw [unhide HMV] at q2
          simp at q2
        · exact ⟨G, n, Nat.le_refl _, rfl, mid_next hb0 q1 q2⟩
  case rest =>
    obtain ⟨G1, n1, hn1, hpk1, hmid⟩ := hcut
    clear g3 gf hgn
    obtain ⟨x0, x1, x2, x3, xf⟩ := fourC hmid.boxd
    obtain ⟨y0, y1, y2, y3, yf⟩ := fourC hmid.hold.group
    have hlk : ∀ q, (Instr.lookup 61 (.map (some G1.mb0)) (.string K) false).run Trym.prog (wc.drewN q) = .ok ((keysF G1 K).getD (.pointer none)) (wc.drewN q) := fun q =>
      MapIs.look (w := wc.drewN q) (n := n1) (c := c) (b := G1.mb0) hmid.hold.keys Trym.underlying61 (zero67 _) K hK
    have hko : (keysF G1 K).getD (.pointer none) = .pointer (if G1.pk K then some ⟨G1.ob K, 0, none⟩ else none) := by
      unfold keysF
      cases G1.pk K <;> rfl
    rw [hko] at hlk
    generalize hpa : (if G1.pk K then some (⟨G1.ob K, 0, none⟩ : Addr) else none) = pa at hlk
    have HPA := hide hpa
    have HM := hide hmid
    have hpe := fun w p => run_eql_pointer_nil (P := Trym.prog) w 67 p ptr67
    have hgl1 : gb < wc.heap.size := lt_of_block hmid.hold.group
    have hbl1 : w.heap.size < wc.heap.size := lt_of_block hmid.boxd
    clear hmid hko hpa
    go_wp2
    go_quiet (fail)
    go_upto_if 26 with fail
    go_cut [6, 26] (fun o _ wc => ∃ (G2 : GS) (n2 c2 : Nat), n2 ≤ n1 + 1 ∧ o = .pointer (some ⟨G2.ob K, 0, none⟩) ∧ G2.pk = updB G1.pk K true ∧ c2 = (if G1.pk K then c else c + 1) ∧ Mid W0 wc gb w.heap.size #[.string K, .int .i64 kind, .slice va nv vc, .int .i64 sh] G2 I n2 c2)
    case first =>
      cases hp : G1.pk K
      · have hpa : pa = none := by rw [← unhide HPA, hp]; rfl
        subst hpa
        go_wp2
        have hbW : Below wc.heap.size wc (((wc.drewN nq).alloc (.map #[] 0)).alloc (.cells #[.string K, .slice none 0 0, .slice none 0 0, .slice none 0 0, .slice none 0 0, .map (some wc.heap.size)] 70)) :=
          ((below_drewN (Below.refl _ _) nq).alloc (by simp) _).alloc (by simp) _
        have hWo := heap_alloc_new ((wc.drewN nq).alloc (.map #[] 0)) (.cells #[.string K, .slice none 0 0, .slice none 0 0, .slice none 0 0, .slice none 0 0, .map (some wc.heap.size)] 70)
        have hWm : MapIs (((wc.drewN nq).alloc (.map #[] 0)).alloc (.cells #[.string K, .slice none 0 0, .slice none 0 0, .slice none 0 0, .slice none 0 0, .map (some wc.heap.size)] 70)) wc.heap.size 0 (fun _ => none) 0 :=
          (MapIs.made (wc.drewN nq)).kept (World.grownBy_alloc _ _ none) (by simp)
        generalize (((wc.drewN nq).alloc (.map #[] 0)).alloc (.cells #[.string K, .slice none 0 0, .slice none 0 0, .slice none 0 0, .slice none 0 0, .map (some wc.heap.size)] 70)) = w2 at hbW hWo hWm ⊢
        have z3 := (hbW.cell (p := ⟨gb, 3, none⟩) hgl1).trans y3
        have z0 := (hbW.cell (p := ⟨w.heap.size, 0, none⟩) hbl1).trans x0
        have hk2 := (unhide HM).hold.keys.kept (gr_of_below (r := none) hbW) (by simp)
        obtain ⟨w3, hst, hm3, hg3⟩ := MapIs.store (w := w2.drew) hk2 Trym.underlying61 (by omega) K hK (.pointer (some ⟨wc.heap.size + 1, 0, none⟩))
        have HWO := hide hWo
        have HWM := hide hWm
        have HK2 := hide hk2
        have HM3 := hide hm3
        have HG3 := hide hg3
        have HBW := hide hbW
        clear hWo hWm hk2 hm3 hg3 hbW x0 x1 x2 x3 y0 y1 y2 y3 xf yf hlk
        go_region
        go_wp2
        go_meet
        case rel =>
          refine ⟨putK G1 K (wc.heap.size + 1) wc.heap.size, n1 + 1, c + 1, by omega, ?_, rfl, by rw [hp]; rfl, ?_⟩
          · rw [show (putK G1 K (wc.heap.size + 1) wc.heap.size).ob K = wc.heap.size + 1 from updB_same _ _ _]
          · refine mid_newKey (unhide HM) K hp (unhide HBW) (by simpa using unhide HWO) (unhide HWM) ?_ (show w2.grownBy w3 (some G1.mb0) from ⟨(unhide HG3).os, (unhide HG3).tape, (unhide HG3).output, (unhide HG3).size, (unhide HG3).block⟩)
            have h := unhide HM3
            have e : (keysF G1 K).isSome = false := by unfold keysF; rw [hp]; rfl
            rw [e] at h
            exact h
      · have hpa : pa = some ⟨G1.ob K, 0, none⟩ := by rw [← unhide HPA, hp]; rfl
        subst hpa
        go_wp2
        go_meet
        case rel => 
          refine ⟨G1, n1, c, by omega, rfl, ?_, by rw [hp]; rfl, ?_⟩
          · funext K'
            unfold updB
            by_cases e : K' = K
            · rw [e, hp]; simp
            · rw [if_neg e]
          · exact (unhide HM).drewN _
    case rest =>
      clear hlk y0 y1 y2 y3 yf x0 x1 x2 x3 xf hgl1 hbl1 HPA HM
      obtain ⟨G2, n2, c2, hn2, rfl, hpk2, hc2, hmid⟩ := hcut
      have hpK : G2.pk K = true := by rw [hpk2, updB_same]
      have hoth := hmid.hold.oth K hpK
      unfold othC at hoth
      obtain ⟨o0, o1, o3, o5, of⟩ := six hoth
      obtain ⟨b0, b1, b2, b3, bf⟩ := fourC hmid.boxd
      have hrow := hmid.rows.rows (K, none)
      have hIl1 := hIl (K, none)
      have hwz := hmid.base.size
      have HM := hide hmid
      have HPK2 := hide hpk2
      have HC2 := hide hc2
      have hap := fun g' cap w1 => mid_append (w1 := w1) (g' := g') (cap := cap) hmid (K, none) i (wa := wc.alloc (.cells #[.int .i64 i] 3)) ((Below.refl _ _).alloc (Nat.le_refl _) _)
      have HAP := hide hap
      clear hmid hpk2 hc2 hap hoth
      have hbo : ¬ w.heap.size = G2.ob K := fun e => by
        have h1 := (unhide HM).boxd
        rw [e, (unhide HM).hold.oth K hpK] at h1
        simp at h1
      have hbo' : ¬ G2.ob K = w.heap.size := fun e => hbo e.symm
      clear b0 b1 b2 b3 bf
      go_upto_if 53 with (at_builtin; refine wpList_append_lies _ rfl _ _ 22 rfl W0.heap.size 3 i3 (.int .i64 0) 1 8 Trym.underlying22 hi3 hz0 hz1 hz2 rfl (by decide) _ _ _ rfl (hrow.alloc _) ⟨wc.heap.size, 0, none⟩ 1 1 [.int .i64 i] rfl rfl (cell_one_new _ _ _) (ints_oneCell .i64 [i]) (by decide) (by unfold maxLen; omega) (by omega) (by simp; omega) (wc.heap.size + 1) (by simp) ?_; intro g1 cap1 w1 hown1 hgr1 hat1 hlt1; have hX1 := unhide HAP g1 cap1 w1 hgr1 hown1 (Or.elim hat1 Or.inl (fun e => Or.inr (by omega))); have hoth1 := hX1.hold.oth K hpK; unfold othC at hoth1; obtain ⟨q0, q1, q3, q5, qf⟩ := six hoth1; obtain ⟨b0, b1, b2, b3, bf⟩ := fourC hX1.boxd)
      have hm2 := mid_store hX1 hpK (by simp) 1 (othC_req G2 K _)
      have eob : G2.ob K = ({ G2 with sl := updT G2.sl (K, none) (.slice (some ⟨g1, 0, none⟩) ((I (K, none)).length + 1) cap1) } : GS).ob K := rfl
      have epk : ({ G2 with sl := updT G2.sl (K, none) (.slice (some ⟨g1, 0, none⟩) ((I (K, none)).length + 1) cap1) } : GS).pk = G2.pk := rfl
      generalize ({ G2 with sl := updT G2.sl (K, none) (.slice (some ⟨g1, 0, none⟩) ((I (K, none)).length + 1) cap1) } : GS) = G3 at hm2 eob epk
      generalize w1.setCell ⟨G2.ob K, 1, none⟩ (.slice (some ⟨g1, 0, none⟩) ((I (K, none)).length + 1) cap1) = w2 at hm2 ⊢
      have HPK3 : Hid (G3.pk = updB G.pk K true) := by rw [← hpk1, ← unhide HPK2]; exact epk
      have HC3 : Hid (c2 = if G.pk K = true then c else c + 1) := by rw [← hpk1]; exact unhide HC2
      have hpK3 : G3.pk K = true := by rw [epk]; exact hpK
      clear o0 o1 o3 o5 of q0 q1 q3 q5 qf b0 b1 b2 b3 bf hX1 hoth1 hgr1 hown1 hat1 hlt1 HAP hrow hIl1 hwz HM HPK2 HC2 epk
      by_cases hkd : kind = 0
      · have hkd' : (kind == 0) = true := by simp [hkd]
        have hdk : decide (kind = 0) = true := by simp [hkd]
        have HDK := hide hdk
        clear hdk hkd
        have hoth := hm2.hold.oth K hpK3
        unfold othC at hoth
        obtain ⟨o0, o1, o3, o5, of⟩ := six hoth
        have hrow := hm2.rows.rows (K, some none)
        have hIl1 := hIl (K, some none)
        have hIe : (updT I (K, none) (I (K, none) ++ [i]) (K, some none)) = I (K, some none) := updT_other _ _ (by simp)
        rw [hIe] at hrow
        have hwz := hm2.base.size
        have hap := fun g' cap w1 => mid_append (w1 := w1) (g' := g') (cap := cap) hm2 (K, some none) i (wa := w2.alloc (.cells #[.int .i64 i] 3)) ((Below.refl _ _).alloc (Nat.le_refl _) _)
        rw [hIe] at hap
        have HAP := hide hap
        have HIE := hide hIe
        have HM2 := hide hm2
        clear hap hm2 hoth hIe
        rw [eob] at hbo hbo' ⊢
        go_upto_region 11 with (at_builtin; refine wpList_append_lies _ rfl _ _ 22 rfl W0.heap.size 3 i3 (.int .i64 0) 1 8 Trym.underlying22 hi3 hz0 hz1 hz2 rfl (by decide) _ _ _ rfl (hrow.alloc _) ⟨w2.heap.size, 0, none⟩ 1 1 [.int .i64 i] rfl rfl (cell_one_new _ _ _) (ints_oneCell .i64 [i]) (by decide) (by unfold maxLen; omega) (by omega) (by simp; omega) (w2.heap.size + 1) (by simp) ?_; intro g4 cap4 w4 hown4 hgr4 hat4 hlt4; have hX4 := unhide HAP g4 cap4 w4 hgr4 hown4 (Or.elim hat4 Or.inl (fun e => Or.inr (by omega))); have hoth4 := hX4.hold.oth K hpK3; unfold othC at hoth4; obtain ⟨q0, q1, q3, q5, qf⟩ := six hoth4; obtain ⟨b0, b1, b2, b3, bf⟩ := fourC hX4.boxd)
        have hm4 := mid_store hX4 hpK3 (by simp) 3 (othC_val G3 K _)
        have HOB : Hid (({ G3 with sl := updT G3.sl (K, some none) (.slice (some ⟨g4, 0, none⟩) ((I (K, some none)).length + 1) cap4) } : GS).ob = G3.ob) := rfl
        have HPK4 : Hid (({ G3 with sl := updT G3.sl (K, some none) (.slice (some ⟨g4, 0, none⟩) ((I (K, some none)).length + 1) cap4) } : GS).pk = G3.pk) := rfl
        have hIs := addOf_start I K i
        rw [unhide HIE] at hIs
        rw [hIs] at hm4
        generalize ({ G3 with sl := updT G3.sl (K, some none) (.slice (some ⟨g4, 0, none⟩) ((I (K, some none)).length + 1) cap4) } : GS) = G4 at hm4 HOB HPK4
        generalize w4.setCell ⟨G3.ob K, 3, none⟩ (.slice (some ⟨g4, 0, none⟩) ((I (K, some none)).length + 1) cap4) = w5 at hm4 ⊢
        have HM4 := hide hm4
        clear o0 o1 o3 o5 of q0 q1 q3 q5 qf b0 b1 b2 b3 bf hX4 hoth4 hgr4 hown4 hat4 hlt4 HAP hrow hIl1 hwz HM2 hIs hm4 HIE
        go_loopw [69] (fun j wr => ∃ (k : Nat) (G5 : GS) (n5 : Nat), k ≤ nv ∧ j = .int .i64 k ∧ n5 ≤ n2 + k ∧ Hid (G5.ob = G3.ob ∧ G5.pk = G3.pk) ∧ Mid W0 wr gb w.heap.size #[.string K, .int .i64 kind, .slice va nv vc, .int .i64 sh] G5 (fun t => I t ++ addOf K true (vals.take k) i t) n5 c2)
          (fun j _ => nv - (intOf j).toNat)
        case atStart => exact ⟨0, G4, n2, Nat.zero_le _, rfl, by omega, ⟨unhide HOB, unhide HPK4⟩, by simpa using unhide HM4⟩
        case round =>
          clear HM4 HOB HPK4
          obtain ⟨k, G5, n5, hk, rfl, hn5, hsame, hmid⟩ := hrel
          by_cases hlt : k < nv
          · obtain ⟨bv, ov, hx, hc⟩ := hvr.below hmid.base (by omega)
            subst hx
            have hck := hc k (by omega)
            have hsz := hvs k (by omega)
            have hts : vals.take (k + 1) = vals.take k ++ [vals.getD k ByteArray.empty] := by
              rw [List.take_succ_eq_append_getElem (show k < vals.length by omega)]
              simp [List.getD, show k < vals.length by omega]
            generalize vals.getD k ByteArray.empty = V at hck hsz hts
            have hpK5 : G5.pk K = true := by rw [hsame.out.2]; exact hpK3
            have hob5 : G5.ob K = G3.ob K := by rw [hsame.out.1]
            have hoth := hmid.hold.oth K hpK5
            unfold othC at hoth
            rw [hob5] at hoth
            obtain ⟨o0, o1, o3, o5, of⟩ := six hoth
            obtain ⟨cm, hmap⟩ := hmid.hold.maps K hpK5
            have hlk : (Instr.lookup 68 (.map (some (G5.mb K))) (.string V) false).run Trym.prog wr.drew = .ok (.agg #[G5.sl (K, some (some V)), .slice none 0 0]) wr.drew := by
              have h := MapIs.look (w := wr.drew) hmap Trym.underlying68 (zero57 _) V hsz
              rw [h]
              unfold valsF
              cases hpv : G5.pv K V
              · simp [hmid.hold.absv K V hpv]
              · rfl
            have hlk2 : (Instr.lookup 68 (.map (some (G5.mb K))) (.string V) false).run Trym.prog (wr.alloc (.cells #[.int .i64 i] 3)).drew = .ok (.agg #[G5.sl (K, some (some V)), .slice none 0 0]) (wr.alloc (.cells #[.int .i64 i] 3)).drew := by
              have h := MapIs.look (w := (wr.alloc (.cells #[.int .i64 i] 3)).drew) (MapIs.kept (w' := (wr.alloc (.cells #[.int .i64 i] 3)).drew) (row := none) hmap (gr_of_below (((Below.refl _ _).alloc (Nat.le_refl _) _).drew)) (by simp)) Trym.underlying68 (zero57 _) V hsz
              rw [h]
              unfold valsF
              cases hpv : G5.pv K V
              · simp [hmid.hold.absv K V hpv]
              · rfl
            have hrow := hmid.rows.rows (K, some (some V))
            have hIl1 := hIl (K, some (some V))
            have hal := addOf_len K true (vals.take k) i (K, some (some V))
            have hlen : (I (K, some (some V)) ++ addOf K true (vals.take k) i (K, some (some V))).length ≤ 104097 := by
              rw [List.length_append]; simp at hal; omega
            have hwz := hmid.base.size
            have hap := fun g' cap w1 => mid_append (w1 := w1) (g' := g') (cap := cap) hmid (K, some (some V)) i (wa := (wr.alloc (.cells #[.int .i64 i] 3)).drew) ((Below.refl _ _).alloc (Nat.le_refl _) _).drew
            have hcell_lt : G3.ob K < wr.heap.size := lt_of_block hoth
            have hst0 := addOf_step I K (vals.take k) V i
            rw [← hts] at hst0
            generalize hL : (I (K, some (some V)) ++ addOf K true (vals.take k) i (K, some (some V))) = L at hrow hap hlen hst0
            have HL := hide hL
            have HST := hide hst0
            clear hL hst0
            have HAP := hide hap
            have HTS := hide hts
            have HMID := hide hmid
            have HMAP := hide hmap
            clear hap hts hmid hmap hal hc hoth
            go_wp2
            go_region_held3 (fun w' => w'.cell? ⟨G3.ob K, 5, none⟩ = some (.map (some (G5.mb K))))
              (first | go_keep | exact k6 | exact k7)
              ((refine step_append_lies _ (by rfl) _ _ _ (by rfl) W0.heap.size 3 i3 _ 1 8 Trym.underlying22 hi3 hz0 hz1 hz2 rfl (by decide) (G5.sl (K, some (some V))) _ _ (by rfl) ((hrow.alloc _).drew) ⟨wr.heap.size, 0, none⟩ 1 1 [.int .i64 i] (by rfl) (by rfl) (World.news_of_block (cs := #[.int .i64 i]) (t := 3) (fr := (0, 0)) (heap_alloc_new wr _)) (by simp [Value.oneCell']) (by decide) (by unfold maxLen; omega) (by omega) (by simp; omega) (wr.heap.size + 1) (by simp) ?_; intro g6 cap6 w6 hown6 hgr6 hat6 hlt6; have hX6 := unhide HAP g6 cap6 w6 hgr6 hown6 (Or.elim hat6 Or.inl (fun e => Or.inr (by omega))); have hoth6 := hX6.hold.oth K hpK5; unfold othC at hoth6; rw [hob5] at hoth6; have k6 := (six hoth6).2.2.2.1; obtain ⟨c6, hmap6⟩ := hX6.hold.maps K hpK5; obtain ⟨w7, hst, hm7, hg7⟩ := hmap6.store Trym.underlying68 (by omega) V hsz (.agg #[.slice (some ⟨g6, 0, none⟩) (L.length + 1) cap6, .slice none 0 0]); have k7 := (six (store_keeps hoth6 hmap6 hg7)).2.2.2.1; have hm8 := hide (mid_put hX6 hpK5 hm7 hg7); clear hm7 hg7 hX6 hmap6 hoth6 hown6 hgr6))
            all_goals
              go_wp2
              go_roundw
              case rel =>
                have h8 := unhide hm8
                rw [unhide HST] at h8
                exact ⟨k + 1, putV G5 K V _, n5 + 1, by omega, by go_num, by omega, ⟨hsame.out.1, hsame.out.2⟩, h8⟩
              case measure => simp [intOf]; omega
          · have e : vals.take k = vals := List.take_of_length_le (by omega)
            rw [e] at hmid
            have HMID := hide hmid
            clear hmid e
            go_wp2
            try go_end0
            refine unhide HQE _ _ ⟨rfl, G5, n5, by omega, by rw [hsame.out.2]; exact unhide HPK3, (unhide HMID).base, ?_, ?_⟩
            · rw [← unhide HC3]; exact (unhide HMID).hold
            · rw [unhide HDK]; exact (unhide HMID).rows
      · have hkd' : (kind == 0) = false := by simp [hkd]
        have hdk : decide (kind = 0) = false := by simp [hkd]
        have HDK := hide hdk
        have HM2 := hide hm2
        clear hdk hkd hm2
        go_wp2
        try go_end0
        refine unhide HQE _ _ ⟨rfl, G3, n2, by omega, unhide HPK3, (unhide HM2).base, ?_, ?_⟩
        · rw [← unhide HC3]; exact (unhide HM2).hold
        · rw [unhide HDK, ← addOf_plain I K vals i]; exact (unhide HM2).rows

end Go.Proofs.Qxb6600623aMods
