import Derived.Test.Qxb6600623aModsAgree3
import Derived.Test.Qxb6600623aModsCLen3
import Derived.Test.Qxb6600623aModsKeepsFn
set_option linter.unusedVariables false
set_option linter.unusedSimpArgs false
namespace Go.Proofs.Qxb6600623aMods
open Go.RowKit

/-- How many of the first k calls bring a new key. -/
def dcnt (cs : List Call) : Nat → Nat
  | 0 => 0
  | k + 1 => dcnt cs k + if firstB cs k then 1 else 0
theorem dcnt_le (cs : List Call) (k : Nat) : dcnt cs k ≤ k := by
  induction k with
  | zero => exact Nat.le_refl _
  | succ k ih => unfold dcnt; split <;> omega
theorem anyB_snoc (cs : List Call) (c : Call) (K : ByteArray) : anyB (cs ++ [c]) K = (anyB cs K || decide (c.key = K)) := by simp [anyB]
theorem pk_step {cs : List Call} {k : Nat} (hk : k < cs.length) {pk pk' : ByteArray → Bool} (h : ∀ K, pk K = anyB (cs.take k) K) (h' : pk' = updB pk (cs.getD k Call.nil).key true) : ∀ K, pk' K = anyB (cs.take (k + 1)) K := by
  intro K
  rw [take_succ_getD cs k hk, anyB_snoc, h', ← h K]
  unfold updB
  by_cases e : K = (cs.getD k Call.nil).key
  · rw [if_pos e, decide_eq_true e.symm]; simp
  · rw [if_neg e, decide_eq_false (fun e' => e e'.symm)]; simp
theorem c_step {cs : List Call} {k c : Nat} {pk : ByteArray → Bool} (h : ∀ K, pk K = anyB (cs.take k) K) (hc : c = dcnt cs k) : (if pk (cs.getD k Call.nil).key = true then c else c + 1) = dcnt cs (k + 1) := by
  rw [h, hc]
  show _ = dcnt cs k + if firstB cs k then 1 else 0
  unfold firstB
  cases anyB (cs.take k) (cs.getD k Call.nil).key <;> simp

set_option maxRecDepth 100000 in
set_option maxHeartbeats 16000000 in
theorem matches_any (a : Option Addr) (n c : Nat) (cs : List Call) (a1 : Option Addr) (n1 c1 : Nat) (s1 : List ByteArray) (a2 : Option Addr) (n2 c2 : Nat) (s2 : List ByteArray) (w : World)
    (hn : cs.length = n) (hb : n ≤ 9223372036854775807) (hr : CRow w a cs) (hf : CFits cs) (hnil : a = none → n = 0 ∧ c = 0)
    (hn1 : s1.length = n1) (hb1 : n1 ≤ 9223372036854775807) (hr1 : SRow w a1 s1) (hf1 : SFits s1) (hnil1 : a1 = none → n1 = 0 ∧ c1 = 0)
    (hn2 : s2.length = n2) (hb2 : n2 ≤ 9223372036854775807) (hr2 : SRow w a2 s2) (hf2 : SFits s2) (hnil2 : a2 = none → n2 = 0 ∧ c2 = 0) :
    Calls Trym.prog 5 #[.slice a n c, .slice a1 n1 c1, .slice a2 n2 c2] w fun e w' => e = .returned (.bool true) ∧ Below w.heap.size w w' := by
  refine calls_all fun Q HQE => ?_
  have NIL := hide hnil
  have NIL1 := hide hnil1
  have NIL2 := hide hnil2
  clear hnil hnil1 hnil2
  go_enter Trym.func5, Trym.ntmps5
  go_wp2_with fail
  refine (bytesM_any a n c cs a1 n1 c1 s1 a2 n2 c2 s2 w hn hb hr hf hn1 hb1 hr1 hf1 hn2 hb2 hr2 hf2).mono ?_
  rintro e w0 ⟨x, rfl, rfl, hx⟩
  cases x
  · go_wp2
    try go_ret
    exact unhide HQE _ _ ⟨rfl, Below.refl _ _⟩
  obtain ⟨hnb, hvb⟩ := hx rfl
  clear hx
  go_wp2_with fail
  refine (tooBig_any a n c cs a1 n1 c1 s1 a2 n2 c2 s2 w hn hb hr hf hn1 hb1 hr1 hf1 hn2 hb2 hr2 hf2).mono ?_
  rintro e w0 ⟨x, rfl, rfl⟩
  cases x
  rotate_left
  · go_wp2
    try go_ret
    exact unhide HQE _ _ ⟨rfl, Below.refl _ _⟩
  by_cases h4 : 4096 < n
  · have h4' : decide ((4096 : Int) < (n : Int)) = true := decide_eq_true (by omega)
    go_wp2
    try go_ret
    exact unhide HQE _ _ ⟨rfl, Below.refl _ _⟩
  have h4' : decide ((4096 : Int) < (n : Int)) = false := decide_eq_false (by omega)
  by_cases p4 : 4096 < n1
  · have p4' : decide ((4096 : Int) < (n1 : Int)) = true := decide_eq_true (by omega)
    go_wp2
    try go_ret
    exact unhide HQE _ _ ⟨rfl, Below.refl _ _⟩
  have p4' : decide ((4096 : Int) < (n1 : Int)) = false := decide_eq_false (by omega)
  by_cases v4 : 256 < n2
  · have v4' : decide ((256 : Int) < (n2 : Int)) = true := decide_eq_true (by omega)
    go_wp2
    try go_ret
    exact unhide HQE _ _ ⟨rfl, Below.refl _ _⟩
  have v4' : decide ((256 : Int) < (n2 : Int)) = false := decide_eq_false (by omega)
  go_wp2_with fail
  refine (valueCount_any a n c cs w hn hnb hvb hr).mono ?_
  rintro e w0 ⟨rfl, rfl⟩
  by_cases h5 : 4096 < vsum cs
  · go_wp2
    try go_ret
    exact unhide HQE _ _ ⟨rfl, Below.refl _ _⟩
  have h5' : decide ((4096 : Int) < (vsum cs : Int)) = false := decide_eq_false (by omega)
  go_wp2_with fail
  refine (cloneCalls_any a n c cs w hn (by omega) (fun i hi => by have := vlen_le (cs := cs) (k := i) (by omega); omega) hr (unhide NIL)).mono ?_
  rintro e u1 ⟨a', rfl, hu1, hru⟩
  go_wp2_with fail
  refine (cloneStr_any a1 n1 c1 s1 u1 hn1 (by omega) (hr1.below hu1) (unhide NIL1)).mono ?_
  rintro e u2 ⟨a1', rfl, hu2, hr1u, _⟩
  have hu12 := below_chain hu1 hu2
  go_wp2_with fail
  refine (cloneStr_any a2 n2 c2 s2 u2 hn2 (by omega) (hr2.below hu12) (unhide NIL2)).mono ?_
  rintro e W0 ⟨a2', rfl, hu3, hr2W, _⟩
  have hrW := hru.below (below_chain hu2 hu3)
  have hr1W := hr1u.below hu3
  have hbW := below_chain hu12 hu3
  clear hr hr1 hr2 hru hr1u hu1 hu2 hu3 hu12
  go_wp2_with fail
  refine (newGroup_any W0).mono ?_
  rintro e w3 ⟨rfl, hw3⟩
  have hG0 : Grp W0 w3 W0.heap.size (ids []) (GS.start 0) 0 0 := .inl ⟨Nat.le_refl _, by rw [hw3]; exact heap_alloc_new _ _, fun t => rfl, rfl, rfl, rfl⟩
  have hb3 : Below W0.heap.size W0 w3 := by rw [hw3]; exact (Below.refl _ _).alloc (Nat.le_refl _) _
  clear hw3
  have HG0 := hide hG0
  clear hG0
  go_wp2
  go_loopw [8] (fun i wr => ∃ (k : Nat) (G : GS) (m q : Nat), k ≤ n ∧ i = .int .i64 k ∧ m ≤ k + vsum (cs.take k) ∧ Below W0.heap.size W0 wr ∧ Hid (q = dcnt cs k ∧ ∀ K, G.pk K = anyB (cs.take k) K) ∧ Grp W0 wr W0.heap.size (ids (cs.take k)) G m q) (fun i _ => n - (intOf i).toNat)
  case atStart => exact ⟨0, GS.start 0, 0, 0, Nat.zero_le _, rfl, by omega, hb3, ⟨rfl, fun K => by simp [anyB]; rfl⟩, by simpa using unhide HG0⟩
  case round =>
    clear HG0 hb3
    obtain ⟨k, G, m, q, hk, rfl, hm, hbel, hpq, hG⟩ := hrel
    have hvt := vsum_take_le cs k
    have HG := hide hG
    clear hG
    by_cases hlt : k < n
    · obtain ⟨b, off, hx, hc⟩ := hrW (by omega)
      subst hx
      have hC := hc k (by omega)
      have hF := hf k (by omega)
      have hvs := vsum_succ cs k (by omega)
      have hts := take_succ_getD cs k (by omega)
      have hvl := vlen_le (cs := cs) (k := k) (by omega)
      have hpk := fun (pk' : ByteArray → Bool) => pk_step (pk' := pk') (k := k) (by omega) hpq.out.2
      have hcst := c_step hpq.out.2 hpq.out.1
      generalize cs.getD k Call.nil = d at hC hF hvs hts hvl hpk hcst
      have hblt : b < W0.heap.size := World.block_lt_of_cell? W0 _ hC.key
      obtain ⟨c1, c2, ⟨va, vc, c3, s3, _⟩, c4⟩ := hC
      obtain ⟨f1, f2, f3, f4, f5⟩ := hF
      have e1 := (hbel.cell (p := ⟨b, off + k * 4, none⟩) hblt).trans c1
      have e2 := (hbel.cell (p := ⟨b, off + k * 4 + 1, none⟩) hblt).trans c2
      have e3 := (hbel.cell (p := ⟨b, off + k * 4 + 2, none⟩) hblt).trans c3
      have e4 := (hbel.cell (p := ⟨b, off + k * 4 + 3, none⟩) hblt).trans c4
      have hk1 : (k : Int) < (n : Int) := by omega
      have hk0 : (0 : Int) ≤ (k : Int) := by omega
      have HS3 := hide s3
      have HF4 := hide f4
      have HTS := hide hts
      have HVS := hide hvs
      have HPK := hide hpk
      have HCST := hide hcst
      have hil : ∀ t, (ids (cs.take k) t).length ≤ 100000 := fun t => by have := ids_len (cs.take k) t; simp at this; omega
      have HIL := hide hil
      clear s3 f4 hc hts hvs hil hpk hcst
      go_wp2
      go_region_held3 (fun w' => w'.cell? ⟨b, off + k * 4, none⟩ = some (.string d.key) ∧ w'.cell? ⟨b, off + k * 4 + 1, none⟩ = some (.int .i64 d.kind) ∧ w'.cell? ⟨b, off + k * 4 + 2, none⟩ = some (.slice va d.vals.length vc) ∧ w'.cell? ⟨b, off + k * 4 + 3, none⟩ = some (.int .i64 d.id))
        (first | go_keep | (go_split_ands; exact ⟨k1, k2, k3, k4⟩))
        ((go_at_call 20; refine (zzfile_any W0 W0.heap.size G (ids (cs.take k)) m q d.key d.kind va d.vals.length vc d.vals d.id _ ((unhide HG).below (Below.refl _ _).drew) hbel.drew f1 rfl (by omega) (unhide HS3) (unhide HF4) (by omega) (unhide HIL)).mono ?_; rintro e w4 ⟨rfl, G', m', hm', hpk4, hb4, hH4, hR4⟩; have k1 := (hb4.cell (p := ⟨b, off + k * 4, none⟩) hblt).trans c1; have k2 := (hb4.cell (p := ⟨b, off + k * 4 + 1, none⟩) hblt).trans c2; have k3 := (hb4.cell (p := ⟨b, off + k * 4 + 2, none⟩) hblt).trans c3; have k4 := (hb4.cell (p := ⟨b, off + k * 4 + 3, none⟩) hblt).trans c4; have HPK4 := hide hpk4; clear hpk4))
      have HH4 := hide hH4
      have HR4 := hide hR4
      clear hH4 hR4 k1 k2 k3 k4 e1 e2 e3 e4
      go_wp2
      go_roundw
      case rel =>
        refine ⟨k + 1, G', m', _, by omega, by go_num, by have := unhide HVS; omega, hb4, ⟨unhide HCST, unhide HPK _ (unhide HPK4)⟩, .inr ⟨unhide HH4, ?_⟩⟩
        rw [unhide HTS, ids_snoc]
        exact unhide HR4
      case measure => simp [intOf]; omega
    · obtain ⟨wF, hwF⟩ : ∃ x, x = wr := ⟨wr, rfl⟩
      subst hwF
      have hkn : cs.take k = cs := List.take_of_length_le (by omega)
      have hkn2 : k = n := by omega
      have hG7 := unhide HG
      rw [hkn] at hG7
      have HG7 := hide hG7
      have hpq2 := hpq.out
      rw [hkn, hkn2] at hpq2
      have HPQ := hide hpq2
      have hil : ∀ t, (ids cs t).length ≤ 100000 := fun t => by have := ids_len cs t; omega
      have HIL := hide hil
      have hvl : ∀ j, j < n → (cs.getD j Call.nil).vals.length ≤ 1048576 := fun j hj => by have := vlen_le (cs := cs) (k := j) (by omega); omega
      have HVL := hide hvl
      clear HG hG7 hkn hkn2 hvt hm hil hpq hpq2 hvl
      go_wp2
      go_loopw [9, 10] (fun dv i w7 => ∃ k : Nat, k ≤ n ∧ i = .int .i64 k ∧ dv = .int .i64 (dcnt cs k) ∧ Below wF.heap.size wF w7) (fun _ i _ => n - (intOf i).toNat)
      case atStart => exact ⟨0, Nat.zero_le _, rfl, rfl, Below.refl _ _⟩
      case round =>
        obtain ⟨w7, hw7⟩ : ∃ x, x = wr := ⟨wr, rfl⟩
        subst hw7
        obtain ⟨k2, hk2, rfl, rfl, hb7⟩ := hrel
        have hdle := dcnt_le cs k2
        by_cases hlt2 : k2 < n
        · have hbx := hbel.trans (hb7.mono hbel.size)
          have hrx := hrW.below hbx
          obtain ⟨b, off, hx, hc⟩ := hrW (by omega)
          have hC := hc k2 (by omega)
          have hF := hf k2 (by omega)
          have hpk0 : G.pk (cs.getD k2 Call.nil).key = true := by rw [(unhide HPQ).2]; exact anyB_true (by omega) rfl
          have hds : dcnt cs (k2 + 1) = dcnt cs k2 + if firstB cs k2 then 1 else 0 := rfl
          generalize cs.getD k2 Call.nil = d at hC hF hpk0
          have hblt : b < W0.heap.size := World.block_lt_of_cell? W0 _ hC.key
          obtain ⟨c1, c2, ⟨va, vc, c3, s3, _⟩, c4⟩ := hC
          obtain ⟨f1, f2, f3, f4, f5⟩ := hF
          have hcc : ∀ (q : Nat) (wx : World), Below W0.heap.size W0 wx → wx.cell? ⟨b, q, none⟩ = W0.cell? ⟨b, q, none⟩ := fun q wx h => h.cell (p := ⟨b, q, none⟩) hblt
          have HCC := hide hcc
          have e1 := (unhide HCC (off + k2 * 4) _ hbx).trans c1
          have HS3 := hide s3
          have HF4 := hide f4
          have HRX := hide hrx
          generalize hdd : dcnt cs k2 = dd at hds hdle
          have HDS := hide hds
          rw [hx]
          clear hc s3 f4 hcc hrx hdd hds
          go_wp2_with fail
          refine (first_any (some ⟨b, off, none⟩) n n k2 cs w7 hn (by omega) hlt2 (by rw [← hx]; exact unhide HRX)).mono ?_
          rintro e w8 ⟨rfl, hb8⟩
          have hb78 := below_chain hb7 hb8
          cases hfb : firstB cs k2
          · have hds := unhide HDS
            rw [hfb] at hds
            have HD2 := hide hds
            clear hds HDS hfb hb7 hb8 e1
            go_wp2
            go_loopw [14] (fun j wx => ∃ t : Nat, t ≤ d.vals.length ∧ j = .int .i64 t ∧ Below wF.heap.size wF wx) (fun j _ => d.vals.length - (intOf j).toNat)
            case atStart => exact ⟨0, Nat.zero_le _, rfl, hb78⟩
            case round =>
              obtain ⟨wy, hwy⟩ : ∃ x, x = wr := ⟨wr, rfl⟩
              subst hwy
              obtain ⟨t2, ht2, rfl, hbt2⟩ := hrel
              have hbWy := hbel.trans (hbt2.mono hbel.size)
              have e3 := (unhide HCC (off + k2 * 4 + 2) _ hbWy).trans c3
              by_cases hlt4 : t2 < d.vals.length
              · obtain ⟨bv, ov, hxv, hcv⟩ := (unhide HS3).below hbWy (by omega)
                subst hxv
                have hcv' := hcv t2 hlt4
                have hsz := unhide HF4 t2 hlt4
                generalize d.vals.getD t2 ByteArray.empty = V at hcv' hsz
                have hGy := (unhide HG7).below hbt2
                obtain ⟨va2, vc2, hae, har⟩ := hGy.slice (d.key, some (some V))
                have hl3 := unhide HIL (d.key, some (some V))
                have HAE := hide hae
                clear hcv hae
                go_wp2_with fail
                refine (allowing_any W0 wy W0.heap.size (ids cs) G m q d.key V hGy f1 hsz).mono ?_
                rintro e w12 ⟨rfl, rfl⟩
                rw [unhide HAE]
                go_wp2_with fail
                refine (allowAgrees_any (some ⟨b, off, none⟩) n n cs d.key V va2 _ vc2 wy hn (by omega) (by rw [← hx]; exact hrW.below hbWy) (unhide HVL) rfl (by omega) har).mono ?_
                rintro e w13 ⟨rfl, hb13⟩
                go_wp2
                go_roundw
                case rel => exact ⟨t2 + 1, by omega, by go_num, below_chain hbt2 hb13⟩
                case measure => simp [intOf]; omega
              · go_wp2
                go_roundw
                case rel => exact ⟨k2 + 1, by omega, by go_num, by rw [unhide HD2]; go_num, hbt2⟩
                case measure => simp [intOf]; omega
          · have hds := unhide HDS
            rw [hfb] at hds
            have HD2 := hide hds
            clear hds HDS hfb hb7 hb8 e1
            have hG8 := (unhide HG7).below hb78
            go_wp2_with fail
            refine (hasKey_any W0 w8 W0.heap.size (ids cs) G m q d.key hG8 f1).mono ?_
            rintro e w9 ⟨rfl, rfl⟩
            rw [hpk0]
            go_wp2_with fail
            refine (otherKey_any W0 w8 W0.heap.size (ids cs) G m q d.key hG8 f1 hpk0).mono ?_
            rintro e w9 ⟨rfl, rfl⟩
            have hss := (str_eq (rfl : d.key = d.key)).2
            go_wp2_with fail
            refine (requiring_any W0 w8 W0.heap.size (ids cs) G m q d.key hG8 f1).mono ?_
            rintro e w9 ⟨rfl, rfl⟩
            obtain ⟨ra, rc, hre, hrr⟩ := hG8.slice (d.key, none)
            obtain ⟨ua, uc, hue, hur⟩ := hG8.slice (d.key, some none)
            have hl1 := unhide HIL (d.key, none)
            have hl2 := unhide HIL (d.key, some none)
            have HUE := hide hue
            rw [hre]
            have hbx8 := hbel.trans (hb78.mono hbel.size)
            clear hue
            go_wp2_with fail
            refine (listAgrees_any (some ⟨b, off, none⟩) n n cs d.key false ra _ rc w8 hn (by omega) (by rw [← hx]; exact hrW.below hbx8) rfl (show (ids cs (d.key, none)).length ≤ 1048576 by omega) (by exact hrr)).mono ?_
            rintro e w9 ⟨rfl, hb9⟩
            have hb79 := below_chain hb78 hb9
            have hG9 := (unhide HG7).below hb79
            go_wp2_with fail
            refine (valued_any W0 w9 W0.heap.size (ids cs) G m q d.key hG9 f1).mono ?_
            rintro e w10 ⟨rfl, rfl⟩
            rw [unhide HUE]
            have hbx9 := hbel.trans (hb79.mono hbel.size)
            go_wp2_with fail
            refine (listAgrees_any (some ⟨b, off, none⟩) n n cs d.key true ua _ uc w9 hn (by omega) (by rw [← hx]; exact hrW.below hbx9) rfl (show (ids cs (d.key, some none)).length ≤ 1048576 by omega) (by exact hur.below hb9)).mono ?_
            rintro e w11 ⟨rfl, hb11⟩
            have hb711 := below_chain hb79 hb11
            clear hG8 hG9 hrr hur hb9 hb11 hb79 hb78 hbx8 hbx9
            go_wp2
            go_loopw [12] (fun j wx => ∃ t : Nat, t ≤ n2 ∧ j = .int .i64 t ∧ Below wF.heap.size wF wx) (fun j _ => n2 - (intOf j).toNat)
            case atStart => exact ⟨0, Nat.zero_le _, rfl, hb711⟩
            case round =>
              obtain ⟨wx, hwx⟩ : ∃ x, x = wr := ⟨wr, rfl⟩
              subst hwx
              obtain ⟨t, ht, rfl, hbt⟩ := hrel
              by_cases hlt3 : t < n2
              · have hbWx := hbel.trans (hbt.mono hbel.size)
                obtain ⟨bv, ov, hxv, hcv⟩ := hr2W.below hbWx (by omega)
                subst hxv
                have hcv' := hcv t (by omega)
                have hsz := hf2 t (by omega)
                generalize s2.getD t ByteArray.empty = V at hcv' hsz
                have hGx := (unhide HG7).below hbt
                obtain ⟨va2, vc2, hae, har⟩ := hGx.slice (d.key, some (some V))
                have hl3 := unhide HIL (d.key, some (some V))
                have HAE := hide hae
                clear hcv hae
                go_wp2_with fail
                refine (allowing_any W0 wx W0.heap.size (ids cs) G m q d.key V hGx f1 hsz).mono ?_
                rintro e w12 ⟨rfl, rfl⟩
                rw [unhide HAE]
                go_wp2_with fail
                refine (allowAgrees_any (some ⟨b, off, none⟩) n n cs d.key V va2 _ vc2 wx hn (by omega) (by rw [← hx]; exact hrW.below hbWx) (unhide HVL) rfl (by omega) har).mono ?_
                rintro e w13 ⟨rfl, hb13⟩
                go_wp2
                go_roundw
                case rel => exact ⟨t + 1, by omega, by go_num, below_chain hbt hb13⟩
                case measure => simp [intOf]; omega
              · go_wp2
                go_loopw [14] (fun j wx => ∃ t : Nat, t ≤ d.vals.length ∧ j = .int .i64 t ∧ Below wF.heap.size wF wx) (fun j _ => d.vals.length - (intOf j).toNat)
                case atStart => exact ⟨0, Nat.zero_le _, rfl, hbt⟩
                case round =>
                  obtain ⟨wy, hwy⟩ : ∃ x, x = wr := ⟨wr, rfl⟩
                  subst hwy
                  obtain ⟨t2, ht2, rfl, hbt2⟩ := hrel
                  have hbWy := hbel.trans (hbt2.mono hbel.size)
                  have e3 := (unhide HCC (off + k2 * 4 + 2) _ hbWy).trans c3
                  by_cases hlt4 : t2 < d.vals.length
                  · obtain ⟨bv, ov, hxv, hcv⟩ := (unhide HS3).below hbWy (by omega)
                    subst hxv
                    have hcv' := hcv t2 hlt4
                    have hsz := unhide HF4 t2 hlt4
                    generalize d.vals.getD t2 ByteArray.empty = V at hcv' hsz
                    have hGy := (unhide HG7).below hbt2
                    obtain ⟨va2, vc2, hae, har⟩ := hGy.slice (d.key, some (some V))
                    have hl3 := unhide HIL (d.key, some (some V))
                    have HAE := hide hae
                    clear hcv hae
                    go_wp2_with fail
                    refine (allowing_any W0 wy W0.heap.size (ids cs) G m q d.key V hGy f1 hsz).mono ?_
                    rintro e w12 ⟨rfl, rfl⟩
                    rw [unhide HAE]
                    go_wp2_with fail
                    refine (allowAgrees_any (some ⟨b, off, none⟩) n n cs d.key V va2 _ vc2 wy hn (by omega) (by rw [← hx]; exact hrW.below hbWy) (unhide HVL) rfl (by omega) har).mono ?_
                    rintro e w13 ⟨rfl, hb13⟩
                    go_wp2
                    go_roundw
                    case rel => exact ⟨t2 + 1, by omega, by go_num, below_chain hbt2 hb13⟩
                    case measure => simp [intOf]; omega
                  · go_wp2
                    go_roundw
                    case rel => exact ⟨k2 + 1, by omega, by go_num, by rw [unhide HD2]; go_num, hbt2⟩
                    case measure => simp [intOf]; omega
        · have hkk : k2 = n := by omega
          subst hkk
          have hq : q = dcnt cs k2 := (unhide HPQ).1
          rw [← hq]
          clear hq hdle
          go_wp2_with fail
          refine (keyCount_any W0 w7 W0.heap.size (ids cs) G m q ((unhide HG7).below hb7)).mono ?_
          rintro e w8 ⟨rfl, rfl⟩
          have hqq : ((q : Int) != (q : Int)) = false := by simp
          go_wp2
          go_loopw [16] (fun j wx => ∃ t : Nat, t ≤ n1 ∧ j = .int .i64 t ∧ Below wF.heap.size wF wx) (fun j _ => n1 - (intOf j).toNat)
          case atStart => exact ⟨0, Nat.zero_le _, rfl, hb7⟩
          case round =>
            obtain ⟨wx, hwx⟩ : ∃ x, x = wr := ⟨wr, rfl⟩
            subst hwx
            obtain ⟨t, ht, rfl, hbt⟩ := hrel
            by_cases hlt3 : t < n1
            · have hbWx := hbel.trans (hbt.mono hbel.size)
              obtain ⟨bv, ov, hxv, hcv⟩ := hr1W.below hbWx (by omega)
              subst hxv
              have hcv' := hcv t (by omega)
              have hsz := hf1 t (by omega)
              generalize s1.getD t ByteArray.empty = K at hcv' hsz
              have hGx := (unhide HG7).below hbt
              clear hcv
              go_wp2_with fail
              refine (hasKey_any W0 wx W0.heap.size (ids cs) G m q K hGx hsz).mono ?_
              rintro e w9 ⟨rfl, rfl⟩
              rw [(unhide HPQ).2 K]
              go_wp2_with fail
              refine (anyWith_any a' k2 k2 cs K wx hn (by omega) (hrW.below hbWx)).mono ?_
              rintro e w9 ⟨rfl, rfl⟩
              generalize anyB cs K = vb
              have hbne : (vb != vb) = false := by cases vb <;> rfl
              go_wp2_with fail
              refine (requiring_any W0 wx W0.heap.size (ids cs) G m q K hGx hsz).mono ?_
              rintro e w9 ⟨rfl, rfl⟩
              obtain ⟨ra, rc, hre, hrr⟩ := hGx.slice (K, none)
              obtain ⟨ua, uc, hue, hur⟩ := hGx.slice (K, some none)
              have hl1 := unhide HIL (K, none)
              have hl2 := unhide HIL (K, some none)
              have HUE := hide hue
              rw [hre]
              clear hue
              go_wp2_with fail
              refine (listAgrees_any a' k2 k2 cs K false ra _ rc wx hn (by omega) (hrW.below hbWx) rfl (show (ids cs (K, none)).length ≤ 1048576 by omega) (by exact hrr)).mono ?_
              rintro e w9 ⟨rfl, hb9⟩
              have hb79 := below_chain hbt hb9
              have hG9 := (unhide HG7).below hb79
              go_wp2_with fail
              refine (valued_any W0 w9 W0.heap.size (ids cs) G m q K hG9 hsz).mono ?_
              rintro e w10 ⟨rfl, rfl⟩
              rw [unhide HUE]
              have hbx9 := hbel.trans (hb79.mono hbel.size)
              go_wp2_with fail
              refine (listAgrees_any a' k2 k2 cs K true ua _ uc w9 hn (by omega) (hrW.below hbx9) rfl (show (ids cs (K, some none)).length ≤ 1048576 by omega) (by exact hur.below hb9)).mono ?_
              rintro e w11 ⟨rfl, hb11⟩
              go_wp2
              go_roundw
              case rel => exact ⟨t + 1, by omega, by go_num, below_chain hb79 hb11⟩
              case measure => simp [intOf]; omega
            · go_wp2
              try go_ret
              exact unhide HQE _ _ ⟨rfl, below_chain hbW (hbel.trans (hbt.mono hbel.size))⟩

end Go.Proofs.Qxb6600623aMods
