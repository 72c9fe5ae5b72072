import Derived.Test.Qxb6600623aModsIds
import Derived.Test.Qxb6600623aModsCClone2
set_option linter.unusedVariables false
set_option linter.unusedSimpArgs false
namespace Go.Proofs.Qxb6600623aMods
open Go.RowKit

theorem below_chain {a b c : World} (h : Below a.heap.size a b) (k : Below b.heap.size b c) : Below a.heap.size a c := h.trans (k.mono h.size)

theorem mem_getD {cs : List Call} {k : Nat} (h : k < cs.length) : cs.getD k Call.nil ∈ cs := by simp [List.getD, h]

theorem vlen_le {cs : List Call} {k : Nat} (h : k < cs.length) : (cs.getD k Call.nil).vals.length ≤ vsum cs := by
  have h1 := vsum_succ cs k h
  have h2 := vsum_take_le cs (k + 1)
  omega

set_option maxRecDepth 100000 in
set_option maxHeartbeats 8000000 in
theorem keeps_any (a : Option Addr) (n c : Nat) (cs : List Call) (w : World) (hn : cs.length = n) (hb : n ≤ 9223372036854775807) (hr : CRow w a cs) (hf : CFits cs) (hnil : a = none → n = 0 ∧ c = 0) :
    Calls Trym.prog 6 #[.slice a n c] w fun e w' => e = .returned (.bool true) ∧ Below w.heap.size w w' := by
  refine calls_all fun Q HQE => ?_
  have NIL := hide hnil
  clear hnil
  go_enter Trym.func6, Trym.ntmps6
  go_wp2_with fail
  refine (bytesK_any a n c cs w hn hb hr hf).mono ?_
  rintro e w0 ⟨x, rfl, rfl, hx⟩
  cases x
  · go_wp2
    try go_ret
    exact unhide HQE _ _ ⟨rfl, Below.refl _ _⟩
  obtain ⟨hnb, hvb⟩ := hx rfl
  clear hx
  go_wp2_with fail
  refine (tooBig_any a n c cs none 0 0 [] none 0 0 [] w hn hb hr hf rfl (by omega) (fun h => by simp at h) (fun i hi => by simp at hi) rfl (by omega) (fun h => by simp at h) (fun i hi => by simp at hi)).mono ?_
  rintro e w0 ⟨x, rfl, rfl⟩
  cases x
  rotate_left
  · go_wp2
    try go_ret
    exact unhide HQE _ _ ⟨rfl, Below.refl _ _⟩
  by_cases h4 : 4096 < n
  · have h4' : decide ((4096 : Int) < (n : Int)) = true := decide_eq_true (by omega)
    go_wp2
    try go_ret
    exact unhide HQE _ _ ⟨rfl, Below.refl _ _⟩
  have h4' : decide ((4096 : Int) < (n : Int)) = false := decide_eq_false (by omega)
  go_wp2_with fail
  refine (valueCount_any a n c cs w hn hnb hvb hr).mono ?_
  rintro e w0 ⟨rfl, rfl⟩
  by_cases h5 : 4096 < vsum cs
  · go_wp2
    try go_ret
    exact unhide HQE _ _ ⟨rfl, Below.refl _ _⟩
  have h5' : decide ((4096 : Int) < (vsum cs : Int)) = false := decide_eq_false (by omega)
  go_wp2_with fail
  refine (strictIds_any a n c cs w hn hnb hr).mono ?_
  rintro e w1 ⟨x, rfl, hb1, hx⟩
  have HX := hide hx
  clear hx
  cases x
  · go_wp2
    try go_ret
    exact unhide HQE _ _ ⟨rfl, hb1⟩
  have hS := hide (unhide HX rfl)
  clear HX
  go_wp2_with fail
  refine (cloneCalls_any a n c cs w1 hn (by omega) (fun i hi => by have := vlen_le (cs := cs) (k := i) (by omega); omega) (hr.below hb1) (unhide NIL)).mono ?_
  rintro e W0 ⟨a', rfl, hb2, hr2⟩
  have hbW := below_chain hb1 hb2
  clear hr hb1 hb2
  go_wp2_with fail
  refine (newGroup_any W0).mono ?_
  rintro e w3 ⟨rfl, hw3⟩
  have hG0 : Grp W0 w3 W0.heap.size (ids []) (GS.start 0) 0 0 := .inl ⟨Nat.le_refl _, by rw [hw3]; exact heap_alloc_new _ _, fun t => rfl, rfl, rfl, rfl⟩
  have hb3 : Below W0.heap.size W0 w3 := by rw [hw3]; exact (Below.refl _ _).alloc (Nat.le_refl _) _
  clear hw3
  have HG0 := hide hG0
  clear hG0
  go_wp2
  go_loopw [4] (fun i wr => ∃ (k : Nat) (G : GS) (m q : Nat), k ≤ n ∧ i = .int .i64 k ∧ m ≤ k + vsum (cs.take k) ∧ Below W0.heap.size W0 wr ∧ Grp W0 wr W0.heap.size (ids (cs.take k)) G m q) (fun i _ => n - (intOf i).toNat)
  case atStart => exact ⟨0, _, 0, 0, Nat.zero_le _, rfl, by omega, hb3, by simpa using unhide HG0⟩
  case round =>
    clear HG0 hb3
    obtain ⟨k, G, m, q, hk, rfl, hm, hbel, hG⟩ := hrel
    have hvt := vsum_take_le cs k
    have HG := hide hG
    clear hG
    by_cases hlt : k < n
    · obtain ⟨b, off, hx, hc⟩ := hr2 (by omega)
      subst hx
      have hC := hc k (by omega)
      have hF := hf k (by omega)
      have hvs := vsum_succ cs k (by omega)
      have hts := take_succ_getD cs k (by omega)
      have hvl := vlen_le (cs := cs) (k := k) (by omega)
      generalize cs.getD k Call.nil = d at hC hF hvs hts hvl
      have hblt : b < W0.heap.size := World.block_lt_of_cell? W0 _ hC.key
      obtain ⟨c1, c2, ⟨va, vc, c3, s3, _⟩, c4⟩ := hC
      obtain ⟨f1, f2, f3, f4, f5⟩ := hF
      have e1 := (hbel.cell (p := ⟨b, off + k * 4, none⟩) hblt).trans c1
      have e2 := (hbel.cell (p := ⟨b, off + k * 4 + 1, none⟩) hblt).trans c2
      have e3 := (hbel.cell (p := ⟨b, off + k * 4 + 2, none⟩) hblt).trans c3
      have e4 := (hbel.cell (p := ⟨b, off + k * 4 + 3, none⟩) hblt).trans c4
      have hk1 : (k : Int) < (n : Int) := by omega
      have hk0 : (0 : Int) ≤ (k : Int) := by omega
      have HS3 := hide s3
      have HF4 := hide f4
      have HTS := hide hts
      have HVS := hide hvs
      have hil : ∀ t, (ids (cs.take k) t).length ≤ 100000 := fun t => by have := ids_len (cs.take k) t; simp at this; omega
      have HIL := hide hil
      clear s3 f4 hc hts hvs hil
      go_wp2
      go_region_held3 (fun w' => w'.cell? ⟨b, off + k * 4, none⟩ = some (.string d.key) ∧ w'.cell? ⟨b, off + k * 4 + 1, none⟩ = some (.int .i64 d.kind) ∧ w'.cell? ⟨b, off + k * 4 + 2, none⟩ = some (.slice va d.vals.length vc) ∧ w'.cell? ⟨b, off + k * 4 + 3, none⟩ = some (.int .i64 d.id))
        (first | go_keep | (go_split_ands; exact ⟨k1, k2, k3, k4⟩))
        ((go_at_call 20; refine (zzfile_any W0 W0.heap.size G (ids (cs.take k)) m q d.key d.kind va d.vals.length vc d.vals d.id _ ((unhide HG).below (Below.refl _ _).drew) hbel.drew f1 rfl (by omega) (unhide HS3) (unhide HF4) (by omega) (unhide HIL)).mono ?_; rintro e w4 ⟨rfl, G', m', hm', _, hb4, hH4, hR4⟩; have k1 := (hb4.cell (p := ⟨b, off + k * 4, none⟩) hblt).trans c1; have k2 := (hb4.cell (p := ⟨b, off + k * 4 + 1, none⟩) hblt).trans c2; have k3 := (hb4.cell (p := ⟨b, off + k * 4 + 2, none⟩) hblt).trans c3; have k4 := (hb4.cell (p := ⟨b, off + k * 4 + 3, none⟩) hblt).trans c4))
      have HH4 := hide hH4
      have HR4 := hide hR4
      clear hH4 hR4 k1 k2 k3 k4 e1 e2 e3 e4
      go_wp2
      go_roundw
      case rel =>
        refine ⟨k + 1, G', m', _, by omega, by go_num, by have := unhide HVS; omega, hb4, .inr ⟨unhide HH4, ?_⟩⟩
        rw [unhide HTS, ids_snoc]
        exact unhide HR4
      case measure => simp [intOf]; omega
    · obtain ⟨wF, hwF⟩ : ∃ x, x = wr := ⟨wr, rfl⟩
      subst hwF
      have hkn : cs.take k = cs := List.take_of_length_le (by omega)
      have hG7 := unhide HG
      rw [hkn] at hG7
      have HG7 := hide hG7
      have hil : ∀ t, (ids cs t).length ≤ 100000 := fun t => by have := ids_len cs t; omega
      have HIL := hide hil
      clear HG hG7 hkn hvt hm hil
      go_wp2
      go_loopw [5] (fun i w7 => ∃ k : Nat, k ≤ n ∧ i = .int .i64 k ∧ Below wF.heap.size wF w7) (fun i _ => n - (intOf i).toNat)
      case atStart => exact ⟨0, Nat.zero_le _, rfl, Below.refl _ _⟩
      case round =>
        obtain ⟨w7, hw7⟩ : ∃ x, x = wr := ⟨wr, rfl⟩
        subst hw7
        obtain ⟨k2, hk2, rfl, hb7⟩ := hrel
        by_cases hlt2 : k2 < n
        · have hbx := hbel.trans (hb7.mono hbel.size)
          obtain ⟨b, off, hx, hc⟩ := hr2 (by omega)
          subst hx
          have hC := hc k2 (by omega)
          have hF := hf k2 (by omega)
          have hmem := mem_getD (cs := cs) (k := k2) (by omega)
          generalize cs.getD k2 Call.nil = d at hC hF hmem
          have hblt : b < W0.heap.size := World.block_lt_of_cell? W0 _ hC.key
          obtain ⟨c1, c2, ⟨va, vc, c3, s3, _⟩, c4⟩ := hC
          obtain ⟨f1, f2, f3, f4, f5⟩ := hF
          have hcc : ∀ (q : Nat) (wx : World), Below W0.heap.size W0 wx → wx.cell? ⟨b, q, none⟩ = W0.cell? ⟨b, q, none⟩ := fun q wx h => h.cell (p := ⟨b, q, none⟩) hblt
          have HCC := hide hcc
          have e1 := (unhide HCC (off + k2 * 4) _ hbx).trans c1
          have e4 := (unhide HCC (off + k2 * 4 + 3) _ hbx).trans c4
          have HS3 := hide s3
          have HF4 := hide f4
          clear hc s3 f4 hcc
          have hG8 := (unhide HG7).below hb7
          go_wp2_with fail
          refine (requiring_any W0 w7 W0.heap.size (ids cs) G m q d.key hG8 f1).mono ?_
          rintro e w8 ⟨rfl, rfl⟩
          go_wp2_with fail
          refine (valued_any W0 w7 W0.heap.size (ids cs) G m q d.key hG8 f1).mono ?_
          rintro e w8 ⟨rfl, rfl⟩
          obtain ⟨ra, rc, hre, hrr⟩ := hG8.slice (d.key, none)
          obtain ⟨ua, uc, hue, hur⟩ := hG8.slice (d.key, some none)
          rw [hre, hue]
          have hl1 := unhide HIL (d.key, none)
          have hl2 := unhide HIL (d.key, some none)
          clear hG8 e1 e4
          go_wp2_with fail
          refine (asc_any ra _ rc (ids cs (d.key, none)) w7 rfl (by omega) hrr (asc_req (unhide hS) d.key)).mono ?_
          rintro e w8 ⟨rfl, hb8⟩
          go_wp2_with fail
          refine (asc_any ua _ uc (ids cs (d.key, some none)) w8 rfl (by omega) (hur.below hb8) (asc_val (unhide hS) d.key)).mono ?_
          rintro e w9 ⟨rfl, hb9⟩
          have hb79 := below_chain hb8 hb9
          go_wp2_with fail
          refine (subset_any ua _ uc (ids cs (d.key, some none)) ra _ rc (ids cs (d.key, none)) w9 rfl (by omega) (hur.below hb79) rfl (by omega) (hrr.below hb79) (asc_val (unhide hS) d.key).nd (asc_req (unhide hS) d.key).nd (val_in_req cs d.key)).mono ?_
          rintro e w10 ⟨rfl, hb10⟩
          have hb710 := below_chain hb79 hb10
          go_wp2_with fail
          refine (has_any ra _ rc (ids cs (d.key, none)) d.id w10 rfl (by omega) (hrr.below hb710)).mono ?_
          rintro e w11 ⟨rfl, rfl⟩
          rw [decide_eq_true (in_req hmem)]
          have hbW10 := hbx.trans (hb710.mono hbx.size)
          have e2 := (unhide HCC (off + k2 * 4 + 1) _ hbW10).trans c2
          have hq10 := hur.below hb710
          clear hb8 hb9 hb79 hb10 hrr
          obtain ⟨vb, hvb⟩ : ∃ vb, vb = (d.kind == 0) := ⟨_, rfl⟩
          have hvd : decide (d.kind = 0) = vb := by rw [hvb]; rfl
          have hvv := hide ((in_val (unhide hS) hmem).trans hvd)
          have hva := hide (fun V (hV : V ∈ d.vals) => (in_all (unhide hS) hmem hV).trans hvd)
          have hvb' : (d.kind == 0) = vb := hvb.symm
          clear hvb hvd
          go_wp2_with fail
          refine (has_any ua _ uc (ids cs (d.key, some none)) d.id w10 rfl (by omega) hq10).mono ?_
          rintro e w11 ⟨rfl, rfl⟩
          rw [unhide hvv]
          have hbne : (vb != vb) = false := by cases vb <;> rfl
          have hb7F := below_chain hb7 hb710
          go_wp2
          go_loopw [11] (fun j wx => ∃ t : Nat, t ≤ d.vals.length ∧ j = .int .i64 t ∧ Below w10.heap.size w10 wx) (fun j _ => d.vals.length - (intOf j).toNat)
          case atStart => exact ⟨0, Nat.zero_le _, rfl, Below.refl _ _⟩
          case round =>
            obtain ⟨wx, hwx⟩ : ∃ x, x = wr := ⟨wr, rfl⟩
            subst hwx
            obtain ⟨t, ht, rfl, hbt⟩ := hrel
            have hbWx := hbW10.trans (hbt.mono hbW10.size)
            have e3 := (unhide HCC (off + k2 * 4 + 2) _ hbWx).trans c3
            by_cases hlt3 : t < d.vals.length
            · obtain ⟨bv, ov, hxv, hcv⟩ := (unhide HS3).below hbWx (by omega)
              subst hxv
              have hcv' := hcv t hlt3
              have hsz := unhide HF4 t hlt3
              have hVm : d.vals.getD t ByteArray.empty ∈ d.vals := by simp [List.getD, hlt3]
              generalize d.vals.getD t ByteArray.empty = V at hcv' hsz hVm
              have hvvV := hide (unhide hva V hVm)
              have hGx := (unhide HG7).below (below_chain hb7F hbt)
              obtain ⟨va2, vc2, hae, har⟩ := hGx.slice (d.key, some (some V))
              have hl3 := unhide HIL (d.key, some (some V))
              have HAE := hide hae
              clear hcv hVm hae
              go_wp2_with fail
              refine (allowing_any W0 wx W0.heap.size (ids cs) G m q d.key V hGx f1 hsz).mono ?_
              rintro e w12 ⟨rfl, rfl⟩
              rw [unhide HAE]
              go_wp2_with fail
              refine (ndec_any va2 _ vc2 (ids cs (d.key, some (some V))) wx rfl (by omega) har (ndec_all (unhide hS) d.key V)).mono ?_
              rintro e w12 ⟨rfl, hb12⟩
              go_wp2_with fail
              refine (subset_any va2 _ vc2 (ids cs (d.key, some (some V))) ua _ uc (ids cs (d.key, some none)) w12 rfl (by omega) (har.below hb12) rfl (by omega) (hq10.below (below_chain hbt hb12)) (ndec_all (unhide hS) d.key V) (asc_val (unhide hS) d.key).nd (all_in_val cs d.key V)).mono ?_
              rintro e w13 ⟨rfl, hb13⟩
              have hbx13 := below_chain hb12 hb13
              go_wp2_with fail
              refine (has_any va2 _ vc2 (ids cs (d.key, some (some V))) d.id w13 rfl (by omega) (har.below hbx13)).mono ?_
              rintro e w14 ⟨rfl, rfl⟩
              rw [unhide hvvV]
              go_wp2
              go_roundw
              case rel => exact ⟨t + 1, by omega, by go_num, below_chain hbt hbx13⟩
              case measure => simp [intOf]; omega
            · go_wp2
              go_roundw
              case rel => exact ⟨k2 + 1, by omega, by go_num, below_chain hb7F hbt⟩
              case measure => simp [intOf]; omega
        · go_wp2
          try go_ret
          exact unhide HQE _ _ ⟨rfl, below_chain hbW (hbel.trans (hb7.mono hbel.size))⟩

end Go.Proofs.Qxb6600623aMods
