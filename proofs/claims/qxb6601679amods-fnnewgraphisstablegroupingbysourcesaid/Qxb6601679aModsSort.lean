import Derived.Test.Qxb6601679aModsCopy
import Derived.Test.Qxb6601679aModsSLaw
import Derived.BigQuiet
import Derived.Deep.QuietTactic
set_option linter.unusedVariables false
set_option linter.unusedSimpArgs false
namespace Go.Proofs.Qxb6601679aMods
open Go.RowKit

/-- Each stretch of wd places is a run. -/
def Sorted (zs A : List Int) (P : Nat → Nat) (wd m : Nat) : Prop := ∀ lo, wd ∣ lo → lo < m → Run zs A P lo (min (lo + wd) m)
/-- .. those ahead of lo. -/
def Done (zs B : List Int) (R : Nat → Nat) (wd lo m : Nat) : Prop := ∀ l, wd ∣ l → l < lo → l < m → Run zs B R l (min (l + wd) m)

theorem sorted_one (zs : List Int) (m : Nat) : Sorted zs zs id 1 m := fun lo _ h => by
  rw [show min (lo + 1) m = lo + 1 by omega]
  exact run_one zs lo
theorem run_empty (zs A : List Int) (P : Nat → Nat) (x : Nat) : Run zs A P x x := ⟨fun y a b => by omega, fun y z a b c => by omega, fun y a b => by omega⟩
theorem sorted_end {zs A : List Int} {P : Nat → Nat} {wd m : Nat} (h : Sorted zs A P wd m) (hw : m ≤ wd) : Run zs A P 0 m := by
  rcases Nat.eq_zero_or_pos m with h0 | h0
  · subst h0; exact run_empty _ _ _ _
  · have := h 0 (Nat.dvd_zero wd) h0
    rwa [show min (0 + wd) m = m by omega] at this
theorem done_sorted {zs B : List Int} {R : Nat → Nat} {wd lo m : Nat} (h : Done zs B R wd lo m) (hl : m ≤ lo) : Sorted zs B R wd m := fun l hd hm => h l hd (by omega) hm
theorem sorted_left {zs A : List Int} {P : Nat → Nat} {wd lo m : Nat} (h : Sorted zs A P wd m) (hd : 2 * wd ∣ lo) (hm : lo < m) : Run zs A P lo (min (lo + wd) m) :=
  h lo (Nat.dvd_trans ⟨2, Nat.mul_comm 2 wd⟩ hd) hm
theorem sorted_right {zs A : List Int} {P : Nat → Nat} {wd lo m : Nat} (h : Sorted zs A P wd m) (hd : 2 * wd ∣ lo) (hm : lo < m) : Run zs A P (min (lo + wd) m) (min (lo + 2 * wd) m) := by
  by_cases h1 : lo + wd < m
  · have := h (lo + wd) (Nat.dvd_add (Nat.dvd_trans ⟨2, Nat.mul_comm 2 wd⟩ hd) (Nat.dvd_refl _)) h1
    rw [show min (lo + wd) m = lo + wd by omega, show lo + 2 * wd = lo + wd + wd by omega]
    exact this
  · rw [show min (lo + wd) m = m by omega, show min (lo + 2 * wd) m = m by omega]
    exact run_empty _ _ _ _
theorem run_put {zs B : List Int} {R : Nat → Nat} {a b k v : Nat} (x y : Int) (h : Run zs B R a b) (hk : b ≤ k) : Run zs (put2 B k x y) (upd R k v) a b := by
  refine ⟨fun z h1 h2 => ?_, fun z u h1 h2 h3 => ?_, fun z h1 h2 => ?_⟩
  · rw [upd_other _ _ (by omega)]; exact h.rng z h1 h2
  · rw [upd_other _ _ (by omega), upd_other _ _ (by omega)]; exact h.inc z u h1 h2 h3
  · obtain ⟨p1, p2⟩ := put2_other (B := B) x y (show z ≠ k by omega)
    unfold Holds
    rw [upd_other _ _ (by omega), p1, p2]
    exact h.has z h1 h2
theorem dvd_gap {wd l lo : Nat} (h1 : wd ∣ l) (h2 : wd ∣ lo) (h : l < lo) : l + wd ≤ lo := by
  have h3 := Nat.le_of_dvd (by omega) (Nat.dvd_sub h2 h1)
  omega
theorem done_put {zs B : List Int} {R : Nat → Nat} {wd lo m k v : Nat} (x y : Int) (h : Done zs B R wd lo m) (hd : wd ∣ lo) (hk : lo ≤ k) : Done zs (put2 B k x y) (upd R k v) wd lo m := fun l h1 h2 h3 =>
  run_put x y (h l h1 h2 h3) (by have := dvd_gap h1 hd h2; omega)
theorem done_next {zs B : List Int} {R : Nat → Nat} {wd lo m : Nat} (h : Done zs B R wd lo m) (hd : wd ∣ lo) (hr : Run zs B R lo (min (lo + wd) m)) : Done zs B R wd (lo + wd) m := fun l h1 h2 h3 => by
  rcases Nat.lt_trichotomy l lo with g | g | g
  · exact h l h1 g h3
  · subst g; exact hr
  · have := dvd_gap hd h1 g
    omega

/-- The two rows under way. -/
structure Two (w wr : World) (ga gb m : Nat) (A B : List Int) : Prop where
  below : Below w.heap.size w wr
  fstL : w.heap.size ≤ ga
  sndL : w.heap.size ≤ gb
  ne : ga ≠ gb
  fst : Blk wr ga .i32 28 A
  snd : Blk wr gb .i32 28 B
  la : A.length = m * 2
  lb : B.length = m * 2
theorem Two.swap {w wr : World} {ga gb m : Nat} {A B : List Int} (h : Two w wr ga gb m A B) : Two w wr gb ga m B A := ⟨h.below, h.sndL, h.fstL, h.ne.symm, h.snd, h.fst, h.lb, h.la⟩
theorem Two.put {w wr : World} {ga gb m : Nat} {A B : List Int} (h : Two w wr ga gb m A B) (k : Nat) (x y : Int) : Two w ((wr.setCell ⟨gb, k * 2, none⟩ (.int .i32 x)).setCell ⟨gb, k * 2 + 1, none⟩ (.int .i32 y)) ga gb m A (put2 B k x y) :=
  ⟨(h.below.setCell h.sndL _).setCell h.sndL _, h.fstL, h.sndL, h.ne, (h.fst.other _ _ h.ne).other _ _ h.ne, (h.snd.set _ _).set _ _, h.la, by rw [put2_len]; exact h.lb⟩
theorem Two.grow {w wr wq : World} {ga gb m : Nat} {A B : List Int} (h : Two w wr ga gb m A B) (hb : Below wr.heap.size wr wq) : Two w wq ga gb m A B :=
  ⟨below_chain h.below hb, h.fstL, h.sndL, h.ne, h.fst.below hb h.fst.lt, h.snd.below hb h.snd.lt, h.la, h.lb⟩
theorem Two.drewN {w wr : World} {ga gb m : Nat} {A B : List Int} (h : Two w wr ga gb m A B) (n : Nat) : Two w (wr.drewN n) ga gb m A B := h.grow (below_drewN (Below.refl _ _) n)

end Go.Proofs.Qxb6601679aMods
