import Derived.Test.Qxb6600973aModsErr
set_option linter.unusedVariables false
set_option linter.unusedSimpArgs false
namespace Go.Proofs.Qxb6600973aMods

/-- Where the colon stands. -/
def colon (p : Bool) : Nat := if p then 25 else 26
theorem head_size (p : Bool) : (headP p).size = colon p + 2 := by cases p <;> rfl
theorem text_size (p : Bool) (s : ByteArray) : (headP p ++ s).size = colon p + 2 + s.size := by rw [ByteArray.size_append, head_size]
theorem text_byte (p : Bool) (s : ByteArray) (i : Nat) (hi : i < colon p + 2) (h : i < (headP p ++ s).size) : (headP p ++ s)[i] = (headP p)[i]'(by rw [head_size]; exact hi) := by
  rw [ByteArray.getElem_append_left]
theorem head_no (p : Bool) : ∀ i, (h : i < (headP p).size) → i < colon p → (headP p)[i].toNat ≠ 58 := by
  cases p
  · show ∀ i, (h : i < nodeP.size) → i < 26 → nodeP[i].toNat ≠ 58
    decide
  · show ∀ i, (h : i < peerP.size) → i < 25 → peerP[i].toNat ≠ 58
    decide
theorem head_58 (p : Bool) : (headP p)[colon p]'(by rw [head_size]; omega) = 58 := by cases p <;> rfl
theorem head_32 (p : Bool) : (headP p)[colon p + 1]'(by rw [head_size]; omega) = 32 := by cases p <;> rfl
/-- What stands ahead of the colon. -/
def stem (p : Bool) : ByteArray := (headP p).extract 0 (colon p)
theorem text_stem (p : Bool) (s : ByteArray) : (headP p ++ s).extract 0 (colon p) = stem p := by
  unfold stem
  apply ByteArray.ext
  rw [ByteArray.data_extract, ByteArray.data_extract, ByteArray.data_append]
  have h : colon p ≤ (headP p).data.size := by
    have := head_size p
    have e : (headP p).data.size = (headP p).size := rfl
    omega
  rw [Array.extract_append]
  have h0 : colon p - (headP p).data.size = 0 := by omega
  rw [h0, Nat.zero_sub]
  rw [show s.data.extract 0 0 = #[] by simp, Array.append_empty]
theorem text_rest (p : Bool) (s : ByteArray) : (headP p ++ s).extract (colon p + 2) (headP p ++ s).size = s := by
  apply ByteArray.ext
  rw [ByteArray.data_extract, text_size, ByteArray.data_append]
  have h : colon p + 2 = (headP p).data.size := (head_size p).symm
  have h2 : s.size = s.data.size := rfl
  rw [Array.extract_append, h, h2, Nat.sub_self, Nat.add_sub_cancel_left]
  have e1 : (headP p).data.extract (headP p).data.size ((headP p).data.size + s.data.size) = #[] := by
    apply Array.eq_empty_of_size_eq_zero
    rw [Array.size_extract]
    omega
  have e2 : s.data.extract 0 s.data.size = s.data := Array.extract_eq_self_of_le (Nat.le_refl _)
  rw [e1, e2, Array.empty_append]
theorem stem_ne : ¬ stem true = stem false ∧ ¬ stem false = stem true := by
  constructor <;> decide

theorem cut_text (p : Bool) (s : ByteArray) (w : World) (hs : s.size ≤ 1048576) :
    Calls Trym.prog 8 #[.string (headP p ++ s)] w fun e w' => e = .returned (.tuple #[.string (stem p), .string s, .bool true]) ∧ RowKit.Below w.heap.size w w' := by
  have hsz := text_size p s
  have hc : colon p ≤ 26 := by cases p <;> decide
  have h := cut_any (headP p ++ s) (colon p) w (by omega) (by omega)
    (fun i hi hlt => by
      rw [text_byte p s i (by omega) hi]
      have := head_no p i (by rw [head_size]; omega) hlt
      omega)
    (by rw [text_byte p s _ (by omega), head_58]; rfl)
    (by rw [text_byte p s _ (by omega), head_32]; rfl)
  rw [text_stem, text_rest] at h
  exact h
end Go.Proofs.Qxb6600973aMods
