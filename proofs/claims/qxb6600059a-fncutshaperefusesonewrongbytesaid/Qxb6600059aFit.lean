/-
  PLAIN: shapes and texts. No Go in sight.
-/
import Derived.Test.Qxb6600059aCut
namespace Go.Proofs.Qxb6600059a
set_option linter.unusedVariables false

theorem byteAt_left (a b : ByteArray) (i : Nat) (h : i < a.size) : byteAt (a ++ b) i = byteAt a i := by
  have h2 : i < (a ++ b).size := by rw [ByteArray.size_append]; omega
  rw [← byteAt_eq (a ++ b) i h2, ← byteAt_eq a i h, ByteArray.getElem_append_left h]

theorem byteAt_right (a b : ByteArray) (i : Nat) : byteAt (a ++ b) (a.size + i) = byteAt b i := by
  by_cases h : i < b.size
  · have h2 : a.size + i < (a ++ b).size := by rw [ByteArray.size_append]; omega
    rw [← byteAt_eq (a ++ b) _ h2, ← byteAt_eq b i h, ByteArray.getElem_append_right (by omega)]
    simp
  · have h2 : ¬ a.size + i < (a ++ b).size := by rw [ByteArray.size_append]; omega
    unfold byteAt
    rw [dif_neg h, dif_neg h2]

theorem byteAt_extract (s : ByteArray) (k i : Nat) : byteAt (s.extract k s.size) i = byteAt s (k + i) := by
  by_cases h : k + i < s.size
  · have h2 : i < (s.extract k s.size).size := by rw [ByteArray.size_extract]; omega
    rw [← byteAt_eq _ _ h2, ← byteAt_eq _ _ h, ByteArray.getElem_extract]
  · have h2 : ¬ i < (s.extract k s.size).size := by rw [ByteArray.size_extract]; omega
    unfold byteAt
    rw [dif_neg h, dif_neg h2]

theorem fit_append (s a b : ByteArray) : Fit s (a ++ b) ↔ Fit s a ∧ Fit (s.extract a.size s.size) b := by
  constructor
  · rintro ⟨h1, h2⟩
    rw [ByteArray.size_append] at h1
    refine ⟨⟨by omega, fun i hi => ?_⟩, ⟨by rw [ByteArray.size_extract]; omega, fun i hi => ?_⟩⟩
    · have := h2 i (by rw [ByteArray.size_append]; omega)
      rwa [byteAt_left a b i hi] at this
    · have := h2 (a.size + i) (by rw [ByteArray.size_append]; omega)
      rw [byteAt_right] at this
      rw [byteAt_extract]
      exact this
  · rintro ⟨⟨h1, h2⟩, ⟨h3, h4⟩⟩
    rw [ByteArray.size_extract] at h3
    refine ⟨by rw [ByteArray.size_append]; omega, fun i hi => ?_⟩
    rw [ByteArray.size_append] at hi
    by_cases hl : i < a.size
    · rw [byteAt_left a b i hl]; exact h2 i hl
    · have := h4 (i - a.size) (by omega)
      rw [byteAt_extract] at this
      have e := byteAt_right a b (i - a.size)
      rw [show a.size + (i - a.size) = i by omega] at this e
      rw [e]
      exact this

theorem extract_twice (s a b : ByteArray) (h : a.size ≤ s.size) :
    (s.extract a.size s.size).extract b.size (s.extract a.size s.size).size = s.extract (a ++ b).size s.size := by
  rw [ByteArray.extract_extract, ByteArray.size_append, ByteArray.size_extract]
  congr 1
  omega

end Go.Proofs.Qxb6600059a
