/-
  PLAIN: texts out of lists of bytes; a filled shape fits. No Go in sight.
-/
import Derived.Test.Qxb6600059aInst
import Derived.Laws.BytesArg
namespace Go.Proofs.Qxb6600059a
set_option linter.unusedVariables false

def Byt (zs : List Int) : Prop := ∀ i, 0 ≤ zs.getD i 0 ∧ zs.getD i 0 ≤ 255

theorem byteAt_str (zs : List Int) (h : Byt zs) (i : Nat) (hi : i < zs.length) : byteAt (strOfNums zs) i = zs.getD i 0 := by
  have h2 : i < (strOfNums zs).size := by rw [strOfNums_size]; exact hi
  rw [← byteAt_eq _ _ h2]
  have hb := h i
  have e : (strOfNums zs)[i]'h2 = UInt8.ofNat (zs[i]).toNat := by
    show (strOfNums zs).data[i]'_ = _
    simp [strOfNums]
  have g : zs.getD i 0 = zs[i] := by simp [List.getD, hi]
  rw [g] at hb
  rw [e, g, UInt8.toNat_ofNat_of_lt' (by show _ < 256; omega)]
  omega

theorem instL_byt (sh ds : ByteArray) (k : Nat) : Byt (instL sh ds k) := by
  intro i
  by_cases h : i < k
  · rw [instL_at sh ds k i h]; exact instB_bd sh ds i
  · simp [List.getD_eq_getElem?_getD, List.getElem?_eq_none (show (instL sh ds k).length ≤ i by rw [instL_length]; omega)]

theorem inst_fits (sh ds : ByteArray) (i : Nat) : Fits (byteAt sh i) (instB sh ds i) := by
  unfold Fits instB
  have := digA_bd ds i
  by_cases h : byteAt sh i = 100
  · rw [if_pos h]; exact .inl ⟨h, this⟩
  · rw [if_neg h]; exact .inr ⟨h, rfl⟩

theorem fit_inst (sh ds tail : ByteArray) : Fit (strOfNums (instL sh ds sh.size) ++ tail) sh := by
  have hz : (strOfNums (instL sh ds sh.size)).size = sh.size := by rw [strOfNums_size, instL_length]
  refine ⟨by rw [ByteArray.size_append, hz]; omega, fun i hi => ?_⟩
  rw [byteAt_left _ _ _ (by rw [hz]; exact hi), byteAt_str _ (instL_byt sh ds sh.size) i (by rw [instL_length]; exact hi), instL_at sh ds sh.size i hi]
  exact inst_fits sh ds i

theorem rest_inst (zs : List Int) (n : Nat) (tail : ByteArray) (h : zs.length = n) :
    (strOfNums zs ++ tail).extract n (strOfNums zs ++ tail).size = tail :=
  ByteArray.extract_append_eq_right (by rw [strOfNums_size, h]) (by rw [ByteArray.size_append])

end Go.Proofs.Qxb6600059a
