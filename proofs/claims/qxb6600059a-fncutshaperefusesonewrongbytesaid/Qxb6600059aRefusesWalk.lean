/-
  The walk of 'FnCutShapeRefusesOneWrongByte'.
-/
import Derived.Test.Qxb6600059aText
namespace Go.Proofs.Qxb6600059a
open Go.RowKit
set_option linter.unusedVariables false

set_option maxHeartbeats 400000 in
theorem zz10_yes (s a b : ByteArray) (i c : Int) (w : World) (h : s.size + a.size + b.size ≤ 1048576) :
    Calls Try.prog 10 #[.string s, .string a, .string b, .int .i64 i, .int .u8 c] w fun e w' => e = .returned (.bool true) ∧ w = w' := by
  go_enter Try.func10, Try.ntmps10
  go_wp2
  go_ret
  exact ⟨rfl, rfl⟩

set_option maxHeartbeats 400000 in
theorem zz10_no (s a b : ByteArray) (i c : Int) (w : World) (h0 : s.size ≤ maxLen) (h1 : a.size ≤ maxLen) (h2 : b.size ≤ maxLen) (h : ¬ s.size + a.size + b.size ≤ 1048576) :
    Calls Try.prog 10 #[.string s, .string a, .string b, .int .i64 i, .int .u8 c] w fun e w' => e = .returned (.bool false) ∧ w = w' := by
  unfold maxLen at h0 h1 h2
  go_enter Try.func10, Try.ntmps10
  go_wp2
  all_goals
    go_ret
    exact ⟨rfl, rfl⟩

theorem ret_i64 {a b : Int} (h : a = b) : Ending.returned (.int .i64 a) = .returned (.int .i64 b) := by rw [h]

set_option maxHeartbeats 400000 in
theorem index_any (i : Int) (n : Nat) (w : World) (hn : 0 < n) (hn2 : n ≤ 1048576) (h0 : -9223372036854775808 ≤ i) (h1 : i ≤ 9223372036854775807) :
    Calls Try.prog 11 #[.int .i64 i, .int .i64 n] w fun e w' => ∃ j : Nat, j < n ∧ e = .returned (.int .i64 j) ∧ w = w' := by
  have hlo : -(n : Int) < i.tmod n := Int.lt_tmod_of_pos i (by omega)
  have hhi : i.tmod n < (n : Int) := Int.tmod_lt_of_pos i (by omega)
  by_cases hneg : i.tmod n < 0
  · have t : decide (i.tmod n < 0) = true := by simp [hneg]
    go_enter Try.func11, Try.ntmps11
    go_wp2
    go_ret
    exact ⟨(i.tmod n + n).toNat, by omega, ret_i64 (by omega), rfl⟩
  · have t : decide (i.tmod n < 0) = false := by simp [hneg]
    go_enter Try.func11, Try.ntmps11
    go_wp2
    go_ret
    exact ⟨(i.tmod n).toNat, by omega, ret_i64 (by omega), rfl⟩

/-- What 'zzSpoil' makes of 'bad' at a place where the shape has 'want'. -/
def spoilV (want bad : Int) : Int :=
  if want = 100 then (if 48 ≤ bad ∧ bad ≤ 57 then bad + 10 else bad) else if bad = want then (bad + 1) % 256 else bad

theorem spoil_misfits (want bad : Int) (h0 : 0 ≤ bad) (h1 : bad ≤ 255) : ¬ Fits want (spoilV want bad) := by
  unfold Fits spoilV; omega
theorem spoil_bd (want bad : Int) (h0 : 0 ≤ bad) (h1 : bad ≤ 255) : 0 ≤ spoilV want bad ∧ spoilV want bad ≤ 255 := by
  unfold spoilV; omega

theorem ret_bool {x y : Bool} (h : x = y) : Ending.returned (.bool x) = .returned (.bool y) := by rw [h]

set_option maxHeartbeats 400000 in
theorem isDigit_yes (c : Int) (w : World) (h : 48 ≤ c ∧ c ≤ 57) : Calls Try.prog 15 #[.int .u8 c] w fun e w' => e = .returned (.bool true) ∧ w = w' := by
  obtain ⟨h0, h1⟩ := h
  have t0 : decide (48 ≤ c) = true := by simp [h0]
  have t1 : decide (c ≤ 57) = true := by simp [h1]
  go_enter Try.func15, Try.ntmps15
  go_wp2
  go_ret
  exact ⟨rfl, rfl⟩
set_option maxHeartbeats 400000 in
theorem isDigit_no (c : Int) (w : World) (h : ¬ (48 ≤ c ∧ c ≤ 57)) : Calls Try.prog 15 #[.int .u8 c] w fun e w' => e = .returned (.bool false) ∧ w = w' := by
  by_cases h0 : 48 ≤ c
  · have t0 : decide (48 ≤ c) = true := by simp [h0]
    have t1 : decide (c ≤ 57) = false := by simp; omega
    clear h
    go_enter Try.func15, Try.ntmps15
    go_wp2
    go_ret
    exact ⟨rfl, rfl⟩
  · have t0 : decide (48 ≤ c) = false := by simp; omega
    clear h
    go_enter Try.func15, Try.ntmps15
    go_wp2
    go_ret
    exact ⟨rfl, rfl⟩

set_option maxHeartbeats 400000 in
theorem spoil_any (want bad : Int) (w : World) (h0 : 0 ≤ bad) (h1 : bad ≤ 255) :
    Calls Try.prog 12 #[.int .u8 want, .int .u8 bad] w fun e w' => e = .returned (.int .u8 (spoilV want bad)) ∧ w = w' := by
  by_cases hw : want = 100
  · subst hw
    by_cases hd : 48 ≤ bad ∧ bad ≤ 57
    · have F := hide (show spoilV 100 bad = bad + 10 by simp [spoilV, hd])
      have C := hide (isDigit_yes bad w hd)
      go_enter Try.func12, Try.ntmps12
      go_wp2_with fail
      refine (unhide C).mono ?_
      rintro e w' ⟨rfl, rfl⟩
      go_wp2_with fail
      go_ret
      exact ⟨ret_byte (unhide F).symm, rfl⟩
    · have F := hide (show spoilV 100 bad = bad by unfold spoilV; rw [if_pos rfl, if_neg hd])
      have C := hide (isDigit_no bad w hd)
      clear hd
      go_enter Try.func12, Try.ntmps12
      go_wp2_with fail
      refine (unhide C).mono ?_
      rintro e w' ⟨rfl, rfl⟩
      go_wp2_with fail
      go_ret
      exact ⟨ret_byte (unhide F).symm, rfl⟩
  · have t0 : (want == 100) = false := by simp [hw]
    by_cases hb : bad = want
    · subst hb
      have F := hide (show spoilV bad bad = (bad + 1) % 256 by simp [spoilV, hw])
      clear hw
      go_enter Try.func12, Try.ntmps12
      go_wp2_with fail
      go_ret
      exact ⟨ret_byte (unhide F).symm, rfl⟩
    · have t1 : (bad == want) = false := by simp [hb]
      have F := hide (show spoilV want bad = bad by simp [spoilV, hw, hb])
      clear hw
      go_enter Try.func12, Try.ntmps12
      go_wp2_with fail
      go_ret
      exact ⟨ret_byte (unhide F).symm, rfl⟩


set_option maxHeartbeats 400000 in
theorem refuses_big (s a b : ByteArray) (i c : Int) (w : World) (h0 : s.size ≤ maxLen) (h1 : a.size ≤ maxLen) (h2 : b.size ≤ maxLen) (h : ¬ s.size + a.size + b.size ≤ 1048576) :
    Calls Try.prog 5 #[.string s, .string a, .string b, .int .i64 i, .int .u8 c] w fun e w' => e = .returned (.bool true) ∧ Below w.heap.size w w' := by
  have H := hide (zz10_no s a b i c w h0 h1 h2 h)
  clear h
  go_enter Try.func5, Try.ntmps5
  go_wp2_with fail
  refine (unhide H).mono ?_
  rintro e w' ⟨rfl, rfl⟩
  go_wp2
  go_ret
  exact ⟨rfl, Below.refl _ _⟩

theorem getD_set (L : List Int) (i j : Nat) (z : Int) : (L.set j z).getD i 0 = if i = j ∧ j < L.length then z else L.getD i 0 := by
  simp only [List.getD_eq_getElem?_getD, List.getElem?_set]
  by_cases h : i = j
  · subst h
    by_cases k : i < L.length
    · simp [k]
    · simp [k]
  · simp [h, Ne.symm h]

theorem byt_set {L : List Int} (h : Byt L) (j : Nat) (z : Int) (hz : 0 ≤ z ∧ z ≤ 255) : Byt (L.set j z) := by
  intro i
  rw [getD_set]
  split
  · exact hz
  · exact h i

/-- One byte that does not fit: the shape is refused. -/
theorem misfit (sh ds tail : ByteArray) (j : Nat) (z : Int) (hj : j < sh.size) (hz : 0 ≤ z ∧ z ≤ 255) (hbad : ¬ Fits (byteAt sh j) z) :
    ¬ Fit (strOfNums ((instL sh ds sh.size).set j z) ++ tail) sh := by
  intro hf
  have h := hf.2 j hj
  have hl : ((instL sh ds sh.size).set j z).length = sh.size := by rw [List.length_set, instL_length]
  rw [byteAt_left _ _ _ (by rw [strOfNums_size, hl]; exact hj), byteAt_str _ (byt_set (instL_byt sh ds sh.size) j z hz) j (by rw [hl]; exact hj), getD_set, if_pos ⟨rfl, by rw [instL_length]; exact hj⟩] at h
  exact hbad h

set_option maxHeartbeats 1000000 in
theorem refuses_walk (s a b : ByteArray) (i c : Int) (w : World) (h : s.size + a.size + b.size ≤ 1048576) (hi0 : -9223372036854775808 ≤ i) (hi1 : i ≤ 9223372036854775807) (hc0 : 0 ≤ c) (hc1 : c ≤ 255) :
    Calls Try.prog 5 #[.string s, .string a, .string b, .int .i64 i, .int .u8 c] w fun e w' => e = .returned (.bool true) ∧ Below w.heap.size w w' := by
  have ha : a.size ≤ maxLen := by unfold maxLen; omega
  have t1 : decide ((1048576 : Int) < (s.size : Int)) = false := by simp; omega
  have t2 : decide ((1048576 : Int) < (a.size : Int)) = false := by simp; omega
  have t3 : decide ((1048576 : Int) < (b.size : Int)) = false := by simp; omega
  have t4 : decide ((1048576 : Int) < (s.size : Int) + (a.size : Int) + (b.size : Int)) = false := by simp; omega
  by_cases hz : s.size = 0
  · have t5 : ((s.size : Int) == 0) = true := by simp [hz]
    clear hz
    go_enter Try.func5, Try.ntmps5
    go_wp2_with fail
    refine (zz10_yes s a b i c w h).mono ?_
    rintro e w' ⟨rfl, rfl⟩
    go_wp2_with fail
    go_ret
    exact ⟨rfl, Below.refl _ _⟩
  have t5 : ((s.size : Int) == 0) = false := by simp [hz]
  have hpos : 0 < s.size := by omega
  clear hz
  go_enter Try.func5, Try.ntmps5
  go_wp2_with fail
  refine (zz10_yes s a b i c w h).mono ?_
  rintro e w' ⟨rfl, rfl⟩
  go_wp2_with fail
  refine (index_any i s.size w hpos (by omega) hi0 hi1).mono ?_
  rintro e w' ⟨j, hj, rfl, rfl⟩
  go_wp2_with fail
  refine (inst_any s a w (by omega) ha).mono ?_
  rintro e w1 ⟨rfl, own1, bel1⟩
  have hlt1 : (j : Int) < (s.size : Int) := by omega
  have e1 := byteAt_eq s j hj
  go_wp2_with fail
  refine (spoil_any _ c w1 hc0 hc1).mono ?_
  rintro e w' ⟨rfl, rfl⟩
  have hbad := spoil_misfits (byteAt s j) c hc0 hc1
  have hzb := spoil_bd (byteAt s j) c hc0 hc1
  generalize spoilV (byteAt s j) c = z at *
  have hl : (instL s a s.size).length = s.size := instL_length s a s.size
  obtain ⟨y, c1⟩ : ∃ y, w1.cell? ⟨w.heap.size, j, none⟩ = some (.int .u8 y) := ⟨_, by rw [own1.cellAt j (by omega), bv_at _ j (by omega)]⟩
  have c2 := own1.frozenAt j
  have own2 := (own1.stored j (.int .u8 z)).1
  rw [bv_set] at own2
  have hl2 : ((instL s a s.size).set j z).length = s.size := by rw [List.length_set, hl]
  have hcv := run_convert_bytes_arg (P := Try.prog) (w1.setCell ⟨w.heap.size, j, none⟩ (.int .u8 z)) 23 5 Try.underlying23 Try.underlying5 w.heap.size 0 s.size s.size ((instL s a s.size).set j z) hl2 (fun i hi => by
    rw [Nat.zero_add, own2.cellAt i (by omega), bv_at _ i (by omega)]) 9 Try.underlying9
  have hF := hide (misfit s a b j z hj hzb hbad)
  have hS : (strOfNums ((instL s a s.size).set j z)).size ≤ 1048576 := by rw [strOfNums_size, hl2]; omega
  have HB := hide (bel1.setCell (p := ⟨w.heap.size, j, none⟩) (Nat.le_refl _) (.int .u8 z))
  clear own1 own2 bel1 hl hl2 hbad
  generalize strOfNums ((instL s a s.size).set j z) = S at *
  go_wp2_with fail
  refine (zzcut_no (S ++ b) s _ (by rw [ByteArray.size_append]; unfold maxLen; omega) (by unfold maxLen; omega) (unhide hF)).mono ?_
  rintro e w2 ⟨rfl, d, rfl⟩
  go_wp2_with fail
  go_ret
  exact ⟨rfl, below_drewN (unhide HB) d⟩

end Go.Proofs.Qxb6600059a
