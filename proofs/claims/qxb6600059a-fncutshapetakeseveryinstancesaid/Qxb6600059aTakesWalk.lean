/-
  The walk of 'FnCutShapeTakesEveryInstance'.
-/
import Derived.Test.Qxb6600059aText
namespace Go.Proofs.Qxb6600059a
open Go.RowKit
set_option linter.unusedVariables false

set_option maxHeartbeats 400000 in
theorem zz6_yes (s a b : ByteArray) (w : World) (h : s.size + a.size + b.size ≤ 1048576) :
    Calls Try.prog 6 #[.string s, .string a, .string b] w fun e w' => e = .returned (.bool true) ∧ w = w' := by
  go_enter Try.func6, Try.ntmps6
  go_wp2
  go_ret
  exact ⟨rfl, rfl⟩

set_option maxHeartbeats 400000 in
theorem zz6_no (s a b : ByteArray) (w : World) (h0 : s.size ≤ maxLen) (h1 : a.size ≤ maxLen) (h2 : b.size ≤ maxLen) (h : ¬ s.size + a.size + b.size ≤ 1048576) :
    Calls Try.prog 6 #[.string s, .string a, .string b] w fun e w' => e = .returned (.bool false) ∧ w = w' := by
  unfold maxLen at h0 h1 h2
  go_enter Try.func6, Try.ntmps6
  go_wp2
  all_goals
    go_ret
    exact ⟨rfl, rfl⟩

set_option maxHeartbeats 400000 in
theorem takes_big (s a b : ByteArray) (w : World) (h0 : s.size ≤ maxLen) (h1 : a.size ≤ maxLen) (h2 : b.size ≤ maxLen) (h : ¬ s.size + a.size + b.size ≤ 1048576) :
    Calls Try.prog 3 #[.string s, .string a, .string b] w fun e w' => e = .returned (.bool true) ∧ Below w.heap.size w w' := by
  have H := hide (zz6_no s a b w h0 h1 h2 h)
  clear h
  go_enter Try.func3, Try.ntmps3
  go_wp2_with fail
  refine (unhide H).mono ?_
  rintro e w' ⟨rfl, rfl⟩
  go_wp2
  go_ret
  exact ⟨rfl, Below.refl _ _⟩

set_option maxHeartbeats 1000000 in
theorem takes_walk (s a b : ByteArray) (w : World) (h : s.size + a.size + b.size ≤ 1048576) :
    Calls Try.prog 3 #[.string s, .string a, .string b] w fun e w' => e = .returned (.bool true) ∧ Below w.heap.size w w' := by
  have ha : a.size ≤ maxLen := by unfold maxLen; omega
  have t1 : decide ((1048576 : Int) < (s.size : Int)) = false := by simp; omega
  have t2 : decide ((1048576 : Int) < (a.size : Int)) = false := by simp; omega
  have t3 : decide ((1048576 : Int) < (b.size : Int)) = false := by simp; omega
  have t4 : decide ((1048576 : Int) < (s.size : Int) + (a.size : Int) + (b.size : Int)) = false := by simp; omega
  go_enter Try.func3, Try.ntmps3
  go_wp2_with fail
  refine (zz6_yes s a b w h).mono ?_
  rintro e w' ⟨rfl, rfl⟩
  go_wp2_with fail
  refine (inst_any s a w (by omega) ha).mono ?_
  rintro e w1 ⟨rfl, own1, bel1⟩
  have hz : (instL s a s.size).length = s.size := instL_length s a s.size
  have hcv := run_convert_bytes_arg (P := Try.prog) w1 23 5 Try.underlying23 Try.underlying5 w.heap.size 0 s.size s.size (instL s a s.size) hz (fun i hi => by
    rw [Nat.zero_add, own1.cellAt i (by omega), bv_at _ i (by omega)]) 9 Try.underlying9
  have hS : (strOfNums (instL s a s.size)).size = s.size := by rw [strOfNums_size, hz]
  have hF := hide (fit_inst s a b)
  have hR := hide (rest_inst (instL s a s.size) s.size b hz)
  have HS := hide hS
  have hS2 : (strOfNums (instL s a s.size)).size ≤ 1048576 := by omega
  have HB := hide bel1
  clear own1 bel1 hz hS
  generalize strOfNums (instL s a s.size) = S at *
  go_wp2_with fail
  refine (zzcut_yes (S ++ b) s w1 (by rw [ByteArray.size_append]; unfold maxLen; omega) (unhide hF)).mono ?_
  rintro e w2 ⟨rfl, d, rfl⟩
  rw [unhide hR]
  go_wp2_with fail
  go_ret
  exact ⟨rfl, below_drewN (unhide HB) d⟩

end Go.Proofs.Qxb6600059a
