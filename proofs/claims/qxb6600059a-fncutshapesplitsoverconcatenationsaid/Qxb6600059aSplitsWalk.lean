/-
  The walk of 'FnCutShapeSplitsOverConcatenation'.
-/
import Derived.Test.Qxb6600059aFit
namespace Go.Proofs.Qxb6600059a
open Go.RowKit
set_option linter.unusedVariables false

theorem grown_drewN (w : World) (n : Nat) : Grown w (w.drewN n) := Grown.refl w

set_option maxHeartbeats 400000 in
theorem zz9_yes (s a b : ByteArray) (w : World) (h : s.size + a.size + b.size ≤ 1048576) :
    Calls Try.prog 9 #[.string s, .string a, .string b] w fun e w' => e = .returned (.bool true) ∧ w = w' := by
  go_enter Try.func9, Try.ntmps9
  go_wp2
  go_ret
  exact ⟨rfl, rfl⟩

set_option maxHeartbeats 400000 in
theorem zz9_no (s a b : ByteArray) (w : World) (h0 : s.size ≤ maxLen) (h1 : a.size ≤ maxLen) (h2 : b.size ≤ maxLen) (h : ¬ s.size + a.size + b.size ≤ 1048576) :
    Calls Try.prog 9 #[.string s, .string a, .string b] w fun e w' => e = .returned (.bool false) ∧ w = w' := by
  unfold maxLen at h0 h1 h2
  go_enter Try.func9, Try.ntmps9
  go_wp2
  all_goals
    go_ret
    exact ⟨rfl, rfl⟩

set_option maxHeartbeats 400000 in
theorem splits_big (s a b : ByteArray) (w : World) (h0 : s.size ≤ maxLen) (h1 : a.size ≤ maxLen) (h2 : b.size ≤ maxLen) (h : ¬ s.size + a.size + b.size ≤ 1048576) :
    Calls Try.prog 4 #[.string s, .string a, .string b] w fun e w' => e = .returned (.bool true) ∧ Grown w w' := by
  have H := hide (zz9_no s a b w h0 h1 h2 h)
  clear h
  go_enter Try.func4, Try.ntmps4
  go_wp2_with fail
  refine (unhide H).mono ?_
  rintro e w' ⟨rfl, rfl⟩
  go_wp2
  go_ret
  exact ⟨rfl, Grown.refl _⟩

set_option maxHeartbeats 1000000 in
theorem splits_walk (s a b : ByteArray) (w : World) (h : s.size + a.size + b.size ≤ 1048576) :
    Calls Try.prog 4 #[.string s, .string a, .string b] w fun e w' => e = .returned (.bool true) ∧ Grown w w' := by
  have hs : s.size ≤ maxLen := by unfold maxLen; omega
  have ha : a.size ≤ maxLen := by unfold maxLen; omega
  have hb : b.size ≤ maxLen := by unfold maxLen; omega
  have hab : (a ++ b).size ≤ maxLen := by rw [ByteArray.size_append]; unfold maxLen; omega
  have t1 : decide ((1048576 : Int) < (s.size : Int)) = false := by simp; omega
  have t2 : decide ((1048576 : Int) < (a.size : Int)) = false := by simp; omega
  have t3 : decide ((1048576 : Int) < (b.size : Int)) = false := by simp; omega
  have t4 : decide ((1048576 : Int) < (s.size : Int) + (a.size : Int) + (b.size : Int)) = false := by simp; omega
  by_cases fa : Fit s a
  · have hla := fa.1
    have hm : (s.extract a.size s.size).size ≤ maxLen := by rw [ByteArray.size_extract]; unfold maxLen; omega
    by_cases fb : Fit (s.extract a.size s.size) b
    · have C1 := fun w => hide (zzcut_yes s (a ++ b) w hs ((fit_append s a b).2 ⟨fa, fb⟩))
      have C2 := fun w => hide (zzcut_yes s a w hs fa)
      have C3 := fun w => hide (zzcut_yes (s.extract a.size s.size) b w hm fb)
      rw [extract_twice s a b hla] at C3
      clear fa fb hm hab hs ha hb hla
      generalize s.extract (a ++ b).size s.size = W at C1 C3
      generalize s.extract a.size s.size = M at C2 C3
      go_enter Try.func4, Try.ntmps4
      go_wp2_with fail
      refine (zz9_yes s a b w h).mono ?_
      rintro e w' ⟨rfl, rfl⟩
      go_wp2_with fail
      refine (unhide (C1 _)).mono ?_
      rintro e w' ⟨rfl, d1, rfl⟩
      go_wp2_with fail
      refine (unhide (C2 _)).mono ?_
      rintro e w' ⟨rfl, d2, rfl⟩
      go_wp2_with fail
      refine (unhide (C3 _)).mono ?_
      rintro e w' ⟨rfl, d3, rfl⟩
      go_wp2_with fail
      go_ret
      exact ⟨rfl, grown_drewN _ _⟩
    · have C1 := fun w => hide (zzcut_no s (a ++ b) w hs hab (fun hh => fb ((fit_append s a b).1 hh).2))
      have C2 := fun w => hide (zzcut_yes s a w hs fa)
      have C3 := fun w => hide (zzcut_no (s.extract a.size s.size) b w hm hb fb)
      clear fa fb hm hab hs ha hb hla
      generalize s.extract a.size s.size = M at C2 C3
      go_enter Try.func4, Try.ntmps4
      go_wp2_with fail
      refine (zz9_yes s a b w h).mono ?_
      rintro e w' ⟨rfl, rfl⟩
      go_wp2_with fail
      refine (unhide (C1 _)).mono ?_
      rintro e w' ⟨rfl, d1, rfl⟩
      go_wp2_with fail
      refine (unhide (C2 _)).mono ?_
      rintro e w' ⟨rfl, d2, rfl⟩
      go_wp2_with fail
      refine (unhide (C3 _)).mono ?_
      rintro e w' ⟨rfl, d3, rfl⟩
      go_wp2_with fail
      go_ret
      exact ⟨rfl, grown_drewN _ _⟩
  · have C1 := fun w => hide (zzcut_no s (a ++ b) w hs hab (fun hh => fa ((fit_append s a b).1 hh).1))
    have C2 := fun w => hide (zzcut_no s a w hs ha fa)
    clear fa hab hs ha hb
    go_enter Try.func4, Try.ntmps4
    go_wp2_with fail
    refine (zz9_yes s a b w h).mono ?_
    rintro e w' ⟨rfl, rfl⟩
    go_wp2_with fail
    refine (unhide (C1 _)).mono ?_
    rintro e w' ⟨rfl, d1, rfl⟩
    go_wp2_with fail
    refine (unhide (C2 _)).mono ?_
    rintro e w' ⟨rfl, d2, rfl⟩
    go_wp2_with fail
    go_ret
    exact ⟨rfl, grown_drewN _ _⟩

end Go.Proofs.Qxb6600059a
