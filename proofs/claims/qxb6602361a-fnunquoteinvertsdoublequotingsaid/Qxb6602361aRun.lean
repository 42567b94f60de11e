/-
  PLAIN: the reading of a quoted word, turn by turn. No Go in sight.
-/
import Derived.Test.Qxb6602361aEsc
namespace Go.Proofs.Qxb6602361a
set_option linter.unusedVariables false

/-- One turn at place p: the byte that is written, and where the line goes on. -/
def step (zs : List Int) (q : Int) (p : Nat) : Int × Nat :=
  if zs.getD p 0 = 92 ∧ p + 1 < zs.length then esc zs q (p + 1) else (zs.getD p 0, p + 1)

/-- The place behind k turns; the word behind k turns. -/
def pos (zs : List Int) (q : Int) (p0 : Nat) : Nat → Nat
  | 0 => p0
  | k + 1 => (step zs q (pos zs q p0 k)).2
def wd (zs : List Int) (q : Int) (p0 : Nat) : Nat → List Int
  | 0 => []
  | k + 1 => wd zs q p0 k ++ [(step zs q (pos zs q p0 k)).1]

/-- The reading ends at place p. -/
def Stop (zs : List Int) (q : Int) (p : Nat) : Prop := zs.length ≤ p ∨ zs.getD p 0 = q

/-- The reading takes just K turns. -/
structure RunTo (zs : List Int) (q : Int) (p0 K : Nat) : Prop where
  go : ∀ j, j < K → ¬ Stop zs q (pos zs q p0 j)
  stop : Stop zs q (pos zs q p0 K)

theorem escF_bd (q c x y : Int) (r : Bool) (p : Nat) : p ≤ (escF q c x y r p).2 ∧ (escF q c x y r p).2 ≤ p + 3 ∧ (r = false → (escF q c x y r p).2 ≤ p + 1) := by
  unfold escF
  split
  · split <;> simp
  · split
    · rename_i h
      simp [h.2.1]
    · simp

theorem nameV_byte (c : Int) (h : 0 ≤ c ∧ c ≤ 255) : 0 ≤ nameV c ∧ nameV c ≤ 255 := by unfold nameV; omega

theorem escF_byte (q c x y : Int) (r : Bool) (p : Nat) (h : 0 ≤ c ∧ c ≤ 255) : 0 ≤ (escF q c x y r p).1 ∧ (escF q c x y r p).1 ≤ 255 := by
  have hx := hexV_bd x
  have hy := hexV_bd y
  have hn := nameV_byte c h
  unfold escF
  split
  · split <;> simp
  · split
    · simp only; omega
    · exact hn

theorem step_gt (zs : List Int) (q : Int) (p : Nat) : p < (step zs q p).2 := by
  unfold step esc
  split
  · have := escF_bd q (zs.getD (p + 1) 0) (zs.getD (p + 1 + 1) 0) (zs.getD (p + 1 + 2) 0) (decide (p + 1 + 2 < zs.length)) (p + 1); omega
  · simp

theorem step_le (zs : List Int) (q : Int) (p : Nat) (h : p < zs.length) : (step zs q p).2 ≤ zs.length := by
  unfold step esc
  split
  · rename_i hh
    have := escF_bd q (zs.getD (p + 1) 0) (zs.getD (p + 1 + 1) 0) (zs.getD (p + 1 + 2) 0) (decide (p + 1 + 2 < zs.length)) (p + 1)
    by_cases hr : p + 1 + 2 < zs.length
    · omega
    · have := this.2.2 (by simp [hr]); omega
  · simp; omega

theorem step_byte (zs : List Int) (q : Int) (p : Nat) (h : Byt zs) : 0 ≤ (step zs q p).1 ∧ (step zs q p).1 ≤ 255 := by
  unfold step esc
  split
  · exact escF_byte _ _ _ _ _ _ (h _)
  · exact h p

theorem pos_ge (zs : List Int) (q : Int) (p0 k : Nat) : p0 + k ≤ pos zs q p0 k := by
  induction k with
  | zero => simp [pos]
  | succ k ih => have := step_gt zs q (pos zs q p0 k); simp only [pos]; omega

theorem not_stop_lt {zs : List Int} {q : Int} {p : Nat} (h : ¬ Stop zs q p) : p < zs.length ∧ zs.getD p 0 ≠ q := by
  unfold Stop at h
  exact ⟨by omega, fun e => h (.inr e)⟩

theorem pos_le {zs : List Int} {q : Int} {p0 K : Nat} (h : RunTo zs q p0 K) (h0 : p0 ≤ zs.length) : ∀ k, k ≤ K → pos zs q p0 k ≤ zs.length := by
  intro k
  induction k with
  | zero => intro _; exact h0
  | succ k ih => intro hk; exact step_le _ _ _ (not_stop_lt (h.go k (by omega))).1

theorem wd_length (zs : List Int) (q : Int) (p0 k : Nat) : (wd zs q p0 k).length = k := by
  induction k with
  | zero => rfl
  | succ k ih => simp [wd, ih]

theorem byt_nil : Byt [] := fun i => by simp
theorem byt_snoc {zs : List Int} {c : Int} (h : Byt zs) (hc : 0 ≤ c ∧ c ≤ 255) : Byt (zs ++ [c]) := by
  intro i
  have := h i
  simp only [List.getD_eq_getElem?_getD, List.getElem?_append] at *
  split
  · rename_i hi; simpa [hi] using this
  · cases e : i - zs.length <;> simp [hc]

theorem wd_byt (zs : List Int) (q : Int) (p0 k : Nat) (h : Byt zs) : Byt (wd zs q p0 k) := by
  induction k with
  | zero => exact byt_nil
  | succ k ih => exact byt_snoc ih (step_byte _ _ _ h)

theorem least {P : Nat → Prop} : ∀ n, P n → ∃ k, P k ∧ ∀ j, j < k → ¬ P j := by
  intro n
  induction n using Nat.strongRecOn with
  | ind n ih =>
    intro h
    by_cases e : ∃ j, j < n ∧ P j
    · obtain ⟨j, hj, hp⟩ := e
      exact ih j hj hp
    · exact ⟨n, h, fun j hj hp => e ⟨j, hj, hp⟩⟩

theorem runTo_exists (zs : List Int) (q : Int) (p0 : Nat) : ∃ K, RunTo zs q p0 K := by
  obtain ⟨K, h1, h2⟩ := least (P := fun k => Stop zs q (pos zs q p0 k)) zs.length (.inl (by have := pos_ge zs q p0 zs.length; omega))
  exact ⟨K, h2, h1⟩

/-- Where the reading ended. -/
def endP (zs : List Int) (q : Int) (p0 K : Nat) : Nat := if pos zs q p0 K < zs.length then pos zs q p0 K + 1 else pos zs q p0 K

theorem esc_congr {L zs : List Int} (q : Int) (p : Nat) (hl : L.length = zs.length) (h : ∀ i, p ≤ i → L.getD i 0 = zs.getD i 0) : esc L q p = esc zs q p := by
  unfold esc
  rw [hl, h p (by omega), h (p + 1) (by omega), h (p + 2) (by omega)]

end Go.Proofs.Qxb6602361a
