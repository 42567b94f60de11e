/-
  PLAIN: a word that was double quoted is read back, turn by turn. No Go in sight.
-/
import Derived.Test.Qxb6602361aEncode
import Derived.Test.Qxb6602361aRun
namespace Go.Proofs.Qxb6602361a
set_option linter.unusedVariables false

/-- A turn at the escape of b behind xs, with something behind it. -/
theorem step_enc (xs ys : List Int) (b : Int) (h u l : Bool) (h0 : 0 ≤ b) (h1 : b ≤ 255) :
    step (xs ++ (encB h u l b ++ ys)) 34 xs.length = (b, xs.length + (encB h u l b).length) ∧ (xs ++ (encB h u l b ++ ys)).getD xs.length 0 ≠ 34 := by
  have esc2 : ∀ (c : Int) (t : List Int), step (xs ++ ([92, c] ++ t)) 34 xs.length = escF 34 c (t.getD 0 0) (t.getD 1 0) (decide (2 < t.length + 1)) (xs.length + 1) ∧ (xs ++ ([92, c] ++ t)).getD xs.length 0 ≠ 34 := by
    intro c t
    have e0 : (xs ++ ([92, c] ++ t)).getD xs.length 0 = 92 := by rw [show (xs ++ ([92, c] ++ t)).getD xs.length 0 = ([92, c] ++ t).getD 0 0 from getD_app xs _ 0]; rfl
    refine ⟨?_, by rw [e0]; omega⟩
    unfold step
    rw [if_pos ⟨e0, by simp⟩]
    have e1 : xs ++ ([92, c] ++ t) = (xs ++ [92]) ++ (c :: t) := by simp
    have e2 : xs.length + 1 = (xs ++ [(92 : Int)]).length := by simp
    rw [e1, e2, esc_behind]
    simp
  unfold encB
  by_cases hh : h = true
  · rw [if_pos hh]
    have := esc2 120 ([digD u (b / 16).toNat, digD l (b % 16).toNat] ++ ys)
    have e : decide (2 < ([digD u (b / 16).toNat, digD l (b % 16).toNat] ++ ys).length + 1) = true := by simp
    rw [e] at this
    have hx : escF 34 120 (([digD u (b / 16).toNat, digD l (b % 16).toNat] ++ ys).getD 0 0) (([digD u (b / 16).toNat, digD l (b % 16).toNat] ++ ys).getD 1 0) true (xs.length + 1) = (b, xs.length + 1 + 3) := escF_hex b u l _ h0 h1
    rw [hx] at this
    exact ⟨this.1, this.2⟩
  rw [if_neg hh]
  by_cases hq : b = 34 ∨ b = 92
  · rw [if_pos hq]
    have := esc2 b ys
    rw [escF_short _ _ _ _ _ (by omega), show nameV b = b by unfold nameV; omega] at this
    exact this
  rw [if_neg hq]
  by_cases hc : ctlOk b = true
  · rw [if_pos hc]
    have := esc2 (ctlV b) ys
    have hn := name_ctl b hc
    rw [escF_short _ _ _ _ _ hn.1, hn.2] at this
    exact this
  · rw [if_neg hc]
    have e0 : (xs ++ ([b] ++ ys)).getD xs.length 0 = b := by rw [show (xs ++ ([b] ++ ys)).getD xs.length 0 = ([b] ++ ys).getD 0 0 from getD_app xs _ 0]; rfl
    refine ⟨?_, by rw [e0]; omega⟩
    unfold step
    rw [if_neg (by rw [e0]; omega), e0]
    rfl

section
variable (pre ws post : List Int) (h u l : Bool)

/-- The line: what stands ahead, the opening quote, the word inside, the closing quote, what follows. -/
def lineOf : List Int := pre ++ [34] ++ enc h u l ws ++ [34] ++ post

theorem line_split (k : Nat) (hk : k < ws.length) :
    lineOf pre ws post h u l = (pre ++ [34] ++ enc h u l (ws.take k)) ++ (encB h u l (ws.getD k 0) ++ (enc h u l (ws.drop (k + 1)) ++ ([34] ++ post))) := by
  have e : ws = ws.take k ++ (ws.getD k 0 :: ws.drop (k + 1)) := by
    have h1 : ws.getD k 0 = ws[k] := by simp [List.getD, hk]
    rw [h1, ← List.drop_eq_getElem_cons hk, List.take_append_drop]
  have e2 : enc h u l ws = enc h u l (ws.take k) ++ (encB h u l (ws.getD k 0) ++ enc h u l (ws.drop (k + 1))) := by
    conv => lhs; rw [e]
    simp [enc]
  unfold lineOf
  rw [e2]
  simp only [List.append_assoc]

theorem run_line (hw : Byt ws) : ∀ k, k ≤ ws.length →
    pos (lineOf pre ws post h u l) 34 (pre.length + 1) k = pre.length + 1 + (enc h u l (ws.take k)).length ∧ wd (lineOf pre ws post h u l) 34 (pre.length + 1) k = ws.take k := by
  intro k
  induction k with
  | zero => intro _; simp [pos, wd, enc]
  | succ k ih =>
    intro hk
    obtain ⟨ip, iw⟩ := ih (by omega)
    have hb := hw k
    have hst := (step_enc (pre ++ [34] ++ enc h u l (ws.take k)) (enc h u l (ws.drop (k + 1)) ++ ([34] ++ post)) (ws.getD k 0) h u l hb.1 hb.2).1
    rw [← line_split pre ws post h u l k (by omega)] at hst
    have hl : (pre ++ [34] ++ enc h u l (ws.take k)).length = pre.length + 1 + (enc h u l (ws.take k)).length := by simp; omega
    rw [hl] at hst
    have ht : ws.take (k + 1) = ws.take k ++ [ws.getD k 0] := by
      rw [List.take_succ_eq_append_getElem (by omega)]
      simp [List.getD, show k < ws.length by omega]
    simp only [pos, wd]
    rw [ip, iw, hst, ht, enc_snoc]
    exact ⟨by simp; omega, rfl⟩

theorem line_length : (lineOf pre ws post h u l).length = pre.length + 1 + (enc h u l ws).length + 1 + post.length := by
  simp [lineOf]; omega

theorem runTo_line (hw : Byt ws) : RunTo (lineOf pre ws post h u l) 34 (pre.length + 1) ws.length := by
  refine ⟨fun j hj => ?_, ?_⟩
  · rw [(run_line pre ws post h u l hw j (by omega)).1]
    have hb := hw j
    have hst := (step_enc (pre ++ [34] ++ enc h u l (ws.take j)) (enc h u l (ws.drop (j + 1)) ++ ([34] ++ post)) (ws.getD j 0) h u l hb.1 hb.2).2
    rw [← line_split pre ws post h u l j hj] at hst
    have hl : (pre ++ [34] ++ enc h u l (ws.take j)).length = pre.length + 1 + (enc h u l (ws.take j)).length := by simp; omega
    rw [hl] at hst
    have hlen : (lineOf pre ws post h u l).length = pre.length + 1 + (enc h u l (ws.take j)).length + ((encB h u l (ws.getD j 0)).length + ((enc h u l (ws.drop (j + 1))).length + (1 + post.length))) := by
      rw [line_split pre ws post h u l j hj]
      simp; omega
    unfold Stop
    intro hs
    rcases hs with hs | hs
    · omega
    · exact hst hs
  · rw [(run_line pre ws post h u l hw ws.length (Nat.le_refl _)).1, List.take_length]
    right
    have e : lineOf pre ws post h u l = (pre ++ [34] ++ enc h u l ws) ++ ([34] ++ post) := by simp [lineOf]
    have hl : (pre ++ [34] ++ enc h u l ws).length = pre.length + 1 + (enc h u l ws).length := by simp; omega
    rw [e, ← hl]
    exact getD_app (pre ++ [34] ++ enc h u l ws) ([34] ++ post) 0

theorem pos_line (hw : Byt ws) : pos (lineOf pre ws post h u l) 34 (pre.length + 1) ws.length = pre.length + 1 + (enc h u l ws).length := by
  rw [(run_line pre ws post h u l hw ws.length (Nat.le_refl _)).1, List.take_length]
theorem wd_line (hw : Byt ws) : wd (lineOf pre ws post h u l) 34 (pre.length + 1) ws.length = ws := by
  rw [(run_line pre ws post h u l hw ws.length (Nat.le_refl _)).2, List.take_length]
theorem end_line (hw : Byt ws) : endP (lineOf pre ws post h u l) 34 (pre.length + 1) ws.length = pre.length + (enc h u l ws).length + 2 := by
  unfold endP
  rw [pos_line pre ws post h u l hw, line_length, if_pos (by omega)]
  omega

theorem line_pre (i : Nat) (hi : i < pre.length) : (lineOf pre ws post h u l).getD i 0 = pre.getD i 0 := by
  have e : lineOf pre ws post h u l = pre ++ ([34] ++ enc h u l ws ++ [34] ++ post) := by simp [lineOf]
  rw [e, getD_app_lt _ _ _ hi]
theorem line_post (i : Nat) : (lineOf pre ws post h u l).getD (pre.length + (enc h u l ws).length + 2 + i) 0 = post.getD i 0 := by
  have e : lineOf pre ws post h u l = (pre ++ [34] ++ enc h u l ws ++ [34]) ++ post := by simp [lineOf]
  have hl : (pre ++ [34] ++ enc h u l ws ++ [34]).length = pre.length + (enc h u l ws).length + 2 := by simp; omega
  rw [e, ← hl, getD_app]
end

end Go.Proofs.Qxb6602361a
