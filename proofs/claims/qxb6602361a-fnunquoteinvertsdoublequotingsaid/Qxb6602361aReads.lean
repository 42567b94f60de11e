/-
  PLAIN: an escape that was written is read back. No Go in sight.
-/
import Derived.Test.Qxb6602361aWrite
namespace Go.Proofs.Qxb6602361a
set_option linter.unusedVariables false

theorem getD_app (xs ys : List Int) (i : Nat) : (xs ++ ys).getD (xs.length + i) 0 = ys.getD i 0 := by
  simp [List.getD_eq_getElem?_getD, List.getElem?_append_right]

theorem getD_app_lt (xs ys : List Int) (i : Nat) (h : i < xs.length) : (xs ++ ys).getD i 0 = xs.getD i 0 := by
  simp [List.getD_eq_getElem?_getD, List.getElem?_append_left h]

/-- An escape behind xs: what stands in front of it does not matter. -/
theorem esc_behind (xs ys : List Int) (q : Int) : esc (xs ++ ys) q xs.length = escF q (ys.getD 0 0) (ys.getD 1 0) (ys.getD 2 0) (decide (2 < ys.length)) xs.length := by
  unfold esc
  rw [show (xs ++ ys).getD xs.length 0 = ys.getD 0 0 from getD_app xs ys 0, getD_app, getD_app]
  congr 1
  rw [decide_eq_decide, List.length_append]
  omega

theorem escF_short (c x y : Int) (r : Bool) (p : Nat) (h : c ≠ 120) : escF 34 c x y r p = (nameV c, p + 1) := by
  unfold escF
  rw [if_neg (by omega), if_neg (fun hh => h hh.1)]

theorem escF_hex (b : Int) (u l : Bool) (p : Nat) (h0 : 0 ≤ b) (h1 : b ≤ 255) : escF 34 120 (digD u (b / 16).toNat) (digD l (b % 16).toNat) true p = (b, p + 3) := by
  have hx := hexV_dig u (b / 16).toNat (by omega)
  have hy := hexV_dig l (b % 16).toNat (by omega)
  unfold escF
  rw [if_neg (by omega), if_pos ⟨rfl, rfl, hx.2, hy.2⟩, hx.1, hy.1]
  congr 1
  omega

theorem name_ctl (b : Int) (h : ctlOk b = true) : ctlV b ≠ 120 ∧ nameV (ctlV b) = b := by
  unfold ctlOk at h
  simp only [decide_eq_true_eq] at h
  unfold ctlV nameV
  omega
theorem name_plain (b : Int) (h : isNm b = false) : nameV b = b := by
  unfold isNm at h
  simp only [decide_eq_false_iff_not] at h
  unfold nameV
  omega

theorem esc_reads (xs sf : List Int) (b : Int) (h u l : Bool) (h0 : 0 ≤ b) (h1 : b ≤ 255) :
    esc (xs ++ (escB b h u l ++ sf)) 34 xs.length = (b, xs.length + (escB b h u l).length) := by
  rw [esc_behind]
  have hex : escF 34 ((hexB b u l ++ sf).getD 0 0) ((hexB b u l ++ sf).getD 1 0) ((hexB b u l ++ sf).getD 2 0) (decide (2 < (hexB b u l ++ sf).length)) xs.length = (b, xs.length + (hexB b u l).length) := by
    have e : decide (2 < (hexB b u l ++ sf).length) = true := by simp [hexB]
    rw [e]
    exact escF_hex b u l _ h0 h1
  unfold escB
  by_cases hh : h = true
  · rw [if_pos hh]; exact hex
  rw [if_neg hh]
  by_cases hc : ctlOk b = true
  · rw [if_pos hc]
    have hn := name_ctl b hc
    show escF 34 (ctlV b) _ _ _ _ = _
    rw [escF_short _ _ _ _ _ hn.1, hn.2]
    rfl
  rw [if_neg hc]
  by_cases hb : b ≠ 120 ∧ isNm b = false
  · rw [if_pos hb]
    show escF 34 b _ _ _ _ = _
    rw [escF_short _ _ _ _ _ hb.1, name_plain b hb.2]
    rfl
  · rw [if_neg hb]; exact hex

theorem escB_byt (b : Int) (h u l : Bool) (h0 : 0 ≤ b) (h1 : b ≤ 255) : ∀ z ∈ escB b h u l, 0 ≤ z ∧ z ≤ 255 := by
  have hx := digD_bd u (b / 16).toNat (by omega)
  have hy := digD_bd l (b % 16).toNat (by omega)
  have hex : ∀ z ∈ hexB b u l, 0 ≤ z ∧ z ≤ 255 := by
    intro z hz
    simp only [hexB, List.mem_cons, List.not_mem_nil, or_false] at hz
    omega
  unfold escB
  split
  · exact hex
  split
  · intro z hz
    simp only [List.mem_singleton] at hz
    subst hz
    unfold ctlV; omega
  split
  · intro z hz
    simp only [List.mem_singleton] at hz
    subst hz
    exact ⟨h0, h1⟩
  · exact hex

theorem byt_of_mem {zs : List Int} (h : ∀ z ∈ zs, 0 ≤ z ∧ z ≤ 255) : Byt zs := by
  intro i
  by_cases hi : i < zs.length
  · rw [List.getD_eq_getElem?_getD, List.getElem?_eq_getElem hi]
    exact h _ (List.getElem_mem hi)
  · simp [List.getD_eq_getElem?_getD, List.getElem?_eq_none (Nat.le_of_not_lt hi)]
theorem mem_of_byt {zs : List Int} (h : Byt zs) : ∀ z ∈ zs, 0 ≤ z ∧ z ≤ 255 := by
  intro z hz
  obtain ⟨i, hi, rfl⟩ := List.getElem_of_mem hz
  have := h i
  rwa [List.getD_eq_getElem?_getD, List.getElem?_eq_getElem hi] at this
theorem byt_append {xs ys : List Int} (h : Byt xs) (k : Byt ys) : Byt (xs ++ ys) :=
  byt_of_mem fun z hz => (List.mem_append.1 hz).elim (mem_of_byt h z) (mem_of_byt k z)
theorem byt_one {c : Int} (h : 0 ≤ c ∧ c ≤ 255) : Byt [c] := byt_of_mem fun z hz => by
  simp only [List.mem_singleton] at hz; subst hz; exact h

end Go.Proofs.Qxb6602361a
