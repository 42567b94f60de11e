/-
  Writing escapes: what 'controlNameB1', 'isEscNameB1', 'escapeByteB1' compute.
-/
import Derived.Test.Qxb6602361aOwn
import Derived.Test.Qxb6602361aEsc
namespace Go.Proofs.Qxb6602361a
open Go.RowKit
set_option linter.unusedVariables false

/-- The letter that names a control byte (0 where none does), and whether one does. -/
def ctlV (b : Int) : Int := if b = 10 then 110 else if b = 13 then 114 else if b = 9 then 116 else if b = 8 then 98 else if b = 7 then 97 else 0
def ctlOk (b : Int) : Bool := decide (b = 10 ∨ b = 13 ∨ b = 9 ∨ b = 8 ∨ b = 7)
/-- Is b a letter that names a control byte? -/
def isNm (b : Int) : Bool := decide (b = 110 ∨ b = 114 ∨ b = 116 ∨ b = 98 ∨ b = 97)

theorem ctl_hit (k : Nat) (b : Int) (h : k < 5) (e : byD k = b) : ctlV b = nmD k ∧ ctlOk b = true := by
  unfold byD at e; unfold ctlV ctlOk nmD; simp only [decide_eq_true_eq]; omega
theorem ctl_none (b : Int) (h : ∀ j, j < 5 → byD j ≠ b) : ctlV b = 0 ∧ ctlOk b = false := by
  have h0 := h 0 (by omega); have h1 := h 1 (by omega); have h2 := h 2 (by omega); have h3 := h 3 (by omega); have h4 := h 4 (by omega)
  simp [byD] at h0 h1 h2 h3 h4
  unfold ctlV ctlOk; simp only [decide_eq_false_iff_not]; omega
theorem nm_hit (k : Nat) (b : Int) (h : k < 5) (e : nmD k = b) : isNm b = true := by
  unfold nmD at e; unfold isNm; simp only [decide_eq_true_eq]; omega
theorem nm_none (b : Int) (h : ∀ j, j < 5 → nmD j ≠ b) : isNm b = false := by
  have h0 := h 0 (by omega); have h1 := h 1 (by omega); have h2 := h 2 (by omega); have h3 := h 3 (by omega); have h4 := h 4 (by omega)
  simp [nmD] at h0 h1 h2 h3 h4
  unfold isNm; simp only [decide_eq_false_iff_not]; omega

theorem ret_bool {x y : Bool} (h : x = y) : Ending.returned (.bool x) = .returned (.bool y) := by rw [h]

set_option maxHeartbeats 400000 in
theorem control_any (b : Int) (w : World) :
    Calls Try.prog 23 #[.int .u8 b] w fun e w' => e = .returned (.tuple #[.int .u8 (ctlV b), .bool (ctlOk b)]) ∧ w = w' := by
  go_enter Try.func23, Try.ntmps23
  go_wp2
  go_loop [4] (fun i => ∃ k : Nat, k ≤ 5 ∧ i = .int .i64 k ∧ ∀ j, j < k → byD j ≠ b) (fun i => 5 - (intOf i).toNat)
  case atStart => exact ⟨0, by omega, rfl, by omega⟩
  case round =>
    obtain ⟨k, hk, rfl, hr⟩ := hrel
    have HR := hide hr
    clear hr
    by_cases hlt : k < 5
    · have hl := nm_at k hlt
      have hu := by_at k hlt
      by_cases a : byD k = b
      · have A := hide a
        have a' : (byD k == b) = true := by simp [a]
        clear a
        go_wp2
        go_ret2
        have := ctl_hit k b hlt (unhide A)
        exact ⟨ret_byte_bool this.1.symm this.2.symm, rfl⟩
      · have a' : (byD k == b) = false := by simp [a]
        go_wp2
        go_round
        case rel =>
          refine ⟨k + 1, by omega, by go_num, fun j hj => ?_⟩
          by_cases e : j = k
          · rw [e]; exact a
          · exact unhide HR j (by omega)
        case measure => simp [intOf]; omega
    · have : k = 5 := by omega
      subst this
      go_wp2
      go_ret2
      have := ctl_none b (unhide HR)
      exact ⟨ret_byte_bool this.1.symm this.2.symm, rfl⟩

set_option maxHeartbeats 400000 in
theorem isNm_any (b : Int) (w : World) :
    Calls Try.prog 24 #[.int .u8 b] w fun e w' => e = .returned (.bool (isNm b)) ∧ w = w' := by
  go_enter Try.func24, Try.ntmps24
  go_wp2
  go_loop [3] (fun i => ∃ k : Nat, k ≤ 5 ∧ i = .int .i64 k ∧ ∀ j, j < k → nmD j ≠ b) (fun i => 5 - (intOf i).toNat)
  case atStart => exact ⟨0, by omega, rfl, by omega⟩
  case round =>
    obtain ⟨k, hk, rfl, hr⟩ := hrel
    have HR := hide hr
    clear hr
    by_cases hlt : k < 5
    · have hl := nm_at k hlt
      by_cases a : nmD k = b
      · have A := hide a
        have a' : (nmD k == b) = true := by simp [a]
        clear a
        go_wp2
        go_ret
        exact ⟨ret_bool (nm_hit k b hlt (unhide A)).symm, rfl⟩
      · have a' : (nmD k == b) = false := by simp [a]
        go_wp2
        go_round
        case rel =>
          refine ⟨k + 1, by omega, by go_num, fun j hj => ?_⟩
          by_cases e : j = k
          · rw [e]; exact a
          · exact unhide HR j (by omega)
        case measure => simp [intOf]; omega
    · have : k = 5 := by omega
      subst this
      go_wp2
      go_ret
      exact ⟨ret_bool (nm_none b (unhide HR)).symm, rfl⟩


/-- What 'escapeByteB1' writes. -/
def hexB (b : Int) (u l : Bool) : List Int := [120, digD u (b / 16).toNat, digD l (b % 16).toNat]
def escB (b : Int) (h u l : Bool) : List Int :=
  if h = true then hexB b u l else if ctlOk b = true then [ctlV b] else if b ≠ 120 ∧ isNm b = false then [b] else hexB b u l

theorem hexDigit_at (v x : Int) (u : Bool) (w : World) (k : Nat) (h0 : 0 ≤ v) (h1 : v ≤ 255) (hx : (v % 16).toNat = k) :
    Calls Try.prog 10 #[.int .u8 v, .bool u] w fun e w' => e = .returned (.int .u8 (digD u k)) ∧ w = w' := by
  subst hx
  refine (hexDigit_any v u w h0 h1).mono ?_
  rintro e w' ⟨rfl, rfl⟩
  exact ⟨rfl, rfl⟩

set_option maxHeartbeats 400000 in
theorem escapeByte_any (b : Int) (h u l : Bool) (w : World) (h0 : 0 ≤ b) (h1 : b ≤ 255) :
    Calls Try.prog 13 #[.int .u8 b, .bool h, .bool u, .bool l] w fun e w' =>
      ∃ a, e = .returned (.slice a (escB b h u l).length (escB b h u l).length) ∧ w'.ownsRow w.heap.size 5 1 (.slice a (escB b h u l).length (escB b h u l).length) (escB b h u l).length (bv (escB b h u l)) ∧ Below w.heap.size w w' := by
  cases h
  · cases hc : ctlOk b
    · have HC := hide hc
      by_cases hb : b = 120
      · have hE : escB b false u l = hexB b u l := by unfold escB; rw [if_neg (by simp), if_neg (by rw [hc]; simp), if_neg (by simp [hb])]
        rw [hE]
        have hb' : (b != 120) = false := by simp [hb]
        clear hc hE hb
        go_enter Try.func13, Try.ntmps13
        go_wp2_with fail
        refine (control_any b w).mono ?_
        rintro e w' ⟨rfl, rfl⟩
        rw [unhide HC]
        go_wp2_with fail
        refine (hexDigit_at _ 0 u w (b / 16).toNat (by omega) (by omega) (by omega)).mono ?_
        rintro e w' ⟨rfl, rfl⟩
        go_wp2_with fail
        refine (hexDigit_at _ 0 l w (b % 16).toNat (by omega) (by omega) (by omega)).mono ?_
        rintro e w' ⟨rfl, rfl⟩
        go_wp2_with fail
        go_ret
        exact ⟨_, rfl, World.ownsRow_lit w _ 3 (Nat.le_refl _) (by simp [maxLen]) rfl, (Below.refl _ _).alloc (Nat.le_refl _) _⟩
      · have hb' : (b != 120) = true := by simp [hb]
        cases hn : isNm b
        · have hE : escB b false u l = [b] := by simp [escB, hc, hb, hn]
          rw [hE]
          have HN := hide hn
          clear hc hE hb hn
          go_enter Try.func13, Try.ntmps13
          go_wp2_with fail
          refine (control_any b w).mono ?_
          rintro e w' ⟨rfl, rfl⟩
          rw [unhide HC]
          go_wp2_with fail
          refine (isNm_any b w).mono ?_
          rintro e w' ⟨rfl, rfl⟩
          rw [unhide HN]
          go_wp2_with fail
          go_ret
          exact ⟨_, rfl, World.ownsRow_lit w _ 1 (Nat.le_refl _) (by simp [maxLen]) rfl, (Below.refl _ _).alloc (Nat.le_refl _) _⟩
        · have hE : escB b false u l = hexB b u l := by simp [escB, hc, hn]
          rw [hE]
          have HN := hide hn
          clear hc hE hb hn
          go_enter Try.func13, Try.ntmps13
          go_wp2_with fail
          refine (control_any b w).mono ?_
          rintro e w' ⟨rfl, rfl⟩
          rw [unhide HC]
          go_wp2_with fail
          refine (isNm_any b w).mono ?_
          rintro e w' ⟨rfl, rfl⟩
          rw [unhide HN]
          go_wp2_with fail
          refine (hexDigit_at _ 0 u w (b / 16).toNat (by omega) (by omega) (by omega)).mono ?_
          rintro e w' ⟨rfl, rfl⟩
          go_wp2_with fail
          refine (hexDigit_at _ 0 l w (b % 16).toNat (by omega) (by omega) (by omega)).mono ?_
          rintro e w' ⟨rfl, rfl⟩
          go_wp2_with fail
          go_ret
          exact ⟨_, rfl, World.ownsRow_lit w _ 3 (Nat.le_refl _) (by simp [maxLen]) rfl, (Below.refl _ _).alloc (Nat.le_refl _) _⟩
    · have hE : escB b false u l = [ctlV b] := by simp [escB, hc]
      rw [hE]
      have HC := hide hc
      clear hc hE
      go_enter Try.func13, Try.ntmps13
      go_wp2_with fail
      refine (control_any b w).mono ?_
      rintro e w' ⟨rfl, rfl⟩
      rw [unhide HC]
      go_wp2_with fail
      go_ret
      exact ⟨_, rfl, World.ownsRow_lit w _ 1 (Nat.le_refl _) (by simp [maxLen]) rfl, (Below.refl _ _).alloc (Nat.le_refl _) _⟩
  · have hE : escB b true u l = hexB b u l := by simp [escB]
    rw [hE]
    clear hE
    go_enter Try.func13, Try.ntmps13
    go_wp2_with fail
    refine (hexDigit_at _ 0 u w (b / 16).toNat (by omega) (by omega) (by omega)).mono ?_
    rintro e w' ⟨rfl, rfl⟩
    go_wp2_with fail
    refine (hexDigit_at _ 0 l w (b % 16).toNat (by omega) (by omega) (by omega)).mono ?_
    rintro e w' ⟨rfl, rfl⟩
    go_wp2_with fail
    go_ret
    exact ⟨_, rfl, World.ownsRow_lit w _ 3 (Nat.le_refl _) (by simp [maxLen]) rfl, (Below.refl _ _).alloc (Nat.le_refl _) _⟩

end Go.Proofs.Qxb6602361a
