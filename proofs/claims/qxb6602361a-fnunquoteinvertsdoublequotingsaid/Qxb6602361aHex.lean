/-
  The digits: what 'unhex', 'ZZunhex', 'hexDigitValueB1', 'hexDigitB1' compute.
-/
import Derived.Test.Qxb6602361aRows
import Derived.WalkKit
import Derived.WalkSpells
import Derived.WalkLawsBesides
namespace Go.Proofs.Qxb6602361a
open Go.RowKit
set_option linter.unusedVariables false

/-- The value of a byte as a hexadecimal digit (0 where it is none). -/
def hexV (c : Int) : Int :=
  if 48 ≤ c ∧ c ≤ 57 then c - 48 else if 97 ≤ c ∧ c ≤ 102 then c - 87 else if 65 ≤ c ∧ c ≤ 70 then c - 55 else 0
/-- Is the byte a hexadecimal digit? -/
def hexOk (c : Int) : Bool :=
  decide (48 ≤ c ∧ c ≤ 57) || decide (97 ≤ c ∧ c ≤ 102) || decide (65 ≤ c ∧ c ≤ 70)

theorem ret_byte_bool {a b : Int} {x y : Bool} (h : a = b) (k : x = y) :
    Ending.returned (.tuple #[.int .u8 a, .bool x]) = .returned (.tuple #[.int .u8 b, .bool y]) := by rw [h, k]

theorem hexV_bd (c : Int) : 0 ≤ hexV c ∧ hexV c ≤ 15 := by unfold hexV; omega

set_option maxHeartbeats 400000 in
theorem unhex_any (c : Int) (w : World) (h0 : 0 ≤ c) (h1 : c ≤ 255) :
    Calls Try.prog 22 #[.int .u8 c] w fun e w' => e = .returned (.tuple #[.int .u8 (hexV c), .bool (hexOk c)]) ∧ w' = w := by
  go_enter Try.func22, Try.ntmps22
  go_wp2
  all_goals
    go_ret2
    exact ⟨ret_byte_bool (by unfold hexV; omega) (by simp [hexOk]; omega), rfl⟩

set_option maxHeartbeats 400000 in
theorem zzunhex_any (c : Int) (w : World) (h0 : 0 ≤ c) (h1 : c ≤ 255) :
    Calls Try.prog 8 #[.int .u8 c] w fun e w' => e = .returned (.tuple #[.int .u8 (hexV c), .bool (hexOk c)]) ∧ w' = w := by
  go_enter Try.func8, Try.ntmps8
  go_wp2_with (go_at_call 22; refine (unhex_any _ _ h0 h1).mono ?_; rintro e w' ⟨rfl, rfl⟩)
  go_ret2
  exact ⟨rfl, rfl⟩

/-- The digit for k, in small letters and in great ones. -/
def lowD (k : Nat) : Int := if k < 10 then 48 + k else 87 + k
def uppD (k : Nat) : Int := if k < 10 then 48 + k else 55 + k

theorem low_fin : ∀ k : Fin 16, (((({ data := #[48, 49, 50, 51, 52, 53, 54, 55, 56, 57, 97, 98, 99, 100, 101, 102] } : ByteArray)[k.1]'k.2).toNat : Int)) = lowD k.1 := by decide
theorem upp_fin : ∀ k : Fin 16, (((({ data := #[48, 49, 50, 51, 52, 53, 54, 55, 56, 57, 65, 66, 67, 68, 69, 70] } : ByteArray)[k.1]'k.2).toNat : Int)) = uppD k.1 := by decide
theorem low_at (k : Nat) (h : k < 16) : (((({ data := #[48, 49, 50, 51, 52, 53, 54, 55, 56, 57, 97, 98, 99, 100, 101, 102] } : ByteArray)[k]'h).toNat : Int)) = lowD k := low_fin ⟨k, h⟩
theorem upp_at (k : Nat) (h : k < 16) : (((({ data := #[48, 49, 50, 51, 52, 53, 54, 55, 56, 57, 65, 66, 67, 68, 69, 70] } : ByteArray)[k]'h).toNat : Int)) = uppD k := upp_fin ⟨k, h⟩

theorem hex_hit (k : Nat) (c : Int) (h : k < 16) (e : lowD k = c ∨ uppD k = c) : hexV c = k ∧ hexOk c = true := by
  unfold hexV hexOk lowD uppD at *
  simp only [Bool.or_eq_true, decide_eq_true_eq]
  omega
theorem hex_miss (k : Nat) (c : Int) (a : lowD k ≠ c) (b : uppD k ≠ c) (ok : hexOk c = true) (le : (k : Int) ≤ hexV c) : ((k + 1 : Nat) : Int) ≤ hexV c := by
  unfold hexV hexOk lowD uppD at *
  simp only [Bool.or_eq_true, decide_eq_true_eq] at ok
  omega
theorem hex_none (c : Int) (h : hexOk c = false) : hexV c = 0 := by
  unfold hexV hexOk at *
  simp only [Bool.or_eq_false_iff, decide_eq_false_iff_not] at h
  omega
theorem hex_over (k : Nat) (c : Int) (h : 16 ≤ k) (r : hexOk c = true → (k : Int) ≤ hexV c) : hexOk c = false := by
  have := hexV_bd c
  cases e : hexOk c
  · rfl
  · have := r e; omega

set_option maxHeartbeats 400000 in
theorem hexDigitValue_any (c : Int) (w : World) (h0 : 0 ≤ c) (h1 : c ≤ 255) :
    Calls Try.prog 9 #[.int .u8 c] w fun e w' => e = .returned (.tuple #[.int .u8 (hexV c), .bool (hexOk c)]) ∧ w' = w := by
  go_enter Try.func9, Try.ntmps9
  go_wp2
  go_loop [4] (fun i => ∃ k : Nat, k ≤ 16 ∧ i = .int .i64 k ∧ (hexOk c = true → (k : Int) ≤ hexV c)) (fun i => 16 - (intOf i).toNat)
  case atStart => exact ⟨0, by omega, rfl, fun _ => (hexV_bd c).1⟩
  case round =>
    obtain ⟨k, hk, rfl, hr⟩ := hrel
    have HR : Hid (hexOk c = true → (k : Int) ≤ hexV c) := hr
    clear hr
    by_cases hlt : k < 16
    · have hl := low_at k hlt
      have hu := upp_at k hlt
      by_cases a : lowD k = c
      · have A : Hid (lowD k = c) := a
        have a' : (lowD k == c) = true := by simp [a]
        clear a
        go_wp2
        go_ret2
        have := hex_hit k c hlt (.inl A.out)
        exact ⟨ret_byte_bool this.1.symm this.2.symm, rfl⟩
      · have a' : (lowD k == c) = false := by simp [a]
        by_cases b : uppD k = c
        · have B : Hid (uppD k = c) := b
          have b' : (uppD k == c) = true := by simp [b]
          clear b
          go_wp2
          go_ret2
          have := hex_hit k c hlt (.inr B.out)
          exact ⟨ret_byte_bool this.1.symm this.2.symm, rfl⟩
        · have b' : (uppD k == c) = false := by simp [b]
          go_wp2
          go_round
          case rel => exact ⟨k + 1, by omega, by go_num, fun ok => hex_miss k c a b ok (HR.out ok)⟩
          case measure => simp [intOf]; omega
    · go_wp2
      go_ret2
      have := hex_over k c (by omega) HR.out
      exact ⟨ret_byte_bool (hex_none c this).symm this.symm, rfl⟩


/-- The digit that 'hexDigitB1' writes. -/
def digD (u : Bool) (k : Nat) : Int := if u then uppD k else lowD k

set_option maxHeartbeats 400000 in
theorem hexDigit_any (v : Int) (u : Bool) (w : World) (h0 : 0 ≤ v) (h1 : v ≤ 255) :
    Calls Try.prog 10 #[.int .u8 v, .bool u] w fun e w' => e = .returned (.int .u8 (digD u (v % 16).toNat)) ∧ w' = w := by
  cases u
  all_goals
    have hl := low_at (v % 16).toNat (by omega)
    have hu := upp_at (v % 16).toNat (by omega)
    go_enter Try.func10, Try.ntmps10
    go_wp2
    go_ret
    exact ⟨rfl, rfl⟩

theorem hexV_dig (u : Bool) (k : Nat) (h : k < 16) : hexV (digD u k) = k ∧ hexOk (digD u k) = true := by
  cases u
  · exact hex_hit k _ h (.inl rfl)
  · exact hex_hit k _ h (.inr rfl)
theorem digD_bd (u : Bool) (k : Nat) (h : k < 16) : 48 ≤ digD u k ∧ digD u k ≤ 102 := by
  cases u <;> simp [digD, uppD, lowD] <;> omega

end Go.Proofs.Qxb6602361a
