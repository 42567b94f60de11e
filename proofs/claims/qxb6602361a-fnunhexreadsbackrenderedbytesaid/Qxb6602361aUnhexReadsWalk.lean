/-
  The walk of 'FnUnhexReadsBackRenderedByte'.
-/
import Derived.Test.Qxb6602361aHex
namespace Go.Proofs.Qxb6602361a
open Go.RowKit
set_option linter.unusedVariables false

theorem zzunhex_dig (u : Bool) (k : Nat) (hk : k < 16) (w : World) :
    Calls Try.prog 8 #[.int .u8 (digD u k)] w fun e w' => e = .returned (.tuple #[.int .u8 k, .bool true]) ∧ w' = w := by
  have hd := digD_bd u k hk
  refine (zzunhex_any (digD u k) w (by omega) (by omega)).mono ?_
  rintro e w' ⟨rfl, rfl⟩
  rw [(hexV_dig u k hk).1, (hexV_dig u k hk).2]
  exact ⟨rfl, rfl⟩

theorem glue (k m : Nat) (hk : k < 16) (hm : m < 16) : bits .or .u8 ((k : Int) * 16) (m : Int) = 16 * k + m := by
  have h : ∀ (x y : Fin 16), bits .or .u8 ((x.1 : Int) * 16) (y.1 : Int) = 16 * x.1 + y.1 := by decide +kernel
  exact h ⟨k, hk⟩ ⟨m, hm⟩

set_option maxHeartbeats 400000 in
theorem unhexReads (k m : Nat) (hk : k < 16) (hm : m < 16) (u l : Bool) (w : World) :
    Calls Try.prog 4 #[.int .u8 (16 * (k : Int) + m), .bool u, .bool l] w fun e w' => e = .returned (.bool true) ∧ w = w' := by
  have e1 : (16 * (k : Int) + m) / 16 = k := by omega
  have e2 : (16 * (k : Int) + m) % 16 = m := by omega
  go_enter Try.func4, Try.ntmps4
  go_wp2_with fail
  refine (hexDigit_any _ u w (by omega) (by omega)).mono ?_
  rintro e w' ⟨rfl, rfl⟩
  rw [show (((k : Int) % 16).toNat) = k by omega]
  go_wp2_with fail
  refine (zzunhex_dig u k hk _).mono ?_
  rintro e w' ⟨rfl, rfl⟩
  go_wp2_with fail
  refine (hexDigit_any _ l w' (by omega) (by omega)).mono ?_
  rintro e w' ⟨rfl, rfl⟩
  rw [show (((m : Int) % 16).toNat) = m by omega]
  go_wp2_with fail
  refine (zzunhex_dig l m hm _).mono ?_
  rintro e w' ⟨rfl, rfl⟩
  go_wp2_with fail
  rw [glue k m hk hm]
  go_ret
  exact ⟨by simp, rfl⟩
end Go.Proofs.Qxb6602361a
