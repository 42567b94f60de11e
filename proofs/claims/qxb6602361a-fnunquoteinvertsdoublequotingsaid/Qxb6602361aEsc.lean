/-
  One escape: what 'unescape' and 'escapeModelB1' compute.
-/
import Derived.Test.Qxb6602361aBytes
namespace Go.Proofs.Qxb6602361a
open Go.RowKit
set_option linter.unusedVariables false

/-- The byte that a backslash ahead of c stands for in double quotes, but for \x and two digits. -/
def nameV (c : Int) : Int := if c = 110 then 10 else if c = 114 then 13 else if c = 116 then 9 else if c = 98 then 8 else if c = 97 then 7 else c

/-- One escape: the quote q; the byte c behind the backslash, at place p; x, y: the two bytes behind it; r: are they there? The byte, and where the line goes on. -/
def escF (q c x y : Int) (r : Bool) (p : Nat) : Int × Nat :=
  if q = 39 then (if c = 39 then (39, p + 1) else (92, p))
  else if c = 120 ∧ r = true ∧ hexOk x = true ∧ hexOk y = true then (hexV x * 16 + hexV y, p + 3)
  else (nameV c, p + 1)

def esc (zs : List Int) (q : Int) (p : Nat) : Int × Nat :=
  escF q (zs.getD p 0) (zs.getD (p + 1) 0) (zs.getD (p + 2) 0) (decide (p + 2 < zs.length)) p

theorem glueI (a b : Int) (h0 : 0 ≤ a ∧ a ≤ 15) (h1 : 0 ≤ b ∧ b ≤ 15) : bits .or .u8 (a * 16) b = a * 16 + b := by
  have h : ∀ (x y : Fin 16), bits .or .u8 ((x.1 : Int) * 16) (y.1 : Int) = x.1 * 16 + y.1 := by decide +kernel
  obtain ⟨k, rfl⟩ := Int.eq_ofNat_of_zero_le h0.1
  obtain ⟨m, rfl⟩ := Int.eq_ofNat_of_zero_le h1.1
  exact h ⟨k, by omega⟩ ⟨m, by omega⟩

theorem ret_byte_int {a b x y : Int} (h : a = b) (k : x = y) :
    Ending.returned (.tuple #[.int .u8 a, .int .i64 x]) = .returned (.tuple #[.int .u8 b, .int .i64 y]) := by rw [h, k]

set_option maxHeartbeats 1000000 in
theorem unescape_any (a : Option Addr) (n cap : Nat) (zs : List Int) (p : Nat) (q : Int) (w : World) (h : Row w a n zs) (hn : n ≤ 16777216) (hp : p < n) :
    Calls Try.prog 25 #[.slice a n cap, .int .i64 p, .int .u8 q] w fun e w' => e = .returned (.tuple #[.int .u8 (esc zs q p).1, .int .i64 (esc zs q p).2]) ∧ w = w' := by
  obtain ⟨b, off, rfl, hb, hc⟩ := h.cells (by omega)
  have hlen := h.len
  have b0 := h.byt p
  have b1 := h.byt (p + 1)
  have b2 := h.byt (p + 2)
  have c0 := hc p hp
  have c1 : p + 2 < n → w.cell? ⟨b, off + (p + 1), none⟩ = some (.int .u8 (zs.getD (p + 1) 0)) := fun _ => hc (p + 1) (by omega)
  have c2 : p + 2 < n → w.cell? ⟨b, off + (p + 2), none⟩ = some (.int .u8 (zs.getD (p + 2) 0)) := fun h => hc (p + 2) h
  unfold esc
  rw [hlen]
  clear hlen h hc
  generalize zs.getD p 0 = c at *
  generalize zs.getD (p + 1) 0 = x at *
  generalize zs.getD (p + 2) 0 = y at *
  by_cases q39 : q = 39
  · have q' : (q == 39) = true := by simp [q39]
    by_cases c39 : c = 39
    · have c' : (c == 39) = true := by simp [c39]
      have F : Hid (escF q c x y (decide (p + 2 < n)) p = (39, p + 1)) := by simp [Hid, escF, q39, c39]
      have HC := hide c39
      clear q39 c39 c1 c2 b0 b1 b2
      go_enter Try.func25, Try.ntmps25
      go_wp2
      go_ret2
      rw [unhide F, unhide HC]
      exact ⟨rfl, rfl⟩
    · have c' : (c == 39) = false := by simp [c39]
      have F : Hid (escF q c x y (decide (p + 2 < n)) p = (92, p)) := by simp [Hid, escF, q39, c39]
      clear q39 c39 c1 c2 b0 b1 b2
      go_enter Try.func25, Try.ntmps25
      go_wp2
      go_ret2
      rw [unhide F]
      exact ⟨rfl, rfl⟩
  · have q' : (q == 39) = false := by simp [q39]
    by_cases c120 : c = 120
    · subst c120
      by_cases hr : p + 2 < n
      · have c1' := c1 hr
        have c2' := c2 hr
        have hx := hexV_bd x
        have hy := hexV_bd y
        by_cases ok : hexOk x = true ∧ hexOk y = true
        · have F : Hid (escF q 120 x y (decide (p + 2 < n)) p = (hexV x * 16 + hexV y, p + 3)) := by simp [Hid, escF, q39, ok, hr]
          obtain ⟨okx, oky⟩ := ok
          have HX := hide okx
          have HY := hide oky
          clear q39 c1 c2 b0 okx oky
          go_enter Try.func25, Try.ntmps25
          go_wp2_with fail
          refine (unhex_any x _ b1.1 b1.2).mono ?_
          rintro e w' ⟨rfl, rfl⟩
          rw [unhide HX]
          go_wp2_with fail
          refine (unhex_any y _ b2.1 b2.2).mono ?_
          rintro e w' ⟨rfl, rfl⟩
          rw [unhide HY]
          go_wp2_with fail
          go_ret2
          rw [unhide F]
          exact ⟨ret_byte_int (glueI _ _ hx hy) (by simp), rfl⟩
        · have F : Hid (escF q 120 x y (decide (p + 2 < n)) p = (120, p + 1)) := by
            have hneg : ¬ ((120 : Int) = 120 ∧ decide (p + 2 < n) = true ∧ hexOk x = true ∧ hexOk y = true) := fun hh => ok hh.2.2
            unfold Hid escF
            rw [if_neg q39, if_neg hneg]
            rfl
          have hx2 : hexOk x = false ∨ (hexOk x = true ∧ hexOk y = false) := by
            cases h1 : hexOk x
            · exact .inl rfl
            · cases h2 : hexOk y
              · exact .inr ⟨rfl, rfl⟩
              · exact absurd ⟨h1, h2⟩ ok
          clear q39 c1 c2 b0 ok
          rcases hx2 with okx | ⟨okx, oky⟩
          · have HX := hide okx
            clear okx
            go_enter Try.func25, Try.ntmps25
            go_wp2_with fail
            refine (unhex_any x _ b1.1 b1.2).mono ?_
            rintro e w' ⟨rfl, rfl⟩
            rw [unhide HX]
            go_wp2_with fail
            refine (unhex_any y _ b2.1 b2.2).mono ?_
            rintro e w' ⟨rfl, rfl⟩
            go_wp2_with fail
            go_ret2
            rw [unhide F]
            exact ⟨ret_byte_int rfl (by simp), rfl⟩
          · have HX := hide okx
            have HY := hide oky
            clear okx oky
            go_enter Try.func25, Try.ntmps25
            go_wp2_with fail
            refine (unhex_any x _ b1.1 b1.2).mono ?_
            rintro e w' ⟨rfl, rfl⟩
            rw [unhide HX]
            go_wp2_with fail
            refine (unhex_any y _ b2.1 b2.2).mono ?_
            rintro e w' ⟨rfl, rfl⟩
            rw [unhide HY]
            go_wp2_with fail
            go_ret2
            rw [unhide F]
            exact ⟨ret_byte_int rfl (by simp), rfl⟩
      · have F : Hid (escF q 120 x y (decide (p + 2 < n)) p = (120, p + 1)) := by
          simp [Hid, escF, q39, hr, nameV]
        clear q39 c1 c2 b0 b1 b2
        go_enter Try.func25, Try.ntmps25
        go_wp2_with fail
        go_ret2
        rw [unhide F]
        exact ⟨ret_byte_int rfl (by simp), rfl⟩
    · have F : Hid (escF q c x y (decide (p + 2 < n)) p = (nameV c, p + 1)) := by
        have hneg : ¬ (c = 120 ∧ decide (p + 2 < n) = true ∧ hexOk x = true ∧ hexOk y = true) := fun hh => c120 hh.1
        unfold Hid escF
        rw [if_neg q39, if_neg hneg]
      have cx : (c == 120) = false := by simp [c120]
      clear q39 c1 c2 b1 b2
      by_cases k1 : c = 110
      · subst k1
        go_enter Try.func25, Try.ntmps25
        go_wp2_with fail
        go_ret2
        rw [unhide F]
        exact ⟨ret_byte_int rfl (by simp), rfl⟩
      by_cases k2 : c = 114
      · subst k2
        go_enter Try.func25, Try.ntmps25
        go_wp2_with fail
        go_ret2
        rw [unhide F]
        exact ⟨ret_byte_int rfl (by simp), rfl⟩
      by_cases k3 : c = 116
      · subst k3
        go_enter Try.func25, Try.ntmps25
        go_wp2_with fail
        go_ret2
        rw [unhide F]
        exact ⟨ret_byte_int rfl (by simp), rfl⟩
      by_cases k4 : c = 98
      · subst k4
        go_enter Try.func25, Try.ntmps25
        go_wp2_with fail
        go_ret2
        rw [unhide F]
        exact ⟨ret_byte_int rfl (by simp), rfl⟩
      by_cases k5 : c = 97
      · subst k5
        go_enter Try.func25, Try.ntmps25
        go_wp2_with fail
        go_ret2
        rw [unhide F]
        exact ⟨ret_byte_int rfl (by simp), rfl⟩
      have G : Hid (nameV c = c) := by simp [Hid, nameV, k1, k2, k3, k4, k5]
      have k1' : (c == 110) = false := by simp [k1]
      have k2' : (c == 114) = false := by simp [k2]
      have k3' : (c == 116) = false := by simp [k3]
      have k4' : (c == 98) = false := by simp [k4]
      have k5' : (c == 97) = false := by simp [k5]
      go_enter Try.func25, Try.ntmps25
      go_wp2_with fail
      go_ret2
      rw [unhide F]
      exact ⟨ret_byte_int (unhide G).symm (by simp), rfl⟩


/-- The names of control bytes, and the bytes that they name. -/
def nmD (k : Nat) : Int := if k = 0 then 110 else if k = 1 then 114 else if k = 2 then 116 else if k = 3 then 98 else 97
def byD (k : Nat) : Int := if k = 0 then 10 else if k = 1 then 13 else if k = 2 then 9 else if k = 3 then 8 else 7
theorem nm_fin : ∀ k : Fin 5, (((({ data := #[110, 114, 116, 98, 97] } : ByteArray)[k.1]'k.2).toNat : Int)) = nmD k.1 := by decide
theorem by_fin : ∀ k : Fin 5, (((({ data := #[10, 13, 9, 8, 7] } : ByteArray)[k.1]'k.2).toNat : Int)) = byD k.1 := by decide
theorem nm_at (k : Nat) (h : k < 5) : (((({ data := #[110, 114, 116, 98, 97] } : ByteArray)[k]'h).toNat : Int)) = nmD k := nm_fin ⟨k, h⟩
theorem by_at (k : Nat) (h : k < 5) : (((({ data := #[10, 13, 9, 8, 7] } : ByteArray)[k]'h).toNat : Int)) = byD k := by_fin ⟨k, h⟩
theorem name_hit (k : Nat) (c : Int) (h : k < 5) (e : nmD k = c) : nameV c = byD k := by
  unfold nmD at e; unfold nameV byD; omega
theorem name_none (c : Int) (h : ∀ j, j < 5 → nmD j ≠ c) : nameV c = c := by
  have h0 := h 0 (by omega); have h1 := h 1 (by omega); have h2 := h 2 (by omega); have h3 := h 3 (by omega); have h4 := h 4 (by omega)
  simp only [nmD] at h0 h1 h2 h3 h4
  unfold nameV; simp at h0 h1 h2 h3 h4; omega

set_option maxHeartbeats 1000000 in
theorem escModel_any (a : Option Addr) (n cap : Nat) (zs : List Int) (p : Nat) (q : Int) (w : World) (h : Row w a n zs) (hn : n ≤ 16777216) (hp : p < n) :
    Calls Try.prog 26 #[.slice a n cap, .int .i64 p, .int .u8 q] w fun e w' => e = .returned (.tuple #[.int .u8 (esc zs q p).1, .int .i64 (esc zs q p).2]) ∧ w = w' := by
  obtain ⟨b, off, rfl, hb, hc⟩ := h.cells (by omega)
  have hlen := h.len
  have b0 := h.byt p
  have b1 := h.byt (p + 1)
  have b2 := h.byt (p + 2)
  have c0 := hc p hp
  have c1 : p + 2 < n → w.cell? ⟨b, off + (p + 1), none⟩ = some (.int .u8 (zs.getD (p + 1) 0)) := fun _ => hc (p + 1) (by omega)
  have c2 : p + 2 < n → w.cell? ⟨b, off + (p + 2), none⟩ = some (.int .u8 (zs.getD (p + 2) 0)) := fun h => hc (p + 2) h
  unfold esc
  rw [hlen]
  clear hlen h hc
  generalize zs.getD p 0 = c at *
  generalize zs.getD (p + 1) 0 = x at *
  generalize zs.getD (p + 2) 0 = y at *
  by_cases q39 : q = 39
  · have q' : (q == 39) = true := by simp [q39]
    by_cases c39 : c = 39
    · have c' : (c == 39) = true := by simp [c39]
      have F : Hid (escF q c x y (decide (p + 2 < n)) p = (39, p + 1)) := by simp [Hid, escF, q39, c39]
      clear q39 c39 c1 c2 b0 b1 b2
      go_enter Try.func26, Try.ntmps26
      go_wp2
      go_ret2
      rw [unhide F]
      exact ⟨rfl, rfl⟩
    · have c' : (c == 39) = false := by simp [c39]
      have F : Hid (escF q c x y (decide (p + 2 < n)) p = (92, p)) := by simp [Hid, escF, q39, c39]
      clear q39 c39 c1 c2 b0 b1 b2
      go_enter Try.func26, Try.ntmps26
      go_wp2
      go_ret2
      rw [unhide F]
      exact ⟨rfl, rfl⟩
  · have q' : (q == 39) = false := by simp [q39]
    by_cases hex : c = 120 ∧ decide (p + 2 < n) = true ∧ hexOk x = true ∧ hexOk y = true
    · have F : Hid (escF q c x y (decide (p + 2 < n)) p = (hexV x * 16 + hexV y, p + 3)) := by
        unfold Hid escF
        rw [if_neg q39, if_pos hex]
      obtain ⟨rfl, hr, okx, oky⟩ := hex
      have hr := of_decide_eq_true hr
      have c1' := c1 hr
      have c2' := c2 hr
      have hx := hexV_bd x
      have hy := hexV_bd y
      have HX := hide okx
      have HY := hide oky
      clear q39 c1 c2 b0 okx oky
      go_enter Try.func26, Try.ntmps26
      go_wp2_with fail
      refine (hexDigitValue_any x _ b1.1 b1.2).mono ?_
      rintro e w' ⟨rfl, rfl⟩
      rw [unhide HX]
      go_wp2_with fail
      refine (hexDigitValue_any y _ b2.1 b2.2).mono ?_
      rintro e w' ⟨rfl, rfl⟩
      rw [unhide HY]
      go_wp2_with fail
      go_ret2
      rw [unhide F]
      exact ⟨ret_byte_int rfl (by simp), rfl⟩
    · have F : Hid (escF q c x y (decide (p + 2 < n)) p = (nameV c, p + 1)) := by
        unfold Hid escF
        rw [if_neg q39, if_neg hex]
      have ways : (c == 120) = false ∨ ((c == 120) = true ∧ ¬ p + 2 < n) ∨ ((c == 120) = true ∧ p + 2 < n ∧ Hid (hexOk x = false)) ∨ ((c == 120) = true ∧ p + 2 < n ∧ Hid (hexOk x = true ∧ hexOk y = false)) := by
        by_cases e : c = 120
        · have e' : (c == 120) = true := by simp [e]
          by_cases hr : p + 2 < n
          · cases h1 : hexOk x
            · exact .inr (.inr (.inl ⟨e', hr, rfl⟩))
            · cases h2 : hexOk y
              · exact .inr (.inr (.inr ⟨e', hr, rfl, rfl⟩))
              · exact absurd ⟨e, by simp [hr], h1, h2⟩ hex
          · exact .inr (.inl ⟨e', hr⟩)
        · exact .inl (by simp [e])
      have hx := hexV_bd x
      have hy := hexV_bd y
      clear hex q39
      generalize decide (p + 2 < n) = r at F ⊢
      rcases ways with e | ⟨e, hr⟩ | ⟨e, hr, ok⟩ | ⟨e, hr, ok⟩
      focus
        clear c1 c2
        go_enter Try.func26, Try.ntmps26
        go_wp2_with fail
      rotate_left
      focus
        clear c1 c2
        go_enter Try.func26, Try.ntmps26
        go_wp2_with fail
      rotate_left
      focus
        have c1' := c1 hr
        have c2' := c2 hr
        clear c1 c2
        go_enter Try.func26, Try.ntmps26
        go_wp2_with fail
        refine (hexDigitValue_any x _ b1.1 b1.2).mono ?_
        rintro e w' ⟨rfl, rfl⟩
        rw [ok.out]
        go_wp2_with fail
        refine (hexDigitValue_any y _ b2.1 b2.2).mono ?_
        rintro e w' ⟨rfl, rfl⟩
        go_wp2_with fail
      rotate_left
      focus
        have c1' := c1 hr
        have c2' := c2 hr
        clear c1 c2
        go_enter Try.func26, Try.ntmps26
        go_wp2_with fail
        refine (hexDigitValue_any x _ b1.1 b1.2).mono ?_
        rintro e w' ⟨rfl, rfl⟩
        rw [ok.out.1]
        go_wp2_with fail
        refine (hexDigitValue_any y _ b2.1 b2.2).mono ?_
        rintro e w' ⟨rfl, rfl⟩
        rw [ok.out.2]
        go_wp2_with fail
      all_goals
        go_loop [13] (fun i => ∃ k : Nat, k ≤ 5 ∧ i = .int .i64 k ∧ ∀ j, j < k → nmD j ≠ c) (fun i => 5 - (intOf i).toNat)
        case atStart => exact ⟨0, by omega, rfl, by omega⟩
        case round =>
          obtain ⟨k, hk, rfl, hr'⟩ := hrel
          have HR := hide hr'
          clear hr'
          by_cases hlt : k < 5
          · have hl := nm_at k hlt
            have hu := by_at k hlt
            by_cases a : nmD k = c
            · have A := hide a
              have a' : (nmD k == c) = true := by simp [a]
              clear a
              go_wp2
              go_ret2
              rw [unhide F]
              exact ⟨ret_byte_int (name_hit k c hlt (unhide A)).symm (by simp), rfl⟩
            · have a' : (nmD k == c) = false := by simp [a]
              go_wp2
              go_round
              case rel =>
                refine ⟨k + 1, by omega, by go_num, fun j hj => ?_⟩
                by_cases e : j = k
                · rw [e]; exact a
                · exact unhide HR j (by omega)
              case measure => simp [intOf]; omega
          · have : k = 5 := by omega
            subst this
            go_wp2
            go_ret2
            rw [unhide F]
            exact ⟨ret_byte_int (name_none c (unhide HR)).symm (by simp), rfl⟩

end Go.Proofs.Qxb6602361a
