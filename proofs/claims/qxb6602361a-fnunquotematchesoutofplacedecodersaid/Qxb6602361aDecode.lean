/-
  The walk of 'decodeQuotedB1'.
-/
import Derived.Test.Qxb6602361aRun
namespace Go.Proofs.Qxb6602361a
open Go.RowKit
set_option linter.unusedVariables false

theorem bv_snoc (xs : List Int) (z : Int) : bv (xs ++ [z]) = bv xs ++ [.int .u8 z] := by simp [bv]

theorem escModel_at (a : Option Addr) (n cap : Nat) (zs : List Int) (p : Nat) (x q : Int) (w : World) (hx : x = (p : Int)) (h : Row w a n zs) (hn : n ≤ 16777216) (hp : p < n) :
    Calls Try.prog 26 #[.slice a n cap, .int .i64 x, .int .u8 q] w fun e w' => e = .returned (.tuple #[.int .u8 (esc zs q p).1, .int .i64 (esc zs q p).2]) ∧ w = w' := by
  rw [hx]; exact escModel_any a n cap zs p q w h hn hp

set_option maxHeartbeats 1000000 in
theorem decode_any (a : Option Addr) (n cap : Nat) (zs : List Int) (p0 : Nat) (q : Int) (K : Nat) (w : World) (h : Row w a n zs) (hn : n ≤ 16777216) (hp : p0 ≤ n) (hK : RunTo zs q p0 K) :
    Calls Try.prog 17 #[.slice a n cap, .int .i64 p0, .int .u8 q] w fun e w' =>
      ∃ v, e = .returned (.tuple #[v, .int .i64 (endP zs q p0 K), .bool (decide (pos zs q p0 K < n))]) ∧ w'.ownsRow w.heap.size 5 1 v K (bv (wd zs q p0 K)) ∧ Below w.heap.size w w' := by
  obtain ⟨i0, hi, hz0, hz1, hz2⟩ := info_parts info5
  have HLen := hide h.len
  go_enter Try.func17, Try.ntmps17
  go_wp2
  go_loopw [1, 9] (fun p v wr => ∃ k : Nat, k ≤ K ∧ p = .int .i64 (pos zs q p0 k) ∧ wr.ownsRow w.heap.size 5 1 v k (bv (wd zs q p0 k)) ∧ Below w.heap.size w wr)
      (fun p _ _ => n - (intOf p).toNat)
  case atStart => exact ⟨0, Nat.zero_le _, rfl, World.ownsRow_nil _ _ _ _, Below.refl _ _⟩
  case round =>
    obtain ⟨k, hk, rfl, hown, hbel⟩ := hrel
    by_cases hlt : k < K
    · obtain ⟨hpn, hne⟩ := not_stop_lt (hK.go k hlt)
      have hposk : pos zs q p0 (k + 1) = (step zs q (pos zs q p0 k)).2 := rfl
      have hwdk : wd zs q p0 (k + 1) = wd zs q p0 k ++ [(step zs q (pos zs q p0 k)).1] := rfl
      have hgt := step_gt zs q (pos zs q p0 k)
      have hle := step_le zs q (pos zs q p0 k) hpn
      rw [h.len] at hpn hle
      obtain ⟨b, off, ea, hbB, hc⟩ := h.cells (by omega)
      have hkn : k ≤ n := by have := pos_ge zs q p0 k; omega
      have hrow := h.below hbel
      have hby := h.byt (pos zs q p0 k)
      have c1 := (hbel.cell (p := ⟨b, off + pos zs q p0 k, none⟩) hbB).trans (hc _ hpn)
      have hsz := hbel.size
      subst ea
      have HW := hide hwdk
      have HP := hide hposk
      have hne' : (zs.getD (pos zs q p0 k) 0 == q) = false := by simpa using hne
      have hdef : Hid (step zs q (pos zs q p0 k) = if zs.getD (pos zs q p0 k) 0 = 92 ∧ pos zs q p0 k + 1 < zs.length then esc zs q (pos zs q p0 k + 1) else (zs.getD (pos zs q p0 k) 0, pos zs q p0 k + 1)) := rfl
      clear hc hposk hwdk hne
      generalize hpp : pos zs q p0 k = P at *
      have HPP := hide hpp
      clear hpp
      generalize hcc : zs.getD P 0 = c at *
      have HCC := hide hcc
      clear hcc
      generalize hss : step zs q P = st at *
      clear hss
      obtain ⟨sv, sn⟩ := st
      simp only at hgt hle HW HP
      have hb2 : ∀ (v' : Value) (w1 : World), w1.ownsRow w.heap.size 5 1 v' (k + 1) (bv (wd zs q p0 k) ++ [.int .u8 sv]) → (wr.alloc (.cells #[.int .u8 sv] 5)).grownBy w1 u9.ownBlock →
          w1.ownsRow w.heap.size 5 1 v' (k + 1) (bv (wd zs q p0 (k + 1))) ∧ Below w.heap.size w w1 := fun v' w1 ho hg =>
        ⟨by rw [HW.out, bv_snoc]; exact ho, (hbel.alloc (by omega) _).grown hg (by simp; omega) (fun x hx => (hown.lt x hx).1)⟩
      by_cases hesc : c = 92 ∧ P + 1 < n
      · have hst : Hid ((sv, sn) = esc zs q (P + 1)) := by
          have := hdef.out
          rw [unhide HLen, if_pos hesc] at this
          exact this
        obtain ⟨rfl, hp1⟩ := hesc
        clear hdef
        have HB2 := hide hb2
        clear hb2
        go_wp2_with fail
        refine (escModel_at _ n cap zs (P + 1) _ q wr (by omega) hrow hn hp1).mono ?_
        rintro e w' ⟨rfl, rfl⟩
        rw [← hst.out]
        go_wp2_with (first
          | (at_builtin; refine wpList_append_own _ rfl _ _ 28 rfl w.heap.size 5 i0 (.int .u8 0) 1 1 Try.underlying28 hi hz0 hz1 hz2 rfl (by decide) _ _ _ rfl (hown.alloc _) ⟨wr.heap.size, 0, none⟩ 1 1 [.int .u8 sv] rfl rfl ?c1 ?c2 ?c3 ?c4 ?c5 ?_)
          | go_in)
        case c1 => exact cell_one_new _ _ _
        case c2 => exact ints_oneCell .u8 [sv]
        case c3 => unfold maxLen; omega
        case c4 => omega
        case c5 => simp; omega
        intro v' w1 hown' hgrow _
        have R := unhide HB2 v' w1 hown' hgrow
        clear hown' hgrow hown hbel c1
        go_wp2
        go_roundw
        case rel => exact ⟨k + 1, by omega, by rw [unhide HP], R.1, R.2⟩
        case measure => simp [intOf]; omega
      · have hst : Hid (sv = c ∧ sn = P + 1) := by
          have := hdef.out
          rw [unhide HLen, if_neg hesc] at this
          exact ⟨congrArg Prod.fst this, congrArg Prod.snd this⟩
        obtain ⟨rfl, rfl⟩ := hst.out
        have ways : (sv = 92 ∧ ((P : Int) + 1 == (n : Int)) = true) ∨ (sv == 92) = false := by
          by_cases e : sv = 92
          · by_cases e2 : P + 1 < n
            · exact absurd ⟨e, e2⟩ hesc
            · exact .inl ⟨e, by simp; omega⟩
          · exact .inr (by simp [e])
        clear hdef hesc hst
        have HB2 := hide hb2
        clear hb2
        rcases ways with ⟨rfl, epn⟩ | e92
        · skip
          go_wp2_with (first
            | (at_builtin; refine wpList_append_own _ rfl _ _ 28 rfl w.heap.size 5 i0 (.int .u8 0) 1 1 Try.underlying28 hi hz0 hz1 hz2 rfl (by decide) _ _ _ rfl (hown.alloc _) ⟨wr.heap.size, 0, none⟩ 1 1 [.int .u8 92] rfl rfl ?_ ?_ ?_ ?_ ?_ ?_)
            | go_in)
          · exact cell_one_new _ _ _
          · exact ints_oneCell .u8 [92]
          · unfold maxLen; omega
          · omega
          · simp; omega
          intro v' w1 hown' hgrow _
          have R := unhide HB2 v' w1 hown' hgrow
          clear hown' hgrow hown hbel c1
          go_wp2
          go_roundw
          case rel => exact ⟨k + 1, by omega, by rw [unhide HP]; go_num, R.1, R.2⟩
          case measure => simp [intOf]; omega
        · skip
          go_wp2_with (first
            | (at_builtin; refine wpList_append_own _ rfl _ _ 28 rfl w.heap.size 5 i0 (.int .u8 0) 1 1 Try.underlying28 hi hz0 hz1 hz2 rfl (by decide) _ _ _ rfl (hown.alloc _) ⟨wr.heap.size, 0, none⟩ 1 1 [.int .u8 sv] rfl rfl ?_ ?_ ?_ ?_ ?_ ?_)
            | go_in)
          · exact cell_one_new _ _ _
          · exact ints_oneCell .u8 [sv]
          · unfold maxLen; omega
          · omega
          · simp; omega
          intro v' w1 hown' hgrow _
          have R := unhide HB2 v' w1 hown' hgrow
          clear hown' hgrow hown hbel c1
          go_wp2
          go_roundw
          case rel => exact ⟨k + 1, by omega, by rw [unhide HP]; go_num, R.1, R.2⟩
          case measure => simp [intOf]; omega
    · have : k = K := by omega
      subst this
      have hstop := hK.stop
      have hE : endP zs q p0 k = if pos zs q p0 k < n then pos zs q p0 k + 1 else pos zs q p0 k := by unfold endP; rw [h.len]
      have hle : pos zs q p0 k ≤ n := by have := pos_le hK (by rw [h.len]; exact hp) k (Nat.le_refl _); rw [h.len] at this; exact this
      by_cases hpn : pos zs q p0 k < n
      · rw [if_pos hpn] at hE
        have hcq : (zs.getD (pos zs q p0 k) 0 == q) = true := by
          rcases hstop with e | e
          · rw [h.len] at e; omega
          · exact beq_iff_eq.2 e
        obtain ⟨b, off, rfl, hbB, hc⟩ := h.cells (by omega)
        have c1 := (hbel.cell (p := ⟨b, off + pos zs q p0 k, none⟩) hbB).trans (hc _ hpn)
        have hdec : decide (pos zs q p0 k < n) = true := by simp [hpn]
        have HE := hide hE
        have HD := hide hdec
        clear hc hE hdec hK hstop
        generalize zs.getD (pos zs q p0 k) 0 = c at *
        go_wp2
        go_ret3
        rw [HE.out, HD.out]
        exact ⟨_, rfl, hown, hbel⟩
      · rw [if_neg hpn] at hE
        have hdec : decide (pos zs q p0 k < n) = false := by simp [hpn]
        have HE := hide hE
        have HD := hide hdec
        clear hE hdec hK hstop
        go_wp2
        go_ret3
        rw [HE.out, HD.out]
        exact ⟨_, rfl, hown, hbel⟩
end Go.Proofs.Qxb6602361a
