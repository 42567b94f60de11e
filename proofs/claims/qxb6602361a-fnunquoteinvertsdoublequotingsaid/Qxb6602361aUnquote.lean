/-
  The walks of 'unquote' and 'ZZunquote': the line is the call's own.
-/
import Derived.Test.Qxb6602361aRun
namespace Go.Proofs.Qxb6602361a
open Go.RowKit
set_option linter.unusedVariables false

theorem grown_trans {w w1 w2 : World} {row : Option Nat} (h : w.grownBy w1 row) (k : w1.grownBy w2 row) : w.grownBy w2 row :=
  ⟨k.os.trans h.os, k.tape.trans h.tape, k.output.trans h.output, Nat.le_trans h.size k.size, fun i hi hr => (k.block i (Nat.lt_of_lt_of_le hi h.size) hr).trans (h.block i hi hr)⟩

/-- The line behind k turns: the word so far lies from o0 on; all else is as it was. -/
def Laid (zs L wdk : List Int) (o0 k : Nat) : Prop := L.length = zs.length ∧ ∀ i, L.getD i 0 = if o0 ≤ i ∧ i < o0 + k then wdk.getD (i - o0) 0 else zs.getD i 0

theorem Laid.start (zs : List Int) (o0 : Nat) : Laid zs zs [] o0 0 := ⟨rfl, fun i => by rw [if_neg (by omega)]⟩

theorem Laid.step {zs L wdk : List Int} {o0 k : Nat} {c : Int} (h : Laid zs L wdk o0 k) (hw : wdk.length = k) (hb : o0 + k < zs.length) : Laid zs (L.set (o0 + k) c) (wdk ++ [c]) o0 (k + 1) := by
  refine ⟨by rw [List.length_set]; exact h.1, fun i => ?_⟩
  rw [getD_set, h.2 i]
  have hl := h.1
  by_cases e : i = o0 + k
  · rw [if_pos ⟨e, by omega⟩, if_pos (by omega)]
    subst e
    simp [List.getD_eq_getElem?_getD, hw]
  · rw [if_neg (fun hh => e hh.1)]
    by_cases e2 : o0 ≤ i ∧ i < o0 + k
    · rw [if_pos e2, if_pos (by omega)]
      simp only [List.getD_eq_getElem?_getD, List.getElem?_append]
      rw [if_pos (by omega)]
    · rw [if_neg e2, if_neg (by omega)]

theorem Laid.past {zs L wdk : List Int} {o0 k p : Nat} (h : Laid zs L wdk o0 k) (hp : o0 + k ≤ p) : ∀ i, p ≤ i → L.getD i 0 = zs.getD i 0 := fun i hi => by
  rw [h.2 i, if_neg (by omega)]

theorem Laid.byt {zs L wdk : List Int} {o0 k : Nat} (h : Laid zs L wdk o0 k) (h1 : Byt zs) (h2 : Byt wdk) : Byt L := fun i => by
  rw [h.2 i]; split
  · exact h2 _
  · exact h1 _

theorem unescape_at (a : Option Addr) (n cap : Nat) (zs : List Int) (p : Nat) (x q : Int) (w : World) (hx : x = (p : Int)) (h : Row w a n zs) (hn : n ≤ 16777216) (hp : p < n) :
    Calls Try.prog 25 #[.slice a n cap, .int .i64 x, .int .u8 q] w fun e w' => e = .returned (.tuple #[.int .u8 (esc zs q p).1, .int .i64 (esc zs q p).2]) ∧ w = w' := by
  rw [hx]; exact unescape_any a n cap zs p q w h hn hp

set_option maxHeartbeats 1000000 in
theorem unquote_any (base : Nat) (a : Option Addr) (n cap : Nat) (zs : List Int) (p0 o0 : Nat) (q : Int) (K : Nat) (w : World) (hz : Byt zs) (hown0 : w.ownsRow base 5 1 (.slice a n cap) n (bv zs)) (hn : n ≤ 16777216)
    (hp : p0 ≤ n) (ho : o0 ≤ p0) (hK : RunTo zs q p0 K) :
    Calls Try.prog 27 #[.slice a n cap, .int .i64 p0, .int .i64 o0, .int .u8 q] w fun e w' =>
      e = .returned (.tuple #[.int .i64 (endP zs q p0 K), .int .i64 (o0 + K : Nat), .bool (decide (pos zs q p0 K < n))]) ∧
      (∃ L, Laid zs L (wd zs q p0 K) o0 K ∧ w'.ownsRow base 5 1 (.slice a n cap) n (bv L)) ∧ w.grownBy w' (Value.slice a n cap).ownBlock := by
  have hlen : zs.length = n := by have := hown0.1; rw [bv_length] at this; omega
  have HLen := hide hlen
  go_enter Try.func27, Try.ntmps27
  go_wp2
  go_loopw [1, 2] (fun p o wr => ∃ (k : Nat) (L : List Int), k ≤ K ∧ p = .int .i64 (pos zs q p0 k) ∧ o = .int .i64 (o0 + k : Nat) ∧ Laid zs L (wd zs q p0 k) o0 k ∧ wr.ownsRow base 5 1 (.slice a n cap) n (bv L) ∧ w.grownBy wr (Value.slice a n cap).ownBlock)
      (fun p _ _ => n - (intOf p).toNat)
  case atStart => exact ⟨0, zs, Nat.zero_le _, rfl, rfl, Laid.start _ _, hown0, World.grownBy.refl _ _⟩
  case round =>
    obtain ⟨k, L, hk, rfl, rfl, hlaid, hown, hgr⟩ := hrel
    by_cases hlt : k < K
    · obtain ⟨hpn, hne⟩ := not_stop_lt (hK.go k hlt)
      have hposk : pos zs q p0 (k + 1) = (step zs q (pos zs q p0 k)).2 := rfl
      have hwdk : wd zs q p0 (k + 1) = wd zs q p0 k ++ [(step zs q (pos zs q p0 k)).1] := rfl
      have hgt := step_gt zs q (pos zs q p0 k)
      have hle := step_le zs q (pos zs q p0 k) hpn
      have hpg := pos_ge zs q p0 k
      rw [hlen] at hpn hle
      have hrow : Row wr a n L := Row.of_owns (hlaid.byt hz (wd_byt _ _ _ _ hz)) hown
      have hpast := hlaid.past (p := pos zs q p0 k) (by omega)
      rcases hown.2 with ⟨e1, e2⟩ | ⟨g, cap', cur, e1, hbg, -⟩
      · omega
      simp only [Value.slice.injEq, true_and] at e1
      obtain ⟨rfl, rfl⟩ := e1
      have hcL : ∀ j, j < n → wr.cell? ⟨g, j, none⟩ = some (.int .u8 (L.getD j 0)) := fun j hj => by
        rw [hown.cellAt j (by omega), bv_at L j (by rw [hlaid.1]; omega)]
      have c1 : wr.cell? ⟨g, pos zs q p0 k, none⟩ = some (.int .u8 (zs.getD (pos zs q p0 k) 0)) := by rw [hcL _ hpn, hpast _ (Nat.le_refl _)]
      obtain ⟨y, c2⟩ : ∃ y, wr.cell? ⟨g, o0 + k, none⟩ = some (.int .u8 y) := ⟨_, hcL (o0 + k) (by omega)⟩
      have c3 := hown.frozenAt (o0 + k)
      have hne' : (zs.getD (pos zs q p0 k) 0 == q) = false := by simpa using hne
      have hdef : Hid (step zs q (pos zs q p0 k) = if zs.getD (pos zs q p0 k) 0 = 92 ∧ pos zs q p0 k + 1 < zs.length then esc zs q (pos zs q p0 k + 1) else (zs.getD (pos zs q p0 k) 0, pos zs q p0 k + 1)) := rfl
      have hescL : Hid (esc L q (pos zs q p0 k + 1) = esc zs q (pos zs q p0 k + 1)) := esc_congr q _ hlaid.1 (fun i hi => hpast i (by omega))
      have hstore : Hid (∀ z, Laid zs (L.set (o0 + k) z) (wd zs q p0 k ++ [z]) o0 (k + 1) ∧ (wr.setCell ⟨g, o0 + k, none⟩ (.int .u8 z)).ownsRow base 5 1 (.slice (some ⟨g, 0, none⟩) n cap) n (bv (L.set (o0 + k) z)) ∧
          w.grownBy (wr.setCell ⟨g, o0 + k, none⟩ (.int .u8 z)) (Value.slice (some ⟨g, 0, none⟩) n cap).ownBlock) := fun z => by
        have hs := hown.stored (o0 + k) (.int .u8 z)
        rw [bv_set] at hs
        exact ⟨hlaid.step (wd_length _ _ _ _) (by omega), hs.1, grown_trans hgr hs.2⟩
      have HW := hide hwdk
      have HP := hide hposk
      clear hcL hposk hwdk hne hpast hlaid hown hgr hown0 hlen
      generalize hpp : pos zs q p0 k = P at *
      have HPP := hide hpp
      clear hpp
      generalize hcc : zs.getD P 0 = c at *
      have HCC := hide hcc
      clear hcc
      generalize hss : Go.Proofs.Qxb6602361a.step zs q P = st at *
      clear hss
      obtain ⟨sv, sn⟩ := st
      simp only at hgt hle HW HP
      by_cases hesc : c = 92 ∧ P + 1 < n
      · have hst : Hid ((sv, sn) = esc zs q (P + 1)) := by
          have := hdef.out
          rw [unhide HLen, if_pos hesc] at this
          exact this
        obtain ⟨rfl, hp1⟩ := hesc
        clear hdef
        go_wp2_with fail
        refine (unescape_at _ n cap L (P + 1) _ q wr (by omega) hrow hn hp1).mono ?_
        rintro e w' ⟨rfl, rfl⟩
        rw [hescL.out, ← hst.out]
        go_wp2
        go_roundw
        case rel => exact ⟨k + 1, _, by omega, by rw [unhide HP], by go_num, by rw [unhide HW]; exact (hstore.out sv).1, (hstore.out sv).2.1, (hstore.out sv).2.2⟩
        case measure => simp [intOf]; omega
      · have hst : sv = c ∧ sn = P + 1 := by
          have := hdef.out
          rw [unhide HLen, if_neg hesc] at this
          exact ⟨congrArg Prod.fst this, congrArg Prod.snd this⟩
        obtain ⟨rfl, rfl⟩ := hst
        have ways : (sv = 92 ∧ ¬ P + 1 < n) ∨ (sv == 92) = false := by
          by_cases e : sv = 92
          · by_cases e2 : P + 1 < n
            · exact absurd ⟨e, e2⟩ hesc
            · exact .inl ⟨e, e2⟩
          · exact .inr (by simp [e])
        clear hdef hesc
        rcases ways with ⟨rfl, epn⟩ | e92
        all_goals
          go_wp2
          go_roundw
          case rel => exact ⟨k + 1, _, by omega, by rw [unhide HP]; go_num, by go_num, by rw [unhide HW]; exact (hstore.out _).1, (hstore.out _).2.1, (hstore.out _).2.2⟩
          case measure => simp [intOf]; omega
    · have : k = K := by omega
      subst this
      have hstop := hK.stop
      have hE : endP zs q p0 k = if pos zs q p0 k < n then pos zs q p0 k + 1 else pos zs q p0 k := by unfold endP; rw [hlen]
      have hle : pos zs q p0 k ≤ n := by have := pos_le hK (by rw [hlen]; exact hp) k (Nat.le_refl _); rw [hlen] at this; exact this
      have hpg := pos_ge zs q p0 k
      by_cases hpn : pos zs q p0 k < n
      · rw [if_pos hpn] at hE
        have hcq : (zs.getD (pos zs q p0 k) 0 == q) = true := by
          rcases hstop with e | e
          · rw [hlen] at e; omega
          · exact beq_iff_eq.2 e
        rcases hown.2 with ⟨e1, e2⟩ | ⟨g, cap', cur, e1, hbg, -⟩
        · omega
        simp only [Value.slice.injEq, true_and] at e1
        obtain ⟨rfl, rfl⟩ := e1
        have c1 : wr.cell? ⟨g, pos zs q p0 k, none⟩ = some (.int .u8 (zs.getD (pos zs q p0 k) 0)) := by
          rw [hown.cellAt _ (by omega), bv_at L _ (by rw [hlaid.1]; omega), hlaid.past (p := pos zs q p0 k) (by omega) _ (Nat.le_refl _)]
        have hdec : decide (pos zs q p0 k < n) = true := by simp [hpn]
        have HE := hide hE
        have HD := hide hdec
        clear hE hdec hK hstop hlen hown0
        generalize zs.getD (pos zs q p0 k) 0 = c at *
        go_wp2
        go_ret3
        rw [HE.out, HD.out]
        exact ⟨by simp, ⟨L, hlaid, hown⟩, hgr⟩
      · rw [if_neg hpn] at hE
        have hdec : decide (pos zs q p0 k < n) = false := by simp [hpn]
        have HE := hide hE
        have HD := hide hdec
        clear hE hdec hK hstop hlen hown0
        go_wp2
        go_ret3
        rw [HE.out, HD.out]
        exact ⟨by simp, ⟨L, hlaid, hown⟩, hgr⟩

set_option maxHeartbeats 400000 in
theorem zzunquote_any (base : Nat) (a : Option Addr) (n cap : Nat) (zs : List Int) (p0 o0 : Nat) (x y : Int) (q : Int) (K : Nat) (w : World) (hx : x = (p0 : Int)) (hy : y = (o0 : Int)) (hz : Byt zs) (hown0 : w.ownsRow base 5 1 (.slice a n cap) n (bv zs)) (hn : n ≤ 16777216)
    (hp : p0 ≤ n) (ho : o0 ≤ p0) (hK : RunTo zs q p0 K) :
    Calls Try.prog 18 #[.slice a n cap, .int .i64 x, .int .i64 y, .int .u8 q] w fun e w' =>
      e = .returned (.tuple #[.int .i64 (endP zs q p0 K), .int .i64 (o0 + K : Nat), .bool (decide (pos zs q p0 K < n))]) ∧
      (∃ L, Laid zs L (wd zs q p0 K) o0 K ∧ w'.ownsRow base 5 1 (.slice a n cap) n (bv L)) ∧ w.grownBy w' (Value.slice a n cap).ownBlock := by
  subst hx hy
  have H := hide (unquote_any base a n cap zs p0 o0 q K w hz hown0 hn hp ho hK)
  clear hown0 hK hz
  go_enter Try.func18, Try.ntmps18
  go_wp2_with fail
  refine (unhide H).mono ?_
  rintro e w' ⟨rfl, h2, h3⟩
  go_wp2
  go_ret3
  exact ⟨rfl, h2, h3⟩

end Go.Proofs.Qxb6602361a
