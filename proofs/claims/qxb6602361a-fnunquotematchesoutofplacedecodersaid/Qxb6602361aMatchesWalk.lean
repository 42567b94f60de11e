/-
  The walk of 'FnUnquoteMatchesOutOfPlaceDecoder'.
-/
import Derived.Test.Qxb6602361aOwn
import Derived.Test.Qxb6602361aDecode
import Derived.Test.Qxb6602361aUnquote
namespace Go.Proofs.Qxb6602361a
open Go.RowKit
set_option linter.unusedVariables false

set_option maxHeartbeats 400000 in
theorem zz16_yes (a : Option Addr) (n cap : Nat) (x y : Int) (q : Int) (w : World) (hn : n ≤ 1048576) :
    Calls Try.prog 16 #[.slice a n cap, .int .i64 x, .int .i64 y, .int .u8 q] w fun e w' => e = .returned (.bool true) ∧ w = w' := by
  go_enter Try.func16, Try.ntmps16
  go_wp2
  go_ret
  exact ⟨rfl, rfl⟩

set_option maxHeartbeats 400000 in
theorem zz16_no (a : Option Addr) (n cap : Nat) (x y : Int) (q : Int) (w : World) (hm : n ≤ maxLen) (hn : 1048576 < n) :
    Calls Try.prog 16 #[.slice a n cap, .int .i64 x, .int .i64 y, .int .u8 q] w fun e w' => e = .returned (.bool false) ∧ w = w' := by
  go_enter Try.func16, Try.ntmps16
  go_wp2
  go_ret
  exact ⟨rfl, rfl⟩

set_option maxHeartbeats 1000000 in
theorem matches_walk (a : Option Addr) (n cap : Nat) (zs : List Int) (x y q : Int) (w : World) (h : Row w a n zs) (hnil : a = none → n = 0 ∧ cap = 0) (hm : n ≤ maxLen) :
    Calls Try.prog 6 #[.slice a n cap, .int .i64 x, .int .i64 y, .int .u8 q] w fun e w' => e = .returned (.bool true) ∧ Below w.heap.size w w' := by
  by_cases big : 1048576 < n
  · go_enter Try.func6, Try.ntmps6
    go_wp2_with fail
    refine (zz16_no _ _ _ _ _ _ _ hm big).mono ?_
    rintro e w' ⟨rfl, rfl⟩
    go_wp2
    go_ret
    exact ⟨rfl, Below.refl _ _⟩
  have hn : n ≤ 1048576 := by omega
  clear big
  have ways : x < 0 ∨ (0 ≤ x ∧ (n : Int) < x) ∨ (0 ≤ x ∧ x ≤ n ∧ y < 0) ∨ (0 ≤ x ∧ x ≤ n ∧ 0 ≤ y ∧ x < y) ∨ (0 ≤ x ∧ x ≤ n ∧ 0 ≤ y ∧ y ≤ x) := by omega
  rcases ways with h1 | ⟨h1, h2⟩ | ⟨h1, h2, h3⟩ | ⟨h1, h2, h3, h4⟩ | ⟨h1, h2, h3, h4⟩
  · go_enter Try.func6, Try.ntmps6
    go_wp2_with fail
    refine (zz16_yes _ _ _ _ _ _ _ hn).mono ?_
    rintro e w' ⟨rfl, rfl⟩
    go_wp2
    go_ret
    exact ⟨rfl, Below.refl _ _⟩
  · go_enter Try.func6, Try.ntmps6
    go_wp2_with fail
    refine (zz16_yes _ _ _ _ _ _ _ hn).mono ?_
    rintro e w' ⟨rfl, rfl⟩
    go_wp2
    go_ret
    exact ⟨rfl, Below.refl _ _⟩
  · go_enter Try.func6, Try.ntmps6
    go_wp2_with fail
    refine (zz16_yes _ _ _ _ _ _ _ hn).mono ?_
    rintro e w' ⟨rfl, rfl⟩
    go_wp2
    go_ret
    exact ⟨rfl, Below.refl _ _⟩
  · go_enter Try.func6, Try.ntmps6
    go_wp2_with fail
    refine (zz16_yes _ _ _ _ _ _ _ hn).mono ?_
    rintro e w' ⟨rfl, rfl⟩
    go_wp2
    go_ret
    exact ⟨rfl, Below.refl _ _⟩
  · obtain ⟨p0, rfl⟩ := Int.eq_ofNat_of_zero_le h1
    obtain ⟨o0, rfl⟩ := Int.eq_ofNat_of_zero_le h3
    obtain ⟨K, hK⟩ := runTo_exists zs q p0
    have hp : p0 ≤ n := by omega
    have ho : o0 ≤ p0 := by omega
    have HR := hide h
    have HN := hide hnil
    have HK := hide hK
    clear h hnil hK hm
    have t1 : decide ((1048576 : Int) < (n : Int)) = false := by simp; omega
    have t2 : decide ((p0 : Int) < 0) = false := by simp
    have t3 : decide ((o0 : Int) < 0) = false := by simp
    have t4 : decide ((n : Int) < (p0 : Int)) = false := by simp; omega
    have t5 : decide ((p0 : Int) < (o0 : Int)) = false := by simp; omega
    clear h1 h2 h3 h4
    go_enter Try.func6, Try.ntmps6
    go_wp2_with fail
    refine (zz16_yes _ _ _ _ _ _ _ hn).mono ?_
    rintro e w' ⟨rfl, rfl⟩
    go_wp2_with fail
    refine (clone_any a n cap zs w (unhide HR) hn (unhide HN)).mono ?_
    rintro e w1 ⟨a1, rfl, own1, bel1⟩
    have HB1 := hide bel1
    clear bel1
    go_wp2_with fail
    refine (clone_any a1 n n zs w1 (Row.of_owns (unhide HR).byt own1) hn (fun e => by obtain ⟨_, _, e', he⟩ := owns_shape own1; cases e'; exact he e)).mono ?_
    rintro e w2 ⟨a2, rfl, own2, bel2⟩
    have HB2 := hide bel2
    have own1' := owns_below own1 bel2
    clear bel2
    go_wp2_with fail
    refine (decode_any a2 n n zs p0 q K w2 (Row.of_owns (unhide HR).byt own2) (by omega) hp (unhide HK)).mono ?_
    rintro e w3 ⟨v, rfl, own3, bel3⟩
    have own1'' := owns_below own1' bel3
    have own2' := owns_below own2 bel3
    have HB3 := hide bel3
    obtain ⟨a3, cap3, rfl, -⟩ := owns_shape own3
    clear bel3
    go_wp2_with fail
    refine (zzunquote_any w.heap.size a1 n n zs p0 o0 _ _ q K w3 (by omega) (by omega) (unhide HR).byt own1'' (by omega) hp ho (unhide HK)).mono ?_
    rintro e w4 ⟨rfl, ⟨L, laid, own4⟩, hgr⟩
    have hoK : o0 + K ≤ n := by
      have g1 := pos_ge zs q p0 K
      have g2 := pos_le (unhide HK) (by rw [(unhide HR).len]; exact hp) K (Nat.le_refl _)
      rw [(unhide HR).len] at g2
      omega
    have hz := (unhide HR).byt
    have hs1 := (unhide HB2).size
    have hA : ∀ k, (Value.slice a1 n n).ownBlock = some k → k < w1.heap.size := fun k e => (own1.lt k e).2
    have hB4 : Below w.heap.size w w4 := by
      have b3 := ((unhide HB1).trans ((unhide HB2).mono (unhide HB1).size)).trans ((unhide HB3).mono (Nat.le_trans (unhide HB1).size hs1))
      exact b3.grown hgr (by have := b3.size; omega) (fun k e => (own1.lt k e).1)
    have R1 := hide (Row.of_owns (laid.byt hz (wd_byt _ _ _ _ hz)) own4)
    have R2 := hide (Row.of_owns hz (own2'.kept hgr (owns_apart (n' := n) (base' := 0) (xs' := []) own2' hA)))
    have R3 := hide (Row.of_owns (wd_byt zs q p0 K hz) (own3.kept hgr (owns_apart (n' := n) (base' := 0) (xs' := []) own3 (fun k e => Nat.lt_of_lt_of_le (hA k e) hs1))))
    have HLaid := hide laid
    have HB4 := hide hB4
    clear laid hgr own1 own1' own1'' own2 own2' own3 own4 hA hB4 HB1 HB2 HB3 HN HK hz hs1
    generalize hcl : decide (pos zs q p0 K < n) = cl
    clear hcl
    generalize hE : endP zs q p0 K = E
    clear hE
    go_wp2_with fail
    go_loop [16] (fun i => ∃ k : Nat, k ≤ n ∧ i = .int .i64 k) (fun i => n - (intOf i).toNat)
    case atStart => exact ⟨0, Nat.zero_le _, rfl⟩
    case round =>
      obtain ⟨k, hk, rfl⟩ := hrel
      by_cases hlt : k < n
      · obtain ⟨b1, f1, rfl, -, c1⟩ := (unhide R1).cells (by omega)
        obtain ⟨b2, f2, rfl, -, c2⟩ := (unhide R2).cells (by omega)
        have d1 := c1 k hlt
        have d2 := c2 k hlt
        have hL := (unhide HLaid).2 k
        clear c1 c2
        by_cases hin : o0 ≤ k ∧ k < o0 + K
        · obtain ⟨b3, f3, rfl, -, c3⟩ := (unhide R3).cells (by omega)
          have d3 := c3 (k - o0) (by omega)
          rw [if_pos hin] at hL
          rw [hL] at d1
          generalize (wd zs q p0 K).getD (k - o0) 0 = z at *
          generalize zs.getD k 0 = z2 at *
          obtain ⟨hin1, hin2⟩ := hin
          clear hL c3
          go_wp2
          go_round
          case rel => exact ⟨k + 1, by omega, by go_num⟩
          case measure => simp [intOf]; omega
        · rw [if_neg hin] at hL
          rw [hL] at d1
          generalize zs.getD k 0 = z at *
          clear hL
          have ways : k < o0 ∨ (o0 ≤ k ∧ ¬ (k : Int) - o0 < K) := by omega
          clear hin
          rcases ways with hin | ⟨hin1, hin2⟩
          all_goals
            go_wp2
            go_round
            case rel => exact ⟨k + 1, by omega, by go_num⟩
            case measure => simp [intOf]; omega
      · go_wp2
        go_ret
        exact ⟨rfl, unhide HB4⟩

end Go.Proofs.Qxb6602361a
