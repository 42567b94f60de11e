/-
  The walk of 'FnUnquoteInvertsDoubleQuoting'.
-/
import Derived.Test.Qxb6602361aInverts
import Derived.Test.Qxb6602361aUnquote
namespace Go.Proofs.Qxb6602361a
open Go.RowKit
set_option linter.unusedVariables false

set_option maxHeartbeats 400000 in
theorem zz19_yes (a0 a1 a2 : Option Addr) (n0 c0 n1 c1 n2 c2 : Nat) (x y z : Bool) (w : World) (h0 : n0 ≤ 262144) (h1 : n1 ≤ 65536) (h2 : n2 ≤ 262144) :
    Calls Try.prog 19 #[.slice a0 n0 c0, .slice a1 n1 c1, .slice a2 n2 c2, .bool x, .bool y, .bool z] w fun e w' => e = .returned (.bool true) ∧ w = w' := by
  go_enter Try.func19, Try.ntmps19
  go_wp2
  go_ret
  exact ⟨rfl, rfl⟩

set_option maxHeartbeats 400000 in
theorem zz19_any (a0 a1 a2 : Option Addr) (n0 c0 n1 c1 n2 c2 : Nat) (x y z : Bool) (w : World) (h0 : n0 ≤ maxLen) (h1 : n1 ≤ maxLen) (h2 : n2 ≤ maxLen) :
    Calls Try.prog 19 #[.slice a0 n0 c0, .slice a1 n1 c1, .slice a2 n2 c2, .bool x, .bool y, .bool z] w fun e w' => ∃ r, e = .returned (.bool r) ∧ w = w' := by
  unfold maxLen at h0 h1 h2
  go_enter Try.func19, Try.ntmps19
  go_wp2
  all_goals
    go_ret
    exact ⟨_, rfl, rfl⟩

theorem owns_lt {w : World} {base n cap : Nat} {a : Option Addr} {xs : List Value} (h : w.ownsRow base 5 1 (.slice a n cap) n xs) : ∀ b off, a = some ⟨b, off, none⟩ → b < w.heap.size :=
  fun b off e => (h.lt b (by rw [e]; rfl)).2

set_option maxHeartbeats 1000000 in
theorem inverts_big (a0 a1 a2 : Option Addr) (n0 c0 n1 c1 n2 c2 : Nat) (h u l : Bool) (w : World) (h0 : n0 ≤ maxLen) (h1 : n1 ≤ maxLen) (h2 : n2 ≤ maxLen) (big : ¬ (n0 ≤ 262144 ∧ n1 ≤ 65536 ∧ n2 ≤ 262144)) :
    Calls Try.prog 7 #[.slice a0 n0 c0, .slice a1 n1 c1, .slice a2 n2 c2, .bool h, .bool u, .bool l] w fun e w' => e = .returned (.bool true) ∧ Below w.heap.size w w' := by
  have ways : 262144 < n0 ∨ (n0 ≤ 262144 ∧ 65536 < n1) ∨ (n0 ≤ 262144 ∧ n1 ≤ 65536 ∧ 262144 < n2) := by omega
  have H := hide (zz19_any a0 a1 a2 n0 c0 n1 c1 n2 c2 h u l w h0 h1 h2)
  unfold maxLen at h0 h1 h2
  clear big
  rcases ways with hb | ⟨hb1, hb2⟩ | ⟨hb1, hb2, hb3⟩
  all_goals
    go_enter Try.func7, Try.ntmps7
    go_wp2_with fail
    refine (unhide H).mono ?_
    rintro e w' ⟨r, rfl, rfl⟩
    cases r
    all_goals
      go_wp2_with fail
      go_ret
      exact ⟨rfl, Below.refl _ _⟩

/-- A part of an owned row can be read. -/
theorem sub_row {w : World} {base g N c : Nat} {L zs : List Int} (s n : Nat) (h : w.ownsRow base 5 1 (.slice (some ⟨g, 0, none⟩) N c) N (bv L)) (hl : L.length = N) (hs : s + n ≤ N) (hz : zs.length = n) (hb : Byt zs)
    (he : ∀ i, i < n → L.getD (s + i) 0 = zs.getD i 0) : Row w (some ⟨g, s, none⟩) n zs := by
  refine ⟨hz, hb, fun hn => ⟨g, s, rfl, (h.lt g rfl).2, fun k hk => ?_⟩⟩
  rw [h.cellAt (s + k) (by omega), bv_at L (s + k) (by omega), he k hk]

set_option maxHeartbeats 1000000 in
theorem inverts_walk (a0 a1 a2 : Option Addr) (n0 c0 n1 c1 n2 c2 : Nat) (pre ws post : List Int) (h u l : Bool) (w : World) (r0 : Row w a0 n0 pre) (r1 : Row w a1 n1 ws) (r2 : Row w a2 n2 post)
    (m0 : a0 = none → n0 = 0 ∧ c0 = 0) (m1 : a1 = none → n1 = 0 ∧ c1 = 0) (m2 : a2 = none → n2 = 0 ∧ c2 = 0) (h0 : n0 ≤ 262144) (h1 : n1 ≤ 65536) (h2 : n2 ≤ 262144) :
    Calls Try.prog 7 #[.slice a0 n0 c0, .slice a1 n1 c1, .slice a2 n2 c2, .bool h, .bool u, .bool l] w fun e w' => e = .returned (.bool true) ∧ Below w.heap.size w w' := by
  obtain ⟨i0, hi, hz0, hz1, hz2⟩ := info_parts info5
  have R0 := hide r0
  have R1 := hide r1
  have R2 := hide r2
  have M0 := hide m0
  have M1 := hide m1
  have M2 := hide m2
  clear r0 r1 r2 m0 m1 m2
  go_enter Try.func7, Try.ntmps7
  go_wp2_with fail
  refine (zz19_yes _ _ _ _ _ _ _ _ _ _ _ _ _ h0 h1 h2).mono ?_
  rintro e w' ⟨rfl, rfl⟩
  go_wp2_with fail
  refine (clone_any a0 n0 c0 pre w (unhide R0) (by omega) (unhide M0)).mono ?_
  rintro e w1 ⟨b0, rfl, own1, bel1⟩
  have B1 := hide bel1
  have O1 := hide own1
  clear bel1 own1
  go_wp2_with fail
  refine (clone_any a1 n1 c1 ws w1 ((unhide R1).below (unhide B1)) (by omega) (unhide M1)).mono ?_
  rintro e w2 ⟨b1, rfl, own2, bel2⟩
  have B2 := hide ((unhide B1).trans (bel2.mono (unhide B1).size))
  have O1 := hide (owns_below (unhide O1) bel2)
  have O2 := hide own2
  clear bel2 own2
  go_wp2_with fail
  refine (clone_any a2 n2 c2 post w2 ((unhide R2).below (unhide B2)) (by omega) (unhide M2)).mono ?_
  rintro e w3 ⟨b2, rfl, own3, bel3⟩
  have B3 := hide ((unhide B2).trans (bel3.mono (unhide B2).size))
  have O1 := hide (owns_below (unhide O1) bel3)
  have O2 := hide (owns_below (unhide O2) bel3)
  have O3 := hide own3
  clear bel3 own3
  go_wp2_with fail
  refine (encode_any b1 n1 n1 ws h u l w3 (Row.of_owns (unhide R1).byt (unhide O2)) (by omega)).mono ?_
  rintro e w4 ⟨v4, rfl, own4, bel4⟩
  have B4 := hide ((unhide B3).trans (bel4.mono (unhide B3).size))
  have O1 := hide (owns_below (unhide O1) bel4)
  have O2 := hide (owns_below (unhide O2) bel4)
  have O3 := hide (owns_below (unhide O3) bel4)
  obtain ⟨b4, c4, rfl, -⟩ := owns_shape own4
  have O4 := hide own4
  have hm : (enc h u l ws).length ≤ 262144 := by have := enc_len h u l ws; rw [(unhide R1).len] at this; omega
  clear bel4 own4
  generalize hmm : (enc h u l ws).length = m at *
  have HM := hide hmm
  clear hmm
  go_wp2_with fail
  refine (appendBytes_any w4.heap.size (.slice none 0 0) 0 [] b0 n0 n0 pre w4 (World.ownsRow_nil _ _ _ _) (Nat.le_refl _) (Row.of_owns (unhide R0).byt (unhide O1)) (owns_lt (unhide O1)) (by omega)).mono ?_
  rintro e w5 ⟨v5, rfl, own5, bel5⟩
  rw [Nat.zero_add, List.nil_append] at own5
  have hs5 := bel5.size
  have B5 := hide bel5
  clear bel5
  go_wp2_with (first
    | (at_builtin; refine wpList_append_own _ rfl _ _ 28 rfl w4.heap.size 5 i0 (.int .u8 0) 1 1 Try.underlying28 hi hz0 hz1 hz2 rfl (by decide) _ _ _ rfl (own5.alloc _) ⟨w5.heap.size, 0, none⟩ 1 1 [.int .u8 34] rfl rfl ?_ ?_ ?_ ?_ ?_ ?_)
    | fail)
  · exact cell_one_new _ _ _
  · exact ints_oneCell .u8 [34]
  · unfold maxLen; omega
  · omega
  · simp; omega
  intro v6 w6 own6 hgr6 _
  have own6 : w6.ownsRow w4.heap.size 5 1 v6 (n0 + 1) (bv (pre ++ [34])) := by rw [bv_append]; exact own6
  have B6 := hide (((unhide B5).alloc (by omega) _).grown hgr6 (by simp; omega) (fun q hq => (own5.lt q hq).1))
  have O6 := hide own6
  clear own5 B5 hgr6 own6
  go_wp2_with fail
  refine (appendBytes_any w4.heap.size v6 (n0 + 1) (pre ++ [34]) b4 m c4 (enc h u l ws) w6 (unhide O6) (unhide B6).size ((Row.of_owns (enc_byt h u l ws (unhide R1).byt) (unhide O4)).below (unhide B6)) (owns_lt (unhide O4)) (by omega)).mono ?_
  rintro e w7 ⟨v7, rfl, own7, bel7⟩
  have B7 := hide ((unhide B6).trans bel7)
  have hs7 := (unhide B7).size
  clear bel7
  go_wp2_with (first
    | (at_builtin; refine wpList_append_own _ rfl _ _ 28 rfl w4.heap.size 5 i0 (.int .u8 0) 1 1 Try.underlying28 hi hz0 hz1 hz2 rfl (by decide) _ _ _ rfl (own7.alloc _) ⟨w7.heap.size, 0, none⟩ 1 1 [.int .u8 34] rfl rfl ?_ ?_ ?_ ?_ ?_ ?_)
    | fail)
  · exact cell_one_new _ _ _
  · exact ints_oneCell .u8 [34]
  · unfold maxLen; omega
  · omega
  · simp; omega
  intro v8 w8 own8 hgr8 _
  have own8 : w8.ownsRow w4.heap.size 5 1 v8 (n0 + 1 + m + 1) (bv (pre ++ [34] ++ enc h u l ws ++ [34])) := by rw [bv_append (pre ++ [34] ++ enc h u l ws) [34], show pre ++ [34] ++ enc h u l ws = pre ++ 34 :: enc h u l ws by simp]; exact own8
  have B8 := hide (((unhide B7).alloc (by omega) _).grown hgr8 (by simp; omega) (fun q hq => (own7.lt q hq).1))
  have O8 := hide own8
  clear own7 B7 hgr8 own8
  go_wp2_with fail
  refine (appendBytes_any w4.heap.size v8 (n0 + 1 + m + 1) (pre ++ [34] ++ enc h u l ws ++ [34]) b2 n2 n2 post w8 (unhide O8) (unhide B8).size ((Row.of_owns (unhide R2).byt (unhide O3)).below (unhide B8)) (owns_lt (unhide O3)) (by omega)).mono ?_
  rintro e w9 ⟨v9, rfl, own9, bel9⟩
  have B9 := hide ((unhide B8).trans bel9)
  have own9 : w9.ownsRow w4.heap.size 5 1 v9 (n0 + 1 + m + 1 + n2) (bv (lineOf pre ws post h u l)) := own9
  clear bel9
  obtain ⟨g, c9, rfl, hg9⟩ : ∃ g c9, v9 = .slice (some ⟨g, 0, none⟩) (n0 + 1 + m + 1 + n2) c9 ∧ w4.heap.size ≤ g := by
    rcases own9.2 with ⟨_, e2⟩ | ⟨g, c9, cur, e1, e2, _⟩
    · omega
    · exact ⟨g, c9, e1, e2⟩
  have hc9 : n0 + 1 + m + 1 + n2 ≤ c9 := by
    rcases own9.2 with ⟨e1, _⟩ | ⟨g', c', cur, e1, _, _, e3, _⟩
    · cases e1
    · cases e1; exact e3
  have hbL : Byt (lineOf pre ws post h u l) := byt_append (byt_append (byt_append (byt_append (unhide R0).byt (byt_one (by omega))) (enc_byt h u l ws (unhide R1).byt)) (byt_one (by omega))) (unhide R2).byt
  have hrun := runTo_line pre ws post h u l (unhide R1).byt
  have hend := end_line pre ws post h u l (unhide R1).byt
  have hpos := pos_line pre ws post h u l (unhide R1).byt
  have hwd := wd_line pre ws post h u l (unhide R1).byt
  have hlenL := line_length pre ws post h u l
  rw [unhide HM] at hend hpos hlenL
  rw [(unhide R0).len, (unhide R1).len] at hrun hend hpos hwd
  have HRun := hide hrun
  have HEnd := hide hend
  have HPos := hide hpos
  have HWd := hide hwd
  have O9 := hide own9
  have HbL := hide hbL
  clear own9 hrun hend hpos hwd hlenL hbL
  go_wp2_with fail
  refine (zzunquote_any w4.heap.size (some ⟨g, 0, none⟩) (n0 + 1 + m + 1 + n2) c9 (lineOf pre ws post h u l) (n0 + 1) n0 _ _ 34 n1 w9 (by omega) rfl (unhide HbL) (unhide O9) (by omega) (by omega) (by omega) (unhide HRun)).mono ?_
  rintro e w10 ⟨rfl, ⟨L, laid, own10⟩, hgr⟩
  rw [unhide HWd] at laid
  rw [unhide HEnd, unhide HPos, show decide (n0 + 1 + m < n0 + 1 + m + 1 + n2) = true by simp; omega]
  have B10 := hide ((unhide B9).grown hgr (unhide B9).size (fun k e => by cases e; exact hg9))
  have hLL : L.length = n0 + 1 + m + 1 + n2 := by rw [laid.1, line_length, unhide HM, (unhide R0).len, (unhide R2).len]
  have hmn : n1 ≤ m := by have := pos_ge (lineOf pre ws post h u l) 34 (n0 + 1) n1; rw [unhide HPos] at this; omega
  have P0 : Row w10 (some ⟨g, 0, none⟩) n0 pre := sub_row 0 n0 own10 hLL (by omega) (unhide R0).len (unhide R0).byt (fun i hi => by
    rw [Nat.zero_add, laid.2 i, if_neg (by omega), line_pre _ _ _ _ _ _ i (by rw [(unhide R0).len]; exact hi)])
  have P1 : Row w10 (some ⟨g, n0, none⟩) n1 ws := sub_row n0 n1 own10 hLL (by omega) (unhide R1).len (unhide R1).byt (fun i hi => by
    rw [laid.2 (n0 + i), if_pos (by omega), show n0 + i - n0 = i by omega])
  have P2 : Row w10 (some ⟨g, n0 + m + 2, none⟩) n2 post := sub_row (n0 + m + 2) n2 own10 hLL (by omega) (unhide R2).len (unhide R2).byt (fun i hi => by
    rw [laid.2 (n0 + m + 2 + i), if_neg (by omega)]
    have := line_post pre ws post h u l i
    rw [unhide HM, (unhide R0).len] at this
    exact this)
  have Q0 : Row w10 b0 n0 pre := (Row.of_owns (unhide R0).byt (unhide O1)).below (unhide B10)
  have Q1 : Row w10 b1 n1 ws := (Row.of_owns (unhide R1).byt (unhide O2)).below (unhide B10)
  have Q2 : Row w10 b2 n2 post := (Row.of_owns (unhide R2).byt (unhide O3)).below (unhide B10)
  have HP0 := hide P0
  have HP1 := hide P1
  have HP2 := hide P2
  have HQ0 := hide Q0
  have HQ1 := hide Q1
  have HQ2 := hide Q2
  clear laid hgr own10 P0 P1 P2 Q0 Q1 Q2 hLL
  go_wp2_with fail
  refine (equal_same _ _ n0 _ _ pre w10 (unhide HP0) (unhide HQ0) (by omega)).mono ?_
  rintro e w11 ⟨rfl, bel11⟩
  have B11 := hide bel11
  clear bel11
  go_wp2_with fail
  refine (equal_same _ _ n1 _ _ ws w11 ((unhide HP1).below (unhide B11)) ((unhide HQ1).below (unhide B11)) (by omega)).mono ?_
  rintro e w12 ⟨rfl, bel12⟩
  have B12 := hide ((unhide B11).trans (bel12.mono (unhide B11).size))
  clear bel12
  have BF := hide ((unhide B4).trans ((unhide B10).mono (unhide B4).size))
  go_wp2_with fail
  all_goals rw [show (n0 + 1 + m + 1 + n2 - (n0 + m + 2)) = n2 by omega]
  rotate_left
  · refine (equal_same _ _ n2 _ _ post w12 ((unhide HP2).below (unhide B12)) ((unhide HQ2).below (unhide B12)) (by omega)).mono ?_
    rintro e w13 ⟨rfl, bel13⟩
    have B13 := hide ((unhide B12).trans (bel13.mono (unhide B12).size))
    clear bel13
    go_wp2_with fail
    go_ret
    exact ⟨rfl, (unhide BF).trans ((unhide B13).mono (unhide BF).size)⟩
  · refine (equal_same _ _ n2 _ _ post w12 ⟨(unhide R2).len, (unhide R2).byt, fun hn => by omega⟩ ((unhide HQ2).below (unhide B12)) (by omega)).mono ?_
    rintro e w13 ⟨rfl, bel13⟩
    have B13 := hide ((unhide B12).trans (bel13.mono (unhide B12).size))
    clear bel13
    go_wp2_with fail
    go_ret
    exact ⟨rfl, (unhide BF).trans ((unhide B13).mono (unhide BF).size)⟩

end Go.Proofs.Qxb6602361a
