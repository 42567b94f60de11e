/-
  The walk of 'FnUnescapeReadsBackEscapedByte'.
-/
import Derived.Test.Qxb6602361aReads
namespace Go.Proofs.Qxb6602361a
open Go.RowKit
set_option linter.unusedVariables false

set_option maxHeartbeats 400000 in
theorem zz11_yes (a a' : Option Addr) (n cap n' cap' : Nat) (b : Int) (x y z : Bool) (w : World) (hn : n ≤ 524288) (hn' : n' ≤ 524288) :
    Calls Try.prog 11 #[.slice a n cap, .int .u8 b, .bool x, .bool y, .bool z, .slice a' n' cap'] w fun e w' => e = .returned (.bool true) ∧ w = w' := by
  go_enter Try.func11, Try.ntmps11
  go_wp2
  go_ret
  exact ⟨rfl, rfl⟩

set_option maxHeartbeats 400000 in
theorem zz11_any (a a' : Option Addr) (n cap n' cap' : Nat) (b : Int) (x y z : Bool) (w : World) (hn : n ≤ maxLen) (hn' : n' ≤ maxLen) :
    Calls Try.prog 11 #[.slice a n cap, .int .u8 b, .bool x, .bool y, .bool z, .slice a' n' cap'] w fun e w' => ∃ r, e = .returned (.bool r) ∧ w = w' := by
  unfold maxLen at hn hn'
  go_enter Try.func11, Try.ntmps11
  go_wp2
  all_goals
    go_ret
    exact ⟨_, rfl, rfl⟩

set_option maxHeartbeats 400000 in
theorem zzunescape_any (a : Option Addr) (n cap : Nat) (zs : List Int) (p : Nat) (x q : Int) (w : World) (hx : x = (p : Int)) (h : Row w a n zs) (hn : n ≤ 16777216) (hp : p < n) :
    Calls Try.prog 15 #[.slice a n cap, .int .i64 x, .int .u8 q] w fun e w' => e = .returned (.tuple #[.int .u8 (esc zs q p).1, .int .i64 (esc zs q p).2]) ∧ w = w' := by
  subst hx
  have H := hide (unescape_any a n cap zs p q w h hn hp)
  clear h
  go_enter Try.func15, Try.ntmps15
  go_wp2_with fail
  refine (unhide H).mono ?_
  rintro e w' ⟨rfl, rfl⟩
  go_wp2
  go_ret2
  exact ⟨rfl, rfl⟩

theorem escB_len (b : Int) (h u l : Bool) : 1 ≤ (escB b h u l).length ∧ (escB b h u l).length ≤ 3 := by
  unfold escB
  repeat' split
  all_goals simp [hexB]

theorem owns_lt {w : World} {base n cap : Nat} {a : Option Addr} {xs : List Value} (h : w.ownsRow base 5 1 (.slice a n cap) n xs) : ∀ b off, a = some ⟨b, off, none⟩ → b < w.heap.size :=
  fun b off e => (h.lt b (by rw [e]; rfl)).2

set_option maxHeartbeats 1000000 in
theorem reads_walk (a a' : Option Addr) (n cap n' cap' : Nat) (pf sf : List Int) (b : Int) (h u l : Bool) (w : World) (hr : Row w a n pf) (hnil : a = none → n = 0 ∧ cap = 0) (hm : n ≤ maxLen)
    (hr' : Row w a' n' sf) (hnil' : a' = none → n' = 0 ∧ cap' = 0) (hm' : n' ≤ maxLen) (h0 : 0 ≤ b) (h1 : b ≤ 255) :
    Calls Try.prog 5 #[.slice a n cap, .int .u8 b, .bool h, .bool u, .bool l, .slice a' n' cap'] w fun e w' => e = .returned (.bool true) ∧ Below w.heap.size w w' := by
  obtain ⟨i0, hi, hz0, hz1, hz2⟩ := info_parts info5
  by_cases big : n ≤ 524288 ∧ n' ≤ 524288
  · obtain ⟨hn, hn'⟩ := big
    have HR := hide hr
    have HR' := hide hr'
    have HN := hide hnil
    have HN' := hide hnil'
    have hE1 := escB_len b h u l
    have hE2 := hide (byt_of_mem (escB_byt b h u l h0 h1))
    have hE3 : Hid (∀ xs sf : List Int, esc (xs ++ (escB b h u l ++ sf)) 34 xs.length = (b, xs.length + (escB b h u l).length)) := fun xs sf => esc_reads xs sf b h u l h0 h1
    clear hr hr' hnil hnil' hm hm'
    go_enter Try.func5, Try.ntmps5
    go_wp2_with fail
    refine (zz11_yes _ _ _ _ _ _ _ _ _ _ _ hn hn').mono ?_
    rintro e w' ⟨rfl, rfl⟩
    go_wp2_with fail
    refine (clone_any a n cap pf w (unhide HR) (by omega) (unhide HN)).mono ?_
    rintro e w1 ⟨a1, rfl, own1, bel1⟩
    have HR1 := hide ((unhide HR').below bel1)
    have HB1 := hide bel1
    have HO1 := hide own1
    clear bel1 own1
    go_wp2_with fail
    refine (clone_any a' n' cap' sf w1 (unhide HR1) (by omega) (unhide HN')).mono ?_
    rintro e w2 ⟨a2, rfl, own2, bel2⟩
    have HB2 := hide bel2
    have HO2 := hide own2
    have HO1b := hide (owns_below (unhide HO1) bel2)
    clear bel2 own2
    go_wp2_with fail
    refine (escapeByte_any b h u l w2 h0 h1).mono ?_
    rintro e w3 ⟨a3, rfl, own3, bel3⟩
    have HB3 := hide bel3
    have HO3 := hide own3
    have HO1c := hide (owns_below (unhide HO1b) bel3)
    have HO2c := hide (owns_below (unhide HO2) bel3)
    have hs3 := bel3.size
    have hs2 := (unhide HB2).size
    have hs1 := (unhide HB1).size
    clear bel3 own3
    generalize escB b h u l = E at *
    generalize hme : E.length = m at *
    have HME := hide hme
    clear hme
    go_wp2_with fail
    refine (appendBytes_any w3.heap.size (.slice none 0 0) 0 [] a1 n n pf w3 (World.ownsRow_nil _ _ _ _) (Nat.le_refl _) (Row.of_owns (unhide HR).byt (unhide HO1c)) (owns_lt (unhide HO1c)) (by omega)).mono ?_
    rintro e w4 ⟨v4, rfl, own4, bel4⟩
    rw [Nat.zero_add, List.nil_append] at own4
    have hs4 := bel4.size
    have HB4 := hide bel4
    clear bel4
    go_wp2_with (first
      | (at_builtin; refine wpList_append_own _ rfl _ _ 28 rfl w3.heap.size 5 i0 (.int .u8 0) 1 1 Try.underlying28 hi hz0 hz1 hz2 rfl (by decide) _ _ _ rfl (own4.alloc _) ⟨w4.heap.size, 0, none⟩ 1 1 [.int .u8 92] rfl rfl ?c1 ?c2 ?c3 ?c4 ?c5 ?_)
      | fail)
    case c1 => exact cell_one_new _ _ _
    case c2 => exact ints_oneCell .u8 [92]
    case c3 => unfold maxLen; omega
    case c4 => omega
    case c5 => simp; omega
    intro v5 w5 own5 hgr5 _
    have own5 : w5.ownsRow w3.heap.size 5 1 v5 (n + 1) (bv (pf ++ [92])) := by rw [bv_append]; exact own5
    have bel5 : Below w3.heap.size w3 w5 := ((unhide HB4).alloc (by omega) _).grown hgr5 (by simp; omega) (fun q hq => (own4.lt q hq).1)
    have HB5 := hide bel5
    clear own4 HB4 hgr5 bel5
    go_wp2_with fail
    refine (appendBytes_any w3.heap.size v5 (n + 1) (pf ++ [92]) a3 m m E w5 own5 (unhide HB5).size ((Row.of_owns (unhide hE2) (unhide HO3)).below (unhide HB5)) (owns_lt (unhide HO3)) (by omega)).mono ?_
    rintro e w6 ⟨v6, rfl, own6, bel6⟩
    have HB6 := hide ((unhide HB5).trans bel6)
    clear bel6 own5
    go_wp2_with fail
    refine (appendBytes_any w3.heap.size v6 (n + 1 + m) (pf ++ [92] ++ E) a2 n' n' sf w6 own6 (unhide HB6).size ((Row.of_owns (unhide HR').byt (unhide HO2c)).below (unhide HB6)) (owns_lt (unhide HO2c)) (by omega)).mono ?_
    rintro e w7 ⟨v7, rfl, own7, bel7⟩
    have HB7 := hide ((unhide HB6).trans bel7)
    obtain ⟨a7, cap7, rfl, -⟩ := owns_shape own7
    have hL : Byt (pf ++ [92] ++ E ++ sf) := byt_append (byt_append (byt_append (unhide HR).byt (byt_one (by omega))) (unhide hE2)) (unhide HR').byt
    have hesc : esc (pf ++ [92] ++ E ++ sf) 34 (n + 1) = (b, n + 1 + m) := by
      have := unhide hE3 (pf ++ [92]) sf
      rw [show (pf ++ [(92 : Int)]).length = n + 1 by simp [(unhide HR).len]] at this
      rw [List.append_assoc (pf ++ [92]) E sf]
      exact this
    have HRow := hide (Row.of_owns hL own7)
    have HEsc := hide hesc
    clear bel7 own6 own7 hesc hL
    go_wp2_with fail
    refine (zzunescape_any a7 (n + 1 + m + n') cap7 _ (n + 1) _ 34 w7 (by omega) (unhide HRow) (by omega) (by omega)).mono ?_
    rintro e w8 ⟨rfl, rfl⟩
    rw [unhide HEsc]
    go_wp2_with fail
    go_ret
    exact ⟨rfl, (((unhide HB1).trans ((unhide HB2).mono hs1)).trans ((unhide HB3).mono (by omega))).trans ((unhide HB7).mono (by omega))⟩
  · have ways : 524288 < n ∨ (n ≤ 524288 ∧ 524288 < n') := by omega
    have H := hide (zz11_any a a' n cap n' cap' b h u l w hm hm')
    unfold maxLen at hm hm'
    clear hr hr' hnil hnil' big
    rcases ways with hb | ⟨hb1, hb2⟩
    all_goals
      go_enter Try.func5, Try.ntmps5
      go_wp2_with fail
      refine (unhide H).mono ?_
      rintro e w' ⟨r, rfl, rfl⟩
      cases r
      all_goals
        go_wp2_with fail
        go_ret
        exact ⟨rfl, Below.refl _ _⟩

end Go.Proofs.Qxb6602361a
