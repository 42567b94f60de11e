/-
  'encodeWordB1' and 'equalB1'.
-/
import Derived.Test.Qxb6602361aReads
import Derived.Deep.QuietTactic
import Derived.BigQuiet
namespace Go.Proofs.Qxb6602361a
open Go.RowKit
set_option linter.unusedVariables false

/-- One byte of a word, as it is written inside double quotes. -/
def encB (h u l : Bool) (b : Int) : List Int :=
  if h = true then [92, 120, digD u (b / 16).toNat, digD l (b % 16).toNat] else if b = 34 ∨ b = 92 then [92, b] else if ctlOk b = true then [92, ctlV b] else [b]
def enc (h u l : Bool) (ws : List Int) : List Int := ws.flatMap (encB h u l)

theorem encB_len (h u l : Bool) (b : Int) : 1 ≤ (encB h u l b).length ∧ (encB h u l b).length ≤ 4 := by
  unfold encB
  repeat' split
  all_goals simp
theorem enc_len (h u l : Bool) (ws : List Int) : (enc h u l ws).length ≤ 4 * ws.length := by
  induction ws with
  | nil => simp [enc]
  | cons b t ih => have := encB_len h u l b; simp only [enc, List.flatMap_cons, List.length_append, List.length_cons] at *; omega
theorem enc_snoc (h u l : Bool) (ws : List Int) (b : Int) : enc h u l (ws ++ [b]) = enc h u l ws ++ encB h u l b := by
  simp [enc]
theorem encB_byt (h u l : Bool) (b : Int) (h0 : 0 ≤ b) (h1 : b ≤ 255) : ∀ z ∈ encB h u l b, 0 ≤ z ∧ z ≤ 255 := by
  have hx := digD_bd u (b / 16).toNat (by omega)
  have hy := digD_bd l (b % 16).toNat (by omega)
  intro z hz
  unfold encB at hz
  split at hz
  · simp only [List.mem_cons, List.not_mem_nil, or_false] at hz; omega
  split at hz
  · simp only [List.mem_cons, List.not_mem_nil, or_false] at hz; omega
  split at hz
  · simp only [List.mem_cons, List.not_mem_nil, or_false] at hz
    rcases hz with hz | hz
    · omega
    · rw [hz]; unfold ctlV; omega
  · simp only [List.mem_singleton] at hz; omega
theorem enc_byt (h u l : Bool) (ws : List Int) (hw : Byt ws) : Byt (enc h u l ws) := by
  refine byt_of_mem fun z hz => ?_
  obtain ⟨b, hb, hz⟩ := List.mem_flatMap.1 hz
  have := mem_of_byt hw b hb
  exact encB_byt h u l b this.1 this.2 z hz

theorem cells_new (w : World) (cs : List Value) : ∀ j u, cs[j]? = some u → (w.alloc (.cells cs.toArray 5)).cell? ((⟨w.heap.size, 0, none⟩ : Addr).add j) = some u := by
  intro j u hu
  have hadd : (⟨w.heap.size, 0, none⟩ : Addr).add j = ⟨w.heap.size, j, none⟩ := by unfold Addr.add; split <;> simp_all
  rw [hadd, cell_of_row _ _ j cs.toArray 5 (0, 0) (heap_alloc_new w _)]
  simpa using hu

set_option maxHeartbeats 1000000 in
theorem encode_any (a : Option Addr) (n cap : Nat) (zs : List Int) (h u l : Bool) (w : World) (hr : Row w a n zs) (hn : n ≤ 1048576) :
    Calls Try.prog 20 #[.slice a n cap, .bool h, .bool u, .bool l] w fun e w' =>
      ∃ v, e = .returned v ∧ w'.ownsRow w.heap.size 5 1 v (enc h u l zs).length (bv (enc h u l zs)) ∧ Below w.heap.size w w' := by
  obtain ⟨i0, hi, hz0, hz1, hz2⟩ := info_parts info5
  have HLen := hide hr.len
  have HR := hide hr
  clear hr
  go_enter Try.func20, Try.ntmps20
  go_wp2
  go_loopw [9, 10] (fun v i wr => ∃ k : Nat, k ≤ n ∧ i = .int .i64 k ∧ wr.ownsRow w.heap.size 5 1 v (enc h u l (zs.take k)).length (bv (enc h u l (zs.take k))) ∧ Below w.heap.size w wr)
      (fun _ i _ => n - (intOf i).toNat)
  case atStart => exact ⟨0, Nat.zero_le _, rfl, by simpa [enc, bv] using World.ownsRow_nil _ _ _ _, Below.refl _ _⟩
  case round =>
    obtain ⟨k, hk, rfl, hown, hbel⟩ := hrel
    by_cases hlt : k < n
    · obtain ⟨b0, off, rfl, hbB, hc⟩ := (unhide HR).cells (by omega)
      have c1 := (hbel.cell (p := ⟨b0, off + k, none⟩) hbB).trans (hc k hlt)
      obtain ⟨h0, h1⟩ := (unhide HR).byt k
      have hen : (enc h u l (zs.take k)).length ≤ 4 * k := by
        have h2 := enc_len h u l (zs.take k)
        have h3 : (zs.take k).length ≤ k := List.length_take_le _ _
        omega
      have hsz := hbel.size
      have hbl := encB_len h u l (zs.getD k 0)
      have hsucc : enc h u l (zs.take (k + 1)) = enc h u l (zs.take k) ++ encB h u l (zs.getD k 0) := by
        have hkl : k < zs.length := by have := unhide HLen; omega
        rw [List.take_succ_eq_append_getElem hkl, enc_snoc]
        simp [List.getD, hkl]
      -- what an append of the byte's escape leaves
      have hb2 : ∀ (v' : Value) (w1 : World) (cs : Array Value), w1.ownsRow w.heap.size 5 1 v' ((enc h u l (zs.take k)).length + (encB h u l (zs.getD k 0)).length) (bv (enc h u l (zs.take k)) ++ bv (encB h u l (zs.getD k 0))) → (wr.alloc (.cells cs 5)).grownBy w1 u9.ownBlock →
          w1.ownsRow w.heap.size 5 1 v' (enc h u l (zs.take (k + 1))).length (bv (enc h u l (zs.take (k + 1)))) ∧ Below w.heap.size w w1 := fun v' w1 cs ho hg =>
        ⟨by rw [hsucc, bv_append, List.length_append]; exact ho, (hbel.alloc (by omega) _).grown hg (by simp; omega) (fun x hx => (hown.lt x hx).1)⟩
      clear hsucc hc
      generalize zs.getD k 0 = b at *
      generalize hxs : enc h u l (zs.take k) = xs at *
      have HXS := hide hxs
      have HB2 := hide hb2
      clear hxs hb2
      cases h
      · by_cases hq : b = 34 ∨ b = 92
        · have hE : encB false u l b = [92, b] := by simp [encB, hq]
          rw [hE] at HB2
          clear hE hbl
          rcases hq with rfl | rfl
          · skip
            go_wp2_with (first
              | (at_builtin; refine wpList_append_own _ rfl _ _ 28 rfl w.heap.size 5 i0 (.int .u8 0) 1 1 Try.underlying28 hi hz0 hz1 hz2 rfl (by decide) _ _ _ rfl (hown.alloc _) ⟨wr.heap.size, 0, none⟩ 2 2 (bv [92, 34]) rfl rfl ?_ ?_ ?_ ?_ ?_ ?_)
              | fail)
            · exact cells_new wr (bv [92, 34])
            · exact ints_oneCell .u8 [92, 34]
            · unfold maxLen; omega
            · omega
            · simp; omega
            intro v' w1 hown' hgrow _
            have R := unhide HB2 v' w1 _ hown' hgrow
            clear hown' hgrow hown hbel c1
            go_wp2
            go_roundw
            case rel => exact ⟨k + 1, by omega, by go_num, R.1, R.2⟩
            case measure => simp [intOf]; omega
          · skip
            go_wp2_with (first
              | (at_builtin; refine wpList_append_own _ rfl _ _ 28 rfl w.heap.size 5 i0 (.int .u8 0) 1 1 Try.underlying28 hi hz0 hz1 hz2 rfl (by decide) _ _ _ rfl (hown.alloc _) ⟨wr.heap.size, 0, none⟩ 2 2 (bv [92, 92]) rfl rfl ?_ ?_ ?_ ?_ ?_ ?_)
              | fail)
            · exact cells_new wr (bv [92, 92])
            · exact ints_oneCell .u8 [92, 92]
            · unfold maxLen; omega
            · omega
            · simp; omega
            intro v' w1 hown' hgrow _
            have R := unhide HB2 v' w1 _ hown' hgrow
            clear hown' hgrow hown hbel c1
            go_wp2
            go_roundw
            case rel => exact ⟨k + 1, by omega, by go_num, R.1, R.2⟩
            case measure => simp [intOf]; omega
        · have hq1 : (b == 34) = false := by simp; omega
          have hq2 : (b == 92) = false := by simp; omega
          cases hc : ctlOk b
          · have hE : encB false u l b = [b] := by simp [encB, hq, hc]
            rw [hE] at HB2
            have HC := hide hc
            clear hE hbl hq hc
            go_wp2_with fail
            refine (control_any b wr).mono ?_
            rintro e w' ⟨rfl, rfl⟩
            rw [unhide HC]
            go_wp2_with (first
              | (at_builtin; refine wpList_append_own _ rfl _ _ 28 rfl w.heap.size 5 i0 (.int .u8 0) 1 1 Try.underlying28 hi hz0 hz1 hz2 rfl (by decide) _ _ _ rfl (hown.alloc _) ⟨wr.heap.size, 0, none⟩ 1 1 (bv [b]) rfl rfl ?_ ?_ ?_ ?_ ?_ ?_)
              | fail)
            · exact cells_new wr (bv [b])
            · exact ints_oneCell .u8 [b]
            · unfold maxLen; omega
            · omega
            · simp; omega
            intro v' w1 hown' hgrow _
            have R := unhide HB2 v' w1 _ hown' hgrow
            clear hown' hgrow hown hbel c1
            go_wp2
            go_roundw
            case rel => exact ⟨k + 1, by omega, by go_num, R.1, R.2⟩
            case measure => simp [intOf]; omega
          · have hE : encB false u l b = [92, ctlV b] := by simp [encB, hq, hc]
            rw [hE] at HB2
            have HC := hide hc
            clear hE hbl hq hc
            go_wp2_with fail
            refine (control_any b wr).mono ?_
            rintro e w' ⟨rfl, rfl⟩
            rw [unhide HC]
            go_wp2_with (first
              | (at_builtin; refine wpList_append_own _ rfl _ _ 28 rfl w.heap.size 5 i0 (.int .u8 0) 1 1 Try.underlying28 hi hz0 hz1 hz2 rfl (by decide) _ _ _ rfl (hown.alloc _) ⟨wr.heap.size, 0, none⟩ 2 2 (bv [92, ctlV b]) rfl rfl ?_ ?_ ?_ ?_ ?_ ?_)
              | fail)
            · exact cells_new wr (bv [92, ctlV b])
            · exact ints_oneCell .u8 [92, ctlV b]
            · unfold maxLen; omega
            · omega
            · simp; omega
            intro v' w1 hown' hgrow _
            have R := unhide HB2 v' w1 _ hown' hgrow
            clear hown' hgrow hown hbel c1
            go_wp2
            go_roundw
            case rel => exact ⟨k + 1, by omega, by go_num, R.1, R.2⟩
            case measure => simp [intOf]; omega
      · have hE : encB true u l b = [92, 120, digD u (b / 16).toNat, digD l (b % 16).toNat] := by simp [encB]
        rw [hE] at HB2
        clear hE hbl
        go_wp2_with fail
        refine (hexDigit_at _ 0 u wr (b / 16).toNat (by omega) (by omega) (by omega)).mono ?_
        rintro e w' ⟨rfl, rfl⟩
        go_wp2_with fail
        refine (hexDigit_at _ 0 l wr (b % 16).toNat (by omega) (by omega) (by omega)).mono ?_
        rintro e w' ⟨rfl, rfl⟩
        go_wp2_with (first
          | (at_builtin; refine wpList_append_own _ rfl _ _ 28 rfl w.heap.size 5 i0 (.int .u8 0) 1 1 Try.underlying28 hi hz0 hz1 hz2 rfl (by decide) _ _ _ rfl (hown.alloc _) ⟨wr.heap.size, 0, none⟩ 4 4 (bv [92, 120, digD u (b / 16).toNat, digD l (b % 16).toNat]) rfl rfl ?_ ?_ ?_ ?_ ?_ ?_)
          | fail)
        · exact cells_new wr (bv [92, 120, digD u (b / 16).toNat, digD l (b % 16).toNat])
        · exact ints_oneCell .u8 [92, 120, digD u (b / 16).toNat, digD l (b % 16).toNat]
        · unfold maxLen; omega
        · omega
        · simp; omega
        intro v' w1 hown' hgrow _
        have R := unhide HB2 v' w1 _ hown' hgrow
        clear hown' hgrow hown hbel c1
        go_wp2
        go_roundw
        case rel => exact ⟨k + 1, by omega, by go_num, R.1, R.2⟩
        case measure => simp [intOf]; omega
    · have : k = n := by omega
      subst this
      go_wp2
      go_ret
      rw [List.take_of_length_le (by have := unhide HLen; omega)] at hown
      exact ⟨_, rfl, hown, hbel⟩


set_option maxHeartbeats 1000000 in
theorem equal_same (a a' : Option Addr) (n cap cap' : Nat) (zs : List Int) (w : World) (hr : Row w a n zs) (hr' : Row w a' n zs) (hn : n ≤ 16777216) :
    Calls Try.prog 21 #[.slice a n cap, .slice a' n cap'] w fun e w' => e = .returned (.bool true) ∧ Below w.heap.size w w' := by
  have HR := hide hr
  have HR' := hide hr'
  clear hr hr'
  go_enter Try.func21, Try.ntmps21
  go_wp2
  go_loopw [5] (fun i wr => ∃ k : Nat, k ≤ n ∧ i = .int .i64 k ∧ Below w.heap.size w wr) (fun i _ => n - (intOf i).toNat)
  case atStart => exact ⟨0, Nat.zero_le _, rfl, Below.refl _ _⟩
  case round =>
    obtain ⟨k, hk, rfl, hbel⟩ := hrel
    by_cases hlt : k < n
    · obtain ⟨b, off, rfl, hbB, hc⟩ := (unhide HR).cells (by omega)
      obtain ⟨b', off', rfl, hbB', hc'⟩ := (unhide HR').cells (by omega)
      have c1 := (hbel.cell (p := ⟨b, off + k, none⟩) hbB).trans (hc k hlt)
      have c2 := (hbel.cell (p := ⟨b', off' + k, none⟩) hbB').trans (hc' k hlt)
      have hlt' : (k : Int) < (n : Int) := by omega
      clear hc hc'
      generalize zs.getD k 0 = z at *
      go_wp2
      go_quiet (fail)
      go_wp2
      go_roundw
      case rel => exact ⟨k + 1, by omega, by go_num, below_drewN hbel _⟩
      case measure => simp [intOf]; omega
    · go_wp2
      go_ret
      exact ⟨rfl, hbel⟩

end Go.Proofs.Qxb6602361a
