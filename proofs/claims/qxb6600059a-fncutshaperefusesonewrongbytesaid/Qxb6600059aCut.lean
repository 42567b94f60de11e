/-
  'cutShape': what it computes.
-/
import Derived.Test.Qxb6600059aRows
import Derived.WalkKit
import Derived.WalkSpells
import Derived.WalkLawsBesides
import Derived.Deep.QuietTactic
import Derived.BigQuiet
namespace Go.Proofs.Qxb6600059a
open Go.RowKit
set_option linter.unusedVariables false

theorem hide {p : Prop} (h : p) : Hid p := h
theorem unhide {p : Prop} (h : Hid p) : p := h

/-- The byte of s at place i (0 behind its end). -/
def byteAt (s : ByteArray) (i : Nat) : Int := if h : i < s.size then ((s[i]'h).toNat : Int) else 0
theorem byteAt_eq (s : ByteArray) (i : Nat) (h : i < s.size) : ((s[i]'h).toNat : Int) = byteAt s i := by simp [byteAt, h]
theorem byteAt_bd (s : ByteArray) (i : Nat) : 0 ≤ byteAt s i ∧ byteAt s i ≤ 255 := by
  unfold byteAt
  split
  · rename_i h
    have := (s[i]'h).toNat_lt
    omega
  · omega

/-- Does the byte c stand at a place where the shape has 'want'? -/
def Fits (want c : Int) : Prop := (want = 100 ∧ 48 ≤ c ∧ c ≤ 57) ∨ (want ≠ 100 ∧ c = want)
/-- s begins with the shape. -/
def Fit (s sh : ByteArray) : Prop := sh.size ≤ s.size ∧ ∀ i, i < sh.size → Fits (byteAt sh i) (byteAt s i)

set_option maxHeartbeats 1000000 in
theorem cut_yes (s sh : ByteArray) (w : World) (hs : s.size ≤ maxLen) (h : Fit s sh) :
    Calls Try.prog 14 #[.string s, .string sh] w fun e w' => e = .returned (.tuple #[.string (s.extract sh.size s.size), .bool true]) ∧ ∃ k, w' = w.drewN k := by
  unfold maxLen at hs
  obtain ⟨hle, hf⟩ := h
  have HF := hide hf
  clear hf
  have t0 : decide ((s.size : Int) < (sh.size : Int)) = false := by simp; omega
  go_enter Try.func14, Try.ntmps14
  go_wp2
  go_loopw [17] (fun i wr => ∃ k : Nat, k ≤ sh.size ∧ i = .int .i64 k ∧ ∃ d, wr = w.drewN d) (fun i _ => sh.size - (intOf i).toNat)
  case atStart => exact ⟨0, Nat.zero_le _, rfl, 0, rfl⟩
  case round =>
    obtain ⟨k, hk, rfl, d, rfl⟩ := hrel
    by_cases hlt : k < sh.size
    · have hlt1 : (k : Int) < (sh.size : Int) := by omega
      have hlt2 : (k : Int) < (s.size : Int) := by omega
      have e1 := byteAt_eq s k (by omega)
      have e2 := byteAt_eq sh k (by omega)
      have hfit := unhide HF k hlt
      generalize byteAt s k = c at *
      generalize byteAt sh k = wn at *
      rcases hfit with ⟨rfl, h1, h2⟩ | ⟨h1, rfl⟩
      · have n1 : decide (c < 48) = false := by simp; omega
        have n2 : decide (57 < c) = false := by simp; omega
        go_wp2
        go_quiet (fail)
        go_wp2
        go_roundw
        case rel => exact ⟨k + 1, by omega, by go_num, _, rfl⟩
        case measure => simp [intOf]; omega
      · have n1 : (c == 100) = false := by simp [h1]
        have n2 : (c != 100) = true := by simp [h1]
        go_wp2
        go_quiet (fail)
        go_wp2
        go_roundw
        case rel => exact ⟨k + 1, by omega, by go_num, _, rfl⟩
        case measure => simp [intOf]; omega
    · have : k = sh.size := by omega
      subst this
      go_wp2
      go_ret2
      exact ⟨rfl, d, rfl⟩

theorem least {P : Nat → Prop} : ∀ n, P n → ∃ k, k ≤ n ∧ P k ∧ ∀ j, j < k → ¬ P j := by
  intro n
  induction n using Nat.strongRecOn with
  | ind n ih =>
    intro h
    by_cases e : ∃ j, j < n ∧ P j
    · obtain ⟨j, hj, hp⟩ := e
      obtain ⟨k, h1, h2, h3⟩ := ih j hj hp
      exact ⟨k, by omega, h2, h3⟩
    · exact ⟨n, Nat.le_refl _, h, fun j hj hp => e ⟨j, hj, hp⟩⟩

theorem first_misfit {s sh : ByteArray} (h : ¬ Fit s sh) (hle : sh.size ≤ s.size) :
    ∃ J, J < sh.size ∧ ¬ Fits (byteAt sh J) (byteAt s J) ∧ ∀ j, j < J → Fits (byteAt sh j) (byteAt s j) := by
  have : ∃ n, n < sh.size ∧ ¬ Fits (byteAt sh n) (byteAt s n) := by
    apply Classical.byContradiction
    intro hn
    refine h ⟨hle, fun i hi => ?_⟩
    apply Classical.byContradiction
    intro hf
    exact hn ⟨i, hi, hf⟩
  obtain ⟨n, hn, hf⟩ := this
  obtain ⟨J, h1, h2, h3⟩ := least (P := fun n => ¬ Fits (byteAt sh n) (byteAt s n)) n hf
  exact ⟨J, by omega, h2, fun j hj => Classical.byContradiction fun hh => h3 j hj hh⟩

theorem not_fits {wn c : Int} (h : ¬ Fits wn c) : (wn = 100 ∧ c < 48) ∨ (wn = 100 ∧ 48 ≤ c ∧ 57 < c) ∨ (wn ≠ 100 ∧ c ≠ wn) := by
  unfold Fits at h
  omega

set_option maxHeartbeats 1000000 in
theorem cut_no (s sh : ByteArray) (w : World) (hs : s.size ≤ maxLen) (hs' : sh.size ≤ maxLen) (h : ¬ Fit s sh) :
    Calls Try.prog 14 #[.string s, .string sh] w fun e w' => e = .returned (.tuple #[.string s, .bool false]) ∧ ∃ k, w' = w.drewN k := by
  unfold maxLen at hs hs'
  by_cases hle : sh.size ≤ s.size
  · obtain ⟨J, hJ, hbad, hf⟩ := first_misfit h hle
    have HF := hide hf
    have HB := hide hbad
    clear hf hbad h
    have t0 : decide ((s.size : Int) < (sh.size : Int)) = false := by simp; omega
    go_enter Try.func14, Try.ntmps14
    go_wp2
    go_loopw [17] (fun i wr => ∃ k : Nat, k ≤ J ∧ i = .int .i64 k ∧ ∃ d, wr = w.drewN d) (fun i _ => sh.size - (intOf i).toNat)
    case atStart => exact ⟨0, Nat.zero_le _, rfl, 0, rfl⟩
    case round =>
      obtain ⟨k, hk, rfl, d, rfl⟩ := hrel
      have hlt1 : (k : Int) < (sh.size : Int) := by omega
      have hlt2 : (k : Int) < (s.size : Int) := by omega
      have e1 := byteAt_eq s k (by omega)
      have e2 := byteAt_eq sh k (by omega)
      by_cases hlt : k < J
      · have hfit := unhide HF k hlt
        generalize byteAt s k = c at *
        generalize byteAt sh k = wn at *
        rcases hfit with ⟨rfl, h1, h2⟩ | ⟨h1, rfl⟩
        · have n1 : decide (c < 48) = false := by simp; omega
          have n2 : decide (57 < c) = false := by simp; omega
          go_wp2
          go_quiet (fail)
          go_wp2
          go_roundw
          case rel => exact ⟨k + 1, by omega, by go_num, _, rfl⟩
          case measure => simp [intOf]; omega
        · have n1 : (c == 100) = false := by simp [h1]
          have n2 : (c != 100) = true := by simp [h1]
          go_wp2
          go_quiet (fail)
          go_wp2
          go_roundw
          case rel => exact ⟨k + 1, by omega, by go_num, _, rfl⟩
          case measure => simp [intOf]; omega
      · have hkJ : k = J := by omega
        have hbad := not_fits (unhide HB)
        rw [← hkJ] at hbad
        clear hkJ HB HF
        generalize byteAt s k = c at *
        generalize byteAt sh k = wn at *
        rcases hbad with ⟨rfl, h1⟩ | ⟨rfl, h1, h2⟩ | ⟨h1, h2⟩
        · have n1 : decide (c < 48) = true := by simp; omega
          go_wp2
          go_quiet (fail)
          go_wp2
          go_ret2
          exact ⟨rfl, _, rfl⟩
        · have n1 : decide (c < 48) = false := by simp; omega
          have n2 : decide (57 < c) = true := by simp; omega
          go_wp2
          go_quiet (fail)
          go_wp2
          go_ret2
          exact ⟨rfl, _, rfl⟩
        · have n1 : (wn == 100) = false := by simp [h1]
          have n2 : (wn != 100) = true := by simp [h1]
          have n3 : (c != wn) = true := by simp [h2]
          go_wp2
          go_quiet (fail)
          go_wp2
          go_ret2
          exact ⟨rfl, _, rfl⟩
  · go_enter Try.func14, Try.ntmps14
    go_wp2
    go_ret2
    exact ⟨rfl, 0, rfl⟩

set_option maxHeartbeats 400000 in
theorem zzcut_yes (s sh : ByteArray) (w : World) (hs : s.size ≤ maxLen) (h : Fit s sh) :
    Calls Try.prog 8 #[.string s, .string sh] w fun e w' => e = .returned (.tuple #[.string (s.extract sh.size s.size), .bool true]) ∧ ∃ k, w' = w.drewN k := by
  have H := hide (cut_yes s sh w hs h)
  clear h
  go_enter Try.func8, Try.ntmps8
  go_wp2_with fail
  refine (unhide H).mono ?_
  rintro e w' ⟨rfl, h2⟩
  go_wp2
  go_ret2
  exact ⟨rfl, h2⟩

set_option maxHeartbeats 400000 in
theorem zzcut_no (s sh : ByteArray) (w : World) (hs : s.size ≤ maxLen) (hs' : sh.size ≤ maxLen) (h : ¬ Fit s sh) :
    Calls Try.prog 8 #[.string s, .string sh] w fun e w' => e = .returned (.tuple #[.string s, .bool false]) ∧ ∃ k, w' = w.drewN k := by
  have H := hide (cut_no s sh w hs hs' h)
  clear h
  go_enter Try.func8, Try.ntmps8
  go_wp2_with fail
  refine (unhide H).mono ?_
  rintro e w' ⟨rfl, h2⟩
  go_wp2
  go_ret2
  exact ⟨rfl, h2⟩

end Go.Proofs.Qxb6600059a
