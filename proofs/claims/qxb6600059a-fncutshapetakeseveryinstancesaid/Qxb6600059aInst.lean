/-
  'zzDigitAt', 'zzInstance': what they compute.
-/
import Derived.Test.Qxb6600059aFit
namespace Go.Proofs.Qxb6600059a
open Go.RowKit
set_option linter.unusedVariables false

theorem info5 : (Try.prog.info? 5).map (fun i => (i.zero, i.size, i.bytes)) = some (some (.int .u8 0), 1, 1) := by kernel_rfl

/-- Bytes as the cells of a row. -/
def bv (zs : List Int) : List Value := zs.map (Value.int .u8)
theorem bv_snoc (xs : List Int) (z : Int) : bv (xs ++ [z]) = bv xs ++ [.int .u8 z] := by simp [bv]
theorem bv_length (zs : List Int) : (bv zs).length = zs.length := by simp [bv]
theorem bv_set (xs : List Int) (j : Nat) (z : Int) : (bv xs).set j (.int .u8 z) = bv (xs.set j z) := by simp [bv, List.map_set]
theorem bv_at (zs : List Int) (j : Nat) (h : j < zs.length) : (bv zs)[j]? = some (.int .u8 (zs.getD j 0)) := by
  simp [bv, List.getD, h]

/-- The digit that is chosen for place i. -/
def digA (ds : ByteArray) (i : Nat) : Int := if ds.size = 0 then 48 else 48 + byteAt ds (i % ds.size) % 10
theorem digA_bd (ds : ByteArray) (i : Nat) : 48 ≤ digA ds i ∧ digA ds i ≤ 57 := by
  unfold digA
  split
  · omega
  · have := byteAt_bd ds (i % ds.size); omega
/-- The byte of the filled shape at place i. -/
def instB (sh ds : ByteArray) (i : Nat) : Int := if byteAt sh i = 100 then digA ds i else byteAt sh i
def instL (sh ds : ByteArray) : Nat → List Int
  | 0 => []
  | k + 1 => instL sh ds k ++ [instB sh ds k]
theorem instL_length (sh ds : ByteArray) (k : Nat) : (instL sh ds k).length = k := by
  induction k with
  | zero => rfl
  | succ k ih => simp [instL, ih]
theorem instL_at (sh ds : ByteArray) (k i : Nat) (h : i < k) : (instL sh ds k).getD i 0 = instB sh ds i := by
  induction k with
  | zero => omega
  | succ k ih =>
    simp only [instL, List.getD_eq_getElem?_getD, List.getElem?_append, instL_length] at *
    by_cases e : i < k
    · rw [if_pos e]; exact ih e
    · have : i = k := by omega
      subst this
      rw [if_neg e]; simp
theorem instB_bd (sh ds : ByteArray) (i : Nat) : 0 ≤ instB sh ds i ∧ instB sh ds i ≤ 255 := by
  unfold instB
  have h1 := digA_bd ds i
  have h2 := byteAt_bd sh i
  split <;> omega

theorem ret_byte {a b : Int} (h : a = b) : Ending.returned (.int .u8 a) = .returned (.int .u8 b) := by rw [h]

set_option maxHeartbeats 400000 in
theorem digitAt_any (ds : ByteArray) (i : Nat) (w : World) (hd : ds.size ≤ maxLen) (hi : i ≤ 16777216) :
    Calls Try.prog 13 #[.string ds, .int .i64 i] w fun e w' => e = .returned (.int .u8 (digA ds i)) ∧ w = w' := by
  unfold maxLen at hd
  by_cases h : ds.size = 0
  · have t : ((ds.size : Int) == 0) = true := by simp [h]
    have F := hide (show digA ds i = 48 by simp [digA, h])
    clear h
    go_enter Try.func13, Try.ntmps13
    go_wp2
    go_ret
    exact ⟨ret_byte (unhide F).symm, rfl⟩
  · have t : ((ds.size : Int) == 0) = false := by simp [h]
    have F := hide (show digA ds i = 48 + byteAt ds (i % ds.size) % 10 by simp [digA, h])
    have hp : 0 < ds.size := by omega
    have hlt : i % ds.size < ds.size := Nat.mod_lt _ hp
    have e1 := byteAt_eq ds (i % ds.size) hlt
    have hb := byteAt_bd ds (i % ds.size)
    clear h
    go_enter Try.func13, Try.ntmps13
    go_wp2
    go_ret
    exact ⟨ret_byte (unhide F).symm, rfl⟩

theorem ints_one (z : Int) : ∀ u ∈ [Value.int .u8 z], u.oneCell' = true := ints_oneCell .u8 [z]

set_option maxHeartbeats 1000000 in
theorem inst_any (sh ds : ByteArray) (w : World) (hs : sh.size ≤ 1048576) (hd : ds.size ≤ maxLen) :
    Calls Try.prog 7 #[.string sh, .string ds] w fun e w' => e = .returned (.slice (some ⟨w.heap.size, 0, none⟩) sh.size sh.size) ∧
      w'.ownsRow w.heap.size 5 1 (.slice (some ⟨w.heap.size, 0, none⟩) sh.size sh.size) sh.size (bv (instL sh ds sh.size)) ∧ Below w.heap.size w w' := by
  obtain ⟨i0, hi, hz0, hz1, hz2⟩ := info_parts info5
  go_enter Try.func7, Try.ntmps7
  go_wp2_with (first
    | (at_make; refine wpList_make_own _ rfl _ _ 23 rfl w.heap.size 5 i0 (.int .u8 0) 1 Try.underlying23 hi hz0 hz1 _ _ _ sh.size rfl rfl rfl ?b2 ?b3 (Nat.le_refl _) ?_)
    | fail)
  case b2 => rw [hz2]; omega
  case b3 => unfold maxLen; omega
  intro w1 hown1 hg1
  have hb1 : Below w.heap.size w w1 := (Below.refl _ _).grown hg1 (Nat.le_refl _) (by simp)
  clear hg1
  go_wp2
  go_loopw [5, 6] (fun v i wr => ∃ k : Nat, k ≤ sh.size ∧ v = .slice (some ⟨w.heap.size, 0, none⟩) k sh.size ∧ i = .int .i64 k ∧ wr.ownsRow w.heap.size 5 1 (.slice (some ⟨w.heap.size, 0, none⟩) k sh.size) k (bv (instL sh ds k)) ∧ Below w.heap.size w wr)
      (fun _ i _ => sh.size - (intOf i).toNat)
  case atStart => exact ⟨0, Nat.zero_le _, rfl, rfl, hown1, hb1⟩
  case round =>
    obtain ⟨k, hk, rfl, rfl, hown, hbel⟩ := hrel
    clear hown1 hb1
    by_cases hlt : k < sh.size
    · have hlt1 : (k : Int) < (sh.size : Int) := by omega
      have e1 := byteAt_eq sh k hlt
      have hsz := hbel.size
      have HS : Hid (∀ (w1 : World) (z : Int), instB sh ds k = z → w1.ownsRow w.heap.size 5 1 (.slice (some ⟨w.heap.size, 0, none⟩) (k + 1) sh.size) (k + 1) (bv (instL sh ds k) ++ [.int .u8 z]) → (wr.alloc (.cells #[.int .u8 z] 5)).grownBy w1 (some w.heap.size) →
          w1.ownsRow w.heap.size 5 1 (.slice (some ⟨w.heap.size, 0, none⟩) (k + 1) sh.size) (k + 1) (bv (instL sh ds (k + 1))) ∧ Below w.heap.size w w1) := fun w1 z hz ho hg =>
        ⟨by rw [show instL sh ds (k + 1) = instL sh ds k ++ [instB sh ds k] from rfl, hz, bv_snoc]; exact ho, (hbel.alloc (by omega) _).grown hg (by simp; omega) (fun q hq => by cases hq; exact Nat.le_refl _)⟩
      by_cases h100 : byteAt sh k = 100
      · have HI := hide (show instB sh ds k = digA ds k by simp [instB, h100])
        have t : (byteAt sh k == 100) = true := by simp [h100]
        clear h100
        go_wp2_with fail
        refine (digitAt_any ds k wr hd (by omega)).mono ?_
        rintro e w' ⟨rfl, rfl⟩
        go_wp2_with (first
          | (at_builtin; refine wpList_append_fits _ rfl _ _ 23 rfl w.heap.size 5 i0 1 Try.underlying23 hi hz1 w.heap.size k sh.size _ rfl (hown.alloc _) ⟨wr.heap.size, 0, none⟩ 1 1 [.int .u8 (digA ds k)] rfl rfl ?_ ?_ ?_ ?_)
          | fail)
        · exact cell_one_new _ _ _
        · exact ints_one (digA ds k)
        · omega
        intro w1 hown' hgrow
        have R := unhide HS w1 (digA ds k) (unhide HI) hown' hgrow
        clear hown' hgrow hown hbel
        go_wp2
        go_roundw
        case rel => exact ⟨k + 1, by omega, rfl, by go_num, R.1, R.2⟩
        case measure => simp [intOf]; omega
      · have HI := hide (show instB sh ds k = byteAt sh k by simp [instB, h100])
        have t : (byteAt sh k == 100) = false := by simp [h100]
        clear h100
        go_wp2_with (first
          | (at_builtin; refine wpList_append_fits _ rfl _ _ 23 rfl w.heap.size 5 i0 1 Try.underlying23 hi hz1 w.heap.size k sh.size _ rfl (hown.alloc _) ⟨wr.heap.size, 0, none⟩ 1 1 [.int .u8 (byteAt sh k)] rfl rfl ?_ ?_ ?_ ?_)
          | fail)
        · exact cell_one_new _ _ _
        · exact ints_one (byteAt sh k)
        · omega
        intro w1 hown' hgrow
        have R := unhide HS w1 (byteAt sh k) (unhide HI) hown' hgrow
        clear hown' hgrow hown hbel
        go_wp2
        go_roundw
        case rel => exact ⟨k + 1, by omega, rfl, by go_num, R.1, R.2⟩
        case measure => simp [intOf]; omega
    · have : k = sh.size := by omega
      subst this
      go_wp2
      go_ret
      exact ⟨rfl, hown, hbel⟩

end Go.Proofs.Qxb6600059a
