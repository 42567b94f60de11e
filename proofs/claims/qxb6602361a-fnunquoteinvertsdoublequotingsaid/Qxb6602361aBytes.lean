/-
  Slices of bytes: how a slice that is read is told ('Row'), what 'cloneBytesB1' and 'appendBytesB1' do.
-/
import Derived.Test.Qxb6602361aHex
import Derived.Lib.SliceRun
namespace Go.Proofs.Qxb6602361a
open Go.RowKit
set_option linter.unusedVariables false

theorem info5 : (Try.prog.info? 5).map (fun i => (i.zero, i.size, i.bytes)) = some (some (.int .u8 0), 1, 1) := by kernel_rfl

theorem hide {p : Prop} (h : p) : Hid p := h
theorem unhide {p : Prop} (h : Hid p) : p := h

/-- Bytes as the cells of a row. -/
def bv (zs : List Int) : List Value := zs.map (Value.int .u8)
theorem bv_length (zs : List Int) : (bv zs).length = zs.length := by simp [bv]
theorem bv_append (xs ys : List Int) : bv (xs ++ ys) = bv xs ++ bv ys := by simp [bv]
theorem bv_set (xs : List Int) (j : Nat) (z : Int) : (bv xs).set j (.int .u8 z) = bv (xs.set j z) := by simp [bv, List.map_set]
theorem bv_at (zs : List Int) (j : Nat) (h : j < zs.length) : (bv zs)[j]? = some (.int .u8 (zs.getD j 0)) := by
  simp [bv, List.getD, h]

/-- Every number is a byte. -/
def Byt (zs : List Int) : Prop := ∀ i, 0 ≤ zs.getD i 0 ∧ zs.getD i 0 ≤ 255

/-- A slice of bytes (its address 'a', its length 'n') that reads 'zs' in the world w. -/
structure Row (w : World) (a : Option Addr) (n : Nat) (zs : List Int) : Prop where
  len : zs.length = n
  byt : Byt zs
  cells : 0 < n → ∃ b off, a = some ⟨b, off, none⟩ ∧ b < w.heap.size ∧ ∀ k, k < n → w.cell? ⟨b, off + k, none⟩ = some (.int .u8 (zs.getD k 0))

theorem Row.below {w w' : World} {a : Option Addr} {n : Nat} {zs : List Int} (h : Row w a n zs) (hb : Below w.heap.size w w') : Row w' a n zs := by
  refine ⟨h.len, h.byt, fun hn => ?_⟩
  obtain ⟨b, off, e, hlt, hc⟩ := h.cells hn
  exact ⟨b, off, e, Nat.lt_of_lt_of_le hlt hb.size, fun k hk => (hb.cell (p := ⟨b, off + k, none⟩) hlt).trans (hc k hk)⟩

/-- What is owned can be read. -/
theorem Row.of_owns {w : World} {base n cap : Nat} {a : Option Addr} {zs : List Int} (hz : Byt zs) (h : w.ownsRow base 5 1 (.slice a n cap) n (bv zs)) : Row w a n zs := by
  have hl : zs.length = n := by have := h.1; rw [bv_length] at this; omega
  refine ⟨hl, hz, fun hn => ?_⟩
  rcases h.2 with ⟨e, h0⟩ | ⟨g, cap', cur, e, hb, hh, _⟩
  · omega
  · simp only [Value.slice.injEq, true_and] at e
    obtain ⟨rfl, rfl⟩ := e
    refine ⟨g, 0, rfl, (Array.getElem?_eq_some_iff.1 hh).1, fun k hk => ?_⟩
    rw [Nat.zero_add, h.cellAt k (by omega), bv_at zs k (by omega)]

theorem zeros_made (n : Nat) : (madeCells #[Value.int .u8 0] n).toList = bv (List.replicate n 0) := by
  rw [toList_madeCells_one]; simp [bv]

theorem list_same {L zs : List Int} {n : Nat} (h1 : L.length = n) (h2 : zs.length = n) (h : ∀ j, j < n → L.getD j 0 = zs.getD j 0) : L = zs := by
  apply List.ext_getElem?
  intro j
  by_cases hj : j < n
  · have := h j hj
    simp only [List.getD_eq_getElem?_getD] at this
    rw [List.getElem?_eq_getElem (by omega), List.getElem?_eq_getElem (by omega)] at this ⊢
    simpa using this
  · rw [List.getElem?_eq_none (by omega), List.getElem?_eq_none (by omega)]

theorem getD_set (L : List Int) (i j : Nat) (z : Int) : (L.set j z).getD i 0 = if i = j ∧ j < L.length then z else L.getD i 0 := by
  simp only [List.getD_eq_getElem?_getD, List.getElem?_set]
  by_cases h : i = j
  · subst h
    by_cases k : i < L.length
    · simp [k]
    · simp [k]
  · simp [h, Ne.symm h]

set_option maxHeartbeats 400000 in
theorem clone_any (a : Option Addr) (n cap : Nat) (zs : List Int) (w : World) (h : Row w a n zs) (hn : n ≤ 1048576) (hnil : a = none → n = 0 ∧ cap = 0) :
    Calls Try.prog 12 #[.slice a n cap] w fun e w' => ∃ a', e = .returned (.slice a' n n) ∧ w'.ownsRow w.heap.size 5 1 (.slice a' n n) n (bv zs) ∧ Below w.heap.size w w' := by
  obtain ⟨i0, hi, hz0, hz1, hz2⟩ := info_parts info5
  have q28 : ∀ (w : World) (a : Option Addr) (n c n' c' : Nat), (binOp .eql 28 (.slice a n c) (.slice none n' c')).run Try.prog w = .ok (.bool a.isNone) w := fun w a n c n' c' => Lib.run_eql_slice_nil w _ _ a n c n' c' Try.underlying28
  cases a with
  | none =>
    obtain ⟨rfl, rfl⟩ := hnil rfl
    obtain rfl : zs = [] := List.eq_nil_of_length_eq_zero h.len
    go_enter Try.func12, Try.ntmps12
    go_wp2
    go_ret
    exact ⟨none, rfl, World.ownsRow_nil _ _ _ _, Below.refl _ _⟩
  | some ad =>
    clear hnil
    go_enter Try.func12, Try.ntmps12
    go_wp2_with (first
      | (at_make; refine wpList_make_full _ rfl _ _ 28 rfl w.heap.size 5 i0 (.int .u8 0) 1 Try.underlying28 hi hz0 hz1 _ _ _ _ n rfl rfl rfl rfl ?b2 ?b3 (Nat.le_refl _) ?_)
      | go_in)
    case b2 => rw [hz2]; omega
    case b3 => unfold maxLen; omega
    intro w1 hown1 hg1
    rw [zeros_made] at hown1
    have hb1 : Below w.heap.size w w1 := (Below.refl _ _).grown hg1 (Nat.le_refl _) (by simp)
    have hcells : 0 < n → ∃ b off, ad = ⟨b, off, none⟩ ∧ b < w.heap.size ∧ ∀ k, k < n → w.cell? ⟨b, off + k, none⟩ = some (.int .u8 (zs.getD k 0)) := fun hp => by
      obtain ⟨b, off, e, r⟩ := h.cells hp
      exact ⟨b, off, Option.some.inj e, r⟩
    have HL : Hid (zs.length = n) := h.len
    have HC := hide hcells
    clear h hcells hg1
    generalize hB : w.heap.size = B at *
    have HB := hide hB
    clear hB
    go_wp2
    go_loopw [4] (fun i wr => ∃ (k : Nat) (L : List Int), k ≤ n ∧ i = .int .i64 k ∧ L.length = n ∧ (∀ j, j < k → L.getD j 0 = zs.getD j 0) ∧ wr.ownsRow B 5 1 (.slice (some ⟨B, 0, none⟩) n n) n (bv L) ∧ Below B w wr)
      (fun i _ => n - (intOf i).toNat)
    case atStart => exact ⟨0, _, Nat.zero_le _, rfl, by simp, by omega, hown1, hb1⟩
    case round =>
      obtain ⟨k, L, hk, rfl, hL, hsame, hown, hbel⟩ := hrel
      clear hown1 hb1
      have HS := hide hsame
      have HLL := hide hL
      clear hsame hL
      by_cases hlt : k < n
      · obtain ⟨b, off, rfl, hbB, hc⟩ := unhide HC (by omega)
        obtain ⟨z, hz⟩ : ∃ z, z = zs.getD k 0 := ⟨_, rfl⟩
        have c1 : wr.cell? ⟨b, off + k, none⟩ = some (.int .u8 z) := by rw [hz]; exact (hbel.cell (p := ⟨b, off + k, none⟩) hbB).trans (hc k hlt)
        obtain ⟨y, c2⟩ : ∃ y, wr.cell? ⟨B, k, none⟩ = some (.int .u8 y) := ⟨_, by rw [hown.cellAt k (by omega), bv_at L k (by have := unhide HLL; omega)]⟩
        have c3 := hown.frozenAt k
        have hst := hown.stored k (.int .u8 z)
        rw [bv_set] at hst
        have HZ := hide hz
        clear hz hc
        go_wp2
        go_roundw
        case rel =>
          refine ⟨k + 1, L.set k z, by omega, by go_num, by simp [unhide HLL], fun j hj => ?_, hst.1, hbel.setCell (Nat.le_refl _) _⟩
          rw [getD_set]
          have := unhide HLL
          by_cases e : j = k
          · rw [if_pos ⟨e, by omega⟩, unhide HZ, e]
          · rw [if_neg (fun q => e q.1)]; exact unhide HS j (by omega)
        case measure => simp [intOf]; omega
      · go_wp2
        go_ret
        have : k = n := by omega
        subst this
        rw [list_same (unhide HLL) HL.out (unhide HS)] at hown
        rw [unhide HB]
        exact ⟨_, rfl, hown, hbel⟩


set_option maxHeartbeats 400000 in
theorem appendBytes_any (B : Nat) (v : Value) (m : Nat) (xs : List Int) (a : Option Addr) (n cap : Nat) (zs : List Int) (w : World) (hv : w.ownsRow B 5 1 v m (bv xs)) (hBw : B ≤ w.heap.size)
    (h : Row w a n zs) (hsep : ∀ b off, a = some ⟨b, off, none⟩ → b < B) (hn : n + m ≤ 16777216) :
    Calls Try.prog 14 #[v, .slice a n cap] w fun e w' => ∃ v', e = .returned v' ∧ w'.ownsRow B 5 1 v' (m + n) (bv (xs ++ zs)) ∧ Below B w w' := by
  obtain ⟨i0, hi, hz0, hz1, hz2⟩ := info_parts info5
  have HL : Hid (zs.length = n) := h.len
  have HC := hide h.cells
  have HSep := hide hsep
  clear h hsep
  go_enter Try.func14, Try.ntmps14
  go_wp2
  go_loopw [0, 5] (fun v i wr => ∃ (k : Nat), k ≤ n ∧ i = .int .i64 k ∧ wr.ownsRow B 5 1 v (m + k) (bv (xs ++ zs.take k)) ∧ Below B w wr)
      (fun _ i _ => n - (intOf i).toNat)
  case atStart => exact ⟨0, Nat.zero_le _, rfl, by simpa using hv, Below.refl _ _⟩
  case round =>
    obtain ⟨k, hk, rfl, hown, hbel⟩ := hrel
    clear hv
    by_cases hlt : k < n
    · obtain ⟨b, off, rfl, hbB, hc⟩ := unhide HC (by omega)
      have hbB' := unhide HSep b off rfl
      obtain ⟨z, hz⟩ : ∃ z, z = zs.getD k 0 := ⟨_, rfl⟩
      have c1 : wr.cell? ⟨b, off + k, none⟩ = some (.int .u8 z) := by rw [hz]; exact (hbel.cell (p := ⟨b, off + k, none⟩) hbB').trans (hc k hlt)
      have hsz := hbel.size
      have HZ := hide hz
      clear hz hc
      go_wp2_with (first
        | (at_builtin; refine wpList_append_own _ rfl _ _ 28 rfl B 5 i0 (.int .u8 0) 1 1 Try.underlying28 hi hz0 hz1 hz2 rfl (by decide) _ _ _ rfl (hown.alloc _) ⟨wr.heap.size, 0, none⟩ 1 1 [.int .u8 z] rfl rfl ?c1 ?c2 ?c3 ?c4 ?c5 ?_)
        | go_in)
      case c1 => exact cell_one_new _ _ _
      case c2 => exact ints_oneCell .u8 [z]
      case c3 => unfold maxLen; omega
      case c4 => omega
      case c5 => simp; omega
      intro v' w1 hown' hgrow _
      have hb2 : Below B w w1 := (hbel.alloc (by omega) _).grown hgrow (by simp; omega) (fun q hq => (hown.lt q hq).1)
      have hown2 : w1.ownsRow B 5 1 v' (m + (k + 1)) (bv (xs ++ zs.take (k + 1))) := by
        have e : bv (xs ++ zs.take (k + 1)) = bv (xs ++ zs.take k) ++ [.int .u8 z] := by
          have hkl : k < zs.length := by have := unhide HL; omega
          rw [List.take_succ_eq_append_getElem hkl, ← List.append_assoc, bv_append (xs ++ zs.take k), unhide HZ]
          simp [bv, List.getD, hkl]
        rw [e]
        exact hown'
      clear hown' hgrow hown hbel c1
      go_wp2
      go_roundw
      case rel => exact ⟨k + 1, by omega, by go_num, hown2, hb2⟩
      case measure => simp [intOf]; omega
    · go_wp2
      go_ret
      have : k = n := by omega
      subst this
      rw [List.take_of_length_le (by have := unhide HL; omega)] at hown
      exact ⟨_, rfl, hown, hbel⟩

end Go.Proofs.Qxb6602361a
