/-
  Small facts on what is owned and on what came in.
-/
import Derived.Test.Qxb6602361aBytes
import Derived.OpenShut
namespace Go.Proofs.Qxb6602361a
open Go.RowKit
set_option linter.unusedVariables false

theorem owns_below {w w' : World} {base n : Nat} {v : Value} {xs : List Value} (h : w.ownsRow base 5 1 v n xs) (hb : Below w.heap.size w w') : w'.ownsRow base 5 1 v n xs :=
  h.kept (row := none) ⟨hb.os, hb.tape, hb.output, hb.size, fun k hk _ => hb.block k hk⟩ (by cases v.ownBlock <;> simp)

theorem owns_shape {w : World} {base n : Nat} {v : Value} {xs : List Value} (h : w.ownsRow base 5 1 v n xs) : ∃ a cap, v = .slice a n cap ∧ (a = none → n = 0 ∧ cap = 0) := by
  rcases h.2 with ⟨rfl, rfl⟩ | ⟨g, cap, cur, rfl, _⟩
  · exact ⟨none, 0, rfl, fun _ => ⟨rfl, rfl⟩⟩
  · exact ⟨_, cap, rfl, fun e => by cases e⟩

/-- What is owned from 'base' on lies in no block below it. -/
theorem owns_apart {w : World} {base base' n n' : Nat} {v v' : Value} {xs xs' : List Value} (h : w.ownsRow base 5 1 v n xs) (h' : ∀ k, v'.ownBlock = some k → k < base) :
    v.ownBlock = none ∨ v.ownBlock ≠ v'.ownBlock := by
  cases e : v.ownBlock with
  | none => exact .inl rfl
  | some g =>
    refine .inr fun he => ?_
    have h1 := (h.lt g e).1
    have h2 := h' g he.symm
    omega

theorem byt_take {zs : List Int} (h : ∀ n ∈ zs, (Lit.int .u8 n).wf = true) (k : Nat) : Byt (zs.take k) := by
  intro i
  by_cases hi : i < (zs.take k).length
  · have hm : (zs.take k)[i] ∈ zs := List.mem_of_mem_take (List.getElem_mem hi)
    have := bounds_u8 (h _ hm)
    rw [List.getD_eq_getElem?_getD, List.getElem?_eq_getElem hi]
    exact this
  · simp [List.getD_eq_getElem?_getD, List.getElem?_eq_none (Nat.le_of_not_lt hi)]

theorem row_in {w : World} {a : Option Addr} {len cap : Nat} {zs : List Int}
    (h : (a = none ∧ len = 0 ∧ cap = 0 ∧ zs = []) ∨
      ∃ x, a = some x ∧ len ≤ cap ∧ cap ≤ maxLen ∧ zs.length = cap ∧ (∀ i, i < zs.length → w.cell? (x.add i) = some (.int .u8 (zs.getD i 0))) ∧ ∀ n ∈ zs, (Lit.int .u8 n).wf = true) :
    Row w a len (zs.take len) ∧ (a = none → len = 0 ∧ cap = 0) ∧ len ≤ maxLen := by
  rcases h with ⟨rfl, rfl, rfl, rfl⟩ | ⟨x, rfl, hl, hm, hz, hc, hw⟩
  · exact ⟨⟨rfl, fun i => by simp, fun h => by omega⟩, fun _ => ⟨rfl, rfl⟩, by simp [maxLen]⟩
  · refine ⟨⟨by simp; omega, byt_take hw len, fun hn => ?_⟩, (fun e => by cases e), by omega⟩
    obtain ⟨b, off, rfl, hc'⟩ := ints_at hc (by omega)
    refine ⟨b, off, rfl, World.block_lt_of_cell? w _ (hc' 0 (by omega)), fun k hk => ?_⟩
    rw [hc' k (by omega)]
    simp [List.getD_eq_getElem?_getD, hk]

end Go.Proofs.Qxb6602361a
