/-
  From what a row hands over to a view.
-/
import Derived.Test.Qxb6600804aModsInts
namespace Go.Proofs.Qxb6600804aMods
open Go.RowKit
set_option linter.unusedVariables false
set_option linter.unusedSimpArgs false

theorem vw_of {w : World} {a : Option Addr} {len cap : Nat} {zs : List Int}
    (h : (a = none ∧ len = 0 ∧ cap = 0 ∧ zs = []) ∨ ∃ x, a = some x ∧ len ≤ cap ∧ cap ≤ maxLen ∧ zs.length = cap ∧ (∀ i, i < zs.length → w.cell? (x.add i) = some (.int .u8 (zs.getD i 0))) ∧ ∀ n ∈ zs, (Lit.int .u8 n).wf = true) :
    Vw w a len (zs.take len) ∧ (a = none → cap = 0) ∧ Byt (zs.take len) := by
  rcases h with ⟨rfl, rfl, rfl, rfl⟩ | ⟨x, rfl, hlc, hcm, hzl, hcell, hwf⟩
  · exact ⟨⟨rfl, fun _ => rfl, fun h => absurd h (Nat.lt_irrefl _)⟩, fun _ => rfl, fun x hx => by simp at hx⟩
  · refine ⟨⟨by simp; omega, fun h => (by cases h), fun hp => ?_⟩, fun h => (by cases h), fun y hy => ?_⟩
    · obtain ⟨b, off, rfl, hc⟩ := ints_at hcell (by omega)
      refine ⟨b, off, rfl, World.block_lt_of_cell? _ _ (hc 0 (by omega)), fun i hi => ?_⟩
      have hi' : i < len := by simp at hi; omega
      rw [nth_take _ _ _ hi']
      exact hc i (by omega)
    · have := bounds_u8 (hwf y (List.mem_of_mem_take hy)); omega
theorem vwI_of {w : World} {a : Option Addr} {len cap : Nat} {zs : List Int}
    (h : (a = none ∧ len = 0 ∧ cap = 0 ∧ zs = []) ∨ ∃ x, a = some x ∧ len ≤ cap ∧ cap ≤ maxLen ∧ zs.length = cap ∧ (∀ i, i < zs.length → w.cell? (x.add i) = some (.int .i64 (zs.getD i 0))) ∧ ∀ n ∈ zs, (Lit.int .i64 n).wf = true) :
    VwI w a len (zs.take len) ∧ (a = none → cap = 0) := by
  rcases h with ⟨rfl, rfl, rfl, rfl⟩ | ⟨x, rfl, hlc, hcm, hzl, hcell, hwf⟩
  · exact ⟨⟨rfl, fun _ => rfl, fun h => absurd h (Nat.lt_irrefl _)⟩, fun _ => rfl⟩
  · refine ⟨⟨by simp; omega, fun h => (by cases h), fun hp => ?_⟩, fun h => (by cases h)⟩
    obtain ⟨b, off, rfl, hc⟩ := ints_at hcell (by omega)
    refine ⟨b, off, rfl, World.block_lt_of_cell? _ _ (hc 0 (by omega)), fun i hi => ?_⟩
    have hi' : i < len := by simp at hi; omega
    rw [nth_take _ _ _ hi']
    exact hc i (by omega)
end Go.Proofs.Qxb6600804aMods
