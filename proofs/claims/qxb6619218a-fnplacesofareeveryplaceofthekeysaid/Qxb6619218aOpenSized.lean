/-
  A slice of strings that came in, opened into what the walks ask ('StrsAt'), with its strings' bounds.
-/
import Derived.Test.Qxb6619218aStrs
import Derived.ProofKit
import Derived.SliceStrings
namespace Go.Proofs.Qxb6619218a
open Go.ChangeShapes Go.WideShapes Go.ChangeAt Go.RowKit

theorem strs_of_sized {H : Type} {enc : TypeId × Value → H} {P : Program} {W : World} {fuel t e : Nat} {a0 : Option Addr} {len0 cap0 : Nat} {y : DataW H × List MemPlace}
    (ht : P.underlying t = some (.slice e)) (he : P.underlying e = some .string) (hc : P.cellsOf e = 1)
    (hf : DataW.trod enc P W 0 (fun _ => true) true fuel t (Value.cells (.slice a0 len0 cap0)).toList = some y) (hlt : ∀ x ∈ y.2, x.block < W.heap.size) :
    ∃ ss : List ByteArray, len0 ≤ 9223372036854775807 ∧ ss.length = len0 ∧ StrsAt W a0 ss ∧ (a0 = none → len0 = 0 ∧ cap0 = 0) ∧ ∀ s ∈ ss, s.size ≤ maxLen := by
  rcases open_strings ht he hc hf with ⟨hcs, hx⟩ | ⟨a, len', cap', ss, hcs, _, hl, hm, hz, hx, hcell, hws⟩
  · simp [Value.cells] at hcs
    obtain ⟨rfl, rfl, rfl⟩ := hcs
    exact ⟨[], by omega, rfl, Or.inl rfl, fun _ => ⟨rfl, rfl⟩, by simp⟩
  · simp [Value.cells] at hcs
    obtain ⟨rfl, rfl, rfl⟩ := hcs
    simp only [if_true] at hz
    unfold maxLen at hm
    refine ⟨ss.take len0, by omega, by simp; omega, ?_, (fun h => by cases h), fun s hs => hws s (List.mem_of_mem_take hs)⟩
    by_cases hl0 : len0 = 0
    · left; subst hl0; rfl
    · obtain ⟨b, off, spot⟩ := a
      have hspot : spot = none := by simpa [Addr.add] using World.cell?_spot (hcell 0 (by omega))
      subst hspot
      refine Or.inr ⟨b, off, rfl, hlt (.cell b off) (by rw [hx]; exact MemPlace.mem_row.2 ⟨0, by omega, by simp⟩), fun j hj => ?_⟩
      simp at hj
      rw [← add_plain, hcell j (by omega)]
      have : j < len0 := by omega
      simp [List.getD, this]

end Go.Proofs.Qxb6619218a
