/-
  A slice of marks that came in, opened into what the walk asks.
-/
import Derived.Test.Qxb6619218aSum
import Derived.ProofKit
import Derived.Deep.Slices
namespace Go.Proofs.Qxb6619218a
open Go.ChangeShapes Go.WideShapes Go.ChangeAt Go.RowKit Go.Deep

theorem Try.cells37 : Try.prog.cellsOf 37 = 8 := by kernel_rfl
theorem Try.cells4 : Try.prog.cellsOf 4 = 1 := by kernel_rfl
theorem Try.cells3 : Try.prog.cellsOf 3 = 1 := by kernel_rfl

theorem eight {α : Type} : ∀ (l : List α), l.length = 8 → ∃ a b c d e f g h, l = [a, b, c, d, e, f, g, h]
  | [a, b, c, d, e, f, g, h], _ => ⟨a, b, c, d, e, f, g, h, rfl⟩

/-- The cells of one element. -/
theorem elem_cells {H : Type} {enc : TypeId × Value → H} {W : World} {base : Nat} {sp : Nat → Bool} {held : Bool} {n : Nat} {cs : List Value} {y : DataW H × List MemPlace}
    (h : DataW.trod enc Try.prog W base sp held n 37 cs = some y) : ∃ m : MM, cs = [.bool m.s, .bool m.g, .bool m.u, .bool m.a, .bool m.r, .bool m.p, .int .i64 m.n, .bool m.l] := by
  obtain ⟨xs, k, rfl, rfl, hlen, hxl, hf⟩ := DataW.trod_struct Try.underlying37 h
  rw [Try.cells37] at hlen
  obtain ⟨c0, c1, c2, c3, c4, c5, c6, c7, rfl⟩ := eight cs hlen
  have hx8 : xs.length = 8 := hxl
  obtain ⟨x0, x1, x2, x3, x4, x5, x6, x7, rfl⟩ := eight xs hx8
  have f0 : DataW.trod enc Try.prog W base sp held k 4 (([c0, c1, c2, c3, c4, c5, c6, c7].drop 0).take (Try.prog.cellsOf 4)) = some x0 := hf 0 _ rfl
  have f1 : DataW.trod enc Try.prog W base sp held k 4 (([c0, c1, c2, c3, c4, c5, c6, c7].drop 1).take (Try.prog.cellsOf 4)) = some x1 := hf 1 _ rfl
  have f2 : DataW.trod enc Try.prog W base sp held k 4 (([c0, c1, c2, c3, c4, c5, c6, c7].drop 2).take (Try.prog.cellsOf 4)) = some x2 := hf 2 _ rfl
  have f3 : DataW.trod enc Try.prog W base sp held k 4 (([c0, c1, c2, c3, c4, c5, c6, c7].drop 3).take (Try.prog.cellsOf 4)) = some x3 := hf 3 _ rfl
  have f4 : DataW.trod enc Try.prog W base sp held k 4 (([c0, c1, c2, c3, c4, c5, c6, c7].drop 4).take (Try.prog.cellsOf 4)) = some x4 := hf 4 _ rfl
  have f5 : DataW.trod enc Try.prog W base sp held k 4 (([c0, c1, c2, c3, c4, c5, c6, c7].drop 5).take (Try.prog.cellsOf 4)) = some x5 := hf 5 _ rfl
  have f6 : DataW.trod enc Try.prog W base sp held k 3 (([c0, c1, c2, c3, c4, c5, c6, c7].drop 6).take (Try.prog.cellsOf 3)) = some x6 := hf 6 _ rfl
  have f7 : DataW.trod enc Try.prog W base sp held k 4 (([c0, c1, c2, c3, c4, c5, c6, c7].drop 7).take (Try.prog.cellsOf 4)) = some x7 := hf 7 _ rfl
  rw [Try.cells4] at f0 f1 f2 f3 f4 f5 f7
  rw [Try.cells3] at f6
  obtain ⟨b0, e0, _⟩ := DataW.trod_bool Try.underlying4 f0
  obtain ⟨b1, e1, _⟩ := DataW.trod_bool Try.underlying4 f1
  obtain ⟨b2, e2, _⟩ := DataW.trod_bool Try.underlying4 f2
  obtain ⟨b3, e3, _⟩ := DataW.trod_bool Try.underlying4 f3
  obtain ⟨b4, e4, _⟩ := DataW.trod_bool Try.underlying4 f4
  obtain ⟨b5, e5, _⟩ := DataW.trod_bool Try.underlying4 f5
  obtain ⟨n6, e6, _⟩ := DataW.trod_int Try.underlying3 f6
  obtain ⟨b7, e7, _⟩ := DataW.trod_bool Try.underlying4 f7
  simp at e0 e1 e2 e3 e4 e5 e6 e7
  subst e0 e1 e2 e3 e4 e5 e6 e7
  exact ⟨⟨b0, b1, b2, b3, b4, b5, n6, b7⟩, rfl⟩

theorem marks_of {H : Type} {enc : TypeId × Value → H} {W : World} {fuel : Nat} {a0 : Option Addr} {len0 cap0 : Nat} {y : DataW H × List MemPlace}
    (hf : DataW.trod enc Try.prog W 0 (fun _ => true) true fuel 34 (Value.cells (.slice a0 len0 cap0)).toList = some y) (hlt : ∀ x ∈ y.2, x.block < W.heap.size) :
    ∃ ms : List MM, len0 ≤ 9223372036854775807 ∧ ms.length = len0 ∧ (len0 = 0 ∨ ∃ b off, a0 = some ⟨b, off, none⟩ ∧ b < W.heap.size ∧ ∀ k, k < ms.length → ElemAt W b (off + k * 8) (ms.getD k MM.zero)) := by
  rcases open_slice Try.underlying34 hf with ⟨hcs, hx⟩ | ⟨a, len', cap', m, n, D, Pl, hcs, _, hl, hm, hmm, hx, hel⟩
  · simp [Value.cells] at hcs
    obtain ⟨rfl, rfl, rfl⟩ := hcs
    exact ⟨[], by omega, rfl, Or.inl rfl⟩
  · simp [Value.cells] at hcs
    obtain ⟨rfl, rfl, rfl⟩ := hcs
    simp only [if_true] at hmm
    unfold maxLen at hm
    rw [Try.cells37] at hel hx
    by_cases h0 : len0 = 0
    · subst h0; exact ⟨[], by omega, rfl, Or.inl rfl⟩
    · have hcells : ∀ i, i < m → ∃ mm : MM, ∃ cs', cs' = [Value.bool mm.s, .bool mm.g, .bool mm.u, .bool mm.a, .bool mm.r, .bool mm.p, .int .i64 mm.n, .bool mm.l] ∧ ∀ j, j < 8 → W.cell? ((a.add (i * 8)).add j) = cs'[j]? := by
        intro i hi
        obtain ⟨cs', h1, h2⟩ := hel i hi
        obtain ⟨mm, e⟩ := elem_cells h2
        obtain ⟨_, _, h3⟩ := World.cells?_some h1
        exact ⟨mm, cs', e, h3⟩
      have hm0 : 0 < m := by omega
      obtain ⟨b, off, spot⟩ := a
      have hspot : spot = none := by
        obtain ⟨mm, cs', e, h3⟩ := hcells 0 hm0
        have h4 := h3 0 (by omega)
        rw [e] at h4
        have h5 : W.cell? ⟨b, off, spot⟩ = some (.bool mm.s) := by simpa [Addr.add] using h4
        exact World.cell?_spot h5
      subst hspot
      haveI : Inhabited MM := ⟨MM.zero⟩
      obtain ⟨f, hfm⟩ := choose_lt (n := m) (p := fun i mm => ElemAt W b (off + i * 8) mm) (fun i hi => by
        obtain ⟨mm, cs', e, h3⟩ := hcells i hi
        subst e
        have ea : ∀ j, Addr.add (Addr.add ⟨b, off, none⟩ (i * 8)) j = ⟨b, off + i * 8 + j, none⟩ := by
          intro j; rw [add_plain, add_plain]
        refine ⟨mm, ?_, ?_, ?_, ?_, ?_, ?_, ?_, ?_⟩
        · have := h3 0 (by omega); rw [ea] at this; simpa using this
        · have := h3 1 (by omega); rw [ea] at this; simpa using this
        · have := h3 2 (by omega); rw [ea] at this; simpa using this
        · have := h3 3 (by omega); rw [ea] at this; simpa using this
        · have := h3 4 (by omega); rw [ea] at this; simpa using this
        · have := h3 5 (by omega); rw [ea] at this; simpa using this
        · have := h3 6 (by omega); rw [ea] at this; simpa using this
        · have := h3 7 (by omega); rw [ea] at this; simpa using this)
      refine ⟨(List.range len0).map f, by omega, by simp, Or.inr ⟨b, off, rfl, ?_, fun k hk => ?_⟩⟩
      · apply hlt (.cell b off)
        rw [hx]
        exact List.mem_append_left _ (MemPlace.mem_row.2 ⟨0, by omega, by simp⟩)
      · have hk' : k < len0 := by simpa using hk
        have : ((List.range len0).map f).getD k MM.zero = f k := by simp [List.getD, hk']
        rw [this]
        exact hfm k (by omega)

end Go.Proofs.Qxb6619218a
