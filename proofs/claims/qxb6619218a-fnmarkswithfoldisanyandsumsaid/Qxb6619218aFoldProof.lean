/-
  'Rows.FnMarksWithFoldIsAnyAndSumSaid', PROVED: the row's step round the walk. The frame is the guide's own for a law over a slice (proof-skeleton.mjs), turned to a slice of structs.
-/
import Derived.Test.Qxb6619218aRows
import Derived.Test.Qxb6619218aFold
import Derived.Test.Qxb6619218aFold0
import Derived.Test.Qxb6619218aOpenMarks
import Derived.WalkKit
import Derived.ProofKit
import Derived.OpenShut
import Derived.ShutString
import Derived.ChangeOld
import Derived.Below
namespace Go.Proofs.Qxb6619218a.fnMarksWithFoldIsAnyAndSum
open Go.ChangeShapes Go.WideShapes Go.ChangeAt Go.RowKit
open Go.ChangeMaps (open_string shut_string)

theorem own : ownKnob Try.prog.godebug = none := by kernel_rfl
theorem laidOut : laidOutB Try.prog = true := by kernel_rfl

theorem walk (a : Option Addr) (len cap : Nat) (ms : List MM) (w : World) (hm : len ≤ 9223372036854775807) (hlen : ms.length = len)
    (h : len = 0 ∨ ∃ b off, a = some ⟨b, off, none⟩ ∧ b < w.heap.size ∧ ∀ k, k < ms.length → ElemAt w b (off + k * 8) (ms.getD k MM.zero)) :
    Calls Try.prog 7 #[.slice a len cap] w fun e w' => e = .returned (.bool true) ∧ Below w.heap.size w w' := by
  rcases h with rfl | ⟨b, off, rfl, hb, he⟩
  · exact fold_none a cap w
  · by_cases hbig : 65536 < len
    · exact fold_big _ len cap w hbig hm
    · exact fold_some b off len cap ms w (by omega) hlen hb he

set_option maxRecDepth 100000 in
theorem lifted (os : Os) (started : os.Started) (H : Type) (enc : TypeId × Value → H) :
    ReturnsInHanded {} Try.checked os 7 .any (Rows.fnMarksWithFoldIsAnyAndSumSpec.pre6 enc Try.prog Try.f7 Rows.fnMarksWithFoldIsAnyAndSumRow.domain false) (Rows.fnMarksWithFoldIsAnyAndSumSpec.post enc Try.prog Try.f7 false true false false) := by
  refine returnsInHanded_of_change (C := Try.checked) own started (by kernel_rfl) Try.func7
    (ChangeSpec.witness6 (enc := enc) (C := Try.checked) false ⟨#[], #[.slice none 0 0], []⟩ 8 (by kernel_rfl) (by kernel_rfl) (by kernel_rfl) (by kernel_rfl)) ?_
  intro W base args ds gs before hval0 hW hcnd _
  have hval : ∀ (j : Nat) t v, Try.f7.params[j]? = some t → args[j]? = some v → Value.okWide Try.prog W .any base t v := hval0
  have hW' := hW
  obtain ⟨p, q, hA0, hV, rfl, hfz, hnd⟩ := hW
  have hA : DataW.TrodAll enc Try.prog W 0 (fun _ => true) true Try.f7.params.toList args.toList ds p := hA0
  rw [Try.params7] at hA hval
  obtain ⟨v0, vs0, d0, ds0, p0, q0, hargs, rfl, rfl, h0, r0⟩ := trodAll_cons hA
  obtain ⟨rfl, rfl, rfl⟩ := trodAll_nil r0
  obtain rfl : args = #[v0] := by cases args; simp_all
  obtain ⟨rfl, rfl⟩ := trodVars_none hV
  obtain ⟨a0, len0, cap0, rfl⟩ := okWide_slice Try.underlying34 (hval 0 34 v0 rfl rfl)
  have k0 := h0
  have lt0 : ∀ x ∈ p0, x.block < W.heap.size := by obtain ⟨m, hm⟩ := k0; exact DataW.trod_lt m _ _ _ hm
  obtain ⟨ms0, hm0, hlen0, hs0⟩ : ∃ ms : List MM, len0 ≤ 9223372036854775807 ∧ ms.length = len0 ∧ (len0 = 0 ∨ ∃ b off, a0 = some ⟨b, off, none⟩ ∧ b < W.heap.size ∧ ∀ k, k < ms.length → ElemAt W b (off + k * 8) (ms.getD k MM.zero)) := by
    obtain ⟨fuel, hf⟩ := h0
    exact marks_of hf lt0
  clear hA0 hval0
  refine (walk a0 len0 cap0 ms0 W hm0 hlen0 hs0).mono fun e W' ⟨he, bel⟩ => ?_
  subst he
  exact ⟨_, rfl, _, _, _, [], _, [], hW', trodAll_mk1 (shut_bool Try.underlying4 _), (trodAll_cons_mk (Below.trod laidOut (by kernel_rfl) (of_decide_eq_true (by kernel_rfl)) k0 bel lt0) trodAll_mk0), rfl, bel.frame _, fun h => by cases h⟩

theorem over : Rows.fnMarksWithFoldIsAnyAndSumRow.holds Try.pinned (OpenSpec.ofChange Rows.fnMarksWithFoldIsAnyAndSumSpec) :=
  OpenClaim.holds_of_wide 7 Try.f7 rfl rfl rfl rfl rfl rfl rfl ⟨rfl, rfl, rfl, rfl, rfl⟩ rfl rfl rfl rfl rfl (by kernel_rfl) Try.func7 (by kernel_rfl)
    (of_decide_eq_true (by kernel_rfl)) (by unfold Func.isWrapper; first | (rw [if_pos (by decide +kernel)]; kernel_rfl) | (rw [if_neg (by decide +kernel)]; exact ⟨rfl, rfl⟩))
    (fun os started H enc _ => lifted os started H enc)

/-- THE STATEMENT -/
theorem proved : Rows.FnMarksWithFoldIsAnyAndSumSaid := over
end Go.Proofs.Qxb6619218a.fnMarksWithFoldIsAnyAndSum
