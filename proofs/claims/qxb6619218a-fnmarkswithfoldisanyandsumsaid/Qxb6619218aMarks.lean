/-
  THE WALKS of the small functions on marks: zzMarksOf, ZZWith, zzFieldsOf.
-/
import Derived.Test.Qxb6619218aWith
import Derived.WalkSpells
import Derived.WalkLawsBesides
import Derived.Deep.QuietTactic
import Derived.BigQuiet
namespace Go.Proofs.Qxb6619218a
open Go.RowKit

/-- A marks value: seven flags and a count. -/
structure MM where
  s : Bool
  g : Bool
  u : Bool
  a : Bool
  r : Bool
  p : Bool
  n : Int
  l : Bool

/-- Its cells. -/
def MM.cells (m : MM) : Array Value := #[.bool m.s, .bool m.g, .bool m.u, .bool m.a, .bool m.r, .bool m.p, .int .i64 m.n, .bool m.l]

set_option maxRecDepth 100000 in
theorem make_any (b0 b1 b2 b3 b4 b5 b7 : Bool) (n : Int) (w : World) :
    Calls Try.prog 25 #[.bool b0, .bool b1, .bool b2, .bool b3, .bool b4, .bool b5, .int .i64 n, .bool b7] w fun e w' =>
      e = .returned (.agg #[.bool b0, .bool b1, .bool b2, .bool b3, .bool b4, .bool b5, .int .i64 n, .bool b7]) ∧ Below w.heap.size w w' := by
  go_enter Try.func25, Try.ntmps25
  go_wp2
  exact bodyPost_ret (v := .agg #[.bool b0, .bool b1, .bool b2, .bool b3, .bool b4, .bool b5, .int .i64 n, .bool b7]) (by simp [results, Try.results25, go_sem]) rfl ⟨rfl, (Below.refl _ _).alloc (Nat.le_refl _) _⟩

set_option maxRecDepth 100000 in
theorem in_any (b0 b1 b2 b3 b4 b5 b7 : Bool) (n : Int) (w : World) :
    Calls Try.prog 27 #[.bool b0, .bool b1, .bool b2, .bool b3, .bool b4, .bool b5, .int .i64 n, .bool b7] w fun e w' =>
      e = .returned (.agg #[.bool b0, .bool b1, .bool b2, .bool b3, .bool b4, .bool b5, .int .i64 n, .bool b7]) ∧ Below w.heap.size w w' := by
  go_enter Try.func27, Try.ntmps27
  go_wp2
  exact bodyPost_ret (v := .agg #[.bool b0, .bool b1, .bool b2, .bool b3, .bool b4, .bool b5, .int .i64 n, .bool b7]) (by simp [results, Try.results27, go_sem]) rfl ⟨rfl, (Below.refl _ _).alloc (Nat.le_refl _) _⟩

theorem below_drewN {B : Nat} {w w' : World} (h : Below B w w') (n : Nat) : Below B w (w'.drewN n) := ⟨h.os, h.tape, h.output, h.size, h.block⟩

set_option maxRecDepth 100000 in
theorem fields_any (b0 b1 b2 b3 b4 b5 b7 : Bool) (n : Int) (w : World) :
    Calls Try.prog 28 #[.agg #[.bool b0, .bool b1, .bool b2, .bool b3, .bool b4, .bool b5, .int .i64 n, .bool b7]] w fun e w' =>
      e = .returned (.tuple #[.bool b0, .bool b1, .bool b2, .bool b3, .bool b4, .bool b5, .int .i64 n, .bool b7]) ∧ Below w.heap.size w w' := by
  go_enter Try.func28, Try.ntmps28
  go_wp2
  go_quiet (fail)
  go_wp2
  exact bodyPost_ret (v := .tuple #[.bool b0, .bool b1, .bool b2, .bool b3, .bool b4, .bool b5, .int .i64 n, .bool b7]) (by simp [results, Try.results28, go_sem]) rfl ⟨rfl, below_drewN ((Below.refl _ _).alloc (Nat.le_refl _) _) _⟩

theorem bcell {W w1 : World} (hb : Below W.heap.size W w1) : (∀ b o, b < W.heap.size → w1.cell? ⟨b, o, none⟩ = W.cell? ⟨b, o, none⟩) ∧ (∀ b o, b < W.heap.size → w1.frozen? ⟨b, o, none⟩ = W.frozen? ⟨b, o, none⟩) :=
  ⟨fun b o h => hb.cell (p := ⟨b, o, none⟩) h, fun b o h => hb.frozen (p := ⟨b, o, none⟩) h⟩

theorem below_set8 {B b : Nat} {w w' : World} (h : Below B w w') (hb : B ≤ b) (v0 v1 v2 v3 v4 v5 v6 v7 : Value) :
    Below B w ((((((((w'.setCell ⟨b, 0, none⟩ v0).setCell ⟨b, 1, none⟩ v1).setCell ⟨b, 2, none⟩ v2).setCell ⟨b, 3, none⟩ v3).setCell ⟨b, 4, none⟩ v4).setCell ⟨b, 5, none⟩ v5).setCell ⟨b, 6, none⟩ v6).setCell ⟨b, 7, none⟩ v7) :=
  (((((((h.setCell hb v0).setCell hb v1).setCell hb v2).setCell hb v3).setCell hb v4).setCell hb v5).setCell hb v6).setCell hb v7

set_option maxRecDepth 100000 in
set_option maxHeartbeats 400000 in
theorem of_any (b0 b1 b2 b3 b4 b5 b7 : Bool) (n : Int) (w : World) :
    Calls Try.prog 20 #[.agg #[.bool b0, .bool b1, .bool b2, .bool b3, .bool b4, .bool b5, .int .i64 n, .bool b7]] w fun e w' =>
      e = .returned (.agg #[.bool b0, .bool b1, .bool b2, .bool b3, .bool b4, .bool b5, .int .i64 n, .bool b7]) ∧ Below w.heap.size w w' := by
  go_enter Try.func20, Try.ntmps20
  go_wp2_with fail
  refine (make_any _ _ _ _ _ _ _ _ _).mono ?_
  rintro e w1 ⟨rfl, hb⟩
  obtain ⟨hc, hf⟩ := bcell hb
  have hz : w.heap.size + 1 < w1.heap.size := by have := hb.size; simp at this; omega
  go_wp2
  refine bodyPost_ret (v := .agg #[.bool b0, .bool b1, .bool b2, .bool b3, .bool b4, .bool b5, .int .i64 n, .bool b7]) (by simp [results, Try.results20, go_sem, hc]) rfl ⟨rfl, ?_⟩
  exact below_set8 ((((Below.refl _ _).alloc (Nat.le_refl _) _).alloc (by simp) _).trans (hb.mono (by simp; omega))) (by omega) _ _ _ _ _ _ _ _

set_option maxRecDepth 100000 in
set_option maxHeartbeats 400000 in
theorem zzwith_any (b0 b1 b2 b3 b4 b5 b7 c0 c1 c2 c3 c4 c5 c7 : Bool) (n m : Int) (w : World) :
    Calls Try.prog 21 #[.agg #[.bool b0, .bool b1, .bool b2, .bool b3, .bool b4, .bool b5, .int .i64 n, .bool b7], .agg #[.bool c0, .bool c1, .bool c2, .bool c3, .bool c4, .bool c5, .int .i64 m, .bool c7]] w fun e w' =>
      e = .returned (.agg #[.bool (b0 || c0), .bool (b1 || c1), .bool (b2 || c2), .bool (b3 || c3), .bool (b4 || c4), .bool (b5 || c5), .int .i64 (wrap64 (n + m)), .bool (b7 || c7)]) ∧ Below w.heap.size w w' := by
  go_enter Try.func21, Try.ntmps21
  go_wp2_with fail
  refine (with_any _ _ _ _ _ _ _ _ _ _ _ _ _ _ _ _ _).mono ?_
  rintro e w1 ⟨rfl, hb⟩
  obtain ⟨hc, hf⟩ := bcell hb
  have hz : w.heap.size + 1 + 1 < w1.heap.size := by have := hb.size; simp at this; omega
  go_wp2
  refine bodyPost_ret (v := .agg #[.bool (b0 || c0), .bool (b1 || c1), .bool (b2 || c2), .bool (b3 || c3), .bool (b4 || c4), .bool (b5 || c5), .int .i64 (wrap64 (n + m)), .bool (b7 || c7)]) (by simp [results, Try.results21, go_sem, hc]) rfl ⟨rfl, ?_⟩
  exact below_set8 (((((Below.refl _ _).alloc (Nat.le_refl _) _).alloc (by simp) _).alloc (by simp; omega) _).trans (hb.mono (by simp; omega))) (by omega) _ _ _ _ _ _ _ _

set_option maxRecDepth 100000 in
set_option maxHeartbeats 400000 in
theorem fieldsOf_any (b0 b1 b2 b3 b4 b5 b7 : Bool) (n : Int) (w : World) :
    Calls Try.prog 22 #[.agg #[.bool b0, .bool b1, .bool b2, .bool b3, .bool b4, .bool b5, .int .i64 n, .bool b7]] w fun e w' =>
      e = .returned (.agg #[.bool b0, .bool b1, .bool b2, .bool b3, .bool b4, .bool b5, .int .i64 n, .bool b7]) ∧ Below w.heap.size w w' := by
  go_enter Try.func22, Try.ntmps22
  go_wp2_with fail
  refine (fields_any _ _ _ _ _ _ _ _ _).mono ?_
  rintro e w1 ⟨rfl, hb⟩
  have hz1 : w.heap.size + 1 < w1.heap.size := by have := hb.size; simp at this; omega
  go_wp2_with fail
  refine (in_any _ _ _ _ _ _ _ _ _).mono ?_
  rintro e w2 ⟨rfl, hb2⟩
  have hz : w.heap.size + 1 < w2.heap.size := by have := hb2.size; omega
  have hbb := hb.trans (hb2.mono hb.size)
  obtain ⟨hc, hf⟩ := bcell hbb
  clear hb hb2
  go_wp2
  refine bodyPost_ret (v := .agg #[.bool b0, .bool b1, .bool b2, .bool b3, .bool b4, .bool b5, .int .i64 n, .bool b7]) (by simp [results, Try.results22, go_sem, hc]) rfl ⟨rfl, ?_⟩
  exact below_set8 ((((Below.refl _ _).alloc (Nat.le_refl _) _).alloc (by simp) _).trans (hbb.mono (by simp; omega))) (by omega) _ _ _ _ _ _ _ _

end Go.Proofs.Qxb6619218a
