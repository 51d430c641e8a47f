/-
  THE WALK of '(marks).with': eight fields, seven of them 'a || b': each such '||' is taken by ONE law, so that the walk does not part.
-/
import Derived.Test.Qxb6619218aProg
import Derived.WalkKit
namespace Go.Proofs.Qxb6619218a
open Go.RowKit

section
variable {P : Program} {ops : Array Oper} {Q : Exit → Act → World → Prop} {a : Act} {w : World} {rest : List Oper}

/-- A guarded operation whose guard says no. -/
theorem step_no {o : Oper} {j : Nat} (hg : o.guard = some (j, false)) (hy : yielded ops a.tmps j = some true) (h : wpList P ops Q rest (a.put o.dst undef) w) : wpList P ops Q (o :: rest) a w := by
  refine wpList_step fun K hK => ?_
  have : Region.wanted o (yielded ops a.tmps) = false := by simp [Region.wanted, hg, hy]
  rw [this]
  exact hK _ _ h
/-- A guarded operation whose guard says yes, and which yields a value and turns nothing. -/
theorem step_yes {o : Oper} {j : Nat} {v : Value} (hg : o.guard = some (j, false)) (hy : yielded ops a.tmps j = some false) (hr : (execOp a.eval o).run P w = .ok (.value v) w) (h : wpList P ops Q rest (a.put o.dst v) w) : wpList P ops Q (o :: rest) a w := by
  refine wpList_step fun K hK => ?_
  have : Region.wanted o (yielded ops a.tmps) = true := by simp [Region.wanted, hg, hy]
  rw [this]
  simp only [if_true]
  unfold Oper.wp
  rw [hr]
  exact hK _ _ h
theorem step_pick {o : Oper} {g x y : Operand} {b : Bool} (hg : o.guard = none) (ho : o.op = .pick g x y) (he : a.eval g = .bool b) (h : wpList P ops Q rest (a.put o.dst (if b then a.eval x else a.eval y)) w) : wpList P ops Q (o :: rest) a w := by
  refine wpList_plain hg fun K hK => ?_
  have hr : (execOp a.eval o).run P w = .ok (.value (if b then a.eval x else a.eval y)) w := by
    simp only [execOp, ho, he, asBool]
    rfl
  unfold Oper.wp
  rw [hr]
  exact hK _ _ h

/-- 'x || y.f': the guarded field's address, the guarded load, the pick. -/
theorem wpList_or3 {o1 o2 o3 : Oper} {j d1 d2 : Nat} {g : Operand} (g1 : o1.guard = some (j, false)) (g2 : o2.guard = some (j, false)) (g3 : o3.guard = none) (e1 : o1.dst = some d1) (e2 : o2.dst = some d2) (ho : o3.op = .pick g (.const (.bool true)) (.tmp d2))
    (b c : Bool) (p : Value) (y1 : yielded ops a.tmps j = some b) (y2 : ∀ u, yielded ops (a.put (some d1) u).tmps j = some b)
    (r1 : (execOp a.eval o1).run P w = .ok (.value p) w) (r2 : (execOp (a.put (some d1) p).eval o2).run P w = .ok (.value (.bool c)) w)
    (he : ∀ u1 u2, ((a.put (some d1) u1).put (some d2) u2).eval g = .bool b) (ht : ∀ u1 u2, ((a.put (some d1) u1).put (some d2) u2).eval (.tmp d2) = u2)
    (h : ∀ u1 u2, wpList P ops Q rest (((a.put (some d1) u1).put (some d2) u2).put o3.dst (.bool (b || c))) w) : wpList P ops Q (o1 :: o2 :: o3 :: rest) a w := by
  cases b with
  | true =>
    refine step_no g1 y1 ?_
    rw [e1]
    refine step_no g2 (y2 _) ?_
    rw [e2]
    refine step_pick g3 ho (he _ _) ?_
    exact h _ _
  | false =>
    refine step_yes g1 y1 r1 ?_
    rw [e1]
    refine step_yes g2 (y2 _) r2 ?_
    rw [e2]
    refine step_pick g3 ho (he _ _) ?_
    have := h p (.bool c)
    simp only [Bool.false_eq_true, if_false, ht]
    simpa using this

/-- The same with a field of a field. -/
theorem wpList_or4 {o1 o2 o3 o4 : Oper} {j d1 d2 d3 : Nat} {g : Operand} (g1 : o1.guard = some (j, false)) (g2 : o2.guard = some (j, false)) (g3 : o3.guard = some (j, false)) (g4 : o4.guard = none) (e1 : o1.dst = some d1) (e2 : o2.dst = some d2) (e3 : o3.dst = some d3) (ho : o4.op = .pick g (.const (.bool true)) (.tmp d3))
    (b c : Bool) (p q : Value) (y1 : yielded ops a.tmps j = some b) (y2 : ∀ u, yielded ops (a.put (some d1) u).tmps j = some b) (y3 : ∀ u u', yielded ops ((a.put (some d1) u).put (some d2) u').tmps j = some b)
    (r1 : (execOp a.eval o1).run P w = .ok (.value p) w) (r2 : (execOp (a.put (some d1) p).eval o2).run P w = .ok (.value q) w) (r3 : (execOp ((a.put (some d1) p).put (some d2) q).eval o3).run P w = .ok (.value (.bool c)) w)
    (he : ∀ u1 u2 u3, (((a.put (some d1) u1).put (some d2) u2).put (some d3) u3).eval g = .bool b) (ht : ∀ u1 u2 u3, (((a.put (some d1) u1).put (some d2) u2).put (some d3) u3).eval (.tmp d3) = u3)
    (h : ∀ u1 u2 u3, wpList P ops Q rest ((((a.put (some d1) u1).put (some d2) u2).put (some d3) u3).put o4.dst (.bool (b || c))) w) : wpList P ops Q (o1 :: o2 :: o3 :: o4 :: rest) a w := by
  cases b with
  | true =>
    refine step_no g1 y1 ?_
    rw [e1]
    refine step_no g2 (y2 _) ?_
    rw [e2]
    refine step_no g3 (y3 _ _) ?_
    rw [e3]
    refine step_pick g4 ho (he _ _ _) ?_
    exact h _ _ _
  | false =>
    refine step_yes g1 y1 r1 ?_
    rw [e1]
    refine step_yes g2 (y2 _) r2 ?_
    rw [e2]
    refine step_yes g3 (y3 _ _) r3 ?_
    rw [e3]
    refine step_pick g4 ho (he _ _ _) ?_
    have := h p q (.bool c)
    simp only [Bool.false_eq_true, if_false, ht]
    simpa using this
end

set_option maxRecDepth 100000 in
set_option maxHeartbeats 1000000 in
theorem with_any (b0 b1 b2 b3 b4 b5 b7 c0 c1 c2 c3 c4 c5 c7 : Bool) (n m : Int) (w : World) :
    Calls Try.prog 26 #[.agg #[.bool b0, .bool b1, .bool b2, .bool b3, .bool b4, .bool b5, .int .i64 n, .bool b7], .agg #[.bool c0, .bool c1, .bool c2, .bool c3, .bool c4, .bool c5, .int .i64 m, .bool c7]] w fun e w' =>
      e = .returned (.agg #[.bool (b0 || c0), .bool (b1 || c1), .bool (b2 || c2), .bool (b3 || c3), .bool (b4 || c4), .bool (b5 || c5), .int .i64 (wrap64 (n + m)), .bool (b7 || c7)]) ∧ Below w.heap.size w w' := by
  go_enter Try.func26, Try.ntmps26
  iterate 26 go_step
  refine wpList_or3 rfl rfl rfl rfl rfl rfl b0 c0 (.pointer (some ⟨w.heap.size + 1, 0, none⟩)) rfl (fun _ => rfl) (by go_simp) (by go_simp) (fun _ _ => rfl) (fun _ _ => rfl) ?_
  intro u01 u02
  iterate 12 go_step
  refine wpList_or4 rfl rfl rfl rfl rfl rfl rfl rfl b1 c1 (.pointer (some ⟨w.heap.size + 1, 1, none⟩)) (.pointer (some ⟨w.heap.size + 1, 1, none⟩)) rfl (fun _ => rfl) (fun _ _ => rfl) (by go_simp) (by go_simp) (by go_simp) (fun _ _ _ => rfl) (fun _ _ _ => rfl) ?_
  intro u11 u12 u13
  iterate 12 go_step
  refine wpList_or4 rfl rfl rfl rfl rfl rfl rfl rfl b2 c2 (.pointer (some ⟨w.heap.size + 1, 1, none⟩)) (.pointer (some ⟨w.heap.size + 1, 2, none⟩)) rfl (fun _ => rfl) (fun _ _ => rfl) (by go_simp) (by go_simp) (by go_simp) (fun _ _ _ => rfl) (fun _ _ _ => rfl) ?_
  intro u21 u22 u23
  iterate 12 go_step
  refine wpList_or4 rfl rfl rfl rfl rfl rfl rfl rfl b3 c3 (.pointer (some ⟨w.heap.size + 1, 1, none⟩)) (.pointer (some ⟨w.heap.size + 1, 3, none⟩)) rfl (fun _ => rfl) (fun _ _ => rfl) (by go_simp) (by go_simp) (by go_simp) (fun _ _ _ => rfl) (fun _ _ _ => rfl) ?_
  intro u31 u32 u33
  iterate 12 go_step
  refine wpList_or3 rfl rfl rfl rfl rfl rfl b4 c4 (.pointer (some ⟨w.heap.size + 1, 4, none⟩)) rfl (fun _ => rfl) (by go_simp) (by go_simp) (fun _ _ => rfl) (fun _ _ => rfl) ?_
  intro u41 u42
  iterate 9 go_step
  refine wpList_or3 rfl rfl rfl rfl rfl rfl b5 c5 (.pointer (some ⟨w.heap.size + 1, 5, none⟩)) rfl (fun _ => rfl) (by go_simp) (by go_simp) (fun _ _ => rfl) (fun _ _ => rfl) ?_
  intro u51 u52
  iterate 24 go_step
  refine wpList_or3 rfl rfl rfl rfl rfl rfl b7 c7 (.pointer (some ⟨w.heap.size + 1, 7, none⟩)) rfl (fun _ => rfl) (by go_simp) (by go_simp) (fun _ _ => rfl) (fun _ _ => rfl) ?_
  intro u71 u72
  go_wp2
  exact bodyPost_ret (v := .agg #[.bool (b0 || c0), .bool (b1 || c1), .bool (b2 || c2), .bool (b3 || c3), .bool (b4 || c4), .bool (b5 || c5), .int .i64 (wrap64 (n + m)), .bool (b7 || c7)]) (by simp [results, Try.results26, go_sem]) rfl ⟨rfl, (((Below.refl _ _).alloc (Nat.le_refl _) _).alloc (by simp) _).alloc (by simp; omega) _⟩

end Go.Proofs.Qxb6619218a
