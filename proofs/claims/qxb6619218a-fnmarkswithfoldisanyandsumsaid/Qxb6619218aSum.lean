/-
  WHAT THE WALK of 'FnMarksWithFoldIsAnyAndSum' leans on: a block of eight cells; one flag's store; the sum from the left and from the right.
-/
import Derived.Test.Qxb6619218aMarks
import Derived.Deep.Cut
import Derived.Deep.RegionWith
namespace Go.Proofs.Qxb6619218a
open Go.RowKit

def MM.zero : MM := ⟨false, false, false, false, false, false, 0, false⟩
def MM.add (m x : MM) : MM := ⟨m.s || x.s, m.g || x.g, m.u || x.u, m.a || x.a, m.r || x.r, m.p || x.p, wrap64 (m.n + x.n), m.l || x.l⟩

/-- An element of the slice that came in: eight cells. -/
def ElemAt (w : World) (b o : Nat) (m : MM) : Prop :=
  w.cell? ⟨b, o, none⟩ = some (.bool m.s) ∧ w.cell? ⟨b, o + 1, none⟩ = some (.bool m.g) ∧ w.cell? ⟨b, o + 2, none⟩ = some (.bool m.u) ∧ w.cell? ⟨b, o + 3, none⟩ = some (.bool m.a) ∧
  w.cell? ⟨b, o + 4, none⟩ = some (.bool m.r) ∧ w.cell? ⟨b, o + 5, none⟩ = some (.bool m.p) ∧ w.cell? ⟨b, o + 6, none⟩ = some (.int .i64 m.n) ∧ w.cell? ⟨b, o + 7, none⟩ = some (.bool m.l)

theorem ElemAt.below {w w' : World} {B b o : Nat} {m : MM} (h : ElemAt w b o m) (hb : Below B w w') (hlt : b < B) : ElemAt w' b o m := by
  obtain ⟨h0, h1, h2, h3, h4, h5, h6, h7⟩ := h
  have hc := fun j => hb.cell (p := ⟨b, j, none⟩) hlt
  exact ⟨(hc _).trans h0, (hc _).trans h1, (hc _).trans h2, (hc _).trans h3, (hc _).trans h4, (hc _).trans h5, (hc _).trans h6, (hc _).trans h7⟩

/-- A block that holds one marks value. -/
def Holds8 (w : World) (b : Nat) (t : TypeId) (m : MM) : Prop := w.heap[b]? = some (.cells #[.bool m.s, .bool m.g, .bool m.u, .bool m.a, .bool m.r, .bool m.p, .int .i64 m.n, .bool m.l] t (0, 0))

theorem Holds8.elem {w : World} {b : Nat} {t : TypeId} {m : MM} (h : Holds8 w b t m) :
    w.cell? ⟨b, 0, none⟩ = some (.bool m.s) ∧ w.cell? ⟨b, 1, none⟩ = some (.bool m.g) ∧ w.cell? ⟨b, 2, none⟩ = some (.bool m.u) ∧ w.cell? ⟨b, 3, none⟩ = some (.bool m.a) ∧
    w.cell? ⟨b, 4, none⟩ = some (.bool m.r) ∧ w.cell? ⟨b, 5, none⟩ = some (.bool m.p) ∧ w.cell? ⟨b, 6, none⟩ = some (.int .i64 m.n) ∧ w.cell? ⟨b, 7, none⟩ = some (.bool m.l) := by
  unfold Holds8 at h
  simp [World.cell?, h]
theorem Holds8.frozen {w : World} {b : Nat} {t : TypeId} {m : MM} (h : Holds8 w b t m) (j : Nat) : w.frozen? ⟨b, j, none⟩ = false := by
  unfold Holds8 at h
  simp [World.frozen?, h]
theorem Holds8.lt {w : World} {b : Nat} {t : TypeId} {m : MM} (h : Holds8 w b t m) : b < w.heap.size := (Array.getElem?_eq_some_iff.1 h).1
theorem Holds8.after {w W w' : World} {b : Nat} {t : TypeId} {m : MM} (h : Holds8 w b t m) (hW : W.heap = w.heap) (hb : Below W.heap.size W w') (hlt : b < w.heap.size) : Holds8 w' b t m := by
  unfold Holds8 at *; rw [hb.block b (by rw [hW]; exact hlt), hW]; exact h
theorem below_after {w W w' : World} (h1 : W.heap = w.heap) (h2 : W.os = w.os) (h3 : W.tape = w.tape) (h4 : W.output = w.output) (hb : Below W.heap.size W w') : Below w.heap.size w w' :=
  ⟨hb.os.trans h2, hb.tape.trans h3, hb.output.trans h4, by rw [← h1]; exact hb.size, fun k hk => by rw [hb.block k (by rw [h1]; exact hk), h1]⟩
theorem Holds8.below {w w' : World} {B b : Nat} {t : TypeId} {m : MM} (h : Holds8 w b t m) (hb : Below B w w') (hlt : b < B) : Holds8 w' b t m := by
  unfold Holds8 at *; rw [hb.block b hlt]; exact h

theorem blk_setCell {w : World} {g k : Nat} {cur : Array Value} {t : TypeId} {fr : Nat × Nat} (h : w.heap[g]? = some (.cells cur t fr)) (v : Value) : (w.setCell ⟨g, k, none⟩ v).heap[g]? = some (.cells (cur.setIfInBounds k v) t fr) := by
  have hlt : g < w.heap.size := (Array.getElem?_eq_some_iff.1 h).1
  have h' : w.heap[g] = .cells cur t fr := (Array.getElem?_eq_some_iff.1 h).2
  show (w.heap.modify g _)[g]? = _
  rw [Array.getElem?_eq_getElem (by simpa using hlt), Array.getElem_modify_self, h']
  rfl

theorem Holds8.set0 {w : World} {b : Nat} {t : TypeId} {m : MM} (h : Holds8 w b t m) (v : Bool) : Holds8 (w.setCell ⟨b, 0, none⟩ (.bool v)) b t { m with s := v } := by unfold Holds8 at *; rw [blk_setCell h]; rfl
theorem Holds8.set1 {w : World} {b : Nat} {t : TypeId} {m : MM} (h : Holds8 w b t m) (v : Bool) : Holds8 (w.setCell ⟨b, 1, none⟩ (.bool v)) b t { m with g := v } := by unfold Holds8 at *; rw [blk_setCell h]; rfl
theorem Holds8.set2 {w : World} {b : Nat} {t : TypeId} {m : MM} (h : Holds8 w b t m) (v : Bool) : Holds8 (w.setCell ⟨b, 2, none⟩ (.bool v)) b t { m with u := v } := by unfold Holds8 at *; rw [blk_setCell h]; rfl
theorem Holds8.set3 {w : World} {b : Nat} {t : TypeId} {m : MM} (h : Holds8 w b t m) (v : Bool) : Holds8 (w.setCell ⟨b, 3, none⟩ (.bool v)) b t { m with a := v } := by unfold Holds8 at *; rw [blk_setCell h]; rfl
theorem Holds8.set4 {w : World} {b : Nat} {t : TypeId} {m : MM} (h : Holds8 w b t m) (v : Bool) : Holds8 (w.setCell ⟨b, 4, none⟩ (.bool v)) b t { m with r := v } := by unfold Holds8 at *; rw [blk_setCell h]; rfl
theorem Holds8.set5 {w : World} {b : Nat} {t : TypeId} {m : MM} (h : Holds8 w b t m) (v : Bool) : Holds8 (w.setCell ⟨b, 5, none⟩ (.bool v)) b t { m with p := v } := by unfold Holds8 at *; rw [blk_setCell h]; rfl
theorem Holds8.set6 {w : World} {b : Nat} {t : TypeId} {m : MM} (h : Holds8 w b t m) (v : Int) : Holds8 (w.setCell ⟨b, 6, none⟩ (.int .i64 v)) b t { m with n := v } := by unfold Holds8 at *; rw [blk_setCell h]; rfl
theorem Holds8.set7 {w : World} {b : Nat} {t : TypeId} {m : MM} (h : Holds8 w b t m) (v : Bool) : Holds8 (w.setCell ⟨b, 7, none⟩ (.bool v)) b t { m with l := v } := by unfold Holds8 at *; rw [blk_setCell h]; rfl
theorem Holds8.far {w : World} {b : Nat} {t : TypeId} {m : MM} (h : Holds8 w b t m) (p : Addr) (v : Value) (hne : b ≠ p.block) : Holds8 (w.setCell p v) b t m := by unfold Holds8 at *; rw [Below.heap_setCell _ _ _ _ hne]; exact h
theorem Holds8.alloc {w : World} {b : Nat} {t : TypeId} {m : MM} (h : Holds8 w b t m) (o : Obj) : Holds8 (w.alloc o) b t m := by have := h.lt; unfold Holds8 at *; rw [Below.heap_alloc _ _ _ this]; exact h

theorem Holds8.set8 {w : World} {b : Nat} {t : TypeId} {m : MM} (h : Holds8 w b t m) (v : MM) :
    Holds8 ((((((((w.setCell ⟨b, 0, none⟩ (.bool v.s)).setCell ⟨b, 1, none⟩ (.bool v.g)).setCell ⟨b, 2, none⟩ (.bool v.u)).setCell ⟨b, 3, none⟩ (.bool v.a)).setCell ⟨b, 4, none⟩ (.bool v.r)).setCell ⟨b, 5, none⟩ (.bool v.p)).setCell ⟨b, 6, none⟩ (.int .i64 v.n)).setCell ⟨b, 7, none⟩ (.bool v.l)) b t v :=
  (((((((h.set0 v.s).set1 v.g).set2 v.u).set3 v.a).set4 v.r).set5 v.p).set6 v.n).set7 v.l
theorem Holds8.far8 {w : World} {b c : Nat} {t : TypeId} {m : MM} (h : Holds8 w b t m) (hne : b ≠ c) (v0 v1 v2 v3 v4 v5 v6 v7 : Value) :
    Holds8 ((((((((w.setCell ⟨c, 0, none⟩ v0).setCell ⟨c, 1, none⟩ v1).setCell ⟨c, 2, none⟩ v2).setCell ⟨c, 3, none⟩ v3).setCell ⟨c, 4, none⟩ v4).setCell ⟨c, 5, none⟩ v5).setCell ⟨c, 6, none⟩ v6).setCell ⟨c, 7, none⟩ v7) b t m :=
  (((((((h.far _ v0 hne).far _ v1 hne).far _ v2 hne).far _ v3 hne).far _ v4 hne).far _ v5 hne).far _ v6 hne).far _ v7 hne

/-- Storing what a cell holds turns nothing. -/
theorem setCell_same {w : World} {b f : Nat} {v : Value} (h : w.cell? ⟨b, f, none⟩ = some v) : w.setCell ⟨b, f, none⟩ v = w := by
  have hh : (w.heap.modify b fun
      | .cells c elem frozen => .cells (if (none : Option Nat).isSome then c else c.setIfInBounds f v) elem frozen
      | o => o) = w.heap := by
    apply Array.ext (by simp)
    intro i h1 h2
    rw [Array.getElem_modify]
    by_cases e : b = i
    · subst e
      rw [if_pos rfl]
      have hb : w.heap[b]? = some w.heap[b] := Array.getElem?_eq_getElem h2
      cases hc : w.heap[b] with
      | cells c t fr =>
        rw [hc] at hb
        simp only [World.cell?, hb] at h
        have hcf : c[f]? = some v := by simpa using h
        simp only [Option.isSome_none, Bool.false_eq_true, if_false]
        congr 1
        have hlt : f < c.size := (Array.getElem?_eq_some_iff.1 hcf).1
        have hv : c[f] = v := (Array.getElem?_eq_some_iff.1 hcf).2
        apply Array.ext (by simp)
        intro j j1 j2
        rw [Array.getElem_setIfInBounds]
        by_cases ej : f = j
        · subst ej; rw [if_pos rfl, hv]
        · rw [if_neg ej]
      | _ => rfl
    · rw [if_neg e]
  have he : w.setCell ⟨b, f, none⟩ v = { w with heap := w.heap } := by
    unfold World.setCell
    exact congrArg (fun h => { w with heap := h }) hh
  exact he

/-- The world in the first loop's round: what is wanted so far, the round's element, all that was there. -/
structure Inv (w : World) (BX : Nat) (m x : MM) (W : World) : Prop where
  want : Holds8 W w.heap.size 37 m
  elem : Holds8 W BX 37 x
  bel : Below w.heap.size w W
  far : w.heap.size ≠ BX

theorem Inv.set0 {w : World} {BX : Nat} {m x : MM} {W : World} (I : Inv w BX m x W) (v : Bool) : Inv w BX { m with s := v } x (W.setCell ⟨w.heap.size, 0, none⟩ (.bool v)) :=
  ⟨I.want.set0 v, I.elem.far _ _ (fun e => I.far e.symm), I.bel.setCell (Nat.le_refl _) _, I.far⟩
theorem Inv.set1 {w : World} {BX : Nat} {m x : MM} {W : World} (I : Inv w BX m x W) (v : Bool) : Inv w BX { m with g := v } x (W.setCell ⟨w.heap.size, 1, none⟩ (.bool v)) :=
  ⟨I.want.set1 v, I.elem.far _ _ (fun e => I.far e.symm), I.bel.setCell (Nat.le_refl _) _, I.far⟩
theorem Inv.set2 {w : World} {BX : Nat} {m x : MM} {W : World} (I : Inv w BX m x W) (v : Bool) : Inv w BX { m with u := v } x (W.setCell ⟨w.heap.size, 2, none⟩ (.bool v)) :=
  ⟨I.want.set2 v, I.elem.far _ _ (fun e => I.far e.symm), I.bel.setCell (Nat.le_refl _) _, I.far⟩
theorem Inv.set3 {w : World} {BX : Nat} {m x : MM} {W : World} (I : Inv w BX m x W) (v : Bool) : Inv w BX { m with a := v } x (W.setCell ⟨w.heap.size, 3, none⟩ (.bool v)) :=
  ⟨I.want.set3 v, I.elem.far _ _ (fun e => I.far e.symm), I.bel.setCell (Nat.le_refl _) _, I.far⟩
theorem Inv.set4 {w : World} {BX : Nat} {m x : MM} {W : World} (I : Inv w BX m x W) (v : Bool) : Inv w BX { m with r := v } x (W.setCell ⟨w.heap.size, 4, none⟩ (.bool v)) :=
  ⟨I.want.set4 v, I.elem.far _ _ (fun e => I.far e.symm), I.bel.setCell (Nat.le_refl _) _, I.far⟩
theorem Inv.set5 {w : World} {BX : Nat} {m x : MM} {W : World} (I : Inv w BX m x W) (v : Bool) : Inv w BX { m with p := v } x (W.setCell ⟨w.heap.size, 5, none⟩ (.bool v)) :=
  ⟨I.want.set5 v, I.elem.far _ _ (fun e => I.far e.symm), I.bel.setCell (Nat.le_refl _) _, I.far⟩
theorem Inv.set7 {w : World} {BX : Nat} {m x : MM} {W : World} (I : Inv w BX m x W) (v : Bool) : Inv w BX { m with l := v } x (W.setCell ⟨w.heap.size, 7, none⟩ (.bool v)) :=
  ⟨I.want.set7 v, I.elem.far _ _ (fun e => I.far e.symm), I.bel.setCell (Nat.le_refl _) _, I.far⟩
theorem Inv.set6 {w : World} {BX : Nat} {m x : MM} {W : World} (I : Inv w BX m x W) (v : Int) : Inv w BX { m with n := v } x (W.setCell ⟨w.heap.size, 6, none⟩ (.int .i64 v)) :=
  ⟨I.want.set6 v, I.elem.far _ _ (fun e => I.far e.symm), I.bel.setCell (Nat.le_refl _) _, I.far⟩

/-- 'if x.F { want.F = true }': ONE WAY, to whatever world the invariant holds of. -/
theorem wp_flag {P : Program} {Q : Exit → Act → World → Prop} {a : Act} {W : World} {c : Operand} {A : Code} (d B f : Nat) (o b : Bool) (p : Value) (I : World → Prop) (hc : a.eval c = .bool b) (hd : a.put (some d) (a.tmps[d]?.getD undef) = a)
    (hcell : W.cell? ⟨B, f, none⟩ = some (.bool o)) (hI : I (W.setCell ⟨B, f, none⟩ (.bool (o || b)))) (hA : ∀ Q' : Exit → Act → World → Prop, Q' .normal (a.put (some d) p) (W.setCell ⟨B, f, none⟩ (.bool true)) → A.wp P Q' a W)
    (h : ∀ u W', I W' → Q .normal (a.put (some d) u) W') : (Code.cond c A .skip).wp P Q a W := by
  cases b with
  | true =>
    refine wp_cond_true hc (hA _ ?_)
    refine h p _ ?_
    simpa using hI
  | false =>
    refine wp_cond_false hc (wp_skip ?_)
    rw [Bool.or_false, setCell_same hcell] at hI
    have := h (a.tmps[d]?.getD undef) W hI
    rw [hd] at this
    exact this

def BPost (w : World) (e : Ending) (w' : World) : Prop := ∃ b, e = .returned (.bool b) ∧ w' = w

theorem bytes19_any (a : Option Addr) (len cap : Nat) (w : World) (hm : len ≤ 9223372036854775807) :
    Calls Try.prog 19 #[.slice a len cap] w (BPost w) := by
  by_cases h : (1048576 : Int) < (len : Int)
  · go_enter Try.func19, Try.ntmps19
    go_wp2
    go_ret
    exact ⟨_, rfl, rfl⟩
  · go_enter Try.func19, Try.ntmps19
    go_wp2
    go_ret
    exact ⟨_, rfl, rfl⟩

theorem holds_new (w : World) (m : MM) (t : TypeId) : Holds8 (w.alloc (.cells #[.bool m.s, .bool m.g, .bool m.u, .bool m.a, .bool m.r, .bool m.p, .int .i64 m.n, .bool m.l] t)) w.heap.size t m := by
  unfold Holds8
  show (w.heap.push _)[w.heap.size]? = _
  simp

theorem fold_step {ms : List MM} {k : Nat} {m x : MM} (hm : Hid (m = (ms.take k).foldl MM.add MM.zero)) (hx : Hid (x = ms.getD k MM.zero)) (h : k < ms.length) : Hid (m.add x = (ms.take (k + 1)).foldl MM.add MM.zero) := by
  show _ = _
  rw [List.take_succ_eq_append_getElem h, List.foldl_append, ← hm.out, hx.out]
  simp [List.getD, List.getElem?_eq_getElem h]

theorem foldr_step {ms : List MM} {k : Nat} {r x : MM} (hr : Hid (r = (ms.drop (k + 1)).foldr MM.add MM.zero)) (hx : Hid (x = ms.getD k MM.zero)) (h : k < ms.length) : Hid (x.add r = (ms.drop k).foldr MM.add MM.zero) := by
  show _ = _
  rw [List.drop_eq_getElem_cons h, List.foldr_cons, ← hr.out, hx.out]
  simp [List.getD, List.getElem?_eq_getElem h]

theorem wrap64_mod (n : Int) : wrap64 n = (n + 9223372036854775808) % 18446744073709551616 - 9223372036854775808 := by simp only [wrap64]
theorem wrap_assoc (a b c : Int) : wrap64 (wrap64 (a + b) + c) = wrap64 (a + wrap64 (b + c)) := by
  simp only [wrap64_mod]; omega
theorem mm_assoc (x y z : MM) : (x.add y).add z = x.add (y.add z) := by
  simp only [MM.add, Bool.or_assoc, wrap_assoc]
theorem wrap_comm (a b : Int) : wrap64 (a + b) = wrap64 (b + a) := by rw [Int.add_comm]
theorem mm_zero (x : MM) : MM.zero.add x = x.add MM.zero := by
  simp only [MM.add, MM.zero, Bool.or_comm, wrap_comm]
theorem wrap_idem (a b : Int) : wrap64 (0 + wrap64 (a + b)) = wrap64 (a + b) := by
  simp only [wrap64_mod]; omega
theorem zero_add_add (x y : MM) : MM.zero.add (x.add y) = x.add y := by
  simp only [MM.add, MM.zero, Bool.false_or, wrap_idem]
theorem foldr_zero (ms : List MM) : MM.zero.add (ms.foldr MM.add MM.zero) = ms.foldr MM.add MM.zero := by
  cases ms with
  | nil => simp only [List.foldr_nil, MM.add, MM.zero, Bool.or_false, wrap64_mod]; rfl
  | cons x ms => exact zero_add_add _ _
theorem foldl_add (ms : List MM) : ∀ a : MM, ms.foldl MM.add (a.add MM.zero) = a.add (ms.foldr MM.add MM.zero) := by
  induction ms with
  | nil => intro a; rfl
  | cons x ms ih =>
    intro a
    rw [List.foldl_cons, List.foldr_cons]
    have e : (a.add MM.zero).add x = (a.add x).add MM.zero := by rw [mm_assoc, mm_zero, ← mm_assoc]
    rw [e, ih, mm_assoc]
/-- From the left and from the right: one sum. -/
theorem foldr_eq (ms : List MM) : ms.foldr MM.add MM.zero = ms.foldl MM.add MM.zero := by
  have h := foldl_add ms MM.zero
  have e : MM.zero.add MM.zero = MM.zero := by
    simp only [MM.add, MM.zero, Bool.or_false, wrap64_mod]; rfl
  rw [e] at h
  rw [h, foldr_zero]

end Go.Proofs.Qxb6619218a
