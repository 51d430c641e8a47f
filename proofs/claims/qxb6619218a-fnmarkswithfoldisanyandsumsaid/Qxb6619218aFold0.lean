/-
  THE WALK of 'FnMarksWithFoldIsAnyAndSum' where there is no mark.
-/
import Derived.Test.Qxb6619218aSum
import Derived.Deep.Cut
import Derived.Deep.RegionWith
namespace Go.Proofs.Qxb6619218a
open Go.RowKit

set_option maxRecDepth 100000 in
set_option maxHeartbeats 4000000 in
theorem fold_none (a : Option Addr) (cap : Nat) (w : World) :
    Calls Try.prog 7 #[.slice a 0 cap] w fun e w' => e = .returned (.bool true) ∧ Below w.heap.size w w' := by
  have c1 := bytes19_any a 0 cap w (by omega)
  go_enter Try.func7, Try.ntmps7
  go_wp2_with fail
  refine c1.mono ?_
  rintro e w' ⟨b1, rfl, rfl⟩
  cases b1
  · go_wp2
    go_ret
    exact ⟨rfl, Below.refl _ _⟩
  clear c1
  go_wp2
  refine wp_loop_rounds 1 ?_
  rw [rounds_succ]
  have HW0 : Hid (Holds8 (w'.alloc (.cells #[.bool false, .bool false, .bool false, .bool false, .bool false, .bool false, .int .i64 0, .bool false] 37)) w'.heap.size 37 MM.zero) := holds_new w' MM.zero 37
  have B0 : Below w'.heap.size w' (w'.alloc (.cells #[.bool false, .bool false, .bool false, .bool false, .bool false, .bool false, .int .i64 0, .bool false] 37)) := (Below.refl _ _).alloc (Nat.le_refl _) _
  go_wp2_with fail
  refine (of_any _ _ _ _ _ _ _ _ _).mono ?_
  rintro e w1 ⟨rfl, hb1⟩
  have HW1 : Hid (Holds8 w1 w'.heap.size 37 MM.zero) := HW0.out.below hb1 HW0.out.lt
  have B1 : Below w'.heap.size w' w1 := B0.trans (hb1.mono (by simp))
  clear hb1 HW0 B0
  go_wp2
  refine wp_loop_rounds 1 ?_
  rw [rounds_succ]
  have HW2 : Hid (Holds8 (w1.alloc (.cells #[.bool false, .bool false, .bool false, .bool false, .bool false, .bool false, .int .i64 0, .bool false] 41)) w'.heap.size 37 MM.zero) := HW1.out.alloc _
  have HQ2 : Hid (Holds8 (w1.alloc (.cells #[.bool false, .bool false, .bool false, .bool false, .bool false, .bool false, .int .i64 0, .bool false] 41)) w1.heap.size 41 MM.zero) := holds_new w1 MM.zero 41
  have B2 : Below w'.heap.size w' (w1.alloc (.cells #[.bool false, .bool false, .bool false, .bool false, .bool false, .bool false, .int .i64 0, .bool false] 41)) := B1.alloc B1.size _
  have z1 := B1.size
  clear HW1 B1
  go_wp2_with fail
  refine (of_any _ _ _ _ _ _ _ _ _).mono ?_
  rintro e w2 ⟨rfl, hb2⟩
  have HW3 : Hid (Holds8 w2 w'.heap.size 37 MM.zero) := HW2.out.below hb2 HW2.out.lt
  have HQ3 : Hid (Holds8 w2 w1.heap.size 41 MM.zero) := HQ2.out.below hb2 HQ2.out.lt
  have B3 : Below w'.heap.size w' w2 := B2.trans (hb2.mono B2.size)
  clear hb2 HW2 HQ2 B2
  go_wp2
  refine wp_loop_rounds 1 ?_
  rw [rounds_succ]
  have HW : Hid (Holds8 (w2.alloc (.cells #[.bool false, .bool false, .bool false, .bool false, .bool false, .bool false, .int .i64 0, .bool false] 41)) w'.heap.size 37 MM.zero) := HW3.out.alloc _
  have HQ : Hid (Holds8 (w2.alloc (.cells #[.bool false, .bool false, .bool false, .bool false, .bool false, .bool false, .int .i64 0, .bool false] 41)) w1.heap.size 41 MM.zero) := HQ3.out.alloc _
  have HR : Hid (Holds8 (w2.alloc (.cells #[.bool false, .bool false, .bool false, .bool false, .bool false, .bool false, .int .i64 0, .bool false] 41)) w2.heap.size 41 MM.zero) := holds_new w2 MM.zero 41
  have hbel : Below w'.heap.size w' (w2.alloc (.cells #[.bool false, .bool false, .bool false, .bool false, .bool false, .bool false, .int .i64 0, .bool false] 41)) := B3.alloc B3.size _
  generalize (w2.alloc (.cells #[.bool false, .bool false, .bool false, .bool false, .bool false, .bool false, .int .i64 0, .bool false] 41)) = wr at HW HQ HR hbel ⊢
  have m0 : wr.cell? ⟨w'.heap.size, 0, none⟩ = some (.bool false) := HW.out.elem.1
  have m1 : wr.cell? ⟨w'.heap.size, 1, none⟩ = some (.bool false) := HW.out.elem.2.1
  have m2 : wr.cell? ⟨w'.heap.size, 2, none⟩ = some (.bool false) := HW.out.elem.2.2.1
  have m3 : wr.cell? ⟨w'.heap.size, 3, none⟩ = some (.bool false) := HW.out.elem.2.2.2.1
  have m4 : wr.cell? ⟨w'.heap.size, 4, none⟩ = some (.bool false) := HW.out.elem.2.2.2.2.1
  have m5 : wr.cell? ⟨w'.heap.size, 5, none⟩ = some (.bool false) := HW.out.elem.2.2.2.2.2.1
  have m6 : wr.cell? ⟨w'.heap.size, 6, none⟩ = some (.int .i64 0) := HW.out.elem.2.2.2.2.2.2.1
  have m7 : wr.cell? ⟨w'.heap.size, 7, none⟩ = some (.bool false) := HW.out.elem.2.2.2.2.2.2.2
  have l0 : wr.cell? ⟨w1.heap.size, 0, none⟩ = some (.bool false) := HQ.out.elem.1
  have l1 : wr.cell? ⟨w1.heap.size, 1, none⟩ = some (.bool false) := HQ.out.elem.2.1
  have l2 : wr.cell? ⟨w1.heap.size, 2, none⟩ = some (.bool false) := HQ.out.elem.2.2.1
  have l3 : wr.cell? ⟨w1.heap.size, 3, none⟩ = some (.bool false) := HQ.out.elem.2.2.2.1
  have l4 : wr.cell? ⟨w1.heap.size, 4, none⟩ = some (.bool false) := HQ.out.elem.2.2.2.2.1
  have l5 : wr.cell? ⟨w1.heap.size, 5, none⟩ = some (.bool false) := HQ.out.elem.2.2.2.2.2.1
  have l6 : wr.cell? ⟨w1.heap.size, 6, none⟩ = some (.int .i64 0) := HQ.out.elem.2.2.2.2.2.2.1
  have l7 : wr.cell? ⟨w1.heap.size, 7, none⟩ = some (.bool false) := HQ.out.elem.2.2.2.2.2.2.2
  have r0 : wr.cell? ⟨w2.heap.size, 0, none⟩ = some (.bool false) := HR.out.elem.1
  have r1 : wr.cell? ⟨w2.heap.size, 1, none⟩ = some (.bool false) := HR.out.elem.2.1
  have r2 : wr.cell? ⟨w2.heap.size, 2, none⟩ = some (.bool false) := HR.out.elem.2.2.1
  have r3 : wr.cell? ⟨w2.heap.size, 3, none⟩ = some (.bool false) := HR.out.elem.2.2.2.1
  have r4 : wr.cell? ⟨w2.heap.size, 4, none⟩ = some (.bool false) := HR.out.elem.2.2.2.2.1
  have r5 : wr.cell? ⟨w2.heap.size, 5, none⟩ = some (.bool false) := HR.out.elem.2.2.2.2.2.1
  have r6 : wr.cell? ⟨w2.heap.size, 6, none⟩ = some (.int .i64 0) := HR.out.elem.2.2.2.2.2.2.1
  have r7 : wr.cell? ⟨w2.heap.size, 7, none⟩ = some (.bool false) := HR.out.elem.2.2.2.2.2.2.2
  have mz := HW.out.lt
  have lz := HQ.out.lt
  have rz := HR.out.lt
  go_wp2
  go_region_with (first
    | (go_at_call 22; have _t := HWx; refine (fieldsOf_any _ _ _ _ _ _ _ _ _).mono ?_; rintro e wy ⟨rfl, hby⟩; have HWy : Hid (Holds8 wy w'.heap.size 37 MM.zero) := HWx.out.after (by rfl) hby xz; have y0 : wy.cell? ⟨w'.heap.size, 0, none⟩ = some (.bool false) := HWy.out.elem.1; have y1 : wy.cell? ⟨w'.heap.size, 1, none⟩ = some (.bool false) := HWy.out.elem.2.1; have y2 : wy.cell? ⟨w'.heap.size, 2, none⟩ = some (.bool false) := HWy.out.elem.2.2.1; have y3 : wy.cell? ⟨w'.heap.size, 3, none⟩ = some (.bool false) := HWy.out.elem.2.2.2.1; have y4 : wy.cell? ⟨w'.heap.size, 4, none⟩ = some (.bool false) := HWy.out.elem.2.2.2.2.1; have y5 : wy.cell? ⟨w'.heap.size, 5, none⟩ = some (.bool false) := HWy.out.elem.2.2.2.2.2.1; have y6 : wy.cell? ⟨w'.heap.size, 6, none⟩ = some (.int .i64 0) := HWy.out.elem.2.2.2.2.2.2.1; have y7 : wy.cell? ⟨w'.heap.size, 7, none⟩ = some (.bool false) := HWy.out.elem.2.2.2.2.2.2.2; have HBy : Hid (Below wx.heap.size wx wy) := below_after (by rfl) (by rfl) (by rfl) (by rfl) hby; clear hby)
    | (go_at_call 22; refine (fieldsOf_any _ _ _ _ _ _ _ _ _).mono ?_; rintro e wx ⟨rfl, hbx⟩; have HWx : Hid (Holds8 wx w'.heap.size 37 MM.zero) := HW.out.after (by rfl) hbx mz; have HRx : Hid (Holds8 wx w2.heap.size 41 MM.zero) := HR.out.after (by rfl) hbx rz; have x0 : wx.cell? ⟨w'.heap.size, 0, none⟩ = some (.bool false) := HWx.out.elem.1; have x1 : wx.cell? ⟨w'.heap.size, 1, none⟩ = some (.bool false) := HWx.out.elem.2.1; have x2 : wx.cell? ⟨w'.heap.size, 2, none⟩ = some (.bool false) := HWx.out.elem.2.2.1; have x3 : wx.cell? ⟨w'.heap.size, 3, none⟩ = some (.bool false) := HWx.out.elem.2.2.2.1; have x4 : wx.cell? ⟨w'.heap.size, 4, none⟩ = some (.bool false) := HWx.out.elem.2.2.2.2.1; have x5 : wx.cell? ⟨w'.heap.size, 5, none⟩ = some (.bool false) := HWx.out.elem.2.2.2.2.2.1; have x6 : wx.cell? ⟨w'.heap.size, 6, none⟩ = some (.int .i64 0) := HWx.out.elem.2.2.2.2.2.2.1; have x7 : wx.cell? ⟨w'.heap.size, 7, none⟩ = some (.bool false) := HWx.out.elem.2.2.2.2.2.2.2; have z0 : wx.cell? ⟨w2.heap.size, 0, none⟩ = some (.bool false) := HRx.out.elem.1; have z1' : wx.cell? ⟨w2.heap.size, 1, none⟩ = some (.bool false) := HRx.out.elem.2.1; have z2 : wx.cell? ⟨w2.heap.size, 2, none⟩ = some (.bool false) := HRx.out.elem.2.2.1; have z3 : wx.cell? ⟨w2.heap.size, 3, none⟩ = some (.bool false) := HRx.out.elem.2.2.2.1; have z4 : wx.cell? ⟨w2.heap.size, 4, none⟩ = some (.bool false) := HRx.out.elem.2.2.2.2.1; have z5 : wx.cell? ⟨w2.heap.size, 5, none⟩ = some (.bool false) := HRx.out.elem.2.2.2.2.2.1; have z6 : wx.cell? ⟨w2.heap.size, 6, none⟩ = some (.int .i64 0) := HRx.out.elem.2.2.2.2.2.2.1; have z7 : wx.cell? ⟨w2.heap.size, 7, none⟩ = some (.bool false) := HRx.out.elem.2.2.2.2.2.2.2; have xz := HWx.out.lt; have HBx : Hid (Below wr.heap.size wr wx) := below_after (by rfl) (by rfl) (by rfl) (by rfl) hbx; clear hbx))
  all_goals
    go_wp2
    go_ret
    exact ⟨rfl, (hbel.trans (HBx.out.mono hbel.size)).trans (HBy.out.mono (Nat.le_trans hbel.size HBx.out.size))⟩

/-- Too many marks: the law answers true at once. -/
theorem fold_big (a : Option Addr) (len cap : Nat) (w : World) (h : 65536 < len) (hm : len ≤ 9223372036854775807) :
    Calls Try.prog 7 #[.slice a len cap] w fun e w' => e = .returned (.bool true) ∧ Below w.heap.size w w' := by
  have c1 := bytes19_any a len cap w hm
  have h' : (65536 : Int) < (len : Int) := by omega
  go_enter Try.func7, Try.ntmps7
  go_wp2_with fail
  refine c1.mono ?_
  rintro e w' ⟨b1, rfl, rfl⟩
  cases b1
  · go_wp2
    go_ret
    exact ⟨rfl, Below.refl _ _⟩
  clear c1
  go_wp2
  go_ret
  exact ⟨rfl, Below.refl _ _⟩

end Go.Proofs.Qxb6619218a
