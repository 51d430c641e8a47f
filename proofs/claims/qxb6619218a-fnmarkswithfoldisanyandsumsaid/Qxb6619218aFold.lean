/-
  THE WALK of 'FnMarksWithFoldIsAnyAndSum'.
-/
import Derived.Test.Qxb6619218aSum
import Derived.Deep.Cut
import Derived.Deep.RegionWith
namespace Go.Proofs.Qxb6619218a
open Go.RowKit

set_option maxRecDepth 100000 in
set_option maxHeartbeats 4000000 in
theorem fold_some (b off len cap : Nat) (ms : List MM) (w : World) (hm : len ≤ 65536) (HL : Hid (ms.length = len)) (hb : b < w.heap.size)
    (hc : Hid (∀ k, k < ms.length → ElemAt w b (off + k * 8) (ms.getD k MM.zero))) :
    Calls Try.prog 7 #[.slice (some ⟨b, off, none⟩) len cap] w fun e w' => e = .returned (.bool true) ∧ Below w.heap.size w w' := by
  have c1 := bytes19_any (some ⟨b, off, none⟩) len cap w (by omega)
  go_enter Try.func7, Try.ntmps7
  go_wp2_with fail
  refine c1.mono ?_
  rintro e w' ⟨b1, rfl, rfl⟩
  cases b1
  · go_wp2
    go_ret
    exact ⟨rfl, Below.refl _ _⟩
  clear c1
  go_wp2
  go_loopw [4] (fun i wr => ∃ (k : Nat) (m : MM), k ≤ len ∧ i = .int .i64 k ∧ Below w'.heap.size w' wr ∧ Hid (Holds8 wr w'.heap.size 37 m) ∧ Hid (m = (ms.take k).foldl MM.add MM.zero)) (fun i _ => len - (intOf i).toNat)
  case atStart => exact ⟨0, MM.zero, Nat.zero_le _, rfl, (Below.refl _ _).alloc (Nat.le_refl _) _, holds_new _ MM.zero 37, rfl⟩
  case round =>
    obtain ⟨k, m, hk, rfl, hbel, HW, HM⟩ := hrel
    by_cases hlt : k < len
    · have hlt' : (k : Int) < (len : Int) := by omega
      obtain ⟨x, hx⟩ : ∃ x, x = ms.getD k MM.zero := ⟨_, rfl⟩
      have HX : Hid (x = ms.getD k MM.zero) := hx
      have he : ElemAt wr b (off + k * 8) x := by rw [hx]; exact (hc.out k (by have := HL.out; omega)).below hbel hb
      obtain ⟨e0, e1, e2, e3, e4, e5, e6, e7⟩ := he
      obtain ⟨g0, g1, g2, g3, g4, g5, g6, g7⟩ := HW.out.elem
      have gf := HW.out.frozen
      have hsz := HW.out.lt
      clear hx
      go_upto_if 27 with (fail)
      have I0 : Inv w' wr.heap.size m x (wr.alloc (.cells #[.bool x.s, .bool x.g, .bool x.u, .bool x.a, .bool x.r, .bool x.p, .int .i64 x.n, .bool x.l] 37)) :=
        ⟨HW.out.alloc _, holds_new wr x 37, hbel.alloc hbel.size _, by omega⟩
      generalize (wr.alloc (.cells #[.bool x.s, .bool x.g, .bool x.u, .bool x.a, .bool x.r, .bool x.p, .int .i64 x.n, .bool x.l] 37)) = W0 at I0 ⊢
      clear e0 e1 e2 e3 e4 e5 e6 e7 g0 g1 g2 g3 g4 g5 g6 g7 gf
      have G0 := I0.want.elem.1
      have F0 := I0.want.frozen 0
      refine wp_flag 28 w'.heap.size 0 m.s x.s (.pointer (some ⟨w'.heap.size, 0, none⟩)) _ rfl rfl I0.want.elem.1 (I0.set0 (m.s || x.s)) ?_ ?_
      · intro Q' hQ
        go_wp2
        exact hQ
      intro v28 W1 I1
      clear G0 F0 I0 W0
      have G1 := I1.want.elem.2.1
      have F1 := I1.want.frozen 1
      have X1 := I1.elem.elem.2.1
      go_upto_if 30 with (fail)
      refine wp_flag 31 w'.heap.size 1 m.g x.g (.pointer (some ⟨w'.heap.size, 1, none⟩)) _ rfl rfl I1.want.elem.2.1 (I1.set1 (m.g || x.g)) ?_ ?_
      · intro Q' hQ
        go_wp2
        exact hQ
      intro v31 W2 I2
      clear G1 F1 X1 I1 W1
      have G2 := I2.want.elem.2.2.1
      have F2 := I2.want.frozen 2
      have X2 := I2.elem.elem.2.2.1
      go_upto_if 33 with (fail)
      refine wp_flag 34 w'.heap.size 2 m.u x.u (.pointer (some ⟨w'.heap.size, 2, none⟩)) _ rfl rfl I2.want.elem.2.2.1 (I2.set2 (m.u || x.u)) ?_ ?_
      · intro Q' hQ
        go_wp2
        exact hQ
      intro v34 W3 I3
      clear G2 F2 X2 I2 W2
      have G3 := I3.want.elem.2.2.2.1
      have F3 := I3.want.frozen 3
      have X3 := I3.elem.elem.2.2.2.1
      go_upto_if 36 with (fail)
      refine wp_flag 37 w'.heap.size 3 m.a x.a (.pointer (some ⟨w'.heap.size, 3, none⟩)) _ rfl rfl I3.want.elem.2.2.2.1 (I3.set3 (m.a || x.a)) ?_ ?_
      · intro Q' hQ
        go_wp2
        exact hQ
      intro v37 W4 I4
      clear G3 F3 X3 I3 W3
      have G4 := I4.want.elem.2.2.2.2.1
      have F4 := I4.want.frozen 4
      have X4 := I4.elem.elem.2.2.2.2.1
      go_upto_if 39 with (fail)
      refine wp_flag 40 w'.heap.size 4 m.r x.r (.pointer (some ⟨w'.heap.size, 4, none⟩)) _ rfl rfl I4.want.elem.2.2.2.2.1 (I4.set4 (m.r || x.r)) ?_ ?_
      · intro Q' hQ
        go_wp2
        exact hQ
      intro v40 W5 I5
      clear G4 F4 X4 I4 W4
      have G5 := I5.want.elem.2.2.2.2.2.1
      have F5 := I5.want.frozen 5
      have X5 := I5.elem.elem.2.2.2.2.2.1
      go_upto_if 42 with (fail)
      refine wp_flag 43 w'.heap.size 5 m.p x.p (.pointer (some ⟨w'.heap.size, 5, none⟩)) _ rfl rfl I5.want.elem.2.2.2.2.2.1 (I5.set5 (m.p || x.p)) ?_ ?_
      · intro Q' hQ
        go_wp2
        exact hQ
      intro v43 W6 I6
      clear G5 F5 X5 I5 W5
      have G6 := I6.want.elem.2.2.2.2.2.2.2
      have F6 := I6.want.frozen 7
      have X6 := I6.elem.elem.2.2.2.2.2.2.2
      go_upto_if 45 with (fail)
      refine wp_flag 46 w'.heap.size 7 m.l x.l (.pointer (some ⟨w'.heap.size, 7, none⟩)) _ rfl rfl I6.want.elem.2.2.2.2.2.2.2 (I6.set7 (m.l || x.l)) ?_ ?_
      · intro Q' hQ
        go_wp2
        exact hQ
      intro v46 W7 I7
      clear G6 F6 X6 I6 W6
      have G7 := I7.want.elem.2.2.2.2.2.2.1
      have F7 := I7.want.frozen 6
      have X7 := I7.elem.elem.2.2.2.2.2.2.1
      have J7 := I7.set6 (wrap64 (m.n + x.n))
      have H7 : Hid (Inv w' wr.heap.size (m.add x) x (W7.setCell ⟨w'.heap.size, 6, none⟩ (.int .i64 (wrap64 (m.n + x.n))))) := J7
      clear J7 I7
      go_wp2
      go_roundw
      case rel => exact ⟨k + 1, m.add x, by omega, by go_num, H7.out.bel, H7.out.want, fold_step HM HX (by have := HL.out; omega)⟩
      case measure => simp [intOf]; omega
    · obtain rfl : k = len := by omega
      clear hlt
      have HM' : Hid (m = ms.foldl MM.add MM.zero) := by have := HM.out; rwa [List.take_of_length_le (by have := HL.out; omega)] at this
      clear HM
      have hsz := HW.out.lt
      go_wp2_with fail
      refine (of_any _ _ _ _ _ _ _ _ _).mono ?_
      rintro e w1 ⟨rfl, hb1⟩
      have z1 := hb1.size
      have HW1 : Hid (Holds8 w1 w'.heap.size 37 m) := HW.out.below hb1 hsz
      have B1 : Below w'.heap.size w' w1 := hbel.trans (hb1.mono hbel.size)
      clear HW hbel hb1
      go_wp2
      go_loopw [7] (fun i wr => ∃ (j : Nat) (q : MM), j ≤ k ∧ i = .int .i64 j ∧ Below w'.heap.size w' wr ∧ Hid (Holds8 wr w'.heap.size 37 m) ∧ Hid (Holds8 wr w1.heap.size 41 q) ∧ Hid (q = (ms.take j).foldl MM.add MM.zero)) (fun i _ => k - (intOf i).toNat)
      case atStart => exact ⟨0, MM.zero, Nat.zero_le _, rfl, B1.alloc B1.size _, HW1.out.alloc _, holds_new _ MM.zero 41, rfl⟩
      case round =>
        obtain ⟨j, q, hj, rfl, hbel, HW, HQ, HF⟩ := hrel
        by_cases hlt : j < k
        · have hlt' : (j : Int) < (k : Int) := by omega
          obtain ⟨x, hx⟩ : ∃ x, x = ms.getD j MM.zero := ⟨_, rfl⟩
          have HX : Hid (x = ms.getD j MM.zero) := hx
          have he : ElemAt wr b (off + j * 8) x := by rw [hx]; exact (hc.out j (by have := HL.out; omega)).below hbel hb
          obtain ⟨e0, e1, e2, e3, e4, e5, e6, e7⟩ := he
          obtain ⟨g0, g1, g2, g3, g4, g5, g6, g7⟩ := HQ.out.elem
          have gf := HQ.out.frozen
          have hqz := HQ.out.lt
          clear hx
          go_wp2
          go_region_with (first
            | (go_at_call 20; refine (of_any _ _ _ _ _ _ _ _ _).mono ?_; rintro e wx ⟨rfl, hbx⟩; have HQx : Hid (Holds8 wx w1.heap.size 41 q) := HQ.out.after (by rfl) hbx hqz; obtain ⟨x0, x1, x2, x3, x4, x5, x6, x7⟩ := HQx.out.elem; have xf := HQx.out.frozen; have xz := HQx.out.lt; have HBx : Hid (Below wr.heap.size wr wx) := below_after (by rfl) (by rfl) (by rfl) (by rfl) hbx; clear hbx)
            | (go_at_call 21; refine (zzwith_any _ _ _ _ _ _ _ _ _ _ _ _ _ _ _ _ _).mono ?_; rintro e wy ⟨rfl, hby⟩; have HQy : Hid (Holds8 wy w1.heap.size 41 q) := HQx.out.after (by rfl) hby xz; obtain ⟨y0, y1, y2, y3, y4, y5, y6, y7⟩ := HQy.out.elem; have yf := HQy.out.frozen; have HBy : Hid (Below wx.heap.size wx wy) := below_after (by rfl) (by rfl) (by rfl) (by rfl) hby; clear hby))
          all_goals
            go_wp2
            go_roundw
            case rel =>
              have k1 : Below w'.heap.size w' wy := (hbel.trans (HBx.out.mono hbel.size)).trans (HBy.out.mono (Nat.le_trans hbel.size HBx.out.size))
              have k2 : Holds8 wy w'.heap.size 37 m := (HW.out.below HBx.out HW.out.lt).below HBy.out (Nat.lt_of_lt_of_le HW.out.lt HBx.out.size)
              exact ⟨j + 1, q.add x, by omega, by go_num, below_set8 k1 (by omega) _ _ _ _ _ _ _ _, k2.far8 (by omega) _ _ _ _ _ _ _ _, HQy.out.set8 (q.add x), fold_step HF HX (by have := HL.out; omega)⟩
            case measure => simp [intOf]; omega
        · obtain rfl : j = k := by omega
          clear hlt
          have HF' : Hid (q = m) := by have := HF.out; rw [List.take_of_length_le (by have := HL.out; omega)] at this; rw [HM'.out]; exact this
          clear HF
          have qz := HQ.out.lt
          have mz := HW.out.lt
          go_wp2_with fail
          refine (of_any _ _ _ _ _ _ _ _ _).mono ?_
          rintro e w2 ⟨rfl, hb2⟩
          have z2 := hb2.size
          have HW2 : Hid (Holds8 w2 w'.heap.size 37 m) := HW.out.below hb2 mz
          have HQ2 : Hid (Holds8 w2 w1.heap.size 41 q) := HQ.out.below hb2 qz
          have B2 : Below w'.heap.size w' w2 := hbel.trans (hb2.mono hbel.size)
          clear HW HQ hbel hb2
          go_wp2
          go_loopw [9] (fun i wr => ∃ (t : Nat) (r : MM), t ≤ j ∧ i = .int .i64 ((t : Int) - 1) ∧ Below w'.heap.size w' wr ∧ Hid (Holds8 wr w'.heap.size 37 m) ∧ Hid (Holds8 wr w1.heap.size 41 q) ∧ Hid (Holds8 wr w2.heap.size 41 r) ∧ Hid (r = (ms.drop t).foldr MM.add MM.zero)) (fun i _ => (intOf i + 1).toNat)
          case atStart => exact ⟨j, MM.zero, Nat.le_refl _, rfl, B2.alloc B2.size _, HW2.out.alloc _, HQ2.out.alloc _, holds_new _ MM.zero 41, by show _ = _; rw [List.drop_eq_nil_of_le (by have := HL.out; omega)]; rfl⟩
          case round =>
            obtain ⟨t, r, ht, rfl, hbel, HW, HQ, HR, HF⟩ := hrel
            by_cases h0 : t = 0
            · subst h0
              have er : r = m := by
                have := HF.out
                rw [List.drop_zero, foldr_eq] at this
                rw [HM'.out]; exact this
              have eq' : q = m := HF'.out
              clear HF HF'
              subst er
              subst eq'
              obtain ⟨m0, m1, m2, m3, m4, m5, m6, m7⟩ := HW.out.elem
              obtain ⟨l0, l1, l2, l3, l4, l5, l6, l7⟩ := HQ.out.elem
              obtain ⟨r0, r1, r2, r3, r4, r5, r6, r7⟩ := HR.out.elem
              have mz' := HW.out.lt
              have lz := HQ.out.lt
              have rz := HR.out.lt
              go_wp2
              go_region_with (first
                | (go_at_call 22; have _t := HWx; refine (fieldsOf_any _ _ _ _ _ _ _ _ _).mono ?_; rintro e wy ⟨rfl, hby⟩; have HWy : Hid (Holds8 wy w'.heap.size 37 q) := HWx.out.after (by rfl) hby xz; obtain ⟨y0, y1, y2, y3, y4, y5, y6, y7⟩ := HWy.out.elem; have HBy : Hid (Below wx.heap.size wx wy) := below_after (by rfl) (by rfl) (by rfl) (by rfl) hby; clear hby)
                | (go_at_call 22; refine (fieldsOf_any _ _ _ _ _ _ _ _ _).mono ?_; rintro e wx ⟨rfl, hbx⟩; have HWx : Hid (Holds8 wx w'.heap.size 37 q) := HW.out.after (by rfl) hbx mz'; have HRx : Hid (Holds8 wx w2.heap.size 41 q) := HR.out.after (by rfl) hbx rz; obtain ⟨x0, x1, x2, x3, x4, x5, x6, x7⟩ := HWx.out.elem; obtain ⟨z0, z1, z2, z3, z4, z5, z6, z7⟩ := HRx.out.elem; have xz := HWx.out.lt; have HBx : Hid (Below wr.heap.size wr wx) := below_after (by rfl) (by rfl) (by rfl) (by rfl) hbx; clear hbx))
              all_goals
                go_wp2
                go_ret
                exact ⟨rfl, (hbel.trans (HBx.out.mono hbel.size)).trans (HBy.out.mono (Nat.le_trans hbel.size HBx.out.size))⟩
            · obtain ⟨i, rfl⟩ : ∃ i, t = i + 1 := ⟨t - 1, by omega⟩
              have hlt : i < j := by omega
              have hlt' : (i : Int) < (j : Int) := by omega
              have ei : (((i + 1 : Nat) : Int) - 1) = (i : Int) := by omega
              rw [ei]
              obtain ⟨x, hx⟩ : ∃ x, x = ms.getD i MM.zero := ⟨_, rfl⟩
              have HX : Hid (x = ms.getD i MM.zero) := hx
              have he : ElemAt wr b (off + i * 8) x := by rw [hx]; exact (hc.out i (by have := HL.out; omega)).below hbel hb
              obtain ⟨e0, e1, e2, e3, e4, e5, e6, e7⟩ := he
              obtain ⟨g0, g1, g2, g3, g4, g5, g6, g7⟩ := HR.out.elem
              have gf := HR.out.frozen
              have hrz := HR.out.lt
              clear hx ei h0
              go_wp2
              go_region_with (first
                | (go_at_call 20; refine (of_any _ _ _ _ _ _ _ _ _).mono ?_; rintro e wx ⟨rfl, hbx⟩; have HRx : Hid (Holds8 wx w2.heap.size 41 r) := HR.out.after (by rfl) hbx hrz; obtain ⟨x0, x1, x2, x3, x4, x5, x6, x7⟩ := HRx.out.elem; have xf := HRx.out.frozen; have xz := HRx.out.lt; have HBx : Hid (Below wr.heap.size wr wx) := below_after (by rfl) (by rfl) (by rfl) (by rfl) hbx; clear hbx)
                | (go_at_call 21; refine (zzwith_any _ _ _ _ _ _ _ _ _ _ _ _ _ _ _ _ _).mono ?_; rintro e wy ⟨rfl, hby⟩; have HRy : Hid (Holds8 wy w2.heap.size 41 r) := HRx.out.after (by rfl) hby xz; obtain ⟨y0, y1, y2, y3, y4, y5, y6, y7⟩ := HRy.out.elem; have yf := HRy.out.frozen; have HBy : Hid (Below wx.heap.size wx wy) := below_after (by rfl) (by rfl) (by rfl) (by rfl) hby; clear hby))
              all_goals
                go_wp2
                go_roundw
                case rel =>
                  have k1 : Below w'.heap.size w' wy := (hbel.trans (HBx.out.mono hbel.size)).trans (HBy.out.mono (Nat.le_trans hbel.size HBx.out.size))
                  have k2 : Holds8 wy w'.heap.size 37 m := (HW.out.below HBx.out HW.out.lt).below HBy.out (Nat.lt_of_lt_of_le HW.out.lt HBx.out.size)
                  have k3 : Holds8 wy w1.heap.size 41 q := (HQ.out.below HBx.out HQ.out.lt).below HBy.out (Nat.lt_of_lt_of_le HQ.out.lt HBx.out.size)
                  exact ⟨i, x.add r, by omega, by go_num, below_set8 k1 (by omega) _ _ _ _ _ _ _ _, k2.far8 (by omega) _ _ _ _ _ _ _ _, k3.far8 (by omega) _ _ _ _ _ _ _ _, HRy.out.set8 (x.add r), foldr_step HF HX (by have := HL.out; omega)⟩
                case measure => (simp [intOf]; try omega)

end Go.Proofs.Qxb6619218a
