/-
  THE WALK of 'FnLatestOfCutAnywhere'.
-/
import Derived.Test.Qxb6619218aStrs
import Derived.Laws.CopyOwn
import Derived.Deep.OwnRows
namespace Go.Proofs.Qxb6619218a
open Go.RowKit

theorem Try.info9 : (Try.prog.info? 9).map (fun i => (i.zero, i.size, i.bytes)) = some (some (.string ByteArray.empty), 1, 16) := by kernel_rfl
theorem Try.size9 : (Try.prog.info? 9).map (·.size) = some 1 := by kernel_rfl

/-- A row of strings, known whole. -/
def RowOf (w : World) (g : Nat) (ss : List ByteArray) : Prop := w.heap[g]? = some (.cells (ss.map Value.string).toArray 9 (0, 0))

theorem RowOf.lt {w : World} {g : Nat} {ss : List ByteArray} (h : RowOf w g ss) : g < w.heap.size := by
  unfold RowOf at h
  exact (Array.getElem?_eq_some_iff.1 h).1

theorem RowOf.cell {w : World} {g : Nat} {ss : List ByteArray} (h : RowOf w g ss) (j : Nat) (hj : j < ss.length) : w.cell? ⟨g, j, none⟩ = some (.string (ss.getD j ByteArray.empty)) := by
  unfold RowOf at h
  simp [World.cell?, h, hj, List.getD]

/-- A part of it, from place o on. -/
theorem RowOf.part {w : World} {g : Nat} {ss : List ByteArray} (h : RowOf w g ss) (o : Nat) : StrsAt w (some ⟨g, o, none⟩) (ss.drop o) := by
  refine Or.inr ⟨g, o, rfl, h.lt, fun j hj => ?_⟩
  simp at hj
  rw [h.cell (o + j) (by omega)]
  simp [List.getD, List.getElem?_drop]

theorem StrsAt.take {w : World} {a : Option Addr} {ss : List ByteArray} (h : StrsAt w a ss) (n : Nat) : StrsAt w a (ss.take n) := by
  rcases h with rfl | ⟨b, off, rfl, hb, hc⟩
  · left; simp
  · refine Or.inr ⟨b, off, rfl, hb, fun j hj => ?_⟩
    simp at hj
    rw [hc j (by omega)]
    have : j < n := by omega
    simp [List.getD, this]

theorem RowOf.below {B : Nat} {w w' : World} {g : Nat} {ss : List ByteArray} (h : RowOf w g ss) (hb : Below B w w') (hg : g < B) : RowOf w' g ss := by
  unfold RowOf at *; rw [hb.block g hg]; exact h

/-- 'c := make([]string, len(s)); copy(c, s)': a row of the call's own, known whole; nothing old has turned. -/
theorem copy_made (w : World) (x : Addr) (len cap : Nat) (ss : List ByteArray) (hlen : ss.length = len) (h : StrsAt w (some x) ss) :
    ∃ W2, (Builtin.copy_ #[22, 22] 3 #[.slice (some ⟨w.heap.size, 0, none⟩) len len, .slice (some x) len cap]).run Try.prog (w.alloc (.cells (madeCells #[.string ByteArray.empty] len) 9)) = .ok (goInt len) W2 ∧
      Hid (RowOf W2 w.heap.size ss) ∧ Below w.heap.size w W2 := by
  have hB : Below w.heap.size w (w.alloc (.cells (madeCells #[.string ByteArray.empty] len) 9)) := (Below.refl _ _).alloc (Nat.le_refl _) _
  have hg : (w.alloc (.cells (madeCells #[.string ByteArray.empty] len) 9)).heap[w.heap.size]? = some (.cells (madeCells #[.string ByteArray.empty] len) 9 (0, 0)) := by
    show (w.heap.push _)[w.heap.size]? = _
    simp
  rcases h with rfl | ⟨b, off, hx, hb, hc⟩
  · simp at hlen
    subst hlen
    refine ⟨_, run_copy_none (P := Try.prog) _ 22 22 3 9 _ _ 0 0 0 cap Try.underlying22 Try.size9 rfl, ?_, hB⟩
    show _ = _
    rw [hg]; simp [madeCells]
  · cases hx
    have hcs : ∀ (j : Nat) (v : Value), (ss.map Value.string)[j]? = some v → (w.alloc (.cells (madeCells #[.string ByteArray.empty] len) 9)).cell? (Addr.add ⟨b, off, none⟩ j) = some v := by
      intro j v hj
      rw [List.getElem?_map, Option.map_eq_some_iff] at hj
      obtain ⟨s, hs, rfl⟩ := hj
      have hjl : j < ss.length := (List.getElem?_eq_some_iff.1 hs).1
      have := hc j hjl
      rw [← hB.cell (p := ⟨b, off + j, none⟩) hb] at this
      have ea : Addr.add ⟨b, off, none⟩ j = ⟨b, off + j, none⟩ := by cases j <;> simp [Addr.add]
      rw [ea, this]
      simp [List.getD, hs]
    have hl2 : (ss.map Value.string).length = len := by simp [hlen]
    have hmin : (ss.map Value.string).length = Nat.min len len := by rw [hl2]; exact (Nat.min_self len).symm
    have := run_copy_row (P := Try.prog) _ 22 22 3 9 w.heap.size 0 len len ⟨b, off, none⟩ len cap _ 9 (ss.map Value.string) Try.underlying22 Try.size9 hg hmin hcs
      (by rw [size_madeCells]; simp [hlen]) (by intro v hv; obtain ⟨s, _, rfl⟩ := List.mem_map.1 hv; rfl)
    rw [hl2] at this
    refine ⟨_, this, ?_, below_setRow hB (Nat.le_refl _) _⟩
    show _ = _
    rw [setRow_heap _ _ _ _ _ _ hg]
    have hd : (madeCells #[.string ByteArray.empty] len).toList.drop (0 + len) = [] := by
      apply List.drop_eq_nil_of_le; simp [size_madeCells]
    rw [hd]; simp

theorem pair_at (w : World) (l r : ByteArray) : StrsAt (w.alloc (.cells #[.string l, .string r] 9)) (some ⟨w.heap.size, 0, none⟩) [l, r] := by
  refine Or.inr ⟨_, _, rfl, by simp, fun j hj => ?_⟩
  match j, hj with
  | 0, _ => simp
  | 1, _ => simp

theorem miss_step {ss : List ByteArray} {m : ByteArray} {k : Nat} (hno : Hid (∀ j, j < k → ss.getD j ByteArray.empty ≠ m)) (h : ((ss[k]?.getD ByteArray.empty).toList == m.toList) = false) :
    Hid (∀ j, j < k + 1 → ss.getD j ByteArray.empty ≠ m) := by
  intro j hj e
  by_cases hjk : j < k
  · exact hno j hjk e
  · obtain rfl : j = k := by omega
    have e' : (ss[j]?.getD ByteArray.empty) = m := e
    rw [e'] at h; simp at h

theorem miss_end {ss : List ByteArray} {m : ByteArray} {len k : Nat} (hlen : ss.length = len) (h0 : 0 < len) (hm : m = latest ss) (hk : len ≤ k) (hno : Hid (∀ j, j < k → ss.getD j ByteArray.empty ≠ m)) : False := by
  have hmem := latest_mem (L := ss) (by intro e; rw [e] at hlen; simp at hlen; omega)
  rw [← hm] at hmem
  obtain ⟨j, hj, e⟩ := List.mem_iff_getElem.1 hmem
  exact hno j (by omega) (by simp [List.getD, List.getElem?_eq_getElem hj, e])

theorem empty_isEmpty : ByteArray.empty.toList.isEmpty = true := by rw [Lib.toList_data]; rfl

theorem tail_addr {w : World} {g len n : Nat} {ss : List ByteArray} (hlen : ss.length = len) (h : RowOf w g ss) : StrsAt w (if len = n then some ⟨g, 0, none⟩ else some ⟨g, n, none⟩) (ss.drop n) := by
  by_cases e : len = n
  · left; apply List.drop_eq_nil_of_le; omega
  · rw [if_neg e]; exact h.part n

set_option maxRecDepth 100000 in
set_option maxHeartbeats 400000 in
theorem cut_walk_some (x : Addr) (len cap : Nat) (ss : List ByteArray) (i : Int) (w : World) (hm : len ≤ 9223372036854775807) (hlen : ss.length = len) (h : StrsAt w (some x) ss) :
    Calls Try.prog 6 #[.slice (some x) len cap, .int .i64 i] w fun e w' => e = .returned (.bool true) ∧ Below w.heap.size w w' := by
  have c1 := bytes18_any (some x) len cap ss i w hm hlen h
  have c2 := over_any (some x) len cap ss 1048576 w hm hlen h
  have HL : Hid (ss.length = len) := hlen
  clear hlen
  have hne := fun (w : World) => run_neq_slice_nil_any (P := Try.prog) w 22 9 (some x) len cap 0 0 Try.underlying22
  go_enter Try.func6, Try.ntmps6
  go_wp2_with fail
  refine c1.mono ?_
  rintro e w' ⟨b1, rfl, rfl⟩
  cases b1
  · go_wp2
    go_ret
    exact ⟨rfl, Below.refl _ _⟩
  go_wp2_with fail
  refine c2.mono ?_
  rintro e w' ⟨b2, rfl, hb2, rfl⟩
  cases b2
  rotate_left
  · go_wp2
    go_ret
    exact ⟨rfl, Below.refl _ _⟩
  have hl : (len : Int) ≤ 1048576 := hb2 rfl
  clear hb2 c1 c2
  by_cases hi0 : i < 0
  · go_wp2
    go_ret
    exact ⟨rfl, Below.refl _ _⟩
  by_cases hi1 : (len : Int) < i
  · go_wp2
    go_ret
    exact ⟨rfl, Below.refl _ _⟩
  obtain ⟨n, rfl⟩ : ∃ n : Nat, i = n := ⟨i.toNat, by omega⟩
  have hn : n ≤ len := by omega
  clear hi0 hi1
  have hmk := run_make_row' (P := Try.prog) 22 9 (.string ByteArray.empty) 16 Try.underlying22 Try.info9 rfl .i64 .i64 len (by omega) (by omega)
  obtain ⟨W2, hcp, hrow, hbel⟩ := copy_made w' x len cap ss HL.out h
  have hsz := hbel.size
  have hgl : w'.heap.size < W2.heap.size := hrow.out.lt
  obtain ⟨m, hmd⟩ : ∃ m, m = latest ss := ⟨_, rfl⟩
  have HM : Hid (m = latest ss) := hmd
  have d1 := zzlatest_any (some ⟨w'.heap.size, 0, none⟩) len len ss W2 hm HL.out (hrow.out.part 0)
  rw [← hmd] at d1
  have d2 := zzlatest_any (some ⟨w'.heap.size, 0, none⟩) n len (ss.take n) W2 (by omega) (by have := HL.out; simp; omega) ((hrow.out.part 0).take n)
  obtain ⟨l, hld⟩ : ∃ l, l = latest (ss.take n) := ⟨_, rfl⟩
  obtain ⟨r, hrd⟩ : ∃ r, r = latest (ss.drop n) := ⟨_, rfl⟩
  rw [← hld] at d2
  have d4 := zzlatest_any (some ⟨W2.heap.size, 0, none⟩) 2 2 [l, r] (W2.alloc (.cells #[.string l, .string r] 9)) (by omega) rfl (pair_at W2 l r)
  have hjoin : latest [l, r] = m := by rw [hld, hrd, hmd, latest_cut, List.take_append_drop]
  rw [hjoin] at d4
  have hcell : Hid (∀ k, k < len → (W2.alloc (.cells #[.string l, .string r] 9)).cell? ⟨w'.heap.size, k, none⟩ = some (.string (ss.getD k ByteArray.empty))) := by
    intro k hk
    rw [World.cell?_alloc_past _ _ _ (by exact hgl)]
    exact hrow.out.cell k (by have := HL.out; omega)
  clear hjoin hmd hld
  rcases Nat.lt_or_eq_of_le hn with hq | hq
  · have d3 := zzlatest_any (some ⟨w'.heap.size, n, none⟩) (len - n) (len - n) (ss.drop n) W2 (by omega) (by have := HL.out; simp; omega) (hrow.out.part n)
    rw [← hrd] at d3
    clear hrd
    go_wp2_with fail
    refine d1.mono ?_
    rintro e W2 ⟨rfl, rfl⟩
    go_wp2_with fail
    refine d2.mono ?_
    rintro e W2 ⟨rfl, rfl⟩
    go_wp2_with fail
    refine d3.mono ?_
    rintro e W2 ⟨rfl, rfl⟩
    go_wp2_with fail
    refine d4.mono ?_
    rintro e W2' ⟨rfl, rfl⟩
    go_wp2
    go_loop [11] (fun i => ∃ k : Nat, k ≤ len ∧ i = .int .i64 k ∧ Hid (∀ j, j < k → ss.getD j ByteArray.empty ≠ m)) (fun i => len - (intOf i).toNat)
    case atStart => exact ⟨0, Nat.zero_le _, rfl, fun j hj => absurd hj (by omega)⟩
    case round =>
      obtain ⟨k, hk, rfl, hno⟩ := hrel
      have hcx := fun h : k < len => hcell.out k h
      go_wp2
      · go_ret
        exact ⟨rfl, hbel.alloc hsz _⟩
      · go_round
        case rel => exact ⟨k + 1, by omega, by go_num, miss_step hno (by assumption)⟩
        case measure => simp [intOf]; omega
      · exact (miss_end HL.out (by omega) HM.out (by omega) hno).elim
  · subst hq
    have d3 := zzlatest_any (some ⟨w'.heap.size, 0, none⟩) 0 0 (ss.drop n) W2 (by omega) (by have := HL.out; simp; omega) (Or.inl (by have := HL.out; apply List.drop_eq_nil_of_le; omega))
    rw [← hrd] at d3
    clear hrd
    go_wp2_with fail
    refine d1.mono ?_
    rintro e W2 ⟨rfl, rfl⟩
    go_wp2_with fail
    refine d2.mono ?_
    rintro e W2 ⟨rfl, rfl⟩
    go_wp2_with fail
    refine d3.mono ?_
    rintro e W2 ⟨rfl, rfl⟩
    go_wp2_with fail
    refine d4.mono ?_
    rintro e W2' ⟨rfl, rfl⟩
    by_cases h0 : n = 0
    · subst h0
      have hme : m.toList.isEmpty = true := by
        have hss : ss = [] := List.eq_nil_of_length_eq_zero HL.out
        have e2 : m = ByteArray.empty := by rw [HM.out, hss]; rfl
        rw [e2]; exact empty_isEmpty
      go_wp2
      go_ret
      exact ⟨rfl, hbel.alloc hsz _⟩
    have hpos : (0 : Int) < (n : Int) := by omega
    go_wp2
    go_loop [11] (fun i => ∃ k : Nat, k ≤ n ∧ i = .int .i64 k ∧ Hid (∀ j, j < k → ss.getD j ByteArray.empty ≠ m)) (fun i => n - (intOf i).toNat)
    case atStart => exact ⟨0, Nat.zero_le _, rfl, fun j hj => absurd hj (by omega)⟩
    case round =>
      obtain ⟨k, hk, rfl, hno⟩ := hrel
      have hcx := fun h : k < n => hcell.out k h
      go_wp2
      · go_ret
        exact ⟨rfl, hbel.alloc hsz _⟩
      · go_round
        case rel => exact ⟨k + 1, by omega, by go_num, miss_step hno (by assumption)⟩
        case measure => simp [intOf]; omega
      · exact (miss_end HL.out (by omega) HM.out (by omega) hno).elim

set_option maxRecDepth 100000 in
theorem cut_walk_none (i : Int) (w : World) :
    Calls Try.prog 6 #[.slice none 0 0, .int .i64 i] w fun e w' => e = .returned (.bool true) ∧ Below w.heap.size w w' := by
  have c1 := bytes18_any none 0 0 [] i w (by omega) rfl (Or.inl rfl)
  have c2 := over_any none 0 0 [] 1048576 w (by omega) rfl (Or.inl rfl)
  have hne := fun (w : World) => run_neq_slice_nil_any (P := Try.prog) w 22 9 none 0 0 0 0 Try.underlying22
  have d1 := zzlatest_any none 0 0 [] w (by omega) rfl (Or.inl rfl)
  have d4 := zzlatest_any (some ⟨w.heap.size, 0, none⟩) 2 2 [latest [], latest []] (w.alloc (.cells #[.string (latest []), .string (latest [])] 9)) (by omega) rfl (pair_at w _ _)
  rw [latest_cut, List.nil_append] at d4
  obtain ⟨m, hmd⟩ : ∃ m, m = latest [] := ⟨_, rfl⟩
  have hme : m.toList.isEmpty = true := by rw [hmd]; exact empty_isEmpty
  rw [← hmd] at d1 d4
  clear hmd
  go_enter Try.func6, Try.ntmps6
  go_wp2_with fail
  refine c1.mono ?_
  rintro e w' ⟨b1, rfl, rfl⟩
  cases b1
  · go_wp2
    go_ret
    exact ⟨rfl, Below.refl _ _⟩
  go_wp2_with fail
  refine c2.mono ?_
  rintro e w' ⟨b2, rfl, hb2, rfl⟩
  cases b2
  rotate_left
  · go_wp2
    go_ret
    exact ⟨rfl, Below.refl _ _⟩
  clear hb2 c1 c2
  by_cases hi0 : i < 0
  · go_wp2
    go_ret
    exact ⟨rfl, Below.refl _ _⟩
  by_cases hi1 : (0 : Int) < i
  · go_wp2
    go_ret
    exact ⟨rfl, Below.refl _ _⟩
  obtain rfl : i = 0 := by omega
  clear hi0 hi1
  go_wp2_with fail
  refine d1.mono ?_
  rintro e W2 ⟨rfl, rfl⟩
  go_wp2_with fail
  refine d1.mono ?_
  rintro e W2 ⟨rfl, rfl⟩
  go_wp2_with fail
  refine d1.mono ?_
  rintro e W2 ⟨rfl, rfl⟩
  go_wp2_with fail
  refine d4.mono ?_
  rintro e W2' ⟨rfl, rfl⟩
  go_wp2
  go_ret
  exact ⟨rfl, (Below.refl _ _).alloc (Nat.le_refl _) _⟩

end Go.Proofs.Qxb6619218a
