/-
  THE WALK of 'FnLatestOfIsTheGreatestPreferringStable'.
-/
import Derived.Test.Qxb6619218aCut
namespace Go.Proofs.Qxb6619218a
open Go.RowKit

/-! ### the bound's test, laid by program -/
set_option maxRecDepth 100000 in
theorem bytes15_none (a : Option Addr) (cap : Nat) (w : World) :
    Calls Try.prog 15 #[.slice a 0 cap] w (BoolPost w) := by
  go_enter Try.func15, Try.ntmps15
  go_wp2
  refine wp_loop_rounds 1 ?_
  rw [rounds_succ]
  go_wp2
  go_ret
  exact BoolPost.mk'

set_option maxRecDepth 100000 in
theorem bytes15_some (b off len cap : Nat) (ss : List ByteArray) (w : World) (hm : len ≤ 9223372036854775807) (hz : len ≤ ss.length)
    (hc : ∀ j, j < ss.length → w.cell? ⟨b, off + j, none⟩ = some (.string (ss.getD j ByteArray.empty))) :
    Calls Try.prog 15 #[.slice (some ⟨b, off, none⟩) len cap] w (BoolPost w) := by
  go_enter Try.func15, Try.ntmps15
  go_wp2
  · go_ret
    exact BoolPost.mk'
  · go_loop [3, 4] (fun t i => ∃ (k : Nat) (x : Int), k ≤ len ∧ i = .int .i64 k ∧ t = .int .i64 x) (fun _ i => len - (intOf i).toNat)
    case atStart => exact ⟨0, _, Nat.zero_le _, rfl, rfl⟩
    case round =>
      obtain ⟨k, x, hk, rfl, rfl⟩ := hrel
      have hcx : k < len → w.cell? ⟨b, off + k, none⟩ = some (.string (ss.getD k ByteArray.empty)) := fun _ => hc k (by omega)
      go_wp2
      · go_ret
        exact BoolPost.mk'
      · go_ret
        exact BoolPost.mk'
      · go_round
        case rel => exact ⟨k + 1, _, by omega, by go_num, rfl⟩
        case measure => simp [intOf]; omega
      · go_ret
        exact BoolPost.mk'

theorem bytes15_any (a : Option Addr) (len cap : Nat) (ss : List ByteArray) (w : World) (hm : len ≤ 9223372036854775807) (hlen : ss.length = len) (h : StrsAt w a ss) :
    Calls Try.prog 15 #[.slice a len cap] w (BoolPost w) := by
  rcases h with rfl | ⟨b, off, rfl, _, hc⟩
  · simp at hlen; subst hlen; exact bytes15_none a cap w
  · exact bytes15_some b off len cap ss w hm (by omega) hc

/-! ### zzIsLatest -/
def TruePost (w : World) (e : Ending) (w' : World) : Prop := e = .returned (.bool true) ∧ w' = w

set_option maxRecDepth 100000 in
theorem isLatest_none (a : Option Addr) (cap : Nat) (m : ByteArray) (hm : m.toList.isEmpty = true) (w : World) :
    Calls Try.prog 17 #[.slice a 0 cap, .string m] w (TruePost w) := by
  go_enter Try.func17, Try.ntmps17
  go_wp2
  refine wp_loop_rounds 1 ?_
  rw [rounds_succ]
  go_wp2
  refine wp_loop_rounds 1 ?_
  rw [rounds_succ]
  go_wp2
  go_ret
  exact ⟨rfl, rfl⟩

theorem any_hit {ss : List ByteArray} {k : Nat} (hk : k < ss.length) (h : (((ss[k]?.getD ByteArray.empty).size : Int) == 10) = true) : (ss.take (k + 1)).any isStable = true := by
  rw [take_snoc hk, List.any_append]
  have : isStable (ss.getD k ByteArray.empty) = true := by
    show ((ss[k]?.getD ByteArray.empty).size == 10) = true
    simp only [beq_iff_eq] at h ⊢; omega
  simp only [List.any_cons, this, Bool.true_or, Bool.or_true]
theorem any_miss {ss : List ByteArray} {k : Nat} (hk : k < ss.length) (h : (((ss[k]?.getD ByteArray.empty).size : Int) == 10) = false) : (ss.take (k + 1)).any isStable = (ss.take k).any isStable := by
  rw [take_snoc hk, List.any_append]
  have : isStable (ss.getD k ByteArray.empty) = false := by
    show ((ss[k]?.getD ByteArray.empty).size == 10) = false
    cases e : (ss[k]?.getD ByteArray.empty).size == 10 with
    | false => rfl
    | true => simp only [beq_iff_eq] at e; rw [e] at h; simp at h
  simp only [List.any_cons, this, Bool.or_false, List.any_nil]

/-- What the second loop has seen: while nothing is found, no candidate is the answer. -/
def Seen (ss : List ByteArray) (m : ByteArray) (B : Bool) (k : Nat) (f : Bool) : Prop := f = false → ∀ j, j < k → (B = true → (ss.getD j ByteArray.empty).size = 10) → ss.getD j ByteArray.empty ≠ m

theorem less_never {ss : List ByteArray} {m : ByteArray} {B : Bool} {j k : Nat} (hB : Hid (B = ss.any isStable)) (hm : Hid (m = latest ss)) (hk : k ≤ ss.length) (hj : j < k) (hs : B = true → (((ss[j]?.getD ByteArray.empty).size : Int) != 10) = false)
    (h : Op.bytesLess m.toList (ss[j]?.getD ByteArray.empty).toList = true) : False := by
  have hmem : ss.getD j ByteArray.empty ∈ ss := by
    have hj' : j < ss.length := by omega
    simp [List.getD, List.getElem?_eq_getElem hj']
  have hc : ss.getD j ByteArray.empty ∈ cand ss := by
    cases B with
    | true =>
      rw [cand_pos hB.out.symm]
      refine List.mem_filter.2 ⟨hmem, ?_⟩
      have := hs rfl
      show ((ss[j]?.getD ByteArray.empty).size == 10) = true
      simp only [bne_eq_false_iff_eq] at this
      simp only [beq_iff_eq]; omega
    | false => rw [cand_neg hB.out.symm]; exact hmem
  have := latest_ge hc
  rw [← hm.out] at this
  rw [less_eq, Lib.toList_data, Lib.toList_data] at h
  exact this (of_decide_eq_true h)

theorem seen_hit {ss : List ByteArray} {m : ByteArray} {B : Bool} {j : Nat} : Hid (Seen ss m B (j + 1) true) := fun h => by cases h
theorem seen_miss {ss : List ByteArray} {m : ByteArray} {B f : Bool} {j : Nat} (hS : Hid (Seen ss m B j f)) (h : ((ss[j]?.getD ByteArray.empty).toList == m.toList) = false) : Hid (Seen ss m B (j + 1) f) := by
  intro hf i hi hs e
  by_cases hij : i < j
  · exact hS hf i hij hs e
  · obtain rfl : i = j := by omega
    have e' : (ss[i]?.getD ByteArray.empty) = m := e
    rw [e'] at h; simp at h
theorem seen_skip {ss : List ByteArray} {m : ByteArray} {f : Bool} {j : Nat} (hS : Hid (Seen ss m true j f)) (h : (((ss[j]?.getD ByteArray.empty).size : Int) != 10) = true) : Hid (Seen ss m true (j + 1) f) := by
  intro hf i hi hs e
  by_cases hij : i < j
  · exact hS hf i hij hs e
  · obtain rfl : i = j := by omega
    have e' : (ss[i]?.getD ByteArray.empty).size = 10 := hs rfl
    rw [e'] at h; simp at h
theorem seen_end {ss : List ByteArray} {m : ByteArray} {B f : Bool} {j k : Nat} (hB : Hid (B = ss.any isStable)) (hm : Hid (m = latest ss)) (hpos : 0 < k) (hk : ss.length ≤ k) (hk2 : k ≤ ss.length) (hj : ¬ j < k) (hf : (!f) = true) (hS : Hid (Seen ss m B j f)) : False := by
  have hne : ss ≠ [] := by intro e; rw [e] at hk2; simp at hk2; omega
  have hmem := latest_cand hne
  rw [← hm.out] at hmem
  obtain ⟨i, hi, e⟩ := List.mem_iff_getElem.1 (cand_sub hmem)
  have eg : ss.getD i ByteArray.empty = m := by simp [List.getD, List.getElem?_eq_getElem hi, e]
  refine hS.out (by simpa using hf) i (by omega) (fun hb => ?_) eg
  rw [eg]
  rw [cand_pos (by rw [← hB.out, hb])] at hmem
  have := (List.mem_filter.1 hmem).2
  simpa [isStable] using this

set_option maxRecDepth 100000 in
set_option maxHeartbeats 400000 in
theorem isLatest_some (b off len cap : Nat) (ss : List ByteArray) (m : ByteArray) (HM : Hid (m = latest ss)) (w : World) (hm : len ≤ 9223372036854775807) (hz : len ≤ ss.length) (hz2 : ss.length ≤ len) (hpos : 0 < len)
    (hc : ∀ j, j < ss.length → w.cell? ⟨b, off + j, none⟩ = some (.string (ss.getD j ByteArray.empty))) :
    Calls Try.prog 17 #[.slice (some ⟨b, off, none⟩) len cap, .string m] w (TruePost w) := by
  go_enter Try.func17, Try.ntmps17
  go_wp2
  go_loop [5, 6] (fun t i => ∃ (k : Nat) (B : Bool), k ≤ len ∧ i = .int .i64 k ∧ t = .bool B ∧ Hid (B = (ss.take k).any isStable)) (fun _ i => len - (intOf i).toNat)
  case atStart => exact ⟨0, false, Nat.zero_le _, rfl, rfl, rfl⟩
  case round =>
    obtain ⟨k, B, hk, rfl, rfl, hB⟩ := hrel
    by_cases hlt : k < len
    · have hcx : w.cell? ⟨b, off + k, none⟩ = some (.string (ss.getD k ByteArray.empty)) := hc k (by omega)
      go_wp2
      · go_round
        case rel => exact ⟨k + 1, true, by omega, by go_num, rfl, (any_hit (by omega) (by assumption)).symm⟩
        case measure => simp [intOf]; omega
      · go_round
        case rel => exact ⟨k + 1, B, by omega, by go_num, rfl, hB.out.trans (any_miss (by omega) (by assumption)).symm⟩
        case measure => simp [intOf]; omega
    · obtain rfl : k = len := by omega
      have HB : Hid (B = ss.any isStable) := by
        have := hB.out
        rwa [List.take_of_length_le (by omega)] at this
      clear hB hlt
      cases B
      · go_wp2
        go_loop [7, 8] (fun t i => ∃ (j : Nat) (f : Bool), j ≤ k ∧ i = .int .i64 j ∧ t = .bool f ∧ Hid (Seen ss m false j f)) (fun _ i => k - (intOf i).toNat)
        case atStart => exact ⟨0, false, Nat.zero_le _, rfl, rfl, fun _ j hj => absurd hj (by omega)⟩
        case round =>
          obtain ⟨j, f, hj, rfl, rfl, hS⟩ := hrel
          have hcx : j < k → w.cell? ⟨b, off + j, none⟩ = some (.string (ss.getD j ByteArray.empty)) := fun _ => hc j (by omega)
          go_wp2
          · exact (less_never HB HM hz (by assumption) (fun h => by cases h) (by assumption)).elim
          · go_round
            case rel => exact ⟨j + 1, true, by omega, by go_num, rfl, seen_hit⟩
            case measure => simp [intOf]; omega
          · exact (less_never HB HM hz (by assumption) (fun h => by cases h) (by assumption)).elim
          · go_round
            case rel => exact ⟨j + 1, f, by omega, by go_num, rfl, seen_miss hS (by assumption)⟩
            case measure => simp [intOf]; omega
          · exact (seen_end HB HM hpos hz2 hz (by assumption) (by assumption) hS).elim
          · go_ret
            exact ⟨rfl, rfl⟩
      · go_wp2
        go_loop [7, 8] (fun t i => ∃ (j : Nat) (f : Bool), j ≤ k ∧ i = .int .i64 j ∧ t = .bool f ∧ Hid (Seen ss m true j f)) (fun _ i => k - (intOf i).toNat)
        case atStart => exact ⟨0, false, Nat.zero_le _, rfl, rfl, fun _ j hj => absurd hj (by omega)⟩
        case round =>
          obtain ⟨j, f, hj, rfl, rfl, hS⟩ := hrel
          have hcx : j < k → w.cell? ⟨b, off + j, none⟩ = some (.string (ss.getD j ByteArray.empty)) := fun _ => hc j (by omega)
          go_wp2
          · go_round
            case rel => exact ⟨j + 1, f, by omega, by go_num, rfl, seen_skip hS (by assumption)⟩
            case measure => simp [intOf]; omega
          · exact (less_never HB HM hz (by assumption) (fun _ => by assumption) (by assumption)).elim
          · go_round
            case rel => exact ⟨j + 1, true, by omega, by go_num, rfl, seen_hit⟩
            case measure => simp [intOf]; omega
          · exact (less_never HB HM hz (by assumption) (fun _ => by assumption) (by assumption)).elim
          · go_round
            case rel => exact ⟨j + 1, f, by omega, by go_num, rfl, seen_miss hS (by assumption)⟩
            case measure => simp [intOf]; omega
          · exact (seen_end HB HM hpos hz2 hz (by assumption) (by assumption) hS).elim
          · go_ret
            exact ⟨rfl, rfl⟩

theorem isLatest_any (a : Option Addr) (len cap : Nat) (ss : List ByteArray) (m : ByteArray) (hmd : m = latest ss) (w : World) (hm : len ≤ 9223372036854775807) (hlen : ss.length = len) (h : StrsAt w a ss) :
    Calls Try.prog 17 #[.slice a len cap, .string m] w (TruePost w) := by
  by_cases h0 : len = 0
  · subst h0
    have hss : ss = [] := List.eq_nil_of_length_eq_zero hlen
    exact isLatest_none a cap m (by rw [hmd, hss]; exact empty_isEmpty) w
  · rcases h with rfl | ⟨b, off, rfl, _, hc⟩
    · simp at hlen; omega
    · exact isLatest_some b off len cap ss m hmd w hm (by omega) (by omega) (by omega) hc

set_option maxRecDepth 100000 in
theorem great_walk_some (x : Addr) (len cap : Nat) (ss : List ByteArray) (w : World) (hm : len ≤ 9223372036854775807) (hlen : ss.length = len) (h : StrsAt w (some x) ss) :
    Calls Try.prog 5 #[.slice (some x) len cap] w fun e w' => e = .returned (.bool true) ∧ Below w.heap.size w w' := by
  have c1 := bytes15_any (some x) len cap ss w hm hlen h
  have c2 := over_any (some x) len cap ss 1048576 w hm hlen h
  have HL : Hid (ss.length = len) := hlen
  clear hlen
  have hne := fun (w : World) => run_neq_slice_nil_any (P := Try.prog) w 22 9 (some x) len cap 0 0 Try.underlying22
  go_enter Try.func5, Try.ntmps5
  go_wp2_with fail
  refine c1.mono ?_
  rintro e w' ⟨b1, rfl, rfl⟩
  cases b1
  · go_wp2
    go_ret
    exact ⟨rfl, Below.refl _ _⟩
  go_wp2_with fail
  refine c2.mono ?_
  rintro e w' ⟨b2, rfl, hb2, rfl⟩
  cases b2
  rotate_left
  · go_wp2
    go_ret
    exact ⟨rfl, Below.refl _ _⟩
  have hl : (len : Int) ≤ 1048576 := hb2 rfl
  clear hb2 c1 c2
  have hmk := run_make_row' (P := Try.prog) 22 9 (.string ByteArray.empty) 16 Try.underlying22 Try.info9 rfl .i64 .i64 len (by omega) (by omega)
  obtain ⟨W2, hcp, hrow, hbel⟩ := copy_made w' x len cap ss HL.out h
  obtain ⟨m, hmd⟩ : ∃ m, m = latest ss := ⟨_, rfl⟩
  have d1 := zzlatest_any (some ⟨w'.heap.size, 0, none⟩) len len ss W2 hm HL.out (hrow.out.part 0)
  have d2 := isLatest_any (some ⟨w'.heap.size, 0, none⟩) len len ss m hmd W2 hm HL.out (hrow.out.part 0)
  rw [← hmd] at d1
  clear hmd
  go_wp2_with fail
  refine d1.mono ?_
  rintro e W2 ⟨rfl, rfl⟩
  go_wp2_with fail
  refine d2.mono ?_
  rintro e W2 ⟨rfl, rfl⟩
  go_wp2
  go_ret
  exact ⟨rfl, hbel⟩

set_option maxRecDepth 100000 in
theorem great_walk_none (w : World) :
    Calls Try.prog 5 #[.slice none 0 0] w fun e w' => e = .returned (.bool true) ∧ Below w.heap.size w w' := by
  have c1 := bytes15_any none 0 0 [] w (by omega) rfl (Or.inl rfl)
  have c2 := over_any none 0 0 [] 1048576 w (by omega) rfl (Or.inl rfl)
  have hne := fun (w : World) => run_neq_slice_nil_any (P := Try.prog) w 22 9 none 0 0 0 0 Try.underlying22
  obtain ⟨m, hmd⟩ : ∃ m, m = latest [] := ⟨_, rfl⟩
  have d1 := zzlatest_any none 0 0 [] w (by omega) rfl (Or.inl rfl)
  have d2 := isLatest_any none 0 0 [] m hmd w (by omega) rfl (Or.inl rfl)
  rw [← hmd] at d1
  clear hmd
  go_enter Try.func5, Try.ntmps5
  go_wp2_with fail
  refine c1.mono ?_
  rintro e w' ⟨b1, rfl, rfl⟩
  cases b1
  · go_wp2
    go_ret
    exact ⟨rfl, Below.refl _ _⟩
  go_wp2_with fail
  refine c2.mono ?_
  rintro e w' ⟨b2, rfl, hb2, rfl⟩
  cases b2
  rotate_left
  · go_wp2
    go_ret
    exact ⟨rfl, Below.refl _ _⟩
  clear hb2 c1 c2
  go_wp2_with fail
  refine d1.mono ?_
  rintro e W2 ⟨rfl, rfl⟩
  go_wp2_with fail
  refine d2.mono ?_
  rintro e W2 ⟨rfl, rfl⟩
  go_wp2
  go_ret
  exact ⟨rfl, Below.refl _ _⟩

end Go.Proofs.Qxb6619218a
