/-
  THE WALKS of what 'FnPlacesOf..' call besides 'placesOf': zzArePlacesOf, zzCloneStrings, ZZNewReadSet, the bounds' tests.
-/
import Derived.Test.Qxb6619218aCut
import Derived.Test.Qxb6619218aGreat
import Derived.Test.Qxb6619218aHits
namespace Go.Proofs.Qxb6619218a
open Go.RowKit

/-- A slice of ints holds just these places; nil where there are none. -/
def PlacesAt (w : World) (v : Value) (ps : List Nat) : Prop :=
  (ps = [] ∧ v = .slice none 0 0) ∨
  (ps ≠ [] ∧ ∃ g o cap, v = .slice (some ⟨g, o, none⟩) ps.length cap ∧ ∀ j, j < ps.length → w.cell? ⟨g, o + j, none⟩ = some (.int .i64 (ps.getD j 0 : Nat)))

theorem cell_lt {w : World} {g o : Nat} {v : Value} (h : w.cell? ⟨g, o, none⟩ = some v) : g < w.heap.size := by
  apply Decidable.byContradiction
  intro hn
  have e : w.heap[g]? = none := Array.getElem?_eq_none (by omega)
  simp [World.cell?, e] at h

theorem PlacesAt.below {w w' : World} {v : Value} {ps : List Nat} (h : PlacesAt w v ps) (hb : Below w.heap.size w w') : PlacesAt w' v ps := by
  rcases h with h | ⟨hne, g, o, cap, rfl, hc⟩
  · exact Or.inl h
  · refine Or.inr ⟨hne, g, o, cap, rfl, fun j hj => ?_⟩
    have := hc j hj
    rw [hb.cell (p := ⟨g, o + j, none⟩) (by exact cell_lt this)]
    exact this

theorem StrsAt.below {w w' : World} {a : Option Addr} {ss : List ByteArray} (h : StrsAt w a ss) (hb : Below w.heap.size w w') : StrsAt w' a ss := by
  rcases h with h | ⟨b, off, rfl, hlt, hc⟩
  · exact Or.inl h
  · refine Or.inr ⟨b, off, rfl, Nat.lt_of_lt_of_le hlt hb.size, fun j hj => ?_⟩
    rw [hb.cell (p := ⟨b, off + j, none⟩) hlt]
    exact hc j hj

/-! ### zzArePlacesOf -/
set_option maxRecDepth 100000 in
theorem are_none (a : Option Addr) (cap : Nat) (key : ByteArray) (w : World) :
    Calls Try.prog 13 #[.slice a 0 cap, .string key, .slice none 0 0] w (TruePost w) := by
  have hnl := fun (w : World) => Lib.run_eql_slice_nil (P := Try.prog) w 28 3 none 0 0 0 0 Try.underlying28
  go_enter Try.func13, Try.ntmps13
  go_wp2
  refine wp_loop_rounds 1 ?_
  rw [rounds_succ]
  go_wp2
  refine wp_loop_rounds 1 ?_
  rw [rounds_succ]
  go_wp2
  go_ret
  exact ⟨rfl, rfl⟩

theorem hits_nil {ss : List ByteArray} {key : ByteArray} {k : Nat} (h : hits ss key k = []) : ((hits ss key k).length : Int) = 0 := by rw [h]; rfl

set_option maxRecDepth 100000 in
theorem are_some_nil (b off len cap : Nat) (ss : List ByteArray) (key : ByteArray) (w : World) (hm : len ≤ 1048576) (hz : len ≤ ss.length)
    (hc : ∀ j, j < ss.length → w.cell? ⟨b, off + j, none⟩ = some (.string (ss.getD j ByteArray.empty))) (hno : Hid (hits ss key len = [])) :
    Calls Try.prog 13 #[.slice (some ⟨b, off, none⟩) len cap, .string key, .slice none 0 0] w (TruePost w) := by
  have hnl := fun (w : World) => Lib.run_eql_slice_nil (P := Try.prog) w 28 3 none 0 0 0 0 Try.underlying28
  go_enter Try.func13, Try.ntmps13
  go_wp2
  go_loop [7, 8] (fun c i => ∃ (k n : Nat), k ≤ len ∧ i = .int .i64 k ∧ c = .int .i64 n ∧ n ≤ k ∧ Hid (n = (hits ss key k).length)) (fun _ i => len - (intOf i).toNat)
  case atStart => exact ⟨0, 0, Nat.zero_le _, rfl, rfl, Nat.le_refl _, rfl⟩
  case round =>
    obtain ⟨k, n, hk, rfl, rfl, hn, hcnt⟩ := hrel
    by_cases hlt : k < len
    · have hcx : w.cell? ⟨b, off + k, none⟩ = some (.string (ss.getD k ByteArray.empty)) := hc k (by omega)
      go_wp2
      · go_round
        case rel => exact ⟨k + 1, n + 1, by omega, by go_num, by go_num, by omega, by rw [hits_hit (by assumption), List.length_append, ← hcnt.out]; rfl⟩
        case measure => simp [intOf]; omega
      · go_round
        case rel => exact ⟨k + 1, n, by omega, by go_num, rfl, by omega, by rw [hits_miss (by assumption)]; exact hcnt⟩
        case measure => simp [intOf]; omega
    · obtain rfl : k = len := by omega
      obtain rfl : n = 0 := by rw [hcnt.out, hno.out]; rfl
      go_wp2
      refine wp_loop_rounds 1 ?_
      rw [rounds_succ]
      go_wp2
      go_ret
      exact ⟨rfl, rfl⟩

set_option maxRecDepth 100000 in
set_option maxHeartbeats 400000 in
theorem are_some_some (b off len cap g o gc N : Nat) (ss : List ByteArray) (key : ByteArray) (w : World) (hm : len ≤ 1048576) (hz : len ≤ ss.length)
    (hc : ∀ j, j < ss.length → w.cell? ⟨b, off + j, none⟩ = some (.string (ss.getD j ByteArray.empty))) (hN : Hid (N = (hits ss key len).length)) (hpos : 0 < N)
    (hg : Hid (∀ j, j < (hits ss key len).length → w.cell? ⟨g, o + j, none⟩ = some (.int .i64 ((hits ss key len).getD j 0 : Nat)))) :
    Calls Try.prog 13 #[.slice (some ⟨b, off, none⟩) len cap, .string key, .slice (some ⟨g, o, none⟩) N gc] w (TruePost w) := by
  have hnl := fun (w : World) => Lib.run_eql_slice_nil (P := Try.prog) w 28 3 (some ⟨g, o, none⟩) N gc 0 0 Try.underlying28
  have hNl : N ≤ len := by rw [hN.out]; exact hits_le _ _ _
  have hNe : ((N : Int) == 0) = false := by simp; omega
  go_enter Try.func13, Try.ntmps13
  go_wp2
  go_loop [7, 8] (fun c i => ∃ (k n : Nat), k ≤ len ∧ i = .int .i64 k ∧ c = .int .i64 n ∧ n ≤ k ∧ Hid (n = (hits ss key k).length)) (fun _ i => len - (intOf i).toNat)
  case atStart => exact ⟨0, 0, Nat.zero_le _, rfl, rfl, Nat.le_refl _, rfl⟩
  case round =>
    obtain ⟨k, n, hk, rfl, rfl, hn, hcnt⟩ := hrel
    by_cases hlt : k < len
    · have hcx : w.cell? ⟨b, off + k, none⟩ = some (.string (ss.getD k ByteArray.empty)) := hc k (by omega)
      go_wp2
      · go_round
        case rel => exact ⟨k + 1, n + 1, by omega, by go_num, by go_num, by omega, by rw [hits_hit (by assumption), List.length_append, ← hcnt.out]; rfl⟩
        case measure => simp [intOf]; omega
      · go_round
        case rel => exact ⟨k + 1, n, by omega, by go_num, rfl, by omega, by rw [hits_miss (by assumption)]; exact hcnt⟩
        case measure => simp [intOf]; omega
    · obtain rfl : k = len := by omega
      obtain rfl : n = N := by rw [hcnt.out, hN.out]
      clear hcnt hlt
      go_wp2
      go_loop [9, 10] (fun p i => ∃ (j : Nat) (q : Int), j ≤ n ∧ i = .int .i64 j ∧ p = .int .i64 q ∧ Hid (∀ t, j ≤ t → t < n → q < ((hits ss key k).getD t 0 : Nat))) (fun _ i => n - (intOf i).toNat)
      case atStart => exact ⟨0, -1, Nat.zero_le _, rfl, rfl, fun t _ _ => by omega⟩
      case round =>
        obtain ⟨j, q, hj, rfl, rfl, hq⟩ := hrel
        by_cases hlt : j < n
        · have hjl : j < (hits ss key k).length := by rw [← hN.out]; exact hlt
          obtain ⟨p, hp⟩ : ∃ p, p = (hits ss key k).getD j 0 := ⟨_, rfl⟩
          have hgc : w.cell? ⟨g, o + j, none⟩ = some (.int .i64 (p : Nat)) := by rw [hp]; exact hg.out j hjl
          have hpq : q < (p : Nat) := by rw [hp]; exact hq.out j (Nat.le_refl _) hlt
          have hpk : p < k := by rw [hp]; exact hits_lt hjl
          have hpc : w.cell? ⟨b, off + p, none⟩ = some (.string (ss.getD p ByteArray.empty)) := hc p (by omega)
          have hpe : ((ss[p]?.getD ByteArray.empty).toList == key.toList) = true := by
            have := hits_eq hjl
            rw [← hp] at this
            have e : (ss[p]?.getD ByteArray.empty) = ss.getD p ByteArray.empty := rfl
            rw [e, this]; simp
          have HQ : Hid (∀ t, j + 1 ≤ t → t < n → ((p : Nat) : Int) < ((hits ss key k).getD t 0 : Nat)) := by
            intro t h1 h2
            have := hits_lt_lt (ss := ss) (key := key) (k := k) (i := j) (j := t) (by omega) (by rw [← hN.out]; exact h2)
            rw [← hp] at this; omega
          clear hp hjl
          go_wp2
          go_round
          case rel => exact ⟨j + 1, p, by omega, by go_num, rfl, HQ⟩
          case measure => simp [intOf]; omega
        · go_wp2
          go_ret
          exact ⟨rfl, rfl⟩

theorem are_any (a : Option Addr) (len cap : Nat) (ss : List ByteArray) (key : ByteArray) (v : Value) (w : World) (hm : len ≤ 1048576) (hlen : ss.length = len) (h : StrsAt w a ss) (hp : PlacesAt w v (hits ss key len)) :
    Calls Try.prog 13 #[.slice a len cap, .string key, v] w (TruePost w) := by
  rcases h with rfl | ⟨b, off, rfl, _, hc⟩
  · simp at hlen
    subst hlen
    rcases hp with ⟨_, rfl⟩ | ⟨hne, _⟩
    · exact are_none a cap key w
    · exact absurd (hits_zero _ _) hne
  · rcases hp with ⟨h0, rfl⟩ | ⟨hne, g, o, gc, rfl, hg⟩
    · exact are_some_nil b off len cap ss key w hm (by omega) hc h0
    · exact are_some_some b off len cap g o gc _ ss key w hm (by omega) hc rfl (List.length_pos_iff.2 hne) hg

/-! ### zzCloneStrings -/
theorem clone_none (w : World) : Calls Try.prog 10 #[.slice none 0 0] w fun e w' => e = .returned (.slice none 0 0) ∧ w' = w := by
  have hnl := fun (w : World) => Lib.run_eql_slice_nil (P := Try.prog) w 22 9 none 0 0 0 0 Try.underlying22
  go_enter Try.func10, Try.ntmps10
  go_wp2
  go_ret
  exact ⟨rfl, rfl⟩

theorem block_setCell {w : World} {g k : Nat} {cur : Array Value} {t : TypeId} {fr : Nat × Nat} (h : w.heap[g]? = some (.cells cur t fr)) (v : Value) : (w.setCell ⟨g, k, none⟩ v).heap[g]? = some (.cells (cur.setIfInBounds k v) t fr) := by
  have hlt : g < w.heap.size := (Array.getElem?_eq_some_iff.1 h).1
  have h' : w.heap[g] = .cells cur t fr := (Array.getElem?_eq_some_iff.1 h).2
  show (w.heap.modify g _)[g]? = _
  rw [Array.getElem?_eq_getElem (by simpa using hlt), Array.getElem_modify_self, h']
  rfl

theorem RowOf.set {w : World} {g : Nat} {ss : List ByteArray} (h : RowOf w g ss) (k : Nat) (s : ByteArray) : RowOf (w.setCell ⟨g, k, none⟩ (.string s)) g (ss.set k s) := by
  unfold RowOf at *
  rw [block_setCell h]
  simp [List.map_set]

theorem RowOf.frozen {w : World} {g : Nat} {ss : List ByteArray} (h : RowOf w g ss) (j : Nat) : w.frozen? ⟨g, j, none⟩ = false := by
  unfold RowOf at h
  simp [World.frozen?, h]

theorem RowOf.made (w : World) (len : Nat) : RowOf (w.alloc (.cells (madeCells #[.string ByteArray.empty] len) 9)) w.heap.size (List.replicate len ByteArray.empty) := by
  unfold RowOf
  show (w.heap.push _)[w.heap.size]? = _
  simp only [Array.getElem?_push, if_true]
  congr 1
  congr 1
  apply Array.ext'
  rw [toList_madeCells_one]
  simp

def ClonePost (w : World) (len : Nat) (ss : List ByteArray) (e : Ending) (w' : World) : Prop :=
  e = .returned (.slice (some ⟨w.heap.size, 0, none⟩) len len) ∧ RowOf w' w.heap.size ss ∧ Below w.heap.size w w'

/-- So far k of the strings have been laid over. -/
def Laid (ss L : List ByteArray) (len k : Nat) : Prop := L.length = len ∧ ∀ j, j < k → L.getD j ByteArray.empty = ss.getD j ByteArray.empty

theorem laid_step {ss L : List ByteArray} {len k : Nat} (h : Hid (Laid ss L len k)) (hk : k < len) : Hid (Laid ss (L.set k (ss[k]?.getD ByteArray.empty)) len (k + 1)) := by
  obtain ⟨h1, h2⟩ := h
  refine ⟨by simp [h1], fun j hj => ?_⟩
  by_cases e : j = k
  · subst e
    simp [List.getD, h1, hk]
  · have := h2 j (by omega)
    simp only [List.getD] at this ⊢
    rw [List.getElem?_set_ne (fun h => e h.symm)]
    exact this

theorem laid_end {ss L : List ByteArray} {len k : Nat} (h : Hid (Laid ss L len k)) (hk : len ≤ k) (hlen : ss.length = len) : L = ss := by
  obtain ⟨h1, h2⟩ := h
  apply List.ext_getElem (by omega)
  intro i hi hi'
  have := h2 i (by omega)
  simpa [List.getD, List.getElem?_eq_getElem hi, List.getElem?_eq_getElem hi'] using this

set_option maxRecDepth 100000 in
theorem clone_some_none (x : Addr) (cap : Nat) (w : World) : Calls Try.prog 10 #[.slice (some x) 0 cap] w (ClonePost w 0 []) := by
  have hnl := fun (w : World) => Lib.run_eql_slice_nil (P := Try.prog) w 22 9 (some x) 0 cap 0 0 Try.underlying22
  have hmk : ∀ w : World, (Instr.makeSlice 22 (.int .i64 0) (.int .i64 0)).run Try.prog w = .ok (.slice (some ⟨w.heap.size, 0, none⟩) 0 0) (w.alloc (.cells (madeCells #[.string ByteArray.empty] 0) 9)) :=
    run_make_row' (P := Try.prog) 22 9 (.string ByteArray.empty) 16 Try.underlying22 Try.info9 rfl .i64 .i64 0 (by omega) (by omega)
  go_enter Try.func10, Try.ntmps10
  go_wp2
  refine wp_loop_rounds 1 ?_
  rw [rounds_succ]
  go_wp2
  go_ret
  exact ⟨rfl, RowOf.made w 0, (Below.refl _ _).alloc (Nat.le_refl _) _⟩

set_option maxRecDepth 100000 in
theorem clone_some (b off len cap : Nat) (ss : List ByteArray) (w : World) (hm : len ≤ 1048576) (HL : Hid (ss.length = len)) (hb : b < w.heap.size)
    (hc : ∀ j, j < ss.length → w.cell? ⟨b, off + j, none⟩ = some (.string (ss.getD j ByteArray.empty))) :
    Calls Try.prog 10 #[.slice (some ⟨b, off, none⟩) len cap] w (ClonePost w len ss) := by
  have hnl := fun (w : World) => Lib.run_eql_slice_nil (P := Try.prog) w 22 9 (some ⟨b, off, none⟩) len cap 0 0 Try.underlying22
  have hmk := run_make_row' (P := Try.prog) 22 9 (.string ByteArray.empty) 16 Try.underlying22 Try.info9 rfl .i64 .i64 len (by omega) (by omega)
  go_enter Try.func10, Try.ntmps10
  go_wp2
  go_loopw [4] (fun i wr => ∃ (k : Nat) (L : List ByteArray), k ≤ len ∧ i = .int .i64 k ∧ Hid (RowOf wr w.heap.size L) ∧ Hid (Laid ss L len k) ∧ Below w.heap.size w wr) (fun i _ => len - (intOf i).toNat)
  case atStart => exact ⟨0, _, Nat.zero_le _, rfl, RowOf.made w len, ⟨by simp, fun j hj => absurd hj (by omega)⟩, (Below.refl _ _).alloc (Nat.le_refl _) _⟩
  case round =>
    obtain ⟨k, L, hk, rfl, hrow, hlaid, hbel⟩ := hrel
    by_cases hlt : k < len
    · have hcx : wr.cell? ⟨b, off + k, none⟩ = some (.string (ss.getD k ByteArray.empty)) := (hbel.cell (by exact hb)).trans (hc k (by have := HL.out; omega))
      have hcd : wr.cell? ⟨w.heap.size, k, none⟩ = some (.string (L.getD k ByteArray.empty)) := hrow.out.cell k (by have := hlaid.out.1; omega)
      have hfz := hrow.out.frozen k
      go_wp2
      go_roundw
      case rel => exact ⟨k + 1, _, by omega, by go_num, hrow.out.set k _, laid_step hlaid hlt, hbel.setCell (Nat.le_refl _) _⟩
      case measure => simp [intOf]; omega
    · go_wp2
      go_ret
      exact ⟨rfl, by rw [← laid_end hlaid (by omega) HL.out]; exact hrow, hbel⟩

theorem clone_any (x : Addr) (len cap : Nat) (ss : List ByteArray) (w : World) (hm : len ≤ 1048576) (hlen : ss.length = len) (h : StrsAt w (some x) ss) :
    Calls Try.prog 10 #[.slice (some x) len cap] w (ClonePost w len ss) := by
  rcases h with rfl | ⟨b, off, hx, hb, hc⟩
  · simp at hlen; subst hlen; exact clone_some_none x cap w
  · cases hx; exact clone_some b off len cap ss w hm hlen hb hc

/-! ### ZZNewReadSet -/
theorem new_any (a : Option Addr) (len cap : Nat) (w : World) : Calls Try.prog 11 #[.slice a len cap] w fun e w' => e = .returned (.pointer (some ⟨w.heap.size, 0, none⟩)) ∧ w' = w.alloc (.cells #[.slice none 0 0, .slice a len cap, .map none] 47) := by
  go_enter Try.func11, Try.ntmps11
  go_wp2
  go_ret
  exact ⟨rfl, rfl⟩

end Go.Proofs.Qxb6619218a
