/-
  THE INDEX that 'indexOfKeys' builds: what holds after k keys, and what one round does to it. No walk here.
-/
import Derived.Test.Qxb6619218aMapIs
namespace Go.Proofs.Qxb6619218a
open Go.RowKit

/-- THE HEADER AT A KEY: nil; one place, in the row of all places; or a row of its own. -/
def Hdr (wr : World) (P : Nat) (ps : List Nat) (v : Value) : Prop :=
  (ps = [] ∧ v = .slice none 0 0) ∨
  (∃ p, ps = [p] ∧ v = .slice (some ⟨P, p, none⟩) 1 1) ∨
  (2 ≤ ps.length ∧ wr.ownsRow (P + 1) 3 1 v ps.length (pcells ps))

structure Idx (B : Nat) (w wr : World) (ss : List ByteArray) (len k : Nat) (h : ByteArray → Value) : Prop where
  map : MapIs wr B k h
  row : ∃ arr : Array Value, wr.heap[B + 1]? = some (.cells arr 3 (0, 0)) ∧ arr.size = len ∧ ∀ j, j < k → arr[j]? = some (.int .i64 (j : Nat))
  hdr : ∀ s, Hdr wr (B + 1) (hits ss s k) (h s)
  apart : ∀ s s', s ≠ s' → 2 ≤ (hits ss s k).length → 2 ≤ (hits ss s' k).length → (h s).ownBlock ≠ (h s').ownBlock
  bel : Below B w wr

theorem hits_other {ss : List ByteArray} {s : ByteArray} {k : Nat} (h : s ≠ ss.getD k ByteArray.empty) : hits ss s (k + 1) = hits ss s k := by
  apply hits_miss
  have e : ss[k]?.getD ByteArray.empty = ss.getD k ByteArray.empty := rfl
  rw [e, Lib.toList_data, Lib.toList_data]
  cases hb : ((ss.getD k ByteArray.empty).data.toList == s.data.toList) with
  | false => rfl
  | true => exact absurd (ba_ext (by simpa using hb)).symm h
theorem hits_self {ss : List ByteArray} {s : ByteArray} {k : Nat} (h : s = ss.getD k ByteArray.empty) : hits ss s (k + 1) = hits ss s k ++ [k] := by
  apply hits_hit
  have e : ss[k]?.getD ByteArray.empty = ss.getD k ByteArray.empty := rfl
  rw [e, h]; simp

theorem Idx.cell {B : Nat} {w wr : World} {ss : List ByteArray} {len k : Nat} {h : ByteArray → Value} (I : Idx B w wr ss len k h) (hk : k < len) :
    ∃ u, wr.cell? ⟨B + 1, k, none⟩ = some u := by
  obtain ⟨arr, hh, hs, _⟩ := I.row
  exact ⟨arr[k]'(by omega), by simp [World.cell?, hh, hs, hk]⟩

theorem Idx.frozen {B : Nat} {w wr : World} {ss : List ByteArray} {len k : Nat} {h : ByteArray → Value} (I : Idx B w wr ss len k h) (j : Nat) : wr.frozen? ⟨B + 1, j, none⟩ = false := by
  obtain ⟨arr, hh, hs, _⟩ := I.row
  simp [World.frozen?, hh]

theorem Idx.one_cell {B : Nat} {w wr : World} {ss : List ByteArray} {len k p : Nat} {s : ByteArray} {h : ByteArray → Value} (I : Idx B w wr ss len k h) (hp : hits ss s k = [p]) (ob : Obj) :
    ((wr.setCell ⟨B + 1, k, none⟩ (.int .i64 (k : Nat))).alloc ob).cell? ⟨B + 1, p, none⟩ = some (.int .i64 (p : Nat)) := by
  have hpk : p < k := by
    have := hits_lt (ss := ss) (key := s) (k := k) (j := 0) (by rw [hp]; simp)
    rw [hp] at this; simpa using this
  obtain ⟨arr, hh, hs, ha⟩ := I.row
  have hlt : B + 1 < wr.heap.size := (Array.getElem?_eq_some_iff.1 hh).1
  have h1 := block_setCell (k := k) hh (.int .i64 (k : Nat))
  have h2 := Below.heap_alloc (wr.setCell ⟨B + 1, k, none⟩ (.int .i64 (k : Nat))) ob (B + 1) (by simpa [World.setCell] using hlt)
  have h3 : (arr.setIfInBounds k (.int .i64 (k : Nat)))[p]? = some (.int .i64 (p : Nat)) := by
    rw [Array.getElem?_setIfInBounds_ne (by omega)]; exact ha p hpk
  simp only [World.cell?, h2, h1, h3]
  rfl

theorem owns_base {w : World} {base n : Nat} {v : Value} {xs : List Value} (h : w.ownsRow base 3 1 v n xs) {g : Nat} (hg : v.ownBlock = some g) : base ≤ g ∧ g < w.heap.size := h.lt g hg

/-- ONE ROUND. 'row': the row into which the append may have written. -/
theorem Idx.step {B : Nat} {w wr Wa W2 : World} {ss : List ByteArray} {len k : Nat} {h : ByteArray → Value} (I : Idx B w wr ss len k h) (hk : k < len) {s : ByteArray} (hs : s = ss.getD k ByteArray.empty) {v : Value} {row : Option Nat}
    (ga : (wr.setCell ⟨B + 1, k, none⟩ (.int .i64 (k : Nat))).grownBy Wa row) (hrow : ∀ g, row = some g → B + 2 ≤ g ∧ ∀ s', s' ≠ s → 2 ≤ (hits ss s' k).length → (h s').ownBlock ≠ some g)
    (gm : Wa.grownBy W2 (some B)) (hmap : MapIs W2 B (k + 1) (upd h s v)) (hhdr : Hdr W2 (B + 1) (hits ss s (k + 1)) v)
    (hloc : ∀ s', s' ≠ s → 2 ≤ (hits ss s (k + 1)).length → 2 ≤ (hits ss s' k).length → v.ownBlock ≠ (h s').ownBlock) :
    Idx B w W2 ss len (k + 1) (upd h s v) := by
  have hBP : B + 1 < wr.heap.size := by
    obtain ⟨arr, hh, _⟩ := I.row
    exact (Array.getElem?_eq_some_iff.1 hh).1
  have hsz : (wr.setCell ⟨B + 1, k, none⟩ (.int .i64 (k : Nat))).heap.size = wr.heap.size := by simp [World.setCell]
  refine ⟨hmap, ?_, ?_, ?_, ?_⟩
  · obtain ⟨arr, hh, hl, ha⟩ := I.row
    have h1 := block_setCell (k := k) hh (.int .i64 (k : Nat))
    have h2 := ga.block (B + 1) (by omega) (by intro e; have := (hrow _ e.symm).1; omega)
    have h3 := gm.block (B + 1) (by have := ga.size; omega) (by intro e; simp at e)
    refine ⟨_, h3.trans (h2.trans h1), by simp [hl], fun j hj => ?_⟩
    by_cases e : j = k
    · subst e; simp [hl, hk]
    · rw [Array.getElem?_setIfInBounds_ne (fun h => e h.symm)]
      exact ha j (by omega)
  · intro s'
    by_cases e : s' = s
    · subst e; rw [upd_same]; exact hhdr
    · rw [upd_other h v e, hits_other (by rw [← hs]; exact e)]
      rcases I.hdr s' with h0 | h1 | ⟨h2, hown⟩
      · exact Or.inl h0
      · exact Or.inr (Or.inl h1)
      · refine Or.inr (Or.inr ⟨h2, ?_⟩)
        have o1 := ownsRow_setCell_below (a := ⟨B + 1, k, none⟩) hown (by show B + 1 < B + 1 + 1; omega) (.int .i64 (k : Nat))
        have o2 := o1.kept ga (by
          cases hr : row with
          | none =>
            cases ho : (h s').ownBlock with
            | none => exact Or.inl rfl
            | some g => right; simp
          | some g => right; exact (hrow g hr).2 s' e h2)
        exact o2.kept gm (by
          cases ho : (h s').ownBlock with
          | none => exact Or.inl rfl
          | some g =>
            right
            have := (hown.lt g ho).1
            intro e2; simp at e2; omega)
  · intro s1 s2 hne h1 h2
    by_cases e1 : s1 = s
    · subst e1
      have e2 : s2 ≠ s1 := fun e => hne e.symm
      rw [upd_same, upd_other h v e2]
      rw [hits_other (by rw [← hs]; exact e2)] at h2
      exact hloc s2 e2 h1 h2
    · rw [hits_other (by rw [← hs]; exact e1)] at h1
      by_cases e2 : s2 = s
      · subst e2
        rw [upd_same, upd_other h v e1]
        exact fun e => hloc s1 e1 h2 h1 e.symm
      · rw [hits_other (by rw [← hs]; exact e2)] at h2
        rw [upd_other h v e1, upd_other h v e2]
        exact I.apart s1 s2 hne h1 h2
  · have b1 : Below B w (wr.setCell ⟨B + 1, k, none⟩ (.int .i64 (k : Nat))) := I.bel.setCell (by show B ≤ B + 1; omega) _
    have b2 := b1.grown ga (by omega) (fun g e => by have := (hrow g e).1; omega)
    exact b2.grown gm (by have := ga.size; omega) (fun g e => by cases e; exact Nat.le_refl _)

/-- A NEW KEY. -/
theorem Idx.step_new {B : Nat} {w wr W2 : World} {ss : List ByteArray} {len k : Nat} {h : ByteArray → Value} (I : Idx B w wr ss len k h) (hk : k < len) {s : ByteArray} (hs : s = ss.getD k ByteArray.empty) (h0 : hits ss s k = [])
    (gm : (wr.setCell ⟨B + 1, k, none⟩ (.int .i64 (k : Nat))).grownBy W2 (some B)) (hmap : MapIs W2 B (k + 1) (upd h s (.slice (some ⟨B + 1, k, none⟩) 1 1))) :
    Idx B w W2 ss len (k + 1) (upd h s (.slice (some ⟨B + 1, k, none⟩) 1 1)) := by
  refine I.step hk hs (World.grownBy.refl _ none) (fun g e => by cases e) gm hmap ?_ ?_
  · right; left
    exact ⟨k, by rw [hits_self hs, h0]; rfl, rfl⟩
  · intro s' _ h2
    rw [hits_self hs, h0] at h2
    simp at h2

/-- A KEY THAT STOOD ONCE: the append has made a new row. -/
theorem Idx.step_second {B : Nat} {w wr Wa W2 : World} {ss : List ByteArray} {len k p : Nat} {h : ByteArray → Value} (I : Idx B w wr ss len k h) (hk : k < len) {s : ByteArray} (hs : s = ss.getD k ByteArray.empty) (h1 : hits ss s k = [p]) {v : Value} {o : Obj} {base : Nat}
    (hbase : wr.heap.size ≤ base)
    (hown : Wa.ownsRow base 3 1 v 2 [.int .i64 (p : Nat), .int .i64 (k : Nat)]) (ga : ((wr.setCell ⟨B + 1, k, none⟩ (.int .i64 (k : Nat))).alloc o).grownBy Wa none)
    (gm : Wa.grownBy W2 (some B)) (hmap : MapIs W2 B (k + 1) (upd h s v)) : Idx B w W2 ss len (k + 1) (upd h s v) := by
  have hBP : B + 1 < wr.heap.size := by
    obtain ⟨arr, hh, _⟩ := I.row
    exact (Array.getElem?_eq_some_iff.1 hh).1
  have hps : hits ss s (k + 1) = [p, k] := by rw [hits_self hs, h1]; rfl
  refine I.step hk hs ((World.grownBy_alloc _ o none).trans ga) (fun g e => by cases e) gm hmap ?_ ?_
  · right; right
    rw [hps]
    refine ⟨by simp, ?_⟩
    have o1 : W2.ownsRow base 3 1 v 2 [.int .i64 (p : Nat), .int .i64 (k : Nat)] := hown.kept gm (by
      cases ho : v.ownBlock with
      | none => exact Or.inl rfl
      | some g =>
        right
        have := (hown.lt g ho).1
        intro e2; simp at e2; omega)
    obtain ⟨hl, h2⟩ := o1
    refine ⟨hl, ?_⟩
    rcases h2 with h2 | ⟨g, cap, cur, hv, hg, r⟩
    · exact Or.inl h2
    · exact Or.inr ⟨g, cap, cur, hv, by omega, r⟩
  · intro s' hne _ h2 e
    rcases I.hdr s' with ⟨h0, _⟩ | ⟨q, hq, _⟩ | ⟨_, ho'⟩
    · rw [h0] at h2; simp at h2
    · rw [hq] at h2; simp at h2
    · obtain ⟨_, hc⟩ := hown
      rcases hc with ⟨_, h0⟩ | ⟨g, cap, cur, rfl, hg, _⟩
      · simp at h0
      · have := (ho'.lt g (by rw [← e]; rfl)).2
        omega

/-- A KEY THAT STOOD TWICE OR MORE: the append has written its own row, or made a new one. -/
theorem Idx.step_more {B : Nat} {w wr Wa W2 : World} {ss : List ByteArray} {len k : Nat} {h : ByteArray → Value} (I : Idx B w wr ss len k h) (hk : k < len) {s : ByteArray} (hs : s = ss.getD k ByteArray.empty) (h2 : 2 ≤ (hits ss s k).length) {v : Value} {o : Obj}
    (hown : Wa.ownsRow (B + 1 + 1) 3 1 v ((hits ss s k).length + 1) (pcells (hits ss s k) ++ [.int .i64 (k : Nat)])) (ga : ((wr.setCell ⟨B + 1, k, none⟩ (.int .i64 (k : Nat))).alloc o).grownBy Wa (h s).ownBlock)
    (hloc : v.ownBlock = (h s).ownBlock ∨ v.ownBlock = some (wr.heap.size + 1))
    (gm : Wa.grownBy W2 (some B)) (hmap : MapIs W2 B (k + 1) (upd h s v)) : Idx B w W2 ss len (k + 1) (upd h s v) := by
  have hBP : B + 1 < wr.heap.size := by
    obtain ⟨arr, hh, _⟩ := I.row
    exact (Array.getElem?_eq_some_iff.1 hh).1
  have hps : hits ss s (k + 1) = hits ss s k ++ [k] := hits_self hs
  have hold : wr.ownsRow (B + 1 + 1) 3 1 (h s) (hits ss s k).length (pcells (hits ss s k)) := by
    rcases I.hdr s with ⟨h0, _⟩ | ⟨q, hq, _⟩ | ⟨_, ho'⟩
    · rw [h0] at h2; simp at h2
    · rw [hq] at h2; simp at h2
    · exact ho'
  refine I.step hk hs ((World.grownBy_alloc _ o _).trans ga) ?_ gm hmap ?_ ?_
  · intro g e
    refine ⟨by have := (hold.lt g e).1; omega, fun s' hne h3 e' => ?_⟩
    exact I.apart s' s hne h3 h2 (e'.trans e.symm)
  · right; right
    rw [hps, pcells_snoc, List.length_append]
    refine ⟨by simp; omega, ?_⟩
    exact hown.kept gm (by
      cases ho : v.ownBlock with
      | none => exact Or.inl rfl
      | some g =>
        right
        have := (hown.lt g ho).1
        intro e2; simp at e2; omega)
  · intro s' hne _ h3 e
    rcases hloc with hl | hl
    · exact I.apart s' s hne h3 h2 (e.symm.trans hl)
    · rcases I.hdr s' with ⟨h0, _⟩ | ⟨q, hq, _⟩ | ⟨_, ho'⟩
      · rw [h0] at h3; simp at h3
      · rw [hq] at h3; simp at h3
      · have := (ho'.lt _ (e.symm.trans hl)).2
        omega

/-- THE INDEX, BUILT: each key's element is a slice of just its places. -/
def IndexAt (w : World) (M : Nat) (ss : List ByteArray) (len : Nat) : Prop :=
  ∃ n h, MapIs w M n h ∧ ∀ s, PlacesAt w (h s) (hits ss s len)

theorem Idx.done {B : Nat} {w wr : World} {ss : List ByteArray} {len k : Nat} {h : ByteArray → Value} (I : Idx B w wr ss len k h) : IndexAt wr B ss k := by
  refine ⟨k, h, I.map, fun s => ?_⟩
  rcases I.hdr s with h0 | ⟨p, hp, hv⟩ | ⟨h2, ho⟩
  · exact Or.inl h0
  · obtain ⟨arr, hh, hs, ha⟩ := I.row
    have hpk : p < k := by
      have := hits_lt (ss := ss) (key := s) (k := k) (j := 0) (by rw [hp]; simp)
      rw [hp] at this; simpa using this
    right
    rw [hp]
    refine ⟨by simp, B + 1, p, 1, hv, fun j hj => ?_⟩
    obtain rfl : j = 0 := by simpa using hj
    simp [World.cell?, hh, ha p hpk]
  · exact places_of_owns ho rfl (fun h0 => by rw [h0] at h2; simp at h2)

theorem IndexAt.below {w w' : World} {M : Nat} {ss : List ByteArray} {len : Nat} (h : IndexAt w M ss len) (hb : Below w.heap.size w w') : IndexAt w' M ss len := by
  obtain ⟨n, f, hm, hp⟩ := h
  exact ⟨n, f, hm.below hb hm.lt, fun s => (hp s).below hb⟩

theorem Idx.start (w : World) (ss : List ByteArray) (len : Nat) : Idx w.heap.size w ((w.alloc (.map #[] 0)).alloc (.cells (madeCells #[.int .i64 0] len) 3)) ss len 0 (fun _ => .slice none 0 0) := by
  have hm := (MapIs.made w).kept (World.grownBy_alloc (w.alloc (.map #[] 0)) (.cells (madeCells #[.int .i64 0] len) 3) none) (by simp)
  refine ⟨hm, ⟨madeCells #[.int .i64 0] len, ?_, size_madeCells _ _, fun j hj => absurd hj (by omega)⟩, fun s => Or.inl ⟨rfl, rfl⟩, fun s s' _ h => absurd h (by simp [hits_zero]), ?_⟩
  · show ((w.heap.push _).push _)[w.heap.size + 1]? = _
    rw [Array.getElem?_push, if_pos (by simp)]
  · exact ((Below.refl _ _).alloc (Nat.le_refl _) _).alloc (by simp) _

end Go.Proofs.Qxb6619218a
