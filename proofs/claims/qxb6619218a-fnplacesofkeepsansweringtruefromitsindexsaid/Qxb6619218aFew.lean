/-
  THE WALK of '(*readSet).placesOf' where the set holds at most eight keys.
-/
import Derived.Test.Qxb6619218aAre
namespace Go.Proofs.Qxb6619218a
open Go.RowKit

theorem Try.info3 : (Try.prog.info? 3).map (fun i => (i.zero, i.size, i.bytes)) = some (some (.int .i64 0), 1, 8) := by kernel_rfl

/-- The places as cells. -/
def pcells (ps : List Nat) : List Value := ps.map fun p => .int .i64 (p : Nat)
theorem pcells_len (ps : List Nat) : (pcells ps).length = ps.length := by simp [pcells]
theorem pcells_snoc (ps : List Nat) (k : Nat) : pcells (ps ++ [k]) = pcells ps ++ [.int .i64 (k : Nat)] := by simp [pcells]
theorem pcells_one (ps : List Nat) : ∀ u ∈ pcells ps, u.oneCell' = true := by
  intro u hu
  obtain ⟨p, _, rfl⟩ := List.mem_map.1 hu
  rfl
theorem pcells_get {ps : List Nat} {j : Nat} (h : j < ps.length) : (pcells ps)[j]? = some (.int .i64 (ps.getD j 0 : Nat)) := by
  simp [pcells, List.getD, List.getElem?_eq_getElem h]

/-- The set behind the pointer: names (nil), keys, at. -/
def RSet (w : World) (R : Nat) (a : Option Addr) (len cap : Nat) (m : Option Nat) : Prop := w.heap[R]? = some (.cells #[.slice none 0 0, .slice a len cap, .map m] 47 (0, 0))

theorem RSet.lt {w : World} {R : Nat} {a : Option Addr} {len cap : Nat} {m : Option Nat} (h : RSet w R a len cap m) : R < w.heap.size := (Array.getElem?_eq_some_iff.1 h).1
theorem RSet.keys {w : World} {R : Nat} {a : Option Addr} {len cap : Nat} {m : Option Nat} (h : RSet w R a len cap m) : w.cell? ⟨R, 1, none⟩ = some (.slice a len cap) := by
  unfold RSet at h; simp [World.cell?, h]
theorem RSet.at_ {w : World} {R : Nat} {a : Option Addr} {len cap : Nat} {m : Option Nat} (h : RSet w R a len cap m) : w.cell? ⟨R, 2, none⟩ = some (.map m) := by
  unfold RSet at h; simp [World.cell?, h]
theorem RSet.frozen {w : World} {R : Nat} {a : Option Addr} {len cap : Nat} {m : Option Nat} (h : RSet w R a len cap m) (j : Nat) : w.frozen? ⟨R, j, none⟩ = false := by
  unfold RSet at h; simp [World.frozen?, h]
theorem RSet.below {w w' : World} {B R : Nat} {a : Option Addr} {len cap : Nat} {m : Option Nat} (h : RSet w R a len cap m) (hb : Below B w w') (hR : R < B) : RSet w' R a len cap m := by
  unfold RSet at *; rw [hb.block R hR]; exact h
theorem RSet.made (w : World) (a : Option Addr) (len cap : Nat) : RSet (w.alloc (.cells #[.slice none 0 0, .slice a len cap, .map none] 47)) w.heap.size a len cap none := by
  unfold RSet
  show (w.heap.push _)[w.heap.size]? = _
  simp

/-- A slice that owns these places holds them. -/
theorem places_of_owns {w : World} {base n : Nat} {v : Value} {ps : List Nat} (h : w.ownsRow base 3 1 v n (pcells ps)) (hn : n = ps.length) (hnil : ps = [] → v = .slice none 0 0) : PlacesAt w v ps := by
  by_cases h0 : ps = []
  · exact Or.inl ⟨h0, hnil h0⟩
  · right
    obtain ⟨_, h2⟩ := h
    rcases h2 with ⟨_, hz⟩ | ⟨g, cap, cur, rfl, _, hh, hcap, _, hsz, ht⟩
    · rw [hn] at hz; exact absurd (List.eq_nil_of_length_eq_zero hz) h0
    · refine ⟨h0, g, 0, cap, by rw [hn], fun j hj => ?_⟩
      have hc : cur.toList[j]? = some (.int .i64 (ps.getD j 0 : Nat)) := by
        have e := pcells_get hj
        rw [← ht, List.getElem?_take_of_lt (by omega)] at e
        exact e
      have : cur[j]? = some (.int .i64 (ps.getD j 0 : Nat)) := by simpa using hc
      simp [World.cell?, hh, this]

def PlacesPost (w : World) (ps : List Nat) (e : Ending) (w' : World) : Prop := ∃ v, e = .returned v ∧ PlacesAt w' v ps ∧ Below w.heap.size w w'

set_option maxRecDepth 100000 in
theorem few_none (R : Nat) (a : Option Addr) (cap : Nat) (m : Option Nat) (key : ByteArray) (w : World) (hR : Hid (RSet w R a 0 cap m)) :
    Calls Try.prog 23 #[.pointer (some ⟨R, 0, none⟩), .string key] w (PlacesPost w []) := by
  have h1 := hR.out.keys
  go_enter Try.func23, Try.ntmps23
  go_wp2
  refine wp_loop_rounds 1 ?_
  rw [rounds_succ]
  go_wp2
  go_ret
  exact ⟨_, rfl, Or.inl ⟨rfl, rfl⟩, Below.refl _ _⟩

set_option maxRecDepth 100000 in
theorem few_some (R b off len cap : Nat) (ss : List ByteArray) (m : Option Nat) (key : ByteArray) (w : World) (hR : Hid (RSet w R (some ⟨b, off, none⟩) len cap m)) (hl : len ≤ 8) (HL : Hid (ss.length = len)) (hb : b < w.heap.size)
    (hc : Hid (∀ j, j < ss.length → w.cell? ⟨b, off + j, none⟩ = some (.string (ss.getD j ByteArray.empty)))) :
    Calls Try.prog 23 #[.pointer (some ⟨R, 0, none⟩), .string key] w (PlacesPost w (hits ss key len)) := by
  have h1 := hR.out.keys
  obtain ⟨i0, hi, hz0, hz1, hz2⟩ := info_parts Try.info3
  go_enter Try.func23, Try.ntmps23
  go_wp2
  go_loopw [5, 38] (fun v i wr => ∃ k n : Nat, k ≤ len ∧ i = .int .i64 k ∧ n ≤ k ∧ Hid (wr.ownsRow w.heap.size 3 1 v n (pcells (hits ss key k))) ∧ Below w.heap.size w wr ∧ Hid (n = (hits ss key k).length) ∧ Hid (hits ss key k = [] → v = .slice none 0 0)) (fun _ i _ => len - (intOf i).toNat)
  case atStart => exact ⟨0, 0, Nat.zero_le _, rfl, Nat.le_refl _, World.ownsRow_nil _ _ _ _, Below.refl _ _, rfl, fun _ => rfl⟩
  case round =>
    obtain ⟨k, n, hk, rfl, hnk, hown, hbel, hn, hnil⟩ := hrel
    by_cases hlt : k < len
    · have hcx : wr.cell? ⟨b, off + k, none⟩ = some (.string (ss.getD k ByteArray.empty)) := (hbel.cell (by exact hb)).trans (hc.out k (by have := HL.out; omega))
      have hsz := hbel.size
      clear h1
      go_wp2_with (first
        | (at_builtin; refine wpList_append_own _ rfl _ _ 28 rfl w.heap.size 3 i0 (.int .i64 0) 1 8 Try.underlying28 hi hz0 hz1 hz2 rfl (by decide) _ _ _ rfl (hown.out.alloc _) ⟨wr.heap.size, 0, none⟩ 1 1 [.int .i64 (k : Nat)] rfl rfl (cell_one_new _ _ _) (ints_oneCell .i64 [(k : Int)]) (by unfold maxLen; omega) (by omega) (by simp; omega) ?_; intro v' w1 hown' hgrow hnil')
        | go_in)
      · have hhit : ((ss[k]?.getD ByteArray.empty).toList == key.toList) = true := by assumption
        go_roundw
        case rel =>
          refine ⟨k + 1, n + 1, by omega, by go_num, by omega, ?_, (hbel.alloc hsz _).grown hgrow (by simp; omega) (fun j hj => (hown.out.lt j hj).1), ?_, ?_⟩
          · rw [hits_hit hhit, pcells_snoc]; exact hown'
          · rw [hits_hit hhit, List.length_append, ← hn.out]; rfl
          · intro h; rw [hits_hit hhit] at h; simp at h
        case measure => simp [intOf]; omega
      · have hmiss : ((ss[k]?.getD ByteArray.empty).toList == key.toList) = false := by assumption
        go_roundw
        case rel =>
          refine ⟨k + 1, n, by omega, by go_num, by omega, ?_, hbel, ?_, ?_⟩
          · rw [hits_miss hmiss]; exact hown
          · rw [hits_miss hmiss]; exact hn
          · rw [hits_miss hmiss]; exact hnil
        case measure => simp [intOf]; omega
    · obtain rfl : k = len := by omega
      go_wp2
      go_ret
      exact ⟨_, rfl, places_of_owns hown.out hn.out hnil.out, hbel⟩

theorem few_any (R : Nat) (a : Option Addr) (len cap : Nat) (ss : List ByteArray) (m : Option Nat) (key : ByteArray) (w : World) (hR : RSet w R a len cap m) (hl : len ≤ 8) (hlen : ss.length = len) (h : StrsAt w a ss) :
    Calls Try.prog 23 #[.pointer (some ⟨R, 0, none⟩), .string key] w (PlacesPost w (hits ss key len)) := by
  rcases h with rfl | ⟨b, off, rfl, hb, hc⟩
  · simp at hlen; subst hlen; exact few_none R a cap m key w hR
  · exact few_some R b off len cap ss m key w hR hl hlen hb hc

end Go.Proofs.Qxb6619218a
